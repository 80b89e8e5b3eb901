import PyProof.Rows.All
import Wide.All
import OpenK.AllK
import Wide.FinOn
import PySem.Challenge.RW_rw0016_01
open PySem PySem.W PyProof.Rows
set_option Elab.async false
set_option maxRecDepth 1000000
set_option maxHeartbeats 8000000
set_option linter.all false
namespace Own16
local macro_rules
  | `(tactic| omega) => `(tactic| first
    | with_reducible assumption
    | with_reducible exact Int.natCast_nonneg _
    | with_reducible exact Nat.zero_le _
    | with_reducible exact Nat.le_refl _
    | with_reducible exact Nat.lt_succ_self _
    | with_reducible exact Nat.lt_of_lt_of_le (by assumption) (by assumption)
    | with_reducible exact Nat.le_of_lt (by assumption)
    | with_reducible exact Nat.le_trans (by assumption) (by decide)
    | lia)
-- part PL1
/-- the data that the laws handle, as trees; `raw` is a value as it stands -/
inductive D where
  | none
  | bool (b : Bool)
  | int (i : Int)
  | str (x : Str)
  | list (ds : List D)
  | tuple (ds : List D)
  | idict (kvs : List (Int × Int))
  | sdict (kvs : List (Str × Int))
  | range (a b c : Int)
  | raw (v : Value)
  | box (T : String) (d : D)
  | inst (C : Addr) (nm : Str) (d : D)

/-- pairs of a key and an int value -/
inductive KV {K : Type} : List (K × Value) → List (K × Int) → Prop
  | nil : KV [] []
  | cons {k : K} {i : Int} {t : Tok} {r : List (K × Value)} {r' : List (K × Int)} : KV r r' → KV ((k, .int i t) :: r) ((k, i) :: r')

mutual
inductive Rep (prog : Program) (w : World) (S : Addr → Prop) (h : Heap) : Value → D → Prop
  | none : Rep prog w S h .none .none
  | bool (b : Bool) : Rep prog w S h (.bool b) (.bool b)
  | int (i : Int) (t : Tok) : Rep prog w S h (.int i t) (.int i)
  | str (x : Str) (t : Tok) : Rep prog w S h (.str x t) (.str x)
  | list {a : Addr} {vs : List Value} {ds : List D} : ¬ S a → h.PlainList a vs.toArray → RepAll prog w S h vs ds → Rep prog w S h (.ref a) (.list ds)
  | tuple {a : Addr} {vs : List Value} {ds : List D} {n : Nat} : ¬ S a → h.get? a = some { cls := .type "tuple", data := .seq vs.toArray n } → RepAll prog w S h vs ds → Rep prog w S h (.ref a) (.tuple ds)
  | idict {a : Addr} {kvs : List (Int × Value)} {es : List (Int × Int)} : ¬ S a → (a == sysModules) = false → h.DictOf (intKind prog w) a kvs → KV kvs es → Rep prog w S h (.ref a) (.idict es)
  | sdict {a : Addr} {kvs : List (Str × Value)} {es : List (Str × Int)} : ¬ S a → (a == sysModules) = false → h.DictOf (strKind prog w) a kvs → KV kvs es → Rep prog w S h (.ref a) (.sdict es)
  | range {r : Addr} {a b c : Int} {t u v : Tok} : ¬ S r → IsRange h r a b c t u v → Rep prog w S h (.ref r) (.range a b c)
  | raw (v : Value) : Rep prog w S h v (.raw v)
  | box {a : Addr} {T : String} {x : Value} {d : D} : ¬ S a → h.get? a = some { cls := .type T, data := .fields #[x] } → Rep prog w S h x d → Rep prog w S h (.ref a) (.box T d)
  | inst {x dx C : Addr} {nm : Str} {hs : Int} {t : Tok} {v : Value} {n : Nat} {d : D} : ¬ S x → ¬ S dx → h.get? x = some { cls := .ref C, dict := some dx, data := .plain } → h.get? dx = some { cls := .type "dict", data := .dict #[⟨hs, .str nm t, v⟩] n } → Rep prog w S h v d → Rep prog w S h (.ref x) (.inst C nm d)
inductive RepAll (prog : Program) (w : World) (S : Addr → Prop) (h : Heap) : List Value → List D → Prop
  | nil : RepAll prog w S h [] []
  | cons {v : Value} {vs : List Value} {d : D} {ds : List D} : Rep prog w S h v d → RepAll prog w S h vs ds → RepAll prog w S h (v :: vs) (d :: ds)
end

theorem nsE {α : Type} {a : α} (e : Option.none = some a) : False := nomatch e
theorem snE {α : Type} {a : α} (e : some a = Option.none) : False := nomatch e
theorem ftE (e : false = true) : False := nomatch e
/-- what a plain value is -/
noncomputable def Atom (v : Value) : D → Prop
  | .none => ∃ _ : Unit, v = .none
  | .bool b => ∃ _ : Unit, v = .bool b
  | .int i => ∃ t, v = .int i t
  | .str x => ∃ t, v = .str x t
  | .raw x => ∃ _ : Unit, x = v
  | _ => True → True
theorem Rep.atom {prog : Program} {w : World} {S : Addr → Prop} {h : Heap} {v : Value} {d : D} (r : Rep prog w S h v d) : Atom v d := by
  cases r with
  | none => exact ⟨(), rfl⟩
  | bool => exact ⟨(), rfl⟩
  | int _ t => exact ⟨t, rfl⟩
  | str _ t => exact ⟨t, rfl⟩
  | raw => exact ⟨(), rfl⟩
  | _ => exact id

/-- outside S all objects stay -/
noncomputable def Ext (S : Addr → Prop) (h h' : Heap) : Prop := ∀ b o, ¬ S b → h.get? b = some o → h'.get? b = some o
theorem Ext.trans {S : Addr → Prop} {h₁ h₂ h₃ : Heap} (x : Ext S h₁ h₂) (y : Ext S h₂ h₃) : Ext S h₁ h₃ := fun b o hb e => y b o hb (x b o hb e)
theorem Ext.of_keep {S : Addr → Prop} {h h' : Heap} (k : ∀ b o, h.get? b = some o → h'.get? b = some o) : Ext S h h' := fun b o _ e => k b o e
theorem Ext.sameBut {S : Addr → Prop} {a : Addr} {h h' : Heap} (x : Heap.SameBut a h h') (ha : S a) : Ext S h h' := fun b o hb e => x.extBut b o (fun q => hb (q ▸ ha)) e

theorem DictOf_at {K : Type} [DecidableEq K] {prog : Program} {w : World} {knd : KeyKind prog w K} {h h' : Heap} {a : Addr} {kvs : List (K × Value)} (x : h.DictOf knd a kvs)
    (k : ∀ o, h.get? a = some o → h'.get? a = some o) : h'.DictOf knd a kvs := let ⟨o, es, ep, ho, r⟩ := x; ⟨o, es, ep, k o ho, r⟩

section
variable {prog : Program} {w : World}
theorem Rep.move {S S' : Addr → Prop} {h h' : Heap} (x : ∀ b o, ¬ S b → h.get? b = some o → h'.get? b = some o ∧ ¬ S' b) {v : Value} {d : D} (r : Rep prog w S h v d) : Rep prog w S' h' v d :=
  Rep.rec (motive_1 := fun v d _ => Rep prog w S' h' v d) (motive_2 := fun vs ds _ => RepAll prog w S' h' vs ds)
    .none .bool .int .str
    (fun hs hl _ r => .list (let ⟨_, hl⟩ := hl; (x _ _ hs hl).2) (let ⟨n, hl⟩ := hl; ⟨n, (x _ _ hs hl).1⟩) r)
    (fun hs hl _ r => .tuple (x _ _ hs hl).2 (x _ _ hs hl).1 r)
    (fun hs hm hd hk => .idict (let ⟨_, _, _, ho, _⟩ := hd; (x _ _ hs ho).2) hm (DictOf_at hd fun _ e => (x _ _ hs e).1) hk)
    (fun hs hm hd hk => .sdict (let ⟨_, _, _, ho, _⟩ := hd; (x _ _ hs ho).2) hm (DictOf_at hd fun _ e => (x _ _ hs e).1) hk)
    (fun hs hr => .range (x _ _ hs hr).2 (x _ _ hs hr).1) .raw
    (fun hs hl _ r => .box (x _ _ hs hl).2 (x _ _ hs hl).1 r)
    (fun h1 h2 o1 o2 _ r => .inst (x _ _ h1 o1).2 (x _ _ h2 o2).2 (x _ _ h1 o1).1 (x _ _ h2 o2).1 r)
    .nil (fun _ _ a r => .cons a r) r
theorem RepAll.move {S S' : Addr → Prop} {h h' : Heap} (x : ∀ b o, ¬ S b → h.get? b = some o → h'.get? b = some o ∧ ¬ S' b) {vs : List Value} {ds : List D} (r : RepAll prog w S h vs ds) : RepAll prog w S' h' vs ds := by
  induction vs generalizing ds with
  | nil => cases r; exact .nil
  | cons v vs ih =>
    cases r with
    | cons a r => exact .cons (a.move x) (ih r)
end

section
variable {prog : Program} {w : World} {S S' : Addr → Prop} {h h' : Heap} {v : Value} {d : D} {vs us : List Value} {ds es : List D}
theorem Rep.ext (r : Rep prog w S h v d) (x : Ext S h h') : Rep prog w S h' v d := r.move fun b o hb e => ⟨x b o hb e, hb⟩
theorem RepAll.ext (r : RepAll prog w S h vs ds) (x : Ext S h h') : RepAll prog w S h' vs ds := r.move fun b o hb e => ⟨x b o hb e, hb⟩
theorem Rep.keep (r : Rep prog w S h v d) (k : ∀ b o, h.get? b = some o → h'.get? b = some o) : Rep prog w S h' v d := r.ext (Ext.of_keep k)
theorem RepAll.keep (r : RepAll prog w S h vs ds) (k : ∀ b o, h.get? b = some o → h'.get? b = some o) : RepAll prog w S h' vs ds := r.ext (Ext.of_keep k)
/-- more addresses to keep off, all of them unused -/
theorem Rep.avoid (r : Rep prog w S h v d) (x : ∀ b, S' b → S b ∨ h.get? b = Option.none) : Rep prog w S' h v d :=
  r.move fun b o hb e => ⟨e, fun q => (x b q).elim hb fun n => by rw [n] at e; (first | obtain ⟨_, rfl⟩ := e.atom | exact (nsE e).elim | exact (snE e).elim | exact (ftE e).elim | cases e)⟩
theorem RepAll.avoid (r : RepAll prog w S h vs ds) (x : ∀ b, S' b → S b ∨ h.get? b = Option.none) : RepAll prog w S' h vs ds :=
  r.move fun b o hb e => ⟨e, fun q => (x b q).elim hb fun n => by rw [n] at e; (first | obtain ⟨_, rfl⟩ := e.atom | exact (nsE e).elim | exact (snE e).elim | exact (ftE e).elim | cases e)⟩
theorem Rep.less (r : Rep prog w S h v d) (x : ∀ b, S' b → S b) : Rep prog w S' h v d := r.avoid fun b q => .inl (x b q)
theorem RepAll.less (r : RepAll prog w S h vs ds) (x : ∀ b, S' b → S b) : RepAll prog w S' h vs ds := r.avoid fun b q => .inl (x b q)
theorem RepAll.length (r : RepAll prog w S h vs ds) : vs.length = ds.length := by
  induction vs generalizing ds with
  | nil => (first | obtain ⟨_, rfl⟩ := r.atom | exact (nsE r).elim | exact (snE r).elim | exact (ftE r).elim | cases r); rfl
  | cons v vs ih =>
    cases r with
    | cons _ r => rw [List.length_cons, List.length_cons, ih r]
theorem RepAll.append (r : RepAll prog w S h vs ds) (q : RepAll prog w S h us es) : RepAll prog w S h (vs ++ us) (ds ++ es) := by
  induction vs generalizing ds with
  | nil => (first | obtain ⟨_, rfl⟩ := r.atom | exact (nsE r).elim | exact (snE r).elim | exact (ftE r).elim | cases r); exact q
  | cons v vs ih =>
    cases r with
    | cons a r => exact .cons a (ih r)
theorem RepAll.get (r : RepAll prog w S h vs ds) {k : Nat} {d : D} (hk : ds[k]? = some d) : ∃ v, vs[k]? = some v ∧ Rep prog w S h v d := by
  induction vs generalizing ds k with
  | nil => (first | obtain ⟨_, rfl⟩ := r.atom | exact (nsE r).elim | exact (snE r).elim | exact (ftE r).elim | cases r); simp at hk
  | cons v vs ih =>
    cases r with
    | cons a r =>
      cases k with
      | zero => simp at hk; subst hk; exact ⟨v, rfl, a⟩
      | succ k => simp at hk; simpa using ih r hk
theorem RepAll.get' (r : RepAll prog w S h vs ds) {k : Nat} {v : Value} (hk : vs[k]? = some v) : ∃ d, ds[k]? = some d ∧ Rep prog w S h v d := by
  induction vs generalizing ds k with
  | nil => simp at hk
  | cons u vs ih =>
    cases r with
    | cons a r =>
      cases k with
      | zero => simp at hk; subst hk; exact ⟨_, rfl, a⟩
      | succ k => simp at hk; simpa using ih r hk
theorem RepAll.take (r : RepAll prog w S h vs ds) (n : Nat) : RepAll prog w S h (vs.take n) (ds.take n) := by
  induction vs generalizing ds n with
  | nil => (first | obtain ⟨_, rfl⟩ := r.atom | exact (nsE r).elim | exact (snE r).elim | exact (ftE r).elim | cases r); simpa using RepAll.nil
  | cons v vs ih =>
    cases r with
    | cons a r =>
      cases n with
      | zero => exact .nil
      | succ n => exact .cons a (ih r n)
theorem RepAll.drop (r : RepAll prog w S h vs ds) (n : Nat) : RepAll prog w S h (vs.drop n) (ds.drop n) := by
  induction vs generalizing ds n with
  | nil => (first | obtain ⟨_, rfl⟩ := r.atom | exact (nsE r).elim | exact (snE r).elim | exact (ftE r).elim | cases r); simpa using RepAll.nil
  | cons v vs ih =>
    cases r with
    | cons a r =>
      cases n with
      | zero => exact .cons a r
      | succ n => exact ih r n
theorem RepAll.ints : ∀ {vs : List Value} {ns : List Int}, RepAll prog w S h vs (ns.map D.int) → IntsAre vs ns := by
  intro vs
  induction vs with
  | nil => intro ns r; cases ns with
    | nil => exact .nil
    | cons n ns => (first | obtain ⟨_, rfl⟩ := r.atom | exact (nsE r).elim | exact (snE r).elim | exact (ftE r).elim | cases r)
  | cons v vs ih =>
    intro ns r
    cases ns with
    | nil => (first | obtain ⟨_, rfl⟩ := r.atom | exact (nsE r).elim | exact (snE r).elim | exact (ftE r).elim | cases r)
    | cons n ns =>
      cases r with
      | cons a r => (first | obtain ⟨_, rfl⟩ := a.atom | exact (nsE a).elim | exact (snE a).elim | exact (ftE a).elim | cases a); exact .cons _ _ (ih r)
theorem RepAll.of_ints : ∀ {vs : List Value} {ns : List Int}, IntsAre vs ns → RepAll prog w S h vs (ns.map D.int) := by
  intro vs ns r
  induction r with
  | nil => exact .nil
  | cons _ _ _ ih => exact .cons (.int _ _) ih
theorem KV.length {K : Type} {a : List (K × Value)} {b : List (K × Int)} (r : KV a b) : a.length = b.length := by
  induction r with
  | nil => rfl
  | cons _ ih => rw [List.length_cons, List.length_cons, ih]
end

/-- what holds of the program's world at every heap of the call -/
structure Gl (K : Frag) (h : Heap) : Prop where
  inn : K.In h
  nolimit : h.NoLimit
  mg : ∃ mg, h.Ns mainGlobals mg
  mb : ∃ mb, h.Ns builtinsNs mb ∧ ∀ x : Str, x ≠ "__name__" → mb x = bootBuiltins x
theorem Gl.keeps {K : Frag} {h h' : Heap} (g : Gl K h) (k : ∀ b o, h.get? b = some o → h'.get? b = some o) : Gl K h' :=
  ⟨g.inn.keeps k, g.nolimit.keeps k, let ⟨m, x⟩ := g.mg; ⟨m, x.keeps k⟩, let ⟨m, x, y⟩ := g.mb; ⟨m, x.keeps k, y⟩⟩

/-- what the top's dict of names bears -/
noncomputable def globOf (K : Frag) (x : Str) : Option Value := match K.lookup mainGlobals with
  | some ⟨_, _, .dict es _, _⟩ => (es.toList.find? fun e => e.key.isStr x).map (·.val)
  | _ => none

theorem Gl.glob {K : Frag} {h : Heap} {x : Str} {r : Option Value} (g : Gl K h) {mg : Str → Option Value} (hm : h.Ns mainGlobals mg) (hd : (K.lookup mainGlobals).isSome = true) (e : globOf K x = r)
    (hdict : ∀ o, K.lookup mainGlobals = some o → ∃ es ep, o.data = .dict es ep) : mg x = r := by
  cases hK : K.lookup mainGlobals with
  | none => rw [hK] at hd; (first | obtain ⟨_, rfl⟩ := hd.atom | exact (nsE hd).elim | exact (snE hd).elim | exact (ftE hd).elim | cases hd)
  | some o =>
    obtain ⟨es, ep, ed⟩ := hdict o hK
    obtain ⟨c, dd, dt, sl⟩ := o
    subst ed
    obtain ⟨o', es', ep', ho', hd', _, hm'⟩ := hm
    have := g.inn _ _ hK
    rw [this] at ho'; (first | obtain ⟨_, rfl⟩ := ho'.atom | exact (nsE ho').elim | exact (snE ho').elim | exact (ftE ho').elim | cases ho')
    (first | obtain ⟨_, rfl⟩ := hd'.atom | exact (nsE hd').elim | exact (snE hd').elim | exact (ftE hd').elim | cases hd')
    rw [← hm' x, ← e]
    simp only [globOf, hK, nsFind, findBy]
    rw [Array.find?_toList]
-- part PL2
/-- the same but for the heap, the tokens and what was drawn -/
noncomputable def Sm (s s' : Shared) : Prop := s'.gens = s.gens ∧ s'.os = s.os
theorem Sm.trans {a b c : Shared} (x : Sm a b) (y : Sm b c) : Sm a c := ⟨y.1.trans x.1, y.2.trans x.2⟩
noncomputable def Kp (s s' : Shared) : Prop := Sm s s' ∧ ∀ b o, s.heap.get? b = some o → s'.heap.get? b = some o
theorem Kp.refl (s : Shared) : Kp s s := ⟨⟨rfl, rfl⟩, fun _ _ e => e⟩
theorem Kp.trans {a b c : Shared} (x : Kp a b) (y : Kp b c) : Kp a c := ⟨x.1.trans y.1, fun p o e => y.2 p o (x.2 p o e)⟩
theorem Kp.k {a b : Shared} (x : Kp a b) : ∀ p o, a.heap.get? p = some o → b.heap.get? p = some o := x.2
theorem Kp.toks (s : Shared) (t : Nat) : Kp s { s with toks := t } := ⟨⟨rfl, rfl⟩, fun _ _ e => e⟩
theorem Kp.heap (s : Shared) (h : Heap) (k : ∀ p o, s.heap.get? p = some o → h.get? p = some o) : Kp s { s with heap := h } := ⟨⟨rfl, rfl⟩, k⟩
theorem Kp.both (s : Shared) (h : Heap) (t : Nat) (k : ∀ p o, s.heap.get? p = some o → h.get? p = some o) : Kp s { s with heap := h, toks := t } := ⟨⟨rfl, rfl⟩, k⟩
theorem Kp.all (s : Shared) (h : Heap) (t : Nat) (d : Drawn) (k : ∀ p o, s.heap.get? p = some o → h.get? p = some o) : Kp s { s with heap := h, toks := t, drawn := d } := ⟨⟨rfl, rfl⟩, k⟩
theorem Kp.push (s : Shared) (o : Obj) : Kp s { s with heap := s.heap.push o } := Kp.heap s _ fun _ _ e => Heap.get?_push_of_some _ e

/-- the name bears the value there -/
noncomputable def Has (h : Heap) (env : Env) (x : Str) (v : Value) : Prop :=
  (env.kindOf x = some .local ∧ ∃ m, h.Ns env.locals m ∧ m x = some v) ∨
  ((env.kindOf x = some .cell ∨ (env.kindOf x = some .free ∧ (x == ("__classdict__" : Str)) = false)) ∧ ∃ c, env.cells.lookup x = some c ∧ h.IsCell c (some v))
theorem Has.keeps {h h' : Heap} {env : Env} {x : Str} {v : Value} (r : Has h env x v) (k : ∀ b o, h.get? b = some o → h'.get? b = some o) : Has h' env x v := by
  rcases r with ⟨a, m, n, e⟩ | ⟨a, c, l, n⟩
  · exact .inl ⟨a, m, n.keeps k, e⟩
  · exact .inr ⟨a, c, l, n.keeps k⟩

noncomputable def RoomA (n : Nat) (A : Around) : Prop := A.handled = none ∧ A.depth + n < 900 ∧ A.units + 4 * n + 200 < 9000

theorem held_keeps {S : Addr → Prop} {h h' : Heap} (x : ∀ a, S a → (h.get? a).isSome = true) (k : ∀ b o, h.get? b = some o → h'.get? b = some o) : ∀ a, S a → (h'.get? a).isSome = true := fun a ha => by
  have := x a ha
  cases e : h.get? a with
  | none => rw [e] at this; (first | obtain ⟨_, rfl⟩ := this.atom | exact (nsE this).elim | exact (snE this).elim | exact (ftE this).elim | cases this)
  | some o => rw [k a o e]; rfl
theorem some_keep {h h' : Heap} {a : Addr} (x : (h.get? a).isSome = true) (k : ∀ b o, h.get? b = some o → h'.get? b = some o) : (h'.get? a).isSome = true := by
  cases e : h.get? a with
  | none => rw [e] at x; (first | obtain ⟨_, rfl⟩ := x.atom | exact (nsE x).elim | exact (snE x).elim | exact (ftE x).elim | cases x)
  | some o => rw [k a o e]; rfl
/-- an unused address is none of those to keep off -/
theorem not_held {S : Addr → Prop} {h : Heap} (x : ∀ a, S a → (h.get? a).isSome = true) {a : Addr} (e : h.get? a = none) : ¬ S a := fun q => by
  have := x a q; rw [e] at this; (first | obtain ⟨_, rfl⟩ := this.atom | exact (nsE this).elim | exact (snE this).elim | exact (ftE this).elim | cases this)
theorem get_size (h : Heap) {a : Addr} (ha : h.objs.size ≤ a) : h.get? a = none := by
  cases e : h.get? a with
  | none => rfl
  | some o => exact absurd (Heap.lt_size e) (Nat.not_lt.mpr ha)

/-- the world: what stood at the law's call stands; S names addresses made since, that data keeps off -/
structure Wd (K : Frag) (base : Heap) (S : Addr → Prop) (h : Heap) : Prop where
  gl : Gl K base
  up : ∀ b o, base.get? b = some o → h.get? b = some o
  off : ∀ a, S a → base.get? a = none
  held : ∀ a, S a → (h.get? a).isSome = true
theorem Wd.glh {K : Frag} {base : Heap} {S : Addr → Prop} {h : Heap} (x : Wd K base S h) : Gl K h := x.gl.keeps x.up
theorem Wd.keeps {K : Frag} {base : Heap} {S : Addr → Prop} {h h' : Heap} (x : Wd K base S h) (k : ∀ b o, h.get? b = some o → h'.get? b = some o) : Wd K base S h' :=
  ⟨x.gl, fun b o e => k b o (x.up b o e), x.off, held_keeps x.held k⟩
theorem Wd.ext {K : Frag} {base : Heap} {S : Addr → Prop} {h h' : Heap} (x : Wd K base S h) (k : Ext S h h') (l : ∀ a, S a → (h'.get? a).isSome = true) : Wd K base S h' :=
  ⟨x.gl, fun b o e => k b o (fun q => by rw [x.off b q] at e; (first | obtain ⟨_, rfl⟩ := e.atom | exact (nsE e).elim | exact (snE e).elim | exact (ftE e).elim | cases e)) (x.up b o e), x.off, l⟩
theorem Wd.fresh {K : Frag} {base : Heap} {S : Addr → Prop} {h : Heap} (x : Wd K base S h) {a : Addr} (e : h.get? a = none) : base.get? a = none := by
  cases q : base.get? a with
  | none => rfl
  | some o => rw [x.up a o q] at e; (first | obtain ⟨_, rfl⟩ := e.atom | exact (nsE e).elim | exact (snE e).elim | exact (ftE e).elim | cases e)
theorem Wd.less {K : Frag} {base : Heap} {S S' : Addr → Prop} {h : Heap} (x : Wd K base S h) (l : ∀ a, S' a → S a) : Wd K base S' h := ⟨x.gl, x.up, fun a q => x.off a (l a q), fun a q => x.held a (l a q)⟩

/-- names stand apart -/
noncomputable def Sep (env : Env) : Prop := (∀ x y c, env.cells.lookup x = some c → env.cells.lookup y = some c → x = y) ∧ ∀ x c, env.cells.lookup x = some c → c ≠ env.locals

structure Ctx where
  K : Frag
  prog : Program
  w : World
  A : Around
  n : Nat
  base : Heap
  env : Env
  S : Addr → Prop
  ρ : Str → Option D

structure Ctx.At (Γ : Ctx) (h : Heap) : Prop where
  wd : Wd Γ.K Γ.base Γ.S h
  kind : Γ.env.scope.kind = .function
  globals : Γ.env.globals = mainGlobals
  builtins : Γ.env.builtins = builtinsNs
  room : RoomA Γ.n Γ.A
  sep : Sep Γ.env
  cin : ∀ x c, Γ.env.cells.lookup x = some c → (h.get? c).isSome = true
  vars : ∀ x d, Γ.ρ x = some d → ∃ v, Has h Γ.env x v ∧ Rep Γ.prog Γ.w Γ.S h v d

theorem Ctx.At.keeps {Γ : Ctx} {h h' : Heap} (x : Γ.At h) (k : ∀ b o, h.get? b = some o → h'.get? b = some o) : Γ.At h' :=
  ⟨x.wd.keeps k, x.kind, x.globals, x.builtins, x.room, x.sep, fun y c e => some_keep (x.cin y c e) k, fun y d e => let ⟨v, a, b⟩ := x.vars y d e; ⟨v, a.keeps k, b.keep k⟩⟩
theorem Ctx.At.go {Γ : Ctx} {s s' : Shared} (x : Γ.At s.heap) (k : Kp s s') : Γ.At s'.heap := x.keeps k.k

noncomputable abbrev Ctx.R (Γ : Ctx) (h : Heap) (v : Value) (d : D) : Prop := Rep Γ.prog Γ.w Γ.S h v d
noncomputable abbrev Ctx.Rs (Γ : Ctx) (h : Heap) (vs : List Value) (ds : List D) : Prop := RepAll Γ.prog Γ.w Γ.S h vs ds

/-- the tree ends without an exception, old objects stay, and what it hands on is as P says -/
noncomputable def Tr (Γ : Ctx) {α : Type} (t : Sem α) (P : α → Heap → Prop) (s : Shared) : Prop :=
  wpAny (model Γ.prog Γ.w) Γ.A t (fun a s' => Kp s s' ∧ P a s'.heap) (fun _ _ => False) s
structure Ev (Γ : Ctx) (e : Expr) (d : D) : Prop where
  run : ∀ s, Γ.At s.heap → Tr Γ (eval e Γ.env) (fun v h => Γ.R h v d) s
structure EvT (Γ : Ctx) (e : Expr) (b : Bool) : Prop where
  run : ∀ s, Γ.At s.heap → Tr Γ (isTrue e Γ.env (eval e Γ.env)) (fun t _ => t = b) s

section
variable {Γ : Ctx} {α β : Type} {s : Shared}
theorem Tr.pure {a : α} {P : α → Heap → Prop} (h : P a s.heap) : Tr Γ (pure a) P s := wpAny_pure ⟨Kp.refl s, h⟩
theorem Tr.mono {t : Sem α} {P P' : α → Heap → Prop} (h : Tr Γ t P s) (i : ∀ a h, P a h → P' a h) : Tr Γ t P' s := wpAny_mono h (fun _ _ q => ⟨q.1, i _ _ q.2⟩) fun _ _ x => x
/-- then a tree more, whose rule is as the library's are -/
theorem Tr.then' {t : Sem α} {P : α → Heap → Prop} {Q : α → Shared → Prop} {E : Value → Shared → Prop} (h : Tr Γ t P s) (k : ∀ a s', Kp s s' → P a s'.heap → Q a s') : wpAny (model Γ.prog Γ.w) Γ.A t Q E s :=
  wpAny_mono h (fun a s' q => k a s' q.1 q.2) fun _ _ x => x.elim
theorem Tr.from {t : Sem α} {P : α → Heap → Prop} {s₀ : Shared} (x : Kp s₀ s) (h : Tr Γ t P s) : wpAny (model Γ.prog Γ.w) Γ.A t (fun a s' => Kp s₀ s' ∧ P a s'.heap) (fun _ _ => False) s :=
  wpAny_mono h (fun _ _ q => ⟨x.trans q.1, q.2⟩) fun _ _ x => x

theorem ev_int {i : Int} {k : Nat} {p : Pos} : Ev Γ (.Constant (.int i) k p) (.int i) := .mk fun s _ => wpAny_Constant_int ⟨Kp.toks s _, .int _ _⟩
theorem ev_bool {b : Bool} {k : Nat} {p : Pos} : Ev Γ (.Constant (.bool b) k p) (.bool b) := .mk fun s _ => wpAny_Constant_bool ⟨Kp.refl s, .bool _⟩
theorem ev_str {x : Str} {k : Nat} {p : Pos} : Ev Γ (.Constant (.str x) k p) (.str x) := .mk fun s _ => wpAny_Constant_str ⟨Kp.toks s _, .str _ _⟩

theorem ev_name {x : Str} {p : Pos} {d : D} (e : Γ.ρ x = some d) (hd : (x == ("__debug__" : Str)) = false := by decide) : Ev Γ (.Name x p) d := .mk fun s C => by
  obtain ⟨v, hv, r⟩ := C.vars x d e
  refine wpAny_Name ?_ hd
  rcases hv with ⟨a, m, n, e⟩ | ⟨a, c, l, n⟩
  · exact wpAny_loadName_local C.kind a n e ⟨Kp.refl s, r⟩
  · rcases a with a | ⟨a, b⟩
    · exact wpAny_loadName_cell C.kind a l n ⟨Kp.refl s, r⟩
    · exact wpAny_loadName_free C.kind a l n ⟨Kp.refl s, r⟩ b

/-- the fragment writes the top's names out -/
noncomputable def TopOk (K : Frag) : Prop := ∃ c d es ep sl, K.lookup mainGlobals = some ⟨c, d, .dict es ep, sl⟩
theorem glob_is {K : Frag} {h : Heap} (T : TopOk K) (g : Gl K h) {mg : Str → Option Value} (hm : h.Ns mainGlobals mg) (x : Str) : mg x = globOf K x := by
  obtain ⟨c, d, es, ep, sl, e⟩ := T
  refine g.glob hm (by rw [e]; rfl) rfl fun o q => ?_
  rw [e] at q; (first | obtain ⟨_, rfl⟩ := q.atom | exact (nsE q).elim | exact (snE q).elim | exact (ftE q).elim | cases q); exact ⟨es, ep, rfl⟩

theorem ev_glob {x : Str} {p : Pos} {v : Value} (T : TopOk Γ.K) (hk : Γ.env.kindOf x = some .globalImplicit) (e : globOf Γ.K x = some v) (hd : (x == ("__debug__" : Str)) = false := by decide) : Ev Γ (.Name x p) (.raw v) := .mk fun s C => by
  obtain ⟨mg, hm⟩ := C.wd.glh.mg
  exact Calls.Name_function_global C.kind hk (Calls.loadGlobal_global (by rw [C.globals]; exact hm) ((glob_is T C.wd.glh hm x).trans e) ⟨Kp.refl s, .raw _⟩) hd
theorem ev_blt {x : Str} {p : Pos} {v : Value} (T : TopOk Γ.K) (hk : Γ.env.kindOf x = some .globalImplicit) (e : globOf Γ.K x = none) (hb : bootBuiltins x = some v) (hn : x ≠ "__name__" := by decide) (hd : (x == ("__debug__" : Str)) = false := by decide) :
    Ev Γ (.Name x p) (.raw v) := .mk fun s C => by
  obtain ⟨mg, hm⟩ := C.wd.glh.mg
  obtain ⟨mb, hb', he⟩ := C.wd.glh.mb
  exact Calls.Name_function_global C.kind hk (Calls.loadGlobal_builtin (by rw [C.globals]; exact hm) ((glob_is T C.wd.glh hm x).trans e) (by rw [C.builtins]; exact hb') ((he x hn).trans hb) ⟨Kp.refl s, .raw _⟩) hd

/-- an operation on two values -/
structure Op2 (Γ : Ctx) (f : Value → Value → Sem Value) (d1 d2 d : D) : Prop where
  run : ∀ a b s, Γ.At s.heap → Γ.R s.heap a d1 → Γ.R s.heap b d2 → Tr Γ (f a b) (fun v h => Γ.R h v d) s
structure Op1 (Γ : Ctx) (f : Value → Sem Value) (d1 d : D) : Prop where
  run : ∀ a s, Γ.At s.heap → Γ.R s.heap a d1 → Tr Γ (f a) (fun v h => Γ.R h v d) s
structure TruthIs (Γ : Ctx) (d : D) (b : Bool) : Prop where
  run : ∀ v s, Γ.At s.heap → Γ.R s.heap v d → Tr Γ (truthy v) (fun t _ => t = b) s

theorem ev_binop {l r : Expr} {op : Operator} {p : Pos} {d1 d2 d : D} (h1 : Ev Γ l d1) (h2 : Ev Γ r d2) (ho : Op2 Γ (binaryOp op) d1 d2 d) : Ev Γ (.BinOp l op r p) d := .mk fun s C =>
  wpAny_BinOp ((h1.run s C).then' fun a s₁ k₁ r₁ => (h2.run s₁ (C.go k₁)).then' fun b s₂ k₂ r₂ => (ho.run a b s₂ ((C.go k₁).go k₂) (r₁.keep k₂.k) r₂).from (k₁.trans k₂))
theorem ev_unop {x : Expr} {op : UnaryOp} {p : Pos} {d1 d : D} (h1 : Ev Γ x d1) (ho : Op1 Γ (unaryOp op) d1 d) : Ev Γ (.UnaryOp op x p) d := .mk fun s C =>
  wpAny_UnaryOp ((h1.run s C).then' fun a s₁ k₁ r₁ => (ho.run a s₁ (C.go k₁) r₁).from k₁)
theorem ev_cmp {l r : Expr} {op : CmpOp} {p : Pos} {d1 d2 d : D} (h1 : Ev Γ l d1) (h2 : Ev Γ r d2) (ho : Op2 Γ (compareOp op) d1 d2 d) (hm : behindInMarks op r = false := by with_unfolding_all rfl) : Ev Γ (.Compare l [op] [r] p) d := .mk fun s C =>
  wpAny_Compare1 (hm := hm) ((h1.run s C).then' fun a s₁ k₁ r₁ => (h2.run s₁ (C.go k₁)).then' fun b s₂ k₂ r₂ => (ho.run a b s₂ ((C.go k₁).go k₂) (r₁.keep k₂.k) r₂).from (k₁.trans k₂))
theorem ev_ifexp {t x y : Expr} {p : Pos} {b : Bool} {d : D} (h : EvT Γ t b) (hx : b = true → Ev Γ x d) (hy : b = false → Ev Γ y d) : Ev Γ (.IfExp t x y p) d := .mk fun s C =>
  wpAny_IfExp ((h.run s C).then' fun a s₁ k₁ e => by
    subst e
    cases a with
    | true => exact ((hx rfl).run s₁ (C.go k₁)).from k₁
    | false => exact ((hy rfl).run s₁ (C.go k₁)).from k₁)

-- tests
theorem evT_cmp {l r : Expr} {op : CmpOp} {p : Pos} {d1 d2 : D} {b : Bool} (h1 : Ev Γ l d1) (h2 : Ev Γ r d2) (ho : Op2 Γ (compareOp op) d1 d2 (.bool b)) (hm : behindInMarks op r = false := by with_unfolding_all rfl) : EvT Γ (.Compare l [op] [r] p) b := .mk fun s C =>
  wpAny_isTrue_Compare1 (hm := hm) ((h1.run s C).then' fun a s₁ k₁ r₁ => (h2.run s₁ (C.go k₁)).then' fun c s₂ k₂ r₂ => (ho.run a c s₂ ((C.go k₁).go k₂) (r₁.keep k₂.k) r₂).then' fun v s₃ k₃ r₃ => by
    (first | obtain ⟨_, rfl⟩ := r₃.atom | exact (nsE r₃).elim | exact (snE r₃).elim | exact (ftE r₃).elim | cases r₃)
    exact wpAny_truthy_bool ⟨(k₁.trans k₂).trans k₃, rfl⟩)
theorem evT_not {x : Expr} {p : Pos} {b : Bool} (h : EvT Γ x b) : EvT Γ (.UnaryOp .Not x p) (!b) := .mk fun s C =>
  wpAny_isTrue_Not ((h.run s C).then' fun a s₁ k₁ e => ⟨k₁, by rw [e]⟩)
/-- a row of tests, under and | or -/
structure EvTs (Γ : Ctx) (op : BoolOp) (es : List Expr) (b : Bool) : Prop where
  run : ∀ s, Γ.At s.heap → Tr Γ (allTrue op es Γ.env) (fun t _ => t = b) s
theorem evT_boolop {op : BoolOp} {es : List Expr} {p : Pos} {b : Bool} (h : EvTs Γ op es b) : EvT Γ (.BoolOp op es p) b := .mk fun s C => wpAny_isTrue_BoolOp (h.run s C)
theorem evTs_or_nil : EvTs Γ .Or [] false := .mk fun s _ => wpAny_allTrue_Or_nil ⟨Kp.refl s, rfl⟩
theorem evTs_and {x : Expr} {r : List Expr} {a b : Bool} (h1 : EvT Γ x a) (h2 : a = true → EvTs Γ .And r b) : EvTs Γ .And (x :: r) (a && b) := .mk fun s C =>
  wpAny_allTrue_And_cons ((h1.run s C).then' fun t s₁ k₁ e => by
    subst e
    cases t with
    | true => exact ((h2 rfl).run s₁ (C.go k₁)).from k₁
    | false => exact ⟨k₁, rfl⟩)
theorem evTs_or {x : Expr} {r : List Expr} {a b : Bool} (h1 : EvT Γ x a) (h2 : a = false → EvTs Γ .Or r b) : EvTs Γ .Or (x :: r) (a || b) := .mk fun s C =>
  wpAny_allTrue_Or_cons ((h1.run s C).then' fun t s₁ k₁ e => by
    subst e
    cases t with
    | true => exact ⟨k₁, rfl⟩
    | false => exact ((h2 rfl).run s₁ (C.go k₁)).from k₁)

theorem truth_bool {b : Bool} : TruthIs Γ (.bool b) b := .mk fun v s _ r => by (first | obtain ⟨_, rfl⟩ := r.atom | exact (nsE r).elim | exact (snE r).elim | exact (ftE r).elim | cases r); exact wpAny_truthy_bool ⟨Kp.refl s, rfl⟩
theorem truth_int {i : Int} : TruthIs Γ (.int i) (i != 0) := .mk fun v s _ r => by (first | obtain ⟨_, rfl⟩ := r.atom | exact (nsE r).elim | exact (snE r).elim | exact (ftE r).elim | cases r); exact truthy_int ⟨Kp.refl s, rfl⟩
/-- any other expression as a test: its value's truth -/
theorem evT_of {e : Expr} {d : D} {b : Bool} (h : Ev Γ e d) (ht : TruthIs Γ d b) (he : ∀ env whole, isTrue e env whole = (do let v ← whole; standAt e.pos; holding [v] (truthy v)) := by intro _ _; rfl) : EvT Γ e b := .mk fun s C =>
  wpAny_isTrue_value ((h.run s C).then' fun v s₁ k₁ r₁ => (ht.run v s₁ (C.go k₁) r₁).from k₁) (he _ _)
theorem ev_and2 {x y : Expr} {p : Pos} {a : Bool} {d : D} (h1 : Ev Γ x (.bool a)) (h2 : a = true → Ev Γ y d) (h3 : a = false → d = .bool false) : Ev Γ (.BoolOp .And [x, y] p) d := .mk fun s C =>
  wpAny_And2 ((h1.run s C).then' fun v s₁ k₁ r₁ => by
    (first | obtain ⟨_, rfl⟩ := r₁.atom | exact (nsE r₁).elim | exact (snE r₁).elim | exact (ftE r₁).elim | cases r₁)
    refine wpAny_truthy_bool ?_
    cases a with
    | true => exact ((h2 rfl).run s₁ (C.go k₁)).from k₁
    | false => rw [h3 rfl]; exact ⟨k₁, .bool _⟩)

-- ints
theorem op_add {a b : Int} : Op2 Γ (binaryOp .Add) (.int a) (.int b) (.int (a + b)) := .mk fun _ _ s _ r₁ r₂ => by (first | obtain ⟨_, rfl⟩ := r₁.atom | exact (nsE r₁).elim | exact (snE r₁).elim | exact (ftE r₁).elim | cases r₁); (first | obtain ⟨_, rfl⟩ := r₂.atom | exact (nsE r₂).elim | exact (snE r₂).elim | exact (ftE r₂).elim | cases r₂); exact add_int ⟨Kp.toks s _, .int _ _⟩
theorem op_sub {a b : Int} : Op2 Γ (binaryOp .Sub) (.int a) (.int b) (.int (a - b)) := .mk fun _ _ s _ r₁ r₂ => by (first | obtain ⟨_, rfl⟩ := r₁.atom | exact (nsE r₁).elim | exact (snE r₁).elim | exact (ftE r₁).elim | cases r₁); (first | obtain ⟨_, rfl⟩ := r₂.atom | exact (nsE r₂).elim | exact (snE r₂).elim | exact (ftE r₂).elim | cases r₂); exact sub_int ⟨Kp.toks s _, .int _ _⟩
theorem op_mul {a b : Int} (hm : IntMulOk a b) : Op2 Γ (binaryOp .Mult) (.int a) (.int b) (.int (a * b)) := .mk fun _ _ s _ r₁ r₂ => by (first | obtain ⟨_, rfl⟩ := r₁.atom | exact (nsE r₁).elim | exact (snE r₁).elim | exact (ftE r₁).elim | cases r₁); (first | obtain ⟨_, rfl⟩ := r₂.atom | exact (nsE r₂).elim | exact (snE r₂).elim | exact (ftE r₂).elim | cases r₂); exact mul_int ⟨Kp.toks s _, .int _ _⟩ hm
theorem op_mod {a b : Int} (hb : b ≠ 0) : Op2 Γ (binaryOp .Mod) (.int a) (.int b) (.int (a.fmod b)) := .mk fun _ _ s _ r₁ r₂ => by (first | obtain ⟨_, rfl⟩ := r₁.atom | exact (nsE r₁).elim | exact (snE r₁).elim | exact (ftE r₁).elim | cases r₁); (first | obtain ⟨_, rfl⟩ := r₂.atom | exact (nsE r₂).elim | exact (snE r₂).elim | exact (ftE r₂).elim | cases r₂); exact mod_int' hb ⟨Kp.toks s _, .int _ _⟩
theorem op_fdiv {a b : Int} (hb : b ≠ 0) (hp : Builtin.divisionGoesByPylong a b = false) : Op2 Γ (binaryOp .FloorDiv) (.int a) (.int b) (.int (a.fdiv b)) := .mk fun _ _ s _ r₁ r₂ => by
  (first | obtain ⟨_, rfl⟩ := r₁.atom | exact (nsE r₁).elim | exact (snE r₁).elim | exact (ftE r₁).elim | cases r₁); (first | obtain ⟨_, rfl⟩ := r₂.atom | exact (nsE r₂).elim | exact (snE r₂).elim | exact (ftE r₂).elim | cases r₂); exact floordiv_int hb ⟨Kp.toks s _, .int _ _⟩ (.inl hp)
theorem op_pow {a n : Int} (hn : 0 ≤ n) (hsz : (Builtin.Int.intBits a : Int) * n ≤ 2 ^ 27) : Op2 Γ (binaryOp .Pow) (.int a) (.int n) (.int (a ^ n.toNat)) := .mk fun _ _ s _ r₁ r₂ => by
  (first | obtain ⟨_, rfl⟩ := r₁.atom | exact (nsE r₁).elim | exact (snE r₁).elim | exact (ftE r₁).elim | cases r₁); (first | obtain ⟨_, rfl⟩ := r₂.atom | exact (nsE r₂).elim | exact (snE r₂).elim | exact (ftE r₂).elim | cases r₂); exact pow_int hn hsz ⟨Kp.toks s _, .int _ _⟩
theorem op_neg {a : Int} : Op1 Γ (unaryOp .USub) (.int a) (.int (-a)) := .mk fun _ s _ r => by (first | obtain ⟨_, rfl⟩ := r.atom | exact (nsE r).elim | exact (snE r).elim | exact (ftE r).elim | cases r); exact neg_int ⟨Kp.toks s _, .int _ _⟩
theorem op_iadd {a b : Int} : Op2 Γ (inplaceOp .Add) (.int a) (.int b) (.int (a + b)) := .mk fun _ _ s _ r₁ r₂ => by (first | obtain ⟨_, rfl⟩ := r₁.atom | exact (nsE r₁).elim | exact (snE r₁).elim | exact (ftE r₁).elim | cases r₁); (first | obtain ⟨_, rfl⟩ := r₂.atom | exact (nsE r₂).elim | exact (snE r₂).elim | exact (ftE r₂).elim | cases r₂); exact iadd_int ⟨Kp.toks s _, .int _ _⟩
theorem op_lt {a b : Int} : Op2 Γ (compareOp .Lt) (.int a) (.int b) (.bool (decide (a < b))) := .mk fun _ _ s _ r₁ r₂ => by (first | obtain ⟨_, rfl⟩ := r₁.atom | exact (nsE r₁).elim | exact (snE r₁).elim | exact (ftE r₁).elim | cases r₁); (first | obtain ⟨_, rfl⟩ := r₂.atom | exact (nsE r₂).elim | exact (snE r₂).elim | exact (ftE r₂).elim | cases r₂); exact lt_int ⟨Kp.refl s, .bool _⟩
theorem op_gt {a b : Int} : Op2 Γ (compareOp .Gt) (.int a) (.int b) (.bool (decide (b < a))) := .mk fun _ _ s _ r₁ r₂ => by (first | obtain ⟨_, rfl⟩ := r₁.atom | exact (nsE r₁).elim | exact (snE r₁).elim | exact (ftE r₁).elim | cases r₁); (first | obtain ⟨_, rfl⟩ := r₂.atom | exact (nsE r₂).elim | exact (snE r₂).elim | exact (ftE r₂).elim | cases r₂); exact gt_int ⟨Kp.refl s, .bool _⟩
theorem op_ge {a b : Int} : Op2 Γ (compareOp .GtE) (.int a) (.int b) (.bool (decide (b ≤ a))) := .mk fun _ _ s _ r₁ r₂ => by (first | obtain ⟨_, rfl⟩ := r₁.atom | exact (nsE r₁).elim | exact (snE r₁).elim | exact (ftE r₁).elim | cases r₁); (first | obtain ⟨_, rfl⟩ := r₂.atom | exact (nsE r₂).elim | exact (snE r₂).elim | exact (ftE r₂).elim | cases r₂); exact ge_int ⟨Kp.refl s, .bool _⟩
theorem op_eq {a b : Int} : Op2 Γ (compareOp .Eq) (.int a) (.int b) (.bool (a == b)) := .mk fun _ _ s _ r₁ r₂ => by (first | obtain ⟨_, rfl⟩ := r₁.atom | exact (nsE r₁).elim | exact (snE r₁).elim | exact (ftE r₁).elim | cases r₁); (first | obtain ⟨_, rfl⟩ := r₂.atom | exact (nsE r₂).elim | exact (snE r₂).elim | exact (ftE r₂).elim | cases r₂); exact eq_int ⟨Kp.refl s, .bool _⟩
theorem op_ne {a b : Int} : Op2 Γ (compareOp .NotEq) (.int a) (.int b) (.bool (a != b)) := .mk fun _ _ s _ r₁ r₂ => by (first | obtain ⟨_, rfl⟩ := r₁.atom | exact (nsE r₁).elim | exact (snE r₁).elim | exact (ftE r₁).elim | cases r₁); (first | obtain ⟨_, rfl⟩ := r₂.atom | exact (nsE r₂).elim | exact (snE r₂).elim | exact (ftE r₂).elim | cases r₂); exact ne_int ⟨Kp.refl s, .bool _⟩
end
-- part PL3
section
variable {prog : Program} {w : World} {S : Addr → Prop} {h : Heap} {a : Addr} {ds : List D} {v : Value}
inductive ListRep (prog : Program) (w : World) (S : Addr → Prop) (h : Heap) (v : Value) (ds : List D) : Prop
  | mk (a : Addr) (vs : List Value) (e : v = .ref a) (hs : ¬ S a) (hl : h.PlainList a vs.toArray) (rs : RepAll prog w S h vs ds) : ListRep prog w S h v ds
inductive TupleRep (prog : Program) (w : World) (S : Addr → Prop) (h : Heap) (v : Value) (ds : List D) : Prop
  | mk (a : Addr) (vs : List Value) (n : Nat) (e : v = .ref a) (hs : ¬ S a) (hl : h.get? a = some { cls := .type "tuple", data := .seq vs.toArray n }) (rs : RepAll prog w S h vs ds) : TupleRep prog w S h v ds
theorem Rep.list_inv (r : Rep prog w S h v (.list ds)) : ListRep prog w S h v ds := by
  cases r with
  | list a b c => exact ⟨_, _, rfl, a, b, c⟩
theorem Rep.tuple_inv (r : Rep prog w S h v (.tuple ds)) : TupleRep prog w S h v ds := by
  cases r with
  | tuple a b c => exact ⟨_, _, _, rfl, a, b, c⟩
theorem isTup {vs : List Value} {n : Nat} (e : h.get? a = some { cls := .type "tuple", data := .seq vs.toArray n }) : IsTup h a vs.toArray := ⟨_, e, rfl, n, rfl⟩

/-- a new list, a new tuple -/
theorem Rep.new_list {vs : List Value} (hs : ∀ a, S a → (h.get? a).isSome = true) (r : RepAll prog w S h vs ds) : Rep prog w S (h.push { cls := .type "list", data := .seq vs.toArray }) (.ref h.objs.size) (.list ds) :=
  .list (not_held hs (get_size h (Nat.le_refl _))) ⟨0, Heap.get?_push_size _ rfl⟩ (r.keep fun _ _ e => Heap.get?_push_of_some _ e)
theorem Rep.new_tuple {vs : List Value} (hs : ∀ a, S a → (h.get? a).isSome = true) (r : RepAll prog w S h vs ds) : Rep prog w S (h.push { cls := .type "tuple", data := .seq vs.toArray }) (.ref h.objs.size) (.tuple ds) :=
  .tuple (not_held hs (get_size h (Nat.le_refl _))) (Heap.get?_push_size _ rfl) (r.keep fun _ _ e => Heap.get?_push_of_some _ e)
end

section
variable {Γ : Ctx} {s : Shared}

/-- items, one after the other -/
structure Evs (Γ : Ctx) (p : Pos) (es : List Expr) (ds : List D) : Prop where
  run : ∀ s, Γ.At s.heap → Tr Γ (spliced (backTo p (starEach es Γ.env))) (fun vs h => Γ.Rs h vs ds) s
theorem evs_nil {p : Pos} : Evs Γ p [] [] := .mk fun s _ => wpAny_items_nil ⟨Kp.refl s, .nil⟩
noncomputable def plainE : Expr → Bool
  | .Starred .. => false
  | _ => true
theorem starEach_plain {e : Expr} {r : List Expr} {env : Env} (h : plainE e = true) : starEach (e :: r) env = (false, eval e env) :: starEach r env := by
  (first | obtain ⟨_, rfl⟩ := e.atom | exact (nsE e).elim | exact (snE e).elim | exact (ftE e).elim | cases e) <;> first | rfl | (first | obtain ⟨_, rfl⟩ := h.atom | exact (nsE h).elim | exact (snE h).elim | exact (ftE h).elim | cases h)
theorem any_plain {env : Env} : ∀ {es : List Expr}, es.all plainE = true → (starEach es env).any (·.1) = false
  | [], _ => rfl
  | e :: r, h => by
    rw [List.all_cons, Bool.and_eq_true] at h
    rw [starEach_plain h.1, List.any_cons, any_plain h.2]; rfl
theorem evs_cons {p : Pos} {e : Expr} {r : List Expr} {d : D} {ds : List D} (h1 : Ev Γ e d) (h2 : Evs Γ p r ds) (he : plainE e = true := by rfl) : Evs Γ p (e :: r) (d :: ds) := .mk fun s C =>
  wpAny_items_cons ((h1.run s C).then' fun v s₁ k₁ r₁ => (h2.run s₁ (C.go k₁)).then' fun vs s₂ k₂ r₂ => ⟨k₁.trans k₂, .cons (r₁.keep k₂.k) r₂⟩) (starEach_plain he)

theorem ev_list {es : List Expr} {p : Pos} {ds : List D} (h : Evs Γ p es ds) (hz : ds.length ≤ sizeLine) : Ev Γ (.List es p) (.list ds) := .mk fun s C =>
  wpAny_List ((h.run s C).then' fun vs s₁ k₁ r₁ => ⟨by rw [r₁.length]; exact hz, k₁.trans (Kp.push s₁ _), Rep.new_list (C.go k₁).wd.held r₁⟩)
theorem ev_tuple {es : List Expr} {k : Nat} {p : Pos} {ds : List D} (h : Evs Γ p es ds) (hz : ds.length ≤ sizeLine) : Ev Γ (.Tuple es k p) (.tuple ds) := .mk fun s C =>
  wpAny_Tuple ((h.run s C).then' fun vs s₁ k₁ r₁ => ⟨by rw [r₁.length]; exact hz, k₁.trans (Kp.push s₁ _), Rep.new_tuple (C.go k₁).wd.held r₁⟩)

/-- an item: what stands between the two operands and the value -/
noncomputable def SubOn (Γ : Ctx) (value slice : Expr) (d1 d2 d : D) : Prop := Op2 Γ (subscriptTail value slice) d1 d2 d
theorem ev_sub {value slice : Expr} {p : Pos} {d1 d2 d : D} (h1 : Ev Γ value d1) (h2 : Ev Γ slice d2) (ho : SubOn Γ value slice d1 d2 d) : Ev Γ (.Subscript value slice p) d := .mk fun s C =>
  Subscript_ ((h1.run s C).then' fun a s₁ k₁ r₁ => (h2.run s₁ (C.go k₁)).then' fun b s₂ k₂ r₂ => (ho.run a b s₂ ((C.go k₁).go k₂) (r₁.keep k₂.k) r₂).from (k₁.trans k₂))

/-- the subscript is no slice -/
noncomputable def PlainSub (slice : Expr) : Prop := ∀ o i, subscripted slice false o i = operate [o, i] (getItem o i)

theorem sub_list {value slice : Expr} {ds : List D} {k : Int} {d : D} (hp : PlainSub slice) (h0 : 0 ≤ k) (hf : k < 2 ^ 63) (hd : ds[k.toNat]? = some d) : SubOn Γ value slice (.list ds) (.int k) d := by
  refine .mk fun a b s C r₁ r₂ => ?_
  obtain ⟨l, vs, rfl, _, hl, rs⟩ := r₁.list_inv
  (first | obtain ⟨_, rfl⟩ := r₂.atom | exact (nsE r₂).elim | exact (snE r₂).elim | exact (ftE r₂).elim | cases r₂)
  obtain ⟨x, hx, rx⟩ := rs.get hd
  exact tail_any hl.isList.typeIs slot_list_getitem.lookup (wpAny_getItem_list hl.isList h0 hf (by simpa using hx) ⟨Kp.refl s, rx⟩) (hp _ _)
theorem sub_tuple {value slice : Expr} {ds : List D} {k : Int} {d : D} (hp : PlainSub slice) (h0 : 0 ≤ k) (hf : k < 2 ^ 63) (hd : ds[k.toNat]? = some d) : SubOn Γ value slice (.tuple ds) (.int k) d := by
  refine .mk fun a b s C r₁ r₂ => ?_
  obtain ⟨l, vs, n, rfl, _, hl, rs⟩ := r₁.tuple_inv
  (first | obtain ⟨_, rfl⟩ := r₂.atom | exact (nsE r₂).elim | exact (snE r₂).elim | exact (ftE r₂).elim | cases r₂)
  obtain ⟨x, hx, rx⟩ := rs.get hd
  have hlt : k.toNat < vs.length := by
    rcases Nat.lt_or_ge k.toNat vs.length with q | q
    · exact q
    · rw [List.getElem?_eq_none q] at hx; (first | obtain ⟨_, rfl⟩ := hx.atom | exact (nsE hx).elim | exact (snE hx).elim | exact (ftE hx).elim | cases hx)
  have hj : seqIndex? k vs.length = some k.toNat := by
    unfold seqIndex?
    rw [if_neg (Int.not_lt.mpr h0)]
    have : (decide (0 ≤ k) && decide (k < (vs.length : Int))) = true := by simp; omega
    simp only [this, if_true]
  exact item_tupleT (isTup hl) (by omega) hf hj hx ⟨Kp.refl s, rx⟩ (hp _ _)

/-- parts of a slice -/
noncomputable def partD : Option Int → D
  | none => .none
  | some i => .int i
structure EvPart (Γ : Ctx) (x : Option Expr) (i : Option Int) : Prop where
  run : ∀ s, Γ.At s.heap → Tr Γ (evalPart x Γ.env) (fun v _ => IsPart v i) s
theorem part_none : EvPart Γ none none := .mk fun s _ => by rw [evalPart_none]; exact Tr.pure .none
theorem part_some {e : Expr} {i : Int} (h : Ev Γ e (.int i)) : EvPart Γ (some e) (some i) := .mk fun s C => by
  rw [evalPart_some]; exact (h.run s C).mono fun v _ r => by (first | obtain ⟨_, rfl⟩ := r.atom | exact (nsE r).elim | exact (snE r).elim | exact (ftE r).elim | cases r); exact .int _ _

theorem pick_rep {h : Heap} {vs : List Value} {ds : List D} (r : RepAll Γ.prog Γ.w Γ.S h vs ds) (rng : List Nat) :
    RepAll Γ.prog Γ.w Γ.S h (rng.filterMap fun i => vs[i]?) (rng.filterMap fun i => ds[i]?) := by
  induction rng with
  | nil => exact .nil
  | cons i t ih =>
    rw [List.filterMap_cons, List.filterMap_cons]
    cases hv : vs[i]? with
    | none =>
      have : ds[i]? = none := by
        cases hd : ds[i]? with
        | none => rfl
        | some d => obtain ⟨v, e, _⟩ := r.get hd; rw [hv] at e; (first | obtain ⟨_, rfl⟩ := e.atom | exact (nsE e).elim | exact (snE e).elim | exact (ftE e).elim | cases e)
      rw [this]; exact ih
    | some v =>
      obtain ⟨d, e, rd⟩ := r.get' hv
      rw [e]; exact .cons rd ih

/-- a slice without a step, a slice with one -/
noncomputable def cut {α : Type} (xs : List α) (lo hi : Option Int) : List α := (xs.drop (kms_lo lo xs.length)).take (kms_hi hi xs.length - kms_lo lo xs.length)
noncomputable def cutBy {α : Type} (xs : List α) (lo hi st : Option Int) : List α :=
  (sliceRange (sliceBounds lo hi st xs.length).1 (sliceBounds lo hi st xs.length).2.1 (sliceBounds lo hi st xs.length).2.2).filterMap fun i => xs[i]?

theorem ev_slice {value : Expr} {lower upper : Option Expr} {p q : Pos} {ds : List D} {lo hi : Option Int} (h1 : Ev Γ value (.list ds)) (h2 : EvPart Γ lower lo) (h3 : EvPart Γ upper hi) (hz : ds.length ≤ sizeLine) :
    Ev Γ (.Subscript value (.Slice lower upper none q) p) (.list (cut ds lo hi)) := .mk fun s C => by
  refine Subscript_ ((h1.run s C).then' fun a s₁ k₁ r₁ => wpAny_Slice ((h2.run s₁ (C.go k₁)).then' fun vl s₂ k₂ pl => (h3.run s₂ ((C.go k₁).go k₂)).then' fun vu s₃ k₃ pu => ?_))
  rw [evalPart_none]
  refine wpAny_pure ?_
  have C₃ := ((C.go k₁).go k₂).go k₃
  obtain ⟨l, vs, rfl, _, hl, rs⟩ := (r₁.keep (k₂.trans k₃).k).list_inv
  have hl' : (s₃.heap.push { cls := .type "slice", data := .fields #[vl, vu, .none] }).PlainList l vs.toArray := let ⟨n, e⟩ := hl; ⟨n, Heap.get?_push_of_some _ e⟩
  have kp := Kp.push s₃ { cls := .type "slice", data := .fields #[vl, vu, .none] }
  have hn := rs.length
  refine tail_any hl'.isList.typeIs slot_list_getitem.lookup (wpAny_getItem_list_slice hl'.isList (Heap.IsSliceOf.new _ _ _ _) pl pu .none (by intro e; (first | obtain ⟨_, rfl⟩ := e.atom | exact (nsE e).elim | exact (snE e).elim | exact (ftE e).elim | cases e)) ⟨(((k₁.trans k₂).trans k₃).trans kp).trans (Kp.push _ _), ?_⟩ (by simpa [hn] using hz)) (ops := [_, _]) rfl
  rw [kms_pick_eq]
  refine Rep.new_list (C₃.go kp).wd.held ?_
  unfold kms_pick cut
  rw [← hn]
  exact ((rs.keep kp.k).drop _).take _

theorem ev_sliceBy {value : Expr} {lower upper : Option Expr} {step : Expr} {p q : Pos} {ds : List D} {lo hi : Option Int} {st : Int} (h1 : Ev Γ value (.list ds)) (h2 : EvPart Γ lower lo) (h3 : EvPart Γ upper hi) (h4 : Ev Γ step (.int st)) (h0 : st ≠ 0) (hz : ds.length ≤ sizeLine) :
    Ev Γ (.Subscript value (.Slice lower upper (some step) q) p) (.list (cutBy ds lo hi (some st))) := .mk fun s C => by
  refine Subscript_ ((h1.run s C).then' fun a s₁ k₁ r₁ => wpAny_Slice ((h2.run s₁ (C.go k₁)).then' fun vl s₂ k₂ pl => (h3.run s₂ ((C.go k₁).go k₂)).then' fun vu s₃ k₃ pu => ((part_some h4).run s₃ (((C.go k₁).go k₂).go k₃)).then' fun vt s₄ k₄ pt => ?_))
  have C₄ := (((C.go k₁).go k₂).go k₃).go k₄
  obtain ⟨l, vs, rfl, _, hl, rs⟩ := (r₁.keep ((k₂.trans k₃).trans k₄).k).list_inv
  have hl' : (s₄.heap.push { cls := .type "slice", data := .fields #[vl, vu, vt] }).PlainList l vs.toArray := let ⟨n, e⟩ := hl; ⟨n, Heap.get?_push_of_some _ e⟩
  have kp := Kp.push s₄ { cls := .type "slice", data := .fields #[vl, vu, vt] }
  have hn := rs.length
  refine tail_any hl'.isList.typeIs slot_list_getitem.lookup (wpAny_getItem_list_slice hl'.isList (Heap.IsSliceOf.new _ _ _ _) pl pu pt (by intro e; (first | obtain ⟨_, rfl⟩ := e.atom | exact (nsE e).elim | exact (snE e).elim | exact (ftE e).elim | cases e); exact h0 rfl) ⟨((((k₁.trans k₂).trans k₃).trans k₄).trans kp).trans (Kp.push _ _), ?_⟩ (by simpa [hn] using hz)) (ops := [_, _]) rfl
  unfold slicePick
  refine Rep.new_list (C₄.go kp).wd.held ?_
  unfold cutBy
  rw [← hn]
  have := pick_rep (rs.keep kp.k) (sliceRange (sliceBounds lo hi (some st) vs.length).1 (sliceBounds lo hi (some st) vs.length).2.1 (sliceBounds lo hi (some st) vs.length).2.2)
  simpa using this

theorem op_addL {xs ys : List D} (hz : xs.length + ys.length ≤ sizeLine) : Op2 Γ (binaryOp .Add) (.list xs) (.list ys) (.list (xs ++ ys)) := by
  refine .mk fun a b s C r₁ r₂ => ?_
  obtain ⟨l, vs, rfl, _, ⟨n, hl⟩, rs⟩ := r₁.list_inv
  obtain ⟨m, us, rfl, _, ⟨n', hm⟩, qs⟩ := r₂.list_inv
  refine P.add_list hl hm ⟨Kp.push _ _, ?_⟩ (by simpa [rs.length, qs.length] using hz)
  have := Rep.new_list C.wd.held (rs.append qs)
  simpa using this
end
-- part PL4
/-- what a call of f with such arguments gives back, wherever it is made -/
structure Fn (K : Frag) (prog : Program) (w : World) (n : Nat) (f : Value) (ds : List D) (d : D) : Prop where
  run : ∀ (A : Around) (base : Heap) (S : Addr → Prop) (s : Shared) (vals : List Value), RoomA n A → Wd K base S s.heap → RepAll prog w S s.heap vals ds →
    wpAny (model prog w) A (call f vals) (fun v s' => Kp s s' ∧ Rep prog w S s'.heap v d) (fun _ _ => False) s

/-- what a call may be made of -/
noncomputable def Callable (K : Frag) (f : Value) : Prop := match f with
  | .builtin _ => True
  | .type _ => True
  | .ref a => keepIn K (.ref a) = true
  | _ => False

theorem RoomA.deeper {n : Nat} {A : Around} (r : RoomA (n + 1) A) (env : Env) : RoomA n (A.deeper env) := ⟨r.1, by have := r.2.1; simp only [Around.deeper]; omega, by have := r.2.2; simp only [Around.deeper]; omega⟩

theorem keeper_of {M : Model} {K : Frag} {f : Value} (c : Callable K f) (h : Heap) (X : K.In h) : ∃ k, (k = Keeper.frame ∨ k = Keeper.machine ∨ k = Keeper.boundFrame) ∧ Looks M h (keeperOf f) k := by
  cases f with
  | builtin id => exact ⟨.machine, .inr (.inl rfl), .of_pure rfl⟩
  | type T => exact ⟨.machine, .inr (.inl rfl), .of_pure rfl⟩
  | ref a => exact keeps_K c h X
  | _ => exact c.elim

section
variable {Γ : Ctx} {s : Shared}

theorem backTo_plain : ∀ (p : Pos) (l : List (Bool × Sem Value)), (backTo p l).any (·.1) = l.any (·.1) := by
  intro p l
  induction l with
  | nil => rfl
  | cons x l ih =>
    obtain ⟨b, t⟩ := x
    show (b || (backTo p l).any (·.1)) = (b || l.any (·.1))
    rw [ih]

theorem evalArgs_any {M : Model} {A : Around} {E : Value → Shared → Prop} {f : Value} {args : List (Bool × Sem Value)} {Q : Args → Shared → Prop} (hp : args.any (·.1) = false)
    (h : wpAny M A (spliced args) (fun vs s' => Q ⟨vs, []⟩ s') E s) : wpAny M A (evalArgs f true args []) Q E s := by
  cases args with
  | nil =>
    unfold evalArgs
    show wpAny M A (spliced [] >>= _) Q E s
    refine wpAny_bind (wpAny_mono h (fun vs s' h' => ?_) fun _ _ x => x)
    exact wpAny_bind (wpAny_pure (wpAny_holding (wpAny_bind (wpAny_pure (wpAny_bind (wpAny_pure (wpAny_pure h')))))))
  | cons x r =>
    obtain ⟨b, t⟩ := x
    cases b with
    | true => simp at hp
    | false => exact Calls.evalArgs_plain h

theorem spliced_args {p q : Pos} {f : Value} {first : List Value} {es : List Expr} {ds : List D} {Q : Value → Shared → Prop} (C : Γ.At s.heap) (hc : Callable Γ.K f) (h : Evs Γ q es ds) (hp : (starEach es Γ.env).any (·.1) = false)
    (k : ∀ vs s₁, Kp s s₁ → Γ.Rs s₁.heap vs ds → wpAny (model Γ.prog Γ.w) Γ.A (call f (first ++ vs)) Q (fun _ _ => False) s₁) :
    wpAny (model Γ.prog Γ.w) Γ.A (callWith p f first (backTo q (starEach es Γ.env)) []) Q (fun _ _ => False) s :=
  callWith_of (P := fun h => Γ.K.In h) (by rw [backTo_plain, hp]; rfl) (fun h X => keeper_of hc h X)
    (evalArgs_any (by rw [backTo_plain, hp]) ((h.run s C).then' fun vs s₁ k₁ r₁ => ⟨(C.go k₁).wd.glh.inn, k vs s₁ k₁ r₁⟩))

/-- a call of a name's value with plain arguments -/
theorem ev_call {x : Str} {px p : Pos} {es : List Expr} {ds : List D} {f : Value} {d : D} (hf : Ev Γ (.Name x px) (.raw f)) (hc : Callable Γ.K f) (h : Evs Γ p es ds) (F : Fn Γ.K Γ.prog Γ.w Γ.n f ds d)
    (hp : List.all es plainE = true := by rfl) : Ev Γ (.Call (.Name x px) es [] p) d := .mk fun s C => by
  refine wpAny_Call_Name_kw ((hf.run s C).then' fun v s₁ k₁ r₁ => ?_)
  (first | obtain ⟨_, rfl⟩ := r₁.atom | exact (nsE r₁).elim | exact (snE r₁).elim | exact (ftE r₁).elim | cases r₁)
  show wpAny _ _ (callWith p f [] (backTo p (starEach es Γ.env)) []) _ _ _
  exact spliced_args (C.go k₁) hc h (any_plain hp) fun vs s₂ k₂ r₂ => by
    have C₂ := (C.go k₁).go k₂
    exact wpAny_mono (F.run Γ.A Γ.base Γ.S s₂ vs C₂.room C₂.wd r₂) (fun _ _ q => ⟨(k₁.trans k₂).trans q.1, q.2⟩) fun _ _ x => x
end

section
variable {K : Frag} {prog : Program} {w : World} {n : Nat}

inductive OneRep (prog : Program) (w : World) (S : Addr → Prop) (h : Heap) (vs : List Value) (d : D) : Prop
  | mk (v : Value) (e : vs = [v]) (r : Rep prog w S h v d) : OneRep prog w S h vs d
inductive TwoRep (prog : Program) (w : World) (S : Addr → Prop) (h : Heap) (vs : List Value) (d e : D) : Prop
  | mk (v u : Value) (z : vs = [v, u]) (r : Rep prog w S h v d) (q : Rep prog w S h u e) : TwoRep prog w S h vs d e
theorem RepAll.one {S : Addr → Prop} {h : Heap} {vs : List Value} {d : D} (r : RepAll prog w S h vs [d]) : OneRep prog w S h vs d := by
  cases r with
  | cons a r => (first | obtain ⟨_, rfl⟩ := r.atom | exact (nsE r).elim | exact (snE r).elim | exact (ftE r).elim | cases r); exact ⟨_, rfl, a⟩
theorem RepAll.two {S : Addr → Prop} {h : Heap} {vs : List Value} {d e : D} (r : RepAll prog w S h vs [d, e]) : TwoRep prog w S h vs d e := by
  cases r with
  | cons a r =>
    cases r with
    | cons b r => (first | obtain ⟨_, rfl⟩ := r.atom | exact (nsE r).elim | exact (snE r).elim | exact (ftE r).elim | cases r); exact ⟨_, _, rfl, a, b⟩

theorem fn_len_list {ds : List D} (hz : ds.length ≤ 16384) : Fn K prog w n (.builtin "len") [.list ds] (.int ds.length) := .mk fun A base S s vals hr hw r => by
  obtain ⟨v, rfl, r₁⟩ := r.one
  obtain ⟨l, vs, rfl, _, hl, rs⟩ := r₁.list_inv
  have e := rs.length
  exact kun_lenL hl.isList (k := (ds.length : Int)) (by simp [e]) (by omega) ⟨Kp.toks s _, .int _ _⟩
theorem items_of {vs : List Value} {ns : List Int} (hi : IntsAre vs ns) : ∃ xs : Array (Int × Tok), vs.toArray = intItems xs ∧ ns = xs.toList.map (·.1) := by
  obtain ⟨xs, e⟩ := hi.allInts.items
  exact ⟨xs, e, by rw [← hi.numsOf, ← nums_intItems, ← e]⟩

theorem fn_sum {ns : List Int} : Fn K prog w n (.builtin "sum") [.list (ns.map .int)] (.int ns.sum) := .mk fun A base S s vals hr hw r => by
  obtain ⟨v, rfl, r₁⟩ := r.one
  obtain ⟨l, vs, rfl, _, hl, rs⟩ := r₁.list_inv
  obtain ⟨xs, e, e2⟩ := items_of rs.ints
  rw [e] at hl
  refine sum_intListG hr.1 hl.isList fun h' tk t' hk => ⟨Kp.both s h' tk hk, ?_⟩
  rw [preSum_eq, List.take_of_length_le (by simp), ← e2]
  exact .int _ _
/-- the greatest, the least -/
noncomputable def IsMax (M : Int) (ns : List Int) : Prop := M ∈ ns ∧ ∀ a ∈ ns, a ≤ M
noncomputable def IsMin (M : Int) (ns : List Int) : Prop := M ∈ ns ∧ ∀ a ∈ ns, M ≤ a
theorem IsMax.uniq {M M' : Int} {ns : List Int} (a : IsMax M ns) (b : IsMax M' ns) : M = M' := Int.le_antisymm (b.2 _ a.1) (a.2 _ b.1)
theorem IsMin.uniq {M M' : Int} {ns : List Int} (a : IsMin M ns) (b : IsMin M' ns) : M = M' := Int.le_antisymm (a.2 _ b.1) (b.2 _ a.1)
theorem fn_max {ns : List Int} {M : Int} (hM : IsMax M ns) : Fn K prog w n (.builtin "max") [.list (ns.map .int)] (.int M) := .mk fun A base S s vals hr hw r => by
  obtain ⟨v, rfl, r₁⟩ := r.one
  obtain ⟨l, vs, rfl, _, hl, rs⟩ := r₁.list_inv
  obtain ⟨xs, e, e2⟩ := items_of rs.ints
  rw [e] at hl
  have hsz : 0 < xs.size := by
    have : 0 < ns.length := List.length_pos_of_mem hM.1
    rw [e2, List.length_map, Array.length_toList] at this; exact this
  refine max_intList hr.1 hl.isList hsz fun v h' tk hv hk => ⟨Kp.both s h' tk hk, ?_⟩
  obtain ⟨t, rfl⟩ := intItems_at hv
  obtain ⟨h1, h2⟩ := argBest_gt (numAt xs) (xs.size - 1)
  have : IsMax (numAt xs (argBest (fun i j => decide (numAt xs i > numAt xs j)) (xs.size - 1))) ns := by
    refine ⟨?_, fun a ha => ?_⟩
    · rw [e2, numAt_eq]; exact getD_mem (by rw [List.length_map, Array.length_toList]; omega)
    · rw [e2] at ha
      obtain ⟨j, hj, rfl⟩ := mem_getD ha
      rw [List.length_map, Array.length_toList] at hj
      rw [← numAt_eq]; exact h2 j (by omega)
  rw [this.uniq hM]; exact .int _ _
theorem fn_min {ns : List Int} {M : Int} (hM : IsMin M ns) : Fn K prog w n (.builtin "min") [.list (ns.map .int)] (.int M) := .mk fun A base S s vals hr hw r => by
  obtain ⟨v, rfl, r₁⟩ := r.one
  obtain ⟨l, vs, rfl, _, hl, rs⟩ := r₁.list_inv
  obtain ⟨xs, e, e2⟩ := items_of rs.ints
  rw [e] at hl
  have hsz : 0 < xs.size := by
    have : 0 < ns.length := List.length_pos_of_mem hM.1
    rw [e2, List.length_map, Array.length_toList] at this; exact this
  refine min_intList hr.1 hl.isList hsz fun v h' tk hv hk => ⟨Kp.both s h' tk hk, ?_⟩
  obtain ⟨t, rfl⟩ := intItems_at hv
  obtain ⟨h1, h2⟩ := argBest_lt (numAt xs) (xs.size - 1)
  have : IsMin (numAt xs (argBest (fun i j => decide (numAt xs i < numAt xs j)) (xs.size - 1))) ns := by
    refine ⟨?_, fun a ha => ?_⟩
    · rw [e2, numAt_eq]; exact getD_mem (by rw [List.length_map, Array.length_toList]; omega)
    · rw [e2] at ha
      obtain ⟨j, hj, rfl⟩ := mem_getD ha
      rw [List.length_map, Array.length_toList] at hj
      rw [← numAt_eq]; exact h2 j (by omega)
  rw [this.uniq hM]; exact .int _ _
theorem fn_abs {i : Int} : Fn K prog w n (.builtin "abs") [.int i] (.int (if i < 0 then -i else i)) := .mk fun A base S s vals hr hw r => by
  obtain ⟨v, rfl, r₁⟩ := r.one
  (first | obtain ⟨_, rfl⟩ := r₁.atom | exact (nsE r₁).elim | exact (snE r₁).elim | exact (ftE r₁).elim | cases r₁)
  exact call_abs_int fun u tk => ⟨Kp.toks s _, .int _ _⟩
theorem fn_isi_int_bool {i : Int} : Fn K prog w n (.builtin "isinstance") [.int i, .raw (.type "bool")] (.bool false) := .mk fun A base S s vals hr hw r => by
  obtain ⟨v, u, rfl, r₁, q⟩ := r.two
  (first | obtain ⟨_, rfl⟩ := r₁.atom | exact (nsE r₁).elim | exact (snE r₁).elim | exact (ftE r₁).elim | cases r₁); (first | obtain ⟨_, rfl⟩ := q.atom | exact (nsE q).elim | exact (snE q).elim | exact (ftE q).elim | cases q)
  exact IsiPair.int_bool ⟨Kp.toks s _, .bool _⟩
theorem fn_isi_int_int {i : Int} : Fn K prog w n (.builtin "isinstance") [.int i, .raw (.type "int")] (.bool true) := .mk fun A base S s vals hr hw r => by
  obtain ⟨v, u, rfl, r₁, q⟩ := r.two
  (first | obtain ⟨_, rfl⟩ := r₁.atom | exact (nsE r₁).elim | exact (snE r₁).elim | exact (ftE r₁).elim | cases r₁); (first | obtain ⟨_, rfl⟩ := q.atom | exact (nsE q).elim | exact (snE q).elim | exact (ftE q).elim | cases q)
  exact IsiPair.int_int ⟨Kp.refl s, .bool _⟩
theorem fn_isi_int_tuple {i : Int} : Fn K prog w n (.builtin "isinstance") [.int i, .raw (.type "tuple")] (.bool false) := .mk fun A base S s vals hr hw r => by
  obtain ⟨v, u, rfl, r₁, q⟩ := r.two
  (first | obtain ⟨_, rfl⟩ := r₁.atom | exact (nsE r₁).elim | exact (snE r₁).elim | exact (ftE r₁).elim | cases r₁); (first | obtain ⟨_, rfl⟩ := q.atom | exact (nsE q).elim | exact (snE q).elim | exact (ftE q).elim | cases q)
  exact IsiPair.int_tuple ⟨Kp.toks s _, .bool _⟩
theorem fn_isi_list_list {ds : List D} : Fn K prog w n (.builtin "isinstance") [.list ds, .raw (.type "list")] (.bool true) := .mk fun A base S s vals hr hw r => by
  obtain ⟨v, u, rfl, r₁, q⟩ := r.two
  (first | obtain ⟨_, rfl⟩ := q.atom | exact (nsE q).elim | exact (snE q).elim | exact (ftE q).elim | cases q)
  obtain ⟨l, vs, rfl, _, ⟨c, hl⟩, rs⟩ := r₁.list_inv
  exact IsiPair.list_list hl rfl ⟨Kp.refl s, .bool _⟩
theorem fn_sorted_list {ns : List Int} {out : List Int} (h64 : ns.length < 64) (ho : ∀ ns', ns'.Perm ns → ns'.Pairwise (· ≤ ·) → ns' = out) : Fn K prog w n (.builtin "sorted") [.list (ns.map .int)] (.list (out.map .int)) := .mk fun A base S s vals hr hw r => by
  obtain ⟨v, rfl, r₁⟩ := r.one
  obtain ⟨l, vs, rfl, _, hl, rs⟩ := r₁.list_inv
  have e := rs.length
  rw [List.length_map] at e
  refine sorted_ints hl.isList rs.ints (by omega) fun o ns' hi hp hq => ⟨Kp.heap s _ fun _ _ q => sortedAll_old q, ?_⟩
  obtain ⟨c, he⟩ := sortedAll_at s.heap vs o
  subst_vars
  have := ho ns' hp hq
  subst this
  exact .list (not_held hw.held (get_size _ (Nat.le_succ _))) ⟨c, by simpa using he⟩ (.of_ints hi)
end
-- part T1
/-- what a turn of a comprehension does behind the item: bind, test, go on -/
noncomputable def tests (ifs : List Expr) (env : Env) : Sem Bool :=
  forIn ifs true fun c r => if r = true then do let ok ← isTrue c env (eval c env); pure (ForInStep.yield ok) else pure (ForInStep.yield r)
noncomputable def turnBody (target : Expr) (ifs : List Expr) (env : Env) (kt fin : Sem Fin) (v : Value) : Sem Fin :=
  assign target env v >>= fun _ => tests ifs env >>= fun ok => if ok = true then kt else fin
noncomputable def turnAt (ip : Pos) (target : Expr) (ifs : List Expr) (env : Env) (kt fin : Sem Fin) (it : Value) : Sem Fin :=
  standAt ip >>= fun _ => pyNext it >>= fun r => match r with
      | none => pure (.done .next)
      | some v => letOwnedTupleGo target it v >>= fun _ => turnBody target ifs env kt fin v
noncomputable def emitL (elt : Expr) (acc : Value) (env : Env) : Sem Unit := do
  let x ← eval elt env
  let _ ← call (.builtin "list.append") [acc, x]
  pure ()
noncomputable def emitD (kx vx : Expr) (D : Addr) (env : Env) : Sem Unit := do
  let kv ← eval kx env
  let vv ← holding [kv] (eval vx env)
  standAt { kx.pos with endLine := vx.pos.endLine, endCol := vx.pos.endCol }
  holding [kv, vv] (dictSet D kv vv)
noncomputable def goIn (e : Expr) (depth : Nat) (iter : Expr) (acc : Value) (env : Env) (fin : Sem Fin) : Sem Fin := do
  let x ← eval iter env
  standAt iter.pos
  let x ← foldedSetIterable iter env x
  let it ← holding [x] (pyIter x)
  let _ ← runOwn (.compStart e depth it acc env) env
  fin

theorem turn_list1 (elt target iter : Expr) (ifs : List Expr) (scope : Scope) (pos : Pos) (it acc : Value) (env : Env) :
    compTurn (.ListComp elt [⟨target, iter, ifs, 0⟩] scope pos) 0 it acc env =
      turnAt iter.pos target ifs env (emitL elt acc env >>= fun _ => again (.compLoop (.ListComp elt [⟨target, iter, ifs, 0⟩] scope pos) 0 it acc env)) (again (.compLoop (.ListComp elt [⟨target, iter, ifs, 0⟩] scope pos) 0 it acc env)) it := by rfl
theorem turn_list2a (elt target iter target2 iter2 : Expr) (ifs ifs2 : List Expr) (scope : Scope) (pos : Pos) (it acc : Value) (env : Env) :
    compTurn (.ListComp elt [⟨target, iter, ifs, 0⟩, ⟨target2, iter2, ifs2, 0⟩] scope pos) 0 it acc env =
      turnAt iter.pos target ifs env (goIn (.ListComp elt [⟨target, iter, ifs, 0⟩, ⟨target2, iter2, ifs2, 0⟩] scope pos) 1 iter2 acc env (again (.compLoop (.ListComp elt [⟨target, iter, ifs, 0⟩, ⟨target2, iter2, ifs2, 0⟩] scope pos) 0 it acc env)))
        (again (.compLoop (.ListComp elt [⟨target, iter, ifs, 0⟩, ⟨target2, iter2, ifs2, 0⟩] scope pos) 0 it acc env)) it := by rfl
theorem turn_list2b (elt target iter target2 iter2 : Expr) (ifs ifs2 : List Expr) (scope : Scope) (pos : Pos) (it acc : Value) (env : Env) :
    compTurn (.ListComp elt [⟨target, iter, ifs, 0⟩, ⟨target2, iter2, ifs2, 0⟩] scope pos) 1 it acc env =
      turnAt iter2.pos target2 ifs2 env (emitL elt acc env >>= fun _ => again (.compLoop (.ListComp elt [⟨target, iter, ifs, 0⟩, ⟨target2, iter2, ifs2, 0⟩] scope pos) 1 it acc env))
        (again (.compLoop (.ListComp elt [⟨target, iter, ifs, 0⟩, ⟨target2, iter2, ifs2, 0⟩] scope pos) 1 it acc env)) it := by rfl
theorem turn_dict1 (kx vx target iter : Expr) (ifs : List Expr) (scope : Scope) (pos : Pos) (it : Value) (D : Addr) (env : Env) :
    compTurn (.DictComp kx vx [⟨target, iter, ifs, 0⟩] scope pos) 0 it (.ref D) env =
      turnAt iter.pos target ifs env (emitD kx vx D env >>= fun _ => again (.compLoop (.DictComp kx vx [⟨target, iter, ifs, 0⟩] scope pos) 0 it (.ref D) env)) (again (.compLoop (.DictComp kx vx [⟨target, iter, ifs, 0⟩] scope pos) 0 it (.ref D) env)) it := by rfl
-- part PL5
theorem ns_uniq {h : Heap} {a : Addr} {m m' : Str → Option Value} (x : h.Ns a m) (y : h.Ns a m') : ∀ n, m n = m' n := fun n => by
  obtain ⟨o, es, ep, ho, hd, _, hm⟩ := x
  obtain ⟨o', es', ep', ho', hd', _, hm'⟩ := y
  rw [ho] at ho'; (first | obtain ⟨_, rfl⟩ := ho'.atom | exact (nsE ho').elim | exact (snE ho').elim | exact (ftE ho').elim | cases ho')
  rw [hd] at hd'; (first | obtain ⟨_, rfl⟩ := hd'.atom | exact (nsE hd').elim | exact (snE hd').elim | exact (ftE hd').elim | cases hd')
  rw [← hm, ← hm']

noncomputable def Ctx.set (Γ : Ctx) (x : Str) (d : D) : Ctx := { Γ with ρ := fun y => if y = x then some d else Γ.ρ y }
noncomputable def Ctx.setAll (Γ : Ctx) : List (Str × D) → Ctx
  | [] => Γ
  | (x, d) :: r => (Γ.set x d).setAll r

/-- the name may be stored to -/
noncomputable def Slot (Γ : Ctx) (h : Heap) (x : Str) : Prop :=
  (Γ.env.kindOf x = some .local ∧ (∃ m, h.Ns Γ.env.locals m) ∧ Γ.S Γ.env.locals) ∨
  (Γ.env.kindOf x = some .cell ∧ ∃ c v, Γ.env.cells.lookup x = some c ∧ h.IsCell c v ∧ Γ.S c)

/-- the names tg at the most have been stored to -/
structure Wr (Γ : Ctx) (tg : List Str) (s s' : Shared) : Prop where
  same : Sm s s'
  off : ∀ b o, b ≠ Γ.env.locals → (∀ x ∈ tg, Γ.env.cells.lookup x ≠ some b) → s.heap.get? b = some o → s'.heap.get? b = some o
  slot : ∀ y, Slot Γ s.heap y → Slot Γ s'.heap y
  ext : Ext Γ.S s.heap s'.heap
  ns : (∃ m, s.heap.Ns Γ.env.locals m) → ∃ m, s'.heap.Ns Γ.env.locals m

theorem Wr.of_kp {Γ : Ctx} {tg : List Str} {s s' : Shared} (k : Kp s s') : Wr Γ tg s s' :=
  ⟨k.1, fun b o _ _ e => k.k b o e, fun y q => by
    rcases q with ⟨a, ⟨m, hm⟩, c⟩ | ⟨a, c, v, e, hc, d⟩
    · exact .inl ⟨a, ⟨m, hm.keeps k.k⟩, c⟩
    · exact .inr ⟨a, c, v, e, hc.keeps k.k, d⟩, Ext.of_keep k.k, fun ⟨m, q⟩ => ⟨m, q.keeps k.k⟩⟩
theorem Wr.trans {Γ : Ctx} {tg : List Str} {a b c : Shared} (x : Wr Γ tg a b) (y : Wr Γ tg b c) : Wr Γ tg a c :=
  ⟨x.same.trans y.same, fun b o h1 h2 e => y.off b o h1 h2 (x.off b o h1 h2 e), fun z q => y.slot z (x.slot z q), x.ext.trans y.ext, fun q => y.ns (x.ns q)⟩
theorem Wr.more {Γ : Ctx} {tg tg' : List Str} {a b : Shared} (x : Wr Γ tg a b) (l : ∀ y ∈ tg, y ∈ tg') : Wr Γ tg' a b := ⟨x.same, fun b o h1 h2 e => x.off b o h1 (fun y hy => h2 y (l y hy)) e, x.slot, x.ext, x.ns⟩

section
variable {Γ : Ctx} {s : Shared} {M : Model} {E : Value → Shared → Prop}

theorem store_rule {A : Around} {x : Str} {v : Value} {d : D} {Q : Unit → Shared → Prop} (C : Γ.At s.heap) (sl : Slot Γ s.heap x) (r : Γ.R s.heap v d)
    (k : ∀ s', Wr Γ [x] s s' → (Γ.set x d).At s'.heap → Q () s') : wpAny M A (storeName Γ.env x v) Q E s := by
  rcases sl with ⟨hk, ⟨m, hm⟩, hS⟩ | ⟨hk, c, v₀, hl, hc, hS⟩
  · refine wpAny_storeName_local hk hm (fun h' hn hs => k _ ⟨⟨rfl, rfl⟩, fun b o h1 _ e => hs.extBut b o h1 e, fun y q => ?_, Ext.sameBut hs hS, fun _ => ⟨_, hn⟩⟩ ?_) (by rw [C.kind]; rfl)
    · rcases q with ⟨a, _, c⟩ | ⟨a, c, v, e, hc, d⟩
      · exact .inl ⟨a, ⟨_, hn⟩, c⟩
      · exact .inr ⟨a, c, v, e, hc.sameBut hs (C.sep.2 y c e), d⟩
    · have he : Ext Γ.S s.heap h' := Ext.sameBut hs hS
      have hL : (h'.get? Γ.env.locals).isSome = true := let ⟨o, _, _, ho, _⟩ := hn; by rw [ho]; rfl
      refine ⟨C.wd.ext he fun a ha => ?_, C.kind, C.globals, C.builtins, C.room, C.sep, fun y c' e => ?_, fun y e q => ?_⟩
      · by_cases ea : a = Γ.env.locals
        · rw [ea]; exact hL
        · rw [hs.2 a ea]; exact C.wd.held a ha
      · have := C.cin y c' e; rw [hs.2 c' (C.sep.2 y c' e)]; exact this
      · show ∃ v, Has h' Γ.env y v ∧ Rep Γ.prog Γ.w Γ.S h' v e
        have q' : (if y = x then some d else Γ.ρ y) = some e := q
        by_cases hy : y = x
        · rw [if_pos hy] at q'; (first | obtain ⟨_, rfl⟩ := q'.atom | exact (nsE q').elim | exact (snE q').elim | exact (ftE q').elim | cases q')
          subst hy
          exact ⟨v, .inl ⟨hk, _, hn, by simp⟩, r.ext he⟩
        · rw [if_neg hy] at q'
          obtain ⟨v', hv', rv⟩ := C.vars y e q'
          refine ⟨v', ?_, rv.ext he⟩
          rcases hv' with ⟨a, m', n, em⟩ | ⟨a, c, l, n⟩
          · exact .inl ⟨a, _, hn, by simp only [hy, if_false]; rw [ns_uniq hm n y]; exact em⟩
          · exact .inr ⟨a, c, l, n.sameBut hs (C.sep.2 y c l)⟩
  · have hcl : c ≠ Γ.env.locals := C.sep.2 x c hl
    refine wpAny_storeName_cell C.kind hk hl hc fun h' hn hs => k _ ⟨⟨rfl, rfl⟩, fun b o _ h2 e => hs.extBut b o (fun q => h2 x (.head _) (q ▸ hl)) e, fun y q => ?_, Ext.sameBut hs hS, fun ⟨m, q⟩ => ⟨m, q.sameBut hs (Ne.symm hcl)⟩⟩ ?_
    · rcases q with ⟨a, ⟨m, hm⟩, c'⟩ | ⟨a, c', v', e, hc', d'⟩
      · exact .inl ⟨a, ⟨m, hm.sameBut hs (Ne.symm hcl)⟩, c'⟩
      · by_cases ec : c' = c
        · subst ec; exact .inr ⟨a, c', _, e, hn, d'⟩
        · exact .inr ⟨a, c', v', e, hc'.sameBut hs ec, d'⟩
    · have he : Ext Γ.S s.heap h' := Ext.sameBut hs hS
      have hL : (h'.get? c).isSome = true := let ⟨o, ho, _⟩ := hn; by rw [ho]; rfl
      refine ⟨C.wd.ext he fun a ha => ?_, C.kind, C.globals, C.builtins, C.room, C.sep, fun y c' e => ?_, fun y e q => ?_⟩
      · by_cases ea : a = c
        · rw [ea]; exact hL
        · rw [hs.2 a ea]; exact C.wd.held a ha
      · by_cases ec : c' = c
        · rw [ec]; exact hL
        · rw [hs.2 c' ec]; exact C.cin y c' e
      · show ∃ v, Has h' Γ.env y v ∧ Rep Γ.prog Γ.w Γ.S h' v e
        have q' : (if y = x then some d else Γ.ρ y) = some e := q
        by_cases hy : y = x
        · rw [if_pos hy] at q'; (first | obtain ⟨_, rfl⟩ := q'.atom | exact (nsE q').elim | exact (snE q').elim | exact (ftE q').elim | cases q')
          subst hy
          exact ⟨v, .inr ⟨.inl hk, c, hl, hn⟩, r.ext he⟩
        · rw [if_neg hy] at q'
          obtain ⟨v', hv', rv⟩ := C.vars y e q'
          refine ⟨v', ?_, rv.ext he⟩
          rcases hv' with ⟨a, m', n, em⟩ | ⟨a, c', l, n⟩
          · exact .inl ⟨a, m', n.sameBut hs (Ne.symm hcl), em⟩
          · exact .inr ⟨a, c', l, n.sameBut hs fun q => hy (C.sep.1 y x c (q ▸ l) hl)⟩
end

/-- what the names of a target are bound to -/
inductive Bnd : Expr → D → List (Str × D) → Prop
  | name {x : Str} {p : Pos} {d : D} : Bnd (.Name x p) d [(x, d)]
  | tuple {k : Nat} {p : Pos} {bs : List ((Str × Pos) × D)} : Bnd (.Tuple (bs.map fun b => .Name b.1.1 b.1.2) k p) (.tuple (bs.map (·.2))) (bs.map fun b => (b.1.1, b.2))

structure SameEnv (Γ' Γ : Ctx) : Prop where
  e1 : Γ'.env = Γ.env
  e2 : Γ'.S = Γ.S
  e3 : Γ'.prog = Γ.prog
  e4 : Γ'.w = Γ.w
  e5 : Γ'.A = Γ.A
  e6 : Γ'.K = Γ.K
  e7 : Γ'.n = Γ.n
  e8 : Γ'.base = Γ.base
theorem setAll_env : ∀ (bs : List (Str × D)) (Γ : Ctx), SameEnv (Γ.setAll bs) Γ
  | [], Γ => ⟨rfl, rfl, rfl, rfl, rfl, rfl, rfl, rfl⟩
  | (x, d) :: r, Γ => let y := setAll_env r (Γ.set x d); ⟨y.e1, y.e2, y.e3, y.e4, y.e5, y.e6, y.e7, y.e8⟩

theorem wr_set {Γ : Ctx} {x : Str} {d : D} {tg : List Str} {a b : Shared} (q : Wr (Γ.set x d) tg a b) : Wr Γ tg a b := ⟨q.same, q.off, q.slot, q.ext, q.ns⟩

section
variable {M : Model} {E : Value → Shared → Prop}
noncomputable def bindTo (env : Env) (b : (Str × Pos) × D) (v : Value) : Sem Unit := do standAt b.1.2; bindName env b.1.1 v
theorem assignEach_names : ∀ (bs : List ((Str × Pos) × D)) (env : Env), assignEach (bs.map fun b => Expr.Name b.1.1 b.1.2) env = bs.map fun b => (false, bindTo env b)
  | [], _ => rfl
  | b :: r, env => by
    show (false, assign (.Name b.1.1 b.1.2) env) :: assignEach (r.map fun b => Expr.Name b.1.1 b.1.2) env = _
    rw [assignEach_names r env]; rfl

theorem inOrder {prog : Program} {w : World} {A : Around} : ∀ (bs : List ((Str × Pos) × D)) (vs : List Value) {Γ : Ctx} {s : Shared} {Q : Unit → Shared → Prop}, Γ.prog = prog → Γ.w = w → Γ.At s.heap → (∀ b ∈ bs, Slot Γ s.heap b.1.1) → Γ.Rs s.heap vs (bs.map (·.2)) →
    (∀ s', Wr Γ (bs.map (·.1.1)) s s' → (Γ.setAll (bs.map fun b => (b.1.1, b.2))).At s'.heap → Q () s') →
    wpAny M A (assignInOrder (bs.map (bindTo Γ.env)) vs) Q E s
  | [], vs, Γ, s, Q, _, _, C, _, r, k => by
    (first | obtain ⟨_, rfl⟩ := r.atom | exact (nsE r).elim | exact (snE r).elim | exact (ftE r).elim | cases r)
    exact wpAny_pure (k s (Wr.of_kp (Kp.refl s)) C)
  | b :: bs, vs, Γ, s, Q, hp, hw, C, sl, r, k => by
    cases r with
    | cons a r =>
      rename_i v vs
      refine wpAny_bind (wpAny_holding (wpAny_bind (wpAny_standAt (wpAny_bindName (store_rule C (sl b (.head _)) a fun s₁ W C₁ => ?_)))))
      refine inOrder bs vs (Γ := Γ.set b.1.1 b.2) hp hw C₁ (fun x hx => W.slot _ (sl x (.tail _ hx))) (r.ext W.ext) fun s₂ W₂ C₂ => ?_
      exact k s₂ ((W.more (by simp)).trans ((wr_set W₂).more fun y hy => List.mem_cons_of_mem _ hy)) C₂

theorem assign_rule {prog : Program} {w : World} {A : Around} {Γ : Ctx} {s : Shared} {target : Expr} {v : Value} {d : D} {bs : List (Str × D)} {Q : Unit → Shared → Prop} (hh : A.handled = none) (C : Γ.At s.heap) (b : Bnd target d bs) (sl : ∀ x ∈ bs, Slot Γ s.heap x.1)
    (r : Γ.R s.heap v d) (k : ∀ s', Wr Γ (bs.map (·.1)) s s' → (Γ.setAll bs).At s'.heap → Q () s') : wpAny (model prog w) A (assign target Γ.env v) Q E s := by
  cases b with
  | name => exact wpAny_assign_Name (store_rule C (sl _ (.head _)) r fun s' W C' => k s' W C')
  | tuple =>
    rename_i kk p bs
    obtain ⟨a, vs, n, rfl, _, hl, rs⟩ := r.tuple_inv
    have e := rs.length
    refine wpAny_assign_Tuple hh (items := vs.toArray) ⟨_, hl, rfl, n, rfl⟩ (by rw [assignEach_names]; simpa using e.symm) (by rw [assignEach_names]; simp [List.findIdx?_eq_none_iff]) fun h' he => ?_
    have kp : Kp s { s with heap := h' } := Kp.heap s h' fun p o q => he p o (Nat.ne_of_lt (Heap.lt_size q)) q
    rw [assignEach_names]
    have em : (List.map (fun b : (Str × Pos) × D => ((false : Bool), bindTo Γ.env b)) bs).map (·.2) = bs.map (bindTo Γ.env) := by
      rw [List.map_map]; rfl
    rw [em]
    refine inOrder (prog := Γ.prog) (w := Γ.w) (A := A) bs vs rfl rfl (C.go kp) (fun x hx => (Wr.of_kp (tg := []) kp).slot _ (sl (x.1.1, x.2) (List.mem_map_of_mem hx))) (rs.keep kp.k) fun s₂ W₂ C₂ => ?_
    refine k s₂ (((Wr.of_kp kp).trans W₂).more ?_) C₂
    simp
end
-- part PL6
/-- an iterator over data: what the next item is, what it touches -/
structure It0 (prog : Program) (w : World) (A : Around) (S : Addr → Prop) (h₀ : Heap) (I : Addr) (fp wr : List Addr) (ds : List D) (St : Nat → Heap → Prop) : Prop where
  sub : ∀ b ∈ wr, b ∈ fp
  live : ∀ i h, St i h → ∀ b ∈ wr, (h.get? b).isSome = true
  frame : ∀ i h h', St i h → (∀ b ∈ fp, ∀ o, h.get? b = some o → h'.get? b = some o) → St i h'
  item : ∀ i d (s : Shared) (Q : Option Value → Shared → Prop) (E : Value → Shared → Prop), ds[i]? = some d → St i s.heap →
    (∀ v h' tk, Rep prog w S h₀ v d → St (i + 1) h' → (∀ b o, b ∉ wr → s.heap.get? b = some o → h'.get? b = some o) → Q (some v) { s with heap := h', toks := tk }) → wpAny (model prog w) A (pyNext (.ref I)) Q E s
  done : ∀ (s : Shared) (Q : Option Value → Shared → Prop) (E : Value → Shared → Prop), St ds.length s.heap →
    (∀ h' tk, (∀ b o, b ∉ wr → s.heap.get? b = some o → h'.get? b = some o) → Q none { s with heap := h', toks := tk }) → wpAny (model prog w) A (pyNext (.ref I)) Q E s
  self : ∀ i (s : Shared) (Q : Value → Shared → Prop) (E : Value → Shared → Prop), St i s.heap → Q (.ref I) s → wpAny (model prog w) A (pyIter (.ref I)) Q E s
  go : ∀ i target d bs v (s : Shared) (Q : Unit → Shared → Prop) (E : Value → Shared → Prop), Bnd target d bs → Rep prog w S h₀ v d → St i s.heap → Q () s → wpAny (model prog w) A (letOwnedTupleGo target (.ref I) v) Q E s

/-- an iterator, item and the place for it together -/
structure It (nt : Bool) (prog : Program) (w : World) (A : Around) (S : Addr → Prop) (h₀ : Heap) (I : Addr) (fp wr : List Addr) (ds : List D) (St : Nat → Heap → Prop) : Prop where
  sub : ∀ b ∈ wr, b ∈ fp
  live : ∀ i h, St i h → ∀ b ∈ wr, (h.get? b).isSome = true
  frame : ∀ i h h', St i h → (∀ b ∈ fp, ∀ o, h.get? b = some o → h'.get? b = some o) → St i h'
  done : ∀ (s : Shared) (Q : Option Value → Shared → Prop) (E : Value → Shared → Prop), St ds.length s.heap →
    (∀ h' tk, (∀ b o, b ∉ wr → s.heap.get? b = some o → h'.get? b = some o) → Q none { s with heap := h', toks := tk }) → wpAny (model prog w) A (pyNext (.ref I)) Q E s
  self : ∀ i (s : Shared) (Q : Value → Shared → Prop) (E : Value → Shared → Prop), St i s.heap → Q (.ref I) s → wpAny (model prog w) A (pyIter (.ref I)) Q E s
  step : ∀ i d target bs (s : Shared) (Q : Value → Shared → Prop), (nt = true → ∃ es k p, target = .Tuple es k p) → Bnd target d bs → ds[i]? = some d → St i s.heap →
    (∀ v h' tk, (∀ S' : Addr → Prop, (∀ b, S' b → S b ∨ h₀.get? b = none) → (∀ b, S' b → (s.heap.get? b).isSome = true) → Ext S h₀ h' → Rep prog w S' h' v d) → St (i + 1) h' →
      (∀ b o, b ∉ wr → s.heap.get? b = some o → h'.get? b = some o) → Q v { s with heap := h', toks := tk }) →
    wpAny (model prog w) A (pyNext (.ref I)) (fun r s₁ => ∃ v, r = some v ∧ wpAny (model prog w) A (letOwnedTupleGo target (.ref I) v) (fun _ s₂ => Q v s₂) (fun _ _ => False) s₁) (fun _ _ => False) s
theorem It0.it {prog : Program} {w : World} {A : Around} {S : Addr → Prop} {h₀ : Heap} {I : Addr} {fp wr : List Addr} {ds : List D} {St : Nat → Heap → Prop} (T : It0 prog w A S h₀ I fp wr ds St) : It false prog w A S h₀ I fp wr ds St :=
  ⟨T.sub, T.live, T.frame, T.done, T.self, fun i d target bs s Q _ b hd st k => T.item i d s _ _ hd st fun v h' tk hv st' hk => ⟨v, rfl, T.go (i + 1) target d bs v _ _ _ b hv st' (k v h' tk (fun S' x _ e =>
    hv.move fun b o hb e' => ⟨e b o hb e', fun q => (x b q).elim hb fun n => by rw [n] at e'; (first | obtain ⟨_, rfl⟩ := e'.atom | exact (nsE e').elim | exact (snE e').elim | exact (ftE e').elim | cases e')⟩) st' hk)⟩⟩

theorem It.next {prog : Program} {w : World} {A : Around} {S : Addr → Prop} {h₀ : Heap} {I : Addr} {fp wr : List Addr} {ds : List D} {St : Nat → Heap → Prop} (T : It false prog w A S h₀ I fp wr ds St) {β : Type} {kont : Option Value → Sem β} {f : Value → Sem β}
    {i : Nat} {d : D} {target : Expr} {bs : List (Str × D)} {s : Shared} {Q : β → Shared → Prop} {E : Value → Shared → Prop} (hk : ∀ v, kont (some v) = (letOwnedTupleGo target (.ref I) v >>= fun _ => f v)) (b : Bnd target d bs) (hd : ds[i]? = some d) (st : St i s.heap)
    (k : ∀ v h' tk, (∀ S' : Addr → Prop, (∀ b, S' b → S b ∨ h₀.get? b = none) → (∀ b, S' b → (s.heap.get? b).isSome = true) → Ext S h₀ h' → Rep prog w S' h' v d) → St (i + 1) h' →
      (∀ b o, b ∉ wr → s.heap.get? b = some o → h'.get? b = some o) → wpAny (model prog w) A (f v) Q E { s with heap := h', toks := tk }) :
    wpAny (model prog w) A (pyNext (.ref I)) (fun r s₁ => wpAny (model prog w) A (kont r) Q E s₁) E s :=
  wpAny_mono (T.step i d target bs s (fun v s' => wpAny (model prog w) A (f v) Q E s') (fun e => nomatch e) b hd st k) (fun r s₁ h₁ => by
    obtain ⟨v, rfl, h₁⟩ := h₁
    rw [hk]
    exact wpAny_bind (wpAny_mono h₁ (fun _ _ q => q) fun _ _ x => x.elim)) fun _ _ x => x.elim

/-- what iterating over it hands on -/
noncomputable def IterableN (nt : Bool) (d : D) (ds : List D) : Prop := ∀ (prog : Program) (w : World) (A : Around) (S : Addr → Prop) (s : Shared) (v : Value) (Q : Value → Shared → Prop) (E : Value → Shared → Prop), A.handled = none → Rep prog w S s.heap v d →
  (∀ I fp wr St s₂, Kp s s₂ → It nt prog w A S s.heap I fp wr ds St → St 0 s₂.heap → (∀ b ∈ fp, b < s₂.heap.objs.size) → (∀ b ∈ wr, s.heap.get? b = none) → (∀ b ∈ fp, b ∈ wr ∨ ((s.heap.get? b).isSome = true ∧ ¬ S b)) → Q (.ref I) s₂) → wpAny (model prog w) A (pyIter v) Q E s

noncomputable abbrev Iterable (d : D) (ds : List D) : Prop := IterableN false d ds

theorem bnd_target {target : Expr} {d : D} {bs : List (Str × D)} (b : Bnd target d bs) : (∃ x p, target = .Name x p) ∨ ∃ es k p, target = .Tuple es k p := by
  cases b with
  | name => exact .inl ⟨_, _, rfl⟩
  | tuple => exact .inr ⟨_, _, _, rfl⟩

theorem iterable_list {ds : List D} : Iterable (.list ds) ds := by
  intro prog w A S s v Q E hh r k
  obtain ⟨l, vs, rfl, hSl, hl, rs⟩ := r.list_inv
  have hlt : l < s.heap.objs.size := let ⟨_, e⟩ := hl; Heap.lt_size e
  have hne : l ≠ s.heap.objs.size := Nat.ne_of_lt hlt
  have en := rs.length
  refine wpAny_pyIter_list hl.isList (k s.heap.objs.size [s.heap.objs.size, l] [s.heap.objs.size] (fun i h => h.IsListIter s.heap.objs.size l i ∧ h.IsList l vs.toArray) _ (Kp.push s _) ?_ ⟨⟨_, Heap.get?_push_size _ rfl, rfl, rfl⟩, hl.isList.push _⟩ ?_ ?_ ?_)
  · have W := Walks.list (prog := prog) (w := w) (A := A) hh s.heap.objs.size l hne vs.toArray
    have en' : vs.toArray.size = ds.length := by simpa using en
    refine It0.it ⟨W.sub, fun i h st b hb => ?_, W.frame, fun i d s' Q' E' hd st k' => ?_, fun s' Q' E' st k' => W.done s' Q' E' (en' ▸ st) k', W.self, fun i target d bs v s' Q' E' b rv st q => ?_⟩
    · simp at hb; subst hb; obtain ⟨⟨o, ho, _⟩, _⟩ := st; rw [ho]; rfl
    · have hi : i < ds.length := by
        rcases Nat.lt_or_ge i ds.length with q | q
        · exact q
        · rw [List.getElem?_eq_none q] at hd; (first | obtain ⟨_, rfl⟩ := hd.atom | exact (nsE hd).elim | exact (snE hd).elim | exact (ftE hd).elim | cases hd)
      refine W.item i s' Q' E' (by omega) st fun v h' tk hv st' hk => k' v h' tk ?_ st' hk
      obtain ⟨d', e', rd⟩ := rs.get' (by simpa using hv)
      rw [e'] at hd; (first | obtain ⟨_, rfl⟩ := hd.atom | exact (nsE hd).elim | exact (snE hd).elim | exact (ftE hd).elim | cases hd); exact rd
    · rcases bnd_target b with ⟨x, p, rfl⟩ | ⟨es, k, p, rfl⟩
      · exact wpAny_pure q
      · cases v with
        | ref a => exact wpAny_letOwnedTupleGo_listiter st.1 q
        | _ => exact wpAny_pure q
  · intro b hb
    show b < (s.heap.push _).objs.size
    rw [Heap.size_push]
    rcases List.mem_cons.mp hb with rfl | hb
    · exact Nat.lt_succ_self _
    · rcases List.mem_cons.mp hb with rfl | hb
      · exact Nat.lt_succ_of_lt hlt
      · (first | obtain ⟨_, rfl⟩ := hb.atom | exact (nsE hb).elim | exact (snE hb).elim | exact (ftE hb).elim | cases hb)
  · intro b hb
    simp at hb; subst hb
    exact get_size _ (Nat.le_refl _)
  · intro b hb
    rcases List.mem_cons.mp hb with rfl | hb
    · exact .inl (.head _)
    · rcases List.mem_cons.mp hb with rfl | hb
      · exact .inr ⟨by obtain ⟨n, e⟩ := hl; rw [e]; rfl, hSl⟩
      · (first | obtain ⟨_, rfl⟩ := hb.atom | exact (nsE hb).elim | exact (snE hb).elim | exact (ftE hb).elim | cases hb)

noncomputable def rangeD (a : Int) (c : Int) (n : Nat) : List D := (List.range n).map fun (i : Nat) => D.int (a + (i : Int) * c)
theorem rangeD_length (a c : Int) (n : Nat) : (rangeD a c n).length = n := by simp [rangeD]
theorem iterable_range {a b c : Int} (hs : Builtin.Range.small a b c = true) (hn : 0 ≤ Builtin.Range.rangeSize a b c) : Iterable (.range a b c) (rangeD a c (Builtin.Range.rangeSize a b c).toNat) := by
  intro prog w A S s v Q E hh r k
  cases r with
  | range hS hr =>
    refine wpAny_pyIter_range hr hs (k s.heap.objs.size [s.heap.objs.size] [s.heap.objs.size] (fun i h => IsRangeIter h s.heap.objs.size (a + (i : Nat) * c) (((Builtin.Range.rangeSize a b c).toNat : Int) - (i : Nat)) c) _ (Kp.push s _) ?_ ?_ ?_ ?_ ?_)
    · have W := Walks.range (prog := prog) (w := w) (A := A) hh s.heap.objs.size a c (Builtin.Range.rangeSize a b c).toNat
      refine It0.it ⟨W.sub, fun i h st b hb => ?_, W.frame, fun i d s' Q' E' hd st k' => ?_, fun s' Q' E' st k' => W.done s' Q' E' (by rw [rangeD_length] at st; exact st) k', W.self, fun i target d bs v s' Q' E' b rv st q => ?_⟩
      · simp at hb; subst hb
        have st' : h.get? s.heap.objs.size = some _ := st
        rw [st']; rfl
      · have hi : i < (Builtin.Range.rangeSize a b c).toNat := by
          rcases Nat.lt_or_ge i (Builtin.Range.rangeSize a b c).toNat with q | q
          · exact q
          · rw [List.getElem?_eq_none (by rw [rangeD_length]; exact q)] at hd; (first | obtain ⟨_, rfl⟩ := hd.atom | exact (nsE hd).elim | exact (snE hd).elim | exact (ftE hd).elim | cases hd)
        refine W.item i s' Q' E' hi st fun v h' tk hv st' hk => k' v h' tk ?_ st' hk
        obtain ⟨t, rfl⟩ := hv
        have : d = .int (a + (i : Int) * c) := by simpa [rangeD, hi] using hd.symm
        rw [this]; exact .int _ _
      · rcases bnd_target b with ⟨x, p, rfl⟩ | ⟨es, k, p, rfl⟩
        · exact wpAny_pure q
        · cases b with
          | tuple =>
            obtain ⟨a', vs, n, rfl, _, _, _⟩ := rv.tuple_inv
            have st' : s'.heap.get? s.heap.objs.size = some _ := st
            unfold letOwnedTupleGo
            refine wpAny_bind (wpAny_load st' ?_)
            show wpAny _ A (if (["enumerate", "zip", "dict_itemiterator", "dict_reverseitemiterator", "odict_iterator", "itertools.zip_longest", "itertools.pairwise"].contains "range_iterator" && _) = true then _ else _) Q' E' s'
            rw [if_neg (by
              rw [show (["enumerate", "zip", "dict_itemiterator", "dict_reverseitemiterator", "odict_iterator", "itertools.zip_longest", "itertools.pairwise"].contains "range_iterator") = false from by decide, Bool.false_and]
              exact Bool.false_ne_true)]
            exact wpAny_pure q
    · show IsRangeIter _ _ _ _ _
      have : (((Builtin.Range.rangeSize a b c).toNat : Int) - ((0 : Nat) : Int)) = Builtin.Range.rangeSize a b c := by omega
      rw [this]
      have h0 : a + ((0 : Nat) : Int) * c = a := by simp
      rw [h0]
      exact Heap.get?_push_size _ rfl
    · intro b hb
      simp at hb; subst hb
      show _ < (s.heap.push _).objs.size
      rw [Heap.size_push]; exact Nat.lt_succ_self _
    · intro b hb
      simp at hb; subst hb
      exact get_size _ (Nat.le_refl _)
    · intro b hb
      simp at hb; subst hb
      exact .inl (.head _)
theorem iterable_range1 {a b : Int} (ha : -(2 ^ 62) ≤ a) (ha' : a < 2 ^ 62) (hb : -(2 ^ 62) ≤ b) (hb' : b < 2 ^ 62) : Iterable (.range a b 1) (rangeD a 1 (b - a).toNat) := by
  have := iterable_range (a := a) (b := b) (c := 1) (small_one ha ha' hb hb') (by rw [rangeSize_one]; split <;> omega)
  rw [rangeSize_one] at this
  have e : (if a < b then b - a else 0).toNat = (b - a).toNat := by split <;> omega
  rw [e] at this
  exact this
section
variable {K : Frag} {prog : Program} {w : World} {n : Nat}
theorem fn_range1 {b : Int} : Fn K prog w n (.type "range") [.int b] (.range 0 b 1) := .mk fun A base S s vals hr hw r => by
  obtain ⟨v, rfl, r₁⟩ := r.one
  (first | obtain ⟨_, rfl⟩ := r₁.atom | exact (nsE r₁).elim | exact (snE r₁).elim | exact (ftE r₁).elim | cases r₁)
  exact call_range_1 ⟨Kp.both s _ _ fun _ _ e => Heap.get?_push_of_some _ e, .range (not_held hw.held (get_size _ (Nat.le_refl _))) (IsRange.new _ _ _ _ _ _ _)⟩
theorem fn_range2 {a b : Int} : Fn K prog w n (.type "range") [.int a, .int b] (.range a b 1) := .mk fun A base S s vals hr hw r => by
  obtain ⟨v, u, rfl, r₁, r₂⟩ := r.two
  (first | obtain ⟨_, rfl⟩ := r₁.atom | exact (nsE r₁).elim | exact (snE r₁).elim | exact (ftE r₁).elim | cases r₁); (first | obtain ⟨_, rfl⟩ := r₂.atom | exact (nsE r₂).elim | exact (snE r₂).elim | exact (ftE r₂).elim | cases r₂)
  exact call_range_2 ⟨Kp.both s _ _ fun _ _ e => Heap.get?_push_of_some _ e, .range (not_held hw.held (get_size _ (Nat.le_refl _))) (IsRange.new _ _ _ _ _ _ _)⟩
end
-- part PL7
noncomputable def Ctx.plus (Γ : Ctx) (wr : List Addr) : Ctx := { Γ with S := fun b => Γ.S b ∨ b ∈ wr }

/-- what a loop gathers at the address Da -/
structure AccOk (P : (Addr → Prop) → Heap → Prop) (Da : Addr) : Prop where
  ext : ∀ S h h', P S h → Ext S h h' → (∀ o, h.get? Da = some o → h'.get? Da = some o) → P S h'
  move : ∀ S S' h, P S h → (∀ b, S' b → S b ∨ h.get? b = none) → S' Da → P S' h
  has : ∀ S h, P S h → S Da

structure Cst (Γ : Ctx) (tg : List Str) (Sr : Addr → Prop) (hr : Heap) (P : (Addr → Prop) → Heap → Prop) (s₁ s : Shared) : Prop where
  same : Sm s₁ s
  ext : Ext Sr hr s.heap
  at_ : Γ.At s.heap
  slots : ∀ x ∈ tg, Slot Γ s.heap x
  acc : P Γ.S s.heap
  ns : ∃ m, s.heap.Ns Γ.env.locals m

/-- the addresses that the loop writes to stand apart, and are new or given up -/
structure Lay (Γ : Ctx) (tg : List Str) (Da : Addr) (Sr : Addr → Prop) (hr : Heap) : Prop where
  dl : Da ≠ Γ.env.locals
  dc : ∀ x, Γ.env.cells.lookup x ≠ some Da
  fl : Sr Γ.env.locals ∨ hr.get? Γ.env.locals = none
  fc : ∀ x ∈ tg, ∀ c, Γ.env.cells.lookup x = some c → Sr c ∨ hr.get? c = none
  fd : Sr Da ∨ hr.get? Da = none

theorem Ext.more {Sr : Addr → Prop} {hr h h' : Heap} (x : Ext Sr hr h) (k : ∀ b o, (Sr b ∨ hr.get? b = none → False) → h.get? b = some o → h'.get? b = some o) : Ext Sr hr h' := fun b o hb e =>
  k b o (fun q => q.elim hb fun n => by rw [n] at e; (first | obtain ⟨_, rfl⟩ := e.atom | exact (nsE e).elim | exact (snE e).elim | exact (ftE e).elim | cases e)) (x b o hb e)

section
variable {Γ : Ctx} {tg : List Str} {Da : Addr} {Sr : Addr → Prop} {hr : Heap} {P : (Addr → Prop) → Heap → Prop} {s₁ s s' : Shared}
theorem Cst.kp (hP : AccOk P Da) (c : Cst Γ tg Sr hr P s₁ s) (k : Kp s s') : Cst Γ tg Sr hr P s₁ s' :=
  ⟨c.same.trans k.1, c.ext.trans (Ext.of_keep k.k), c.at_.go k, fun x hx => (Wr.of_kp (tg := []) k).slot x (c.slots x hx), hP.ext _ _ _ c.acc (Ext.of_keep k.k) fun o e => k.k Da o e, let ⟨m, q⟩ := c.ns; ⟨m, q.keeps k.k⟩⟩
theorem Lay.ext (L : Lay Γ tg Da Sr hr) {tg' : List Str} (hl : ∀ x ∈ tg', x ∈ tg) (w : Wr Γ tg' s s') (x : Ext Sr hr s.heap) : Ext Sr hr s'.heap :=
  x.more fun b o hb e => w.off b o (fun q => hb (q ▸ L.fl)) (fun y hy q => hb (L.fc y (hl y hy) b q)) e
theorem Lay.da (L : Lay Γ tg Da Sr hr) {tg' : List Str} (hl : ∀ x ∈ tg', x ∈ tg) (w : Wr Γ tg' s s') : ∀ o, s.heap.get? Da = some o → s'.heap.get? Da = some o := fun o e => w.off Da o L.dl (fun y _ => L.dc y) e

theorem setAll_rho : ∀ (bs : List (Str × D)) (Γ : Ctx) (y : Str), (∀ b ∈ bs, b.1 ≠ y) → (Γ.setAll bs).ρ y = Γ.ρ y
  | [], _, _, _ => rfl
  | (x, d) :: r, Γ, y, h => by
    rw [Ctx.setAll, setAll_rho r _ y fun b hb => h b (.tail _ hb)]
    show (if y = x then some d else Γ.ρ y) = Γ.ρ y
    rw [if_neg (fun e => h (x, d) (.head _) e.symm)]

theorem At.unset {bs : List (Str × D)} {h : Heap} (C : (Γ.setAll bs).At h) (hn : ∀ b ∈ bs, Γ.ρ b.1 = none) : Γ.At h := by
  obtain ⟨e1, e2, e3, e4, e5, e6, e7, e8⟩ := setAll_env bs Γ
  obtain ⟨a1, a2, a3, a4, a5, a6, a8, a7⟩ := C
  rw [e1] at a2 a3 a4 a6 a8
  rw [e2, e6, e8] at a1
  rw [e5, e7] at a5
  refine ⟨a1, a2, a3, a4, a5, a6, a8, fun y d q => ?_⟩
  have := a7 y d (by rw [setAll_rho bs Γ y fun b hb e => by rw [← e, hn b hb] at q; (first | obtain ⟨_, rfl⟩ := q.atom | exact (nsE q).elim | exact (snE q).elim | exact (ftE q).elim | cases q)]; exact q)
  rw [e1, e2, e3, e4] at this
  exact this

/-- changes to wr alone -/
theorem At.wr {wr : List Addr} {h h' : Heap} (C : Γ.At h) (e : ∀ b o, b ∉ wr → h.get? b = some o → h'.get? b = some o) (hS : ∀ b ∈ wr, Γ.S b) (hv : ∀ b ∈ wr, (h'.get? b).isSome = true) (hl : Γ.env.locals ∉ wr)
    (hc : ∀ x c, Γ.env.cells.lookup x = some c → c ∉ wr) : Γ.At h' := by
  have he : Ext Γ.S h h' := fun b o hb q => e b o (fun m => hb (hS b m)) q
  refine ⟨C.wd.ext he fun a ha => ?_, C.kind, C.globals, C.builtins, C.room, C.sep, fun x c q => ?_, fun x d q => ?_⟩
  · by_cases m : a ∈ wr
    · exact hv a m
    · have := C.wd.held a ha
      cases q : h.get? a with
      | none => rw [q] at this; (first | obtain ⟨_, rfl⟩ := this.atom | exact (nsE this).elim | exact (snE this).elim | exact (ftE this).elim | cases this)
      | some o => rw [e a o m q]; rfl
  · have := C.cin x c q
    cases r : h.get? c with
    | none => rw [r] at this; (first | obtain ⟨_, rfl⟩ := this.atom | exact (nsE this).elim | exact (snE this).elim | exact (ftE this).elim | cases this)
    | some o => rw [e c o (hc x c q) r]; rfl
  · obtain ⟨v, hv', r⟩ := C.vars x d q
    refine ⟨v, ?_, r.ext he⟩
    rcases hv' with ⟨a, m, n, em⟩ | ⟨a, c, l, n⟩
    · exact .inl ⟨a, m, n.at' fun o q => e _ o hl q, em⟩
    · obtain ⟨o, ho, hd⟩ := n
      exact .inr ⟨a, c, l, o, e _ _ (hc x c l) ho, hd⟩

theorem slot_wr {wr : List Addr} {h h' : Heap} {x : Str} (q : Slot Γ h x) (e : ∀ b o, b ∉ wr → h.get? b = some o → h'.get? b = some o) (hl : Γ.env.locals ∉ wr) (hc : ∀ c, Γ.env.cells.lookup x = some c → c ∉ wr) : Slot Γ h' x := by
  rcases q with ⟨a, ⟨m, hm⟩, c⟩ | ⟨a, c, v, l, ⟨o, ho, hd⟩, d⟩
  · exact .inl ⟨a, ⟨m, hm.at' fun o q => e _ o hl q⟩, c⟩
  · exact .inr ⟨a, c, v, l, ⟨o, e _ _ (hc c l) ho, hd⟩, d⟩
end

structure TestsOk (Γ : Ctx) (ifs : List Expr) (ok : Bool) : Prop where
  run : ∀ s, Γ.At s.heap → Tr Γ (tests ifs Γ.env) (fun b _ => b = ok) s
theorem tests_nil {Γ : Ctx} : TestsOk Γ [] true := .mk fun s _ => wpAny_pure ⟨Kp.refl s, rfl⟩
theorem tests_one {Γ : Ctx} {c : Expr} {b : Bool} (h : EvT Γ c b) : TestsOk Γ [c] b := .mk fun s C => wpAny_tests_one (h.run s C)

theorem loop_rule {τ : Type} {P : τ → (Addr → Prop) → Heap → Prop} {Da : Addr} (hP : ∀ t, AccOk (P t) Da) {Γ : Ctx} {tg : List Str} {Sr : Addr → Prop} {hr : Heap} (L : Lay Γ tg Da Sr hr) {code : Code} {ip : Pos} {target : Expr} {ifs : List Expr} {kt : Sem Fin}
    {I : Addr} {S₀ : Addr → Prop} {h₀ : Heap} {fp wr : List Addr} {ds : List D} {St : Nat → Heap → Prop} {s₁ s : Shared} {R : Result → Shared → Prop}
    (hq : code.quiet = true) (hden : (model Γ.prog Γ.w).den code = (turnAt ip target ifs Γ.env kt (again code) (.ref I)).onRaise (fun x => do noteFrame x Γ.env; theTreesLotGoes x)) (hun : Γ.A.under code = Γ.A)
    (T : It false Γ.prog Γ.w Γ.A S₀ h₀ I fp wr ds St) (hS₀ : ∀ b, (Γ.plus wr).S b → S₀ b ∨ h₀.get? b = none) (hSr : ∀ h, Ext Sr hr h → Ext S₀ h₀ h)
    (hfl : Γ.env.locals ∉ fp) (hfc : ∀ x ∈ tg, ∀ c, Γ.env.cells.lookup x = some c → c ∉ fp) (hfd : Da ∉ fp)
    (hwr : ∀ b ∈ wr, Sr b ∨ hr.get? b = none) (hwS : ∀ b ∈ wr, ¬ Γ.S b) (hcap : ∀ x c, Γ.env.cells.lookup x = some c → c ∉ wr)
    (t : Nat → τ)
    (turn : ∀ k d, ds[k]? = some d → ∃ bs ok, Bnd target d bs ∧ (∀ b ∈ bs, b.1 ∈ tg ∧ Γ.ρ b.1 = none) ∧ TestsOk ((Γ.plus wr).setAll bs) ifs ok ∧ (ok = false → t (k + 1) = t k) ∧
      (ok = true → ∀ s, Cst ((Γ.plus wr).setAll bs) tg Sr hr (P (t k)) s₁ s →
        wpAny (model Γ.prog Γ.w) Γ.A kt (fun fin s' => fin = .again code ∧ Cst ((Γ.plus wr).setAll bs) tg Sr hr (P (t (k + 1))) s₁ s' ∧ ∀ b ∈ fp, ∀ o, s.heap.get? b = some o → s'.heap.get? b = some o) (fun _ _ => False) s))
    (start : Cst (Γ.plus wr) tg Sr hr (P (t 0)) s₁ s) (hst : St 0 s.heap) (fin : ∀ s', Cst Γ tg Sr hr (P (t ds.length)) s₁ s' → R (.ok .next) s') :
    codeAny (model Γ.prog Γ.w) Γ.A code R s := by
  have hlw : Γ.env.locals ∉ wr := fun m => hfl (T.sub _ m)
  have hdw : Da ∉ wr := fun m => hfd (T.sub _ m)
  have hcw : ∀ x ∈ tg, ∀ c, Γ.env.cells.lookup x = some c → c ∉ wr := fun x hx c hc m => hfc x hx c hc (T.sub _ m)
  refine codeAny_loop hq (fun n s => ∃ k, k ≤ ds.length ∧ n = ds.length - k ∧ Cst (Γ.plus wr) tg Sr hr (P (t k)) s₁ s ∧ St k s.heap) ?_ _ ⟨0, Nat.zero_le _, rfl, start, hst⟩
  rintro n s ⟨k, hk, rfl, c, st⟩
  rw [hun, hden]
  refine wpAny_noted (wpAny_bind (wpAny_standAt (wpAny_bind ?_)))
  rcases Nat.lt_or_ge k ds.length with hlt | hge
  · have hd : ds[k]? = some ds[k] := List.getElem?_eq_getElem hlt
    obtain ⟨bs, ok, hb, hbs, htests, hf, htr⟩ := turn k _ hd
    refine T.next (target := target) (bs := bs) (f := fun v => turnBody target ifs Γ.env kt (again code) v) (fun v => rfl) hb hd st fun v h' tk hv st' he => ?_
    have rv : Rep Γ.prog Γ.w (Γ.plus wr).S h' v ds[k] := by
      have x1 : Ext S₀ h₀ h' := hSr h' (c.ext.more fun b o hb e => he b o (fun m => hb (hwr b m)) e)
      exact hv (Γ.plus wr).S hS₀ c.at_.wd.held x1
    have c' : Cst (Γ.plus wr) tg Sr hr (P (t k)) s₁ { s with heap := h', toks := tk } :=
      ⟨⟨c.same.1, c.same.2⟩, c.ext.more fun b o hb e => he b o (fun m => hb (hwr b m)) e,
        At.wr (wr := wr) c.at_ he (fun b m => .inr m) (T.live _ _ st') hlw hcap, fun x hx => slot_wr (c.slots x hx) he hlw (hcw x hx),
        (hP _).ext _ _ _ c.acc (fun b o hb e => he b o (fun m => hb (.inr m)) e) fun o e => he Da o hdw e, let ⟨m, q⟩ := c.ns; ⟨m, q.at' fun o e => he _ o hlw e⟩⟩
    refine wpAny_bind (assign_rule (Γ := Γ.plus wr) c.at_.room.1 c'.at_ hb (fun x hx => c'.slots _ (hbs x hx).1) rv fun s₂ W C₂ => ?_)
    have hsub : ∀ x ∈ bs.map (·.1), x ∈ tg := fun x hx => by obtain ⟨b, hb, rfl⟩ := List.mem_map.mp hx; exact (hbs b hb).1
    have L' : Lay (Γ.plus wr) tg Da Sr hr := ⟨L.dl, L.dc, L.fl, L.fc, L.fd⟩
    obtain ⟨e1, e2, e3, e4, e5, e6, e7, e8⟩ := setAll_env bs (Γ.plus wr)
    have c₂ : Cst ((Γ.plus wr).setAll bs) tg Sr hr (P (t k)) s₁ s₂ :=
      ⟨c'.same.trans W.same, L'.ext hsub W c'.ext, C₂, fun x hx => by
          have := W.slot x (c'.slots x hx)
          unfold Slot at this ⊢
          rw [e1, e2]; exact this,
        by rw [e2]; exact (hP _).ext _ _ _ c'.acc W.ext (L'.da hsub W), by rw [e1]; exact W.ns c'.ns⟩
    have st₂ : St (k + 1) s₂.heap := T.frame _ _ _ st' fun b hb o e => W.off b o (fun q => hfl (q ▸ hb)) (fun x hx q => hfc x (hsub x hx) b q hb) e
    have hte := htests.run s₂ c₂.at_
    have e1' : ((Γ.plus wr).setAll bs).env = Γ.env := e1
    unfold Tr at hte
    rw [e1', e3, e4, e5] at hte
    refine wpAny_bind (wpAny_mono hte (fun ok' s₃ h₃ => ?_) fun _ _ x => x.elim)
    obtain ⟨k₃, rfl⟩ := h₃
    have c₃ := c₂.kp (hP _) k₃
    have st₃ : St (k + 1) s₃.heap := T.frame _ _ _ st₂ fun b _ o e => k₃.k b o e
    cases ok' with
    | false =>
      refine wpAny_pure ⟨rfl, ds.length - (k + 1), by omega, k + 1, hlt, rfl, ?_, st₃⟩
      rw [hf rfl]
      refine ⟨c₃.same, c₃.ext, At.unset c₃.at_ fun b hb => (hbs b hb).2, fun x hx => ?_, by have := c₃.acc; rw [e2] at this; exact this, by have := c₃.ns; rw [e1] at this; exact this⟩
      have := c₃.slots x hx
      unfold Slot at this ⊢
      rw [e1, e2] at this; exact this
    | true =>
      refine wpAny_mono (htr rfl s₃ c₃) (fun fin s₄ h₄ => ?_) fun _ _ x => x.elim
      obtain ⟨rfl, c₄, hfp⟩ := h₄
      refine ⟨rfl, ds.length - (k + 1), by omega, k + 1, hlt, rfl, ⟨c₄.same, c₄.ext, At.unset c₄.at_ fun b hb => (hbs b hb).2, fun x hx => ?_, by have := c₄.acc; rw [e2] at this; exact this, by have := c₄.ns; rw [e1] at this; exact this⟩, T.frame _ _ _ st₃ hfp⟩
      have := c₄.slots x hx
      unfold Slot at this ⊢
      rw [e1, e2] at this; exact this
  · have hk' : k = ds.length := by omega
    subst hk'
    refine T.done _ _ _ st fun h' tk he => wpAny_pure (fin _ ?_)
    have hS : ∀ b, Γ.S b → b ∉ wr := fun b q m => hwS b m q
    have xe : Ext (Γ.plus wr).S s.heap h' := fun b o hb e => he b o (fun m => hb (.inr m)) e
    refine ⟨⟨c.same.1, c.same.2⟩, c.ext.more fun b o hb e => he b o (fun m => hb (hwr b m)) e, ⟨⟨c.at_.wd.gl, fun b o e => he b o (fun m => by
        have this : Γ.base.get? b = none := c.at_.wd.off b (.inr m); rw [this] at e; (first | obtain ⟨_, rfl⟩ := e.atom | exact (nsE e).elim | exact (snE e).elim | exact (ftE e).elim | cases e)) (c.at_.wd.up b o e), fun a q => c.at_.wd.off a (.inl q), fun a q => ?_⟩, c.at_.kind, c.at_.globals, c.at_.builtins, c.at_.room, c.at_.sep, fun x c' q => ?_, fun x d q => ?_⟩, fun x hx => ?_, ?_, let ⟨m, q⟩ := c.ns; ⟨m, q.at' fun o e => he _ o hlw e⟩⟩
    · have := c.at_.wd.held a (.inl q)
      cases r : s.heap.get? a with
      | none => rw [r] at this; (first | obtain ⟨_, rfl⟩ := this.atom | exact (nsE this).elim | exact (snE this).elim | exact (ftE this).elim | cases this)
      | some o => rw [he a o (hS a q) r]; rfl
    · have := c.at_.cin x c' q
      cases r : s.heap.get? c' with
      | none => rw [r] at this; (first | obtain ⟨_, rfl⟩ := this.atom | exact (nsE this).elim | exact (snE this).elim | exact (ftE this).elim | cases this)
      | some o => rw [he c' o (hcap x c' q) r]; rfl
    · obtain ⟨v, hv, r⟩ := c.at_.vars x d q
      refine ⟨v, ?_, (r.ext xe).less fun b q => .inl q⟩
      rcases hv with ⟨a, m, n, em⟩ | ⟨a, c', l, n⟩
      · exact .inl ⟨a, m, n.at' fun o q => he _ o hlw q, em⟩
      · obtain ⟨o, ho, hd⟩ := n
        exact .inr ⟨a, c', l, o, he _ _ (hcap x c' l) ho, hd⟩
    · rcases c.slots x hx with ⟨a, ⟨m, hm⟩, q⟩ | ⟨a, c', v, l, ⟨o, ho, hd⟩, q⟩
      · refine .inl ⟨a, ⟨m, hm.at' fun o q => he _ o hlw q⟩, ?_⟩
        exact q.elim id fun m => absurd m hlw
      · refine .inr ⟨a, c', v, l, ⟨o, he _ _ (hcw x hx c' l) ho, hd⟩, ?_⟩
        exact q.elim id fun m => absurd m (hcw x hx c' l)
    · have a1 := (hP _).ext _ _ _ c.acc xe fun o e => he Da o hdw e
      refine (hP _).move _ _ _ a1 (fun b q => .inl (.inl q)) ?_
      exact ((hP _).has _ _ c.acc).elim id fun m => absurd m hdw
-- part PL8
/-- a list that is gathered -/
noncomputable def AccL (prog : Program) (w : World) (Da : Addr) (outs : List D) (S : Addr → Prop) (h : Heap) : Prop := S Da ∧ ∃ vs, h.PlainList Da vs.toArray ∧ RepAll prog w S h vs outs
theorem accL_ok {prog : Program} {w : World} {Da : Addr} {outs : List D} : AccOk (AccL prog w Da outs) Da where
  ext := fun S h h' ⟨a, vs, b, r⟩ e k => ⟨a, vs, b.at k, r.ext e⟩
  move := fun S S' h ⟨a, vs, b, r⟩ x y => ⟨y, vs, b, r.avoid x⟩
  has := fun S h q => q.1
/-- a dict that is gathered -/
noncomputable def AccD {K : Type} [DecidableEq K] (prog : Program) (w : World) (knd : KeyKind prog w K) (Da : Addr) (kvs : List (K × Int)) (S : Addr → Prop) (h : Heap) : Prop := S Da ∧ (Da == sysModules) = false ∧ ∃ us, h.DictOf knd Da us ∧ KV us kvs
theorem accD_ok {K : Type} [DecidableEq K] {prog : Program} {w : World} {knd : KeyKind prog w K} {Da : Addr} {kvs : List (K × Int)} : AccOk (AccD prog w knd Da kvs) Da where
  ext := fun S h h' ⟨a, c, vs, b, r⟩ e k => ⟨a, c, vs, DictOf_at b k, r⟩
  move := fun S S' h ⟨a, c, vs, b, r⟩ x y => ⟨y, c, vs, b, r⟩
  has := fun S h q => q.1

/-- a key stored with an int -/
noncomputable def put {K : Type} [DecidableEq K] (kvs : List (K × Int)) (k : K) (i : Int) : List (K × Int) :=
  if kvs.any (fun kv => kv.1 = k) then kvs.map (fun kv => if kv.1 = k then (kv.1, i) else kv) else kvs ++ [(k, i)]
theorem kv_any {K : Type} [DecidableEq K] {us : List (K × Value)} {kvs : List (K × Int)} (r : KV us kvs) (k : K) : us.any (fun kv => kv.1 = k) = kvs.any (fun kv => kv.1 = k) := by
  induction r with
  | nil => rfl
  | cons _ ih => simp only [List.any_cons, ih]
theorem kv_map {K : Type} [DecidableEq K] {us : List (K × Value)} {kvs : List (K × Int)} (r : KV us kvs) (k : K) (i : Int) (t : Tok) : KV (us.map fun kv => if kv.1 = k then (kv.1, Value.int i t) else kv) (kvs.map fun kv => if kv.1 = k then (kv.1, i) else kv) := by
  induction r with
  | nil => exact .nil
  | cons _ ih =>
    rename_i k' i' t' _ _ _
    simp only [List.map_cons]
    by_cases e : k' = k
    · simp only [e, if_true]; exact .cons ih
    · simp only [e, if_false]; exact .cons ih
theorem kv_snoc {K : Type} {us : List (K × Value)} {kvs : List (K × Int)} (r : KV us kvs) (k : K) (i : Int) (t : Tok) : KV (us ++ [(k, Value.int i t)]) (kvs ++ [(k, i)]) := by
  induction r with
  | nil => exact .cons .nil
  | cons _ ih => exact .cons ih
theorem kv_put {K : Type} [DecidableEq K] {us : List (K × Value)} {kvs : List (K × Int)} (r : KV us kvs) (k : K) (i : Int) (t : Tok) : KV (stored us k (.int i t)) (put kvs k i) := by
  unfold stored put
  rw [kv_any r k]
  split
  · exact kv_map r k i t
  · exact kv_snoc r k i t

section
variable {Γ : Ctx} {tg : List Str} {Da : Addr} {Sr : Addr → Prop} {hr : Heap} {s₁ s : Shared}

theorem emitL_rule {elt : Expr} {outs : List D} {y : D} {fp : List Addr} {c : Code} (L : Lay Γ tg Da Sr hr) (hfd : Da ∉ fp) (hc : Cst Γ tg Sr hr (AccL Γ.prog Γ.w Da outs) s₁ s) (h : Ev Γ elt y) (hz : outs.length ≤ sizeLine) :
    wpAny (model Γ.prog Γ.w) Γ.A (emitL elt (.ref Da) Γ.env >>= fun _ => again c)
      (fun fin s' => fin = .again c ∧ Cst Γ tg Sr hr (AccL Γ.prog Γ.w Da (outs ++ [y])) s₁ s' ∧ ∀ b ∈ fp, ∀ o, s.heap.get? b = some o → s'.heap.get? b = some o) (fun _ _ => False) s := by
  refine wpAny_bind (wpAny_bind ((h.run s hc.at_).then' fun v s₂ k₂ r₂ => ?_))
  have c₂ := hc.kp accL_ok k₂
  obtain ⟨hS, vs, hl, rs⟩ := c₂.acc
  have e := rs.length
  refine wpAny_bind (wpAny_list_append_plain hl (fun h' hl' hs => wpAny_pure (wpAny_pure ⟨rfl, ?_, fun b hb o q => hs.extBut b o (fun z => hfd (z ▸ hb)) (k₂.k b o q)⟩)) (by simpa [e] using hz))
  have he : ∀ b o, b ∉ [Da] → s₂.heap.get? b = some o → h'.get? b = some o := fun b o m q => hs.extBut b o (fun z => m (by simp [z])) q
  have hx : Ext Γ.S s₂.heap h' := Ext.sameBut hs hS
  have hlive : ∀ b ∈ [Da], (h'.get? b).isSome = true := fun b hb => by
    simp at hb; subst hb
    obtain ⟨n, q⟩ := hl'; rw [q]; rfl
  have hlo : Γ.env.locals ∉ [Da] := fun m => L.dl (by simpa using (List.mem_singleton.mp m).symm)
  have hce : ∀ x c, Γ.env.cells.lookup x = some c → c ∉ [Da] := fun x c q m => L.dc x (by rw [q, List.mem_singleton.mp m])
  refine ⟨⟨c₂.same.1, c₂.same.2⟩, c₂.ext.more fun b o hb q => hs.extBut b o (fun z => hb (z ▸ L.fd)) q, At.wr (wr := [Da]) c₂.at_ he (fun b m => (List.mem_singleton.mp m) ▸ hS) hlive hlo hce, fun x hx => slot_wr (c₂.slots x hx) he hlo (hce x), ⟨hS, vs ++ [v], ?_, (rs.ext hx).append (.cons (r₂.ext hx) .nil)⟩, let ⟨m, q⟩ := c₂.ns; ⟨m, q.sameBut hs (fun z => L.dl z.symm)⟩⟩
  simpa using hl'

theorem emitD_rule {K : Type} [DecidableEq K] {knd : KeyKind Γ.prog Γ.w K} {kx vx : Expr} {kvs : List (K × Int)} {k : K} {dk : D} {i : Int} {fp : List Addr} {c : Code} (L : Lay Γ tg Da Sr hr) (hfd : Da ∉ fp) (hc : Cst Γ tg Sr hr (AccD Γ.prog Γ.w knd Da kvs) s₁ s)
    (h1 : Ev Γ kx dk) (h2 : Ev Γ vx (.int i)) (hk : ∀ S h v, Rep Γ.prog Γ.w S h v dk → knd.is k v = true) (hz : kvs.length ≤ sizeLine) :
    wpAny (model Γ.prog Γ.w) Γ.A (emitD kx vx Da Γ.env >>= fun _ => again c)
      (fun fin s' => fin = .again c ∧ Cst Γ tg Sr hr (AccD Γ.prog Γ.w knd Da (put kvs k i)) s₁ s' ∧ ∀ b ∈ fp, ∀ o, s.heap.get? b = some o → s'.heap.get? b = some o) (fun _ _ => False) s := by
  refine wpAny_bind (wpAny_bind ((h1.run s hc.at_).then' fun kv s₂ k₂ r₂ => ?_))
  have c₂ := hc.kp accD_ok k₂
  refine wpAny_bind (wpAny_holding ((h2.run s₂ c₂.at_).then' fun v s₃ k₃ r₃ => wpAny_bind (wpAny_standAt (wpAny_holding ?_))))
  have c₃ := c₂.kp accD_ok k₃
  obtain ⟨hS, hm, us, hd, hkv⟩ := c₃.acc
  have e := hkv.length
  cases r₃ with
  | int i t =>
  refine wpAny_dictSet_pairs (hk _ _ _ r₂) hd (fun h' hd' hs => wpAny_pure ⟨rfl, ?_, fun b hb o q => hs.extBut b o (fun z => hfd (z ▸ hb)) (k₃.k b o (k₂.k b o q))⟩) (by rw [e]; exact hz)
  have he : ∀ b o, b ∉ [Da] → s₃.heap.get? b = some o → h'.get? b = some o := fun b o m q => hs.extBut b o (fun z => m (by simp [z])) q
  have hlive : ∀ b ∈ [Da], (h'.get? b).isSome = true := fun b hb => by
    simp at hb; subst hb
    obtain ⟨o, _, _, q, _⟩ := hd'; rw [q]; rfl
  have hlo : Γ.env.locals ∉ [Da] := fun m => L.dl (by simpa using (List.mem_singleton.mp m).symm)
  have hce : ∀ x c, Γ.env.cells.lookup x = some c → c ∉ [Da] := fun x c q m => L.dc x (by rw [q, List.mem_singleton.mp m])
  exact ⟨⟨c₃.same.1, c₃.same.2⟩, c₃.ext.more fun b o hb q => hs.extBut b o (fun z => hb (z ▸ L.fd)) q, At.wr (wr := [Da]) c₃.at_ he (fun b m => (List.mem_singleton.mp m) ▸ hS) hlive hlo hce, fun x hx => slot_wr (c₃.slots x hx) he hlo (hce x), ⟨hS, hm, _, hd', kv_put hkv k i t⟩, let ⟨m, q⟩ := c₃.ns; ⟨m, q.sameBut hs (fun z => L.dl z.symm)⟩⟩
end

/-- the cells that a block's table takes over from around it -/
noncomputable def closL (cells : List (Str × Addr)) : List (Str × NameKind) → List (Str × Addr) → List (Str × Addr)
  | [], acc => acc
  | (n, k) :: r, acc => if k == .free then (match cells.lookup n with | some a => closL cells r ((n, a) :: acc) | none => closL cells r acc) else closL cells r acc
noncomputable def clos (scope : Scope) (env : Env) : List (Str × Addr) := closL env.cells scope.names []

theorem closure_go {env : Env} : ∀ (names : List (Str × NameKind)) (acc : List (Str × Addr)), (∀ p ∈ names, p.2 = .free → (env.cells.lookup p.1).isSome = true) →
    forIn (m := Sem) names acc (fun (x : Str × NameKind) r => match x with | (name, kind) => if (kind == NameKind.free) = true then do let a ← cellOf env name; pure (ForInStep.yield ((name, a) :: r)) else pure (ForInStep.yield r)) = pure (closL env.cells names acc)
  | [], acc, _ => rfl
  | (n, k) :: r, acc, h => by
    rw [List.forIn_cons]
    have ih := fun acc => closure_go r acc fun p hp => h p (.tail _ hp)
    cases hk : (k == NameKind.free) with
    | false =>
      simp only [hk, Bool.false_eq_true, if_false, pure_bind, closL]
      exact ih acc
    | true =>
      have hs := h (n, k) (.head _) (by simpa using hk)
      cases hl : env.cells.lookup n with
      | none => rw [hl] at hs; (first | obtain ⟨_, rfl⟩ := hs.atom | exact (nsE hs).elim | exact (snE hs).elim | exact (ftE hs).elim | cases hs)
      | some a =>
        simp only [hk, if_true, closL, cellOf, hl, pure_bind]
        exact ih _
theorem closure_is {scope : Scope} {env : Env} (h : ∀ p ∈ scope.names, p.2 = .free → (env.cells.lookup p.1).isSome = true) : closureFor scope env = pure (clos scope env) := by
  unfold closureFor clos
  have := closure_go (env := env) scope.names [] h
  exact congrArg (fun (z : Sem (List (Str × Addr))) => z >>= fun x => (pure x : Sem (List (Str × Addr)))) this
theorem closL_sub {cells : List (Str × Addr)} : ∀ (names : List (Str × NameKind)) (acc : List (Str × Addr)) (x : Str) (c : Addr), (closL cells names acc).lookup x = some c → acc.lookup x = some c ∨ cells.lookup x = some c
  | [], acc, x, c, e => .inl e
  | (n, k) :: r, acc, x, c, e => by
    unfold closL at e
    split at e
    · split at e
      · rename_i a hl
        rcases closL_sub r _ x c e with q | q
        · rw [List.lookup_cons] at q
          cases hx : (x == n) with
          | true => rw [hx] at q; (first | obtain ⟨_, rfl⟩ := q.atom | exact (nsE q).elim | exact (snE q).elim | exact (ftE q).elim | cases q); exact .inr (by rw [eq_of_beq hx]; exact hl)
          | false => rw [hx] at q; exact .inl q
        · exact .inr q
      · exact closL_sub r acc x c e
    · exact closL_sub r acc x c e
theorem closL_has {cells : List (Str × Addr)} : ∀ (names : List (Str × NameKind)) (acc : List (Str × Addr)) (x : Str) (c : Addr), (∀ c', acc.lookup x = some c' → c' = c) → cells.lookup x = some c → (acc.lookup x = some c ∨ (x, NameKind.free) ∈ names) → (closL cells names acc).lookup x = some c
  | [], acc, x, c, _, _, e => e.elim id fun q => nomatch q
  | (n, k) :: r, acc, x, c, ha, hc, e => by
    unfold closL
    split
    · rename_i hk
      split
      · rename_i a hl
        have key : ∀ c', List.lookup x ((n, a) :: acc) = some c' → c' = c := fun c' q => by
          rw [List.lookup_cons] at q
          cases hx : (x == n) with
          | true => rw [hx] at q; (first | obtain ⟨_, rfl⟩ := q.atom | exact (nsE q).elim | exact (snE q).elim | exact (ftE q).elim | cases q); rw [← eq_of_beq hx, hc] at hl; (first | obtain ⟨_, rfl⟩ := hl.atom | exact (nsE hl).elim | exact (snE hl).elim | exact (ftE hl).elim | cases hl); rfl
          | false => rw [hx] at q; exact ha c' q
        refine closL_has r _ x c key hc ?_
        cases hx : (x == n) with
        | true => left; rw [List.lookup_cons, hx]; rw [← eq_of_beq hx, hc] at hl; (first | obtain ⟨_, rfl⟩ := hl.atom | exact (nsE hl).elim | exact (snE hl).elim | exact (ftE hl).elim | cases hl); rfl
        | false =>
          rcases e with q | q
          · left; rw [List.lookup_cons, hx]; exact q
          · rcases List.mem_cons.mp q with q | q
            · (first | obtain ⟨_, rfl⟩ := q.atom | exact (nsE q).elim | exact (snE q).elim | exact (ftE q).elim | cases q); simp at hx
            · right; exact q
      · rename_i hl
        refine closL_has r acc x c ha hc ?_
        rcases e with q | q
        · exact .inl q
        · rcases List.mem_cons.mp q with q | q
          · (first | obtain ⟨_, rfl⟩ := q.atom | exact (nsE q).elim | exact (snE q).elim | exact (ftE q).elim | cases q); rw [hc] at hl; (first | obtain ⟨_, rfl⟩ := hl.atom | exact (nsE hl).elim | exact (snE hl).elim | exact (ftE hl).elim | cases hl)
          · exact .inr q
    · rename_i hk
      refine closL_has r acc x c ha hc ?_
      rcases e with q | q
      · exact .inl q
      · rcases List.mem_cons.mp q with q | q
        · (first | obtain ⟨_, rfl⟩ := q.atom | exact (nsE q).elim | exact (snE q).elim | exact (ftE q).elim | cases q); simp at hk
        · exact .inr q
theorem cellsFrom_append : ∀ (names : List (Str × NameKind)) (n : Nat) (acc : List (Str × Addr)), cellsFrom n names acc = cellsFrom n names [] ++ acc
  | [], _, _ => rfl
  | (x, k) :: r, n, acc => by
    unfold cellsFrom
    split
    · rw [cellsFrom_append r (n + 1) ((x, n) :: acc), cellsFrom_append r (n + 1) [(x, n)], List.append_assoc]; rfl
    · exact cellsFrom_append r n acc
theorem cellsFrom_has : ∀ (names : List (Str × NameKind)) (n : Nat) (acc : List (Str × Addr)) (x : Str), ((acc.lookup x).isSome = true ∨ (x, NameKind.cell) ∈ names) → ((cellsFrom n names acc).lookup x).isSome = true
  | [], _, _, _, e => e.elim id fun q => nomatch q
  | (y, k) :: r, n, acc, x, e => by
    unfold cellsFrom
    split
    · refine cellsFrom_has r (n + 1) _ x ?_
      cases hx : (x == y) with
      | true => left; rw [List.lookup_cons, hx]; rfl
      | false =>
        rcases e with q | q
        · left; rw [List.lookup_cons, hx]; exact q
        · rcases List.mem_cons.mp q with q | q
          · (first | obtain ⟨_, rfl⟩ := q.atom | exact (nsE q).elim | exact (snE q).elim | exact (ftE q).elim | cases q); simp at hx
          · right; exact q
    · rename_i hk
      refine cellsFrom_has r n acc x ?_
      rcases e with q | q
      · exact .inl q
      · rcases List.mem_cons.mp q with q | q
        · (first | obtain ⟨_, rfl⟩ := q.atom | exact (nsE q).elim | exact (snE q).elim | exact (ftE q).elim | cases q); simp at hk
        · exact .inr q
-- part PL9
theorem lookup_relabel {env : Env} : ∀ (names : List (Str × NameKind)) (x : Str),
    (names.map fun (n, k) => if (k == NameKind.free && env.scope.kind == .function && env.kindOf n == some .cell) then (n, NameKind.cell) else (n, k)).lookup x =
      (names.lookup x).map fun k => if (k == NameKind.free && env.scope.kind == .function && env.kindOf x == some .cell) then NameKind.cell else k
  | [], _ => rfl
  | (n, k) :: r, x => by
    have ih := lookup_relabel (env := env) r x
    show List.lookup x ((if (k == NameKind.free && env.scope.kind == .function && env.kindOf n == some .cell) = true then (n, NameKind.cell) else (n, k)) :: _) = _
    cases hx : x == n with
    | true =>
      have e := eq_of_beq hx
      subst e
      by_cases hc : (k == NameKind.free && env.scope.kind == .function && env.kindOf x == some .cell) = true
      · rw [if_pos hc]; simp only [List.lookup_cons, beq_self_eq_true, Option.map_some, hc, if_true]
      · rw [if_neg hc]; simp only [List.lookup_cons, beq_self_eq_true, Option.map_some, hc]; rfl
    | false =>
      by_cases hc : (k == NameKind.free && env.scope.kind == .function && env.kindOf n == some .cell) = true
      · rw [if_pos hc]; simp only [List.lookup_cons, hx]; exact ih
      · rw [if_neg hc]; simp only [List.lookup_cons, hx]; exact ih
theorem kind_relabel {env : Env} {scope : Scope} {cl : List (Str × Addr)} {C : Addr} (x : Str) :
    (compEnvC scope cl C env).kindOf x = (scope.names.lookup x).map fun k => if (k == NameKind.free && env.scope.kind == .function && env.kindOf x == some .cell) then NameKind.cell else k := lookup_relabel scope.names x

theorem own_cell : ∀ (names : List (Str × NameKind)) (n : Nat) (x : Str) (c : Addr), (x, c) ∈ cellsFrom n names [] → (x, NameKind.cell) ∈ names
  | [], _, _, _, h => nomatch h
  | (y, k) :: r, n, x, c, h => by
    unfold cellsFrom at h
    split at h
    · rename_i hk
      rw [cellsFrom_append] at h
      rcases List.mem_append.mp h with q | q
      · exact .tail _ (own_cell r _ x c q)
      · have := List.mem_singleton.mp q
        (first | obtain ⟨_, rfl⟩ := this.atom | exact (nsE this).elim | exact (snE this).elim | exact (ftE this).elim | cases this)
        have e : k = .cell := by simpa using hk
        subst e; exact .head _
    · exact .tail _ (own_cell r n x c h)

theorem nodup_kind {names : List (Str × NameKind)} (hn : (names.map (·.1)).Nodup) {x : Str} {k k' : NameKind} (h1 : (x, k) ∈ names) (h2 : (x, k') ∈ names) : k = k' := by
  induction names with
  | nil => (first | obtain ⟨_, rfl⟩ := h1.atom | exact (nsE h1).elim | exact (snE h1).elim | exact (ftE h1).elim | cases h1)
  | cons p r ih =>
    rw [List.map_cons, List.nodup_cons] at hn
    rcases List.mem_cons.mp h1 with e1 | e1 <;> rcases List.mem_cons.mp h2 with e2 | e2
    · rw [← e1] at e2; (first | obtain ⟨_, rfl⟩ := e2.atom | exact (nsE e2).elim | exact (snE e2).elim | exact (ftE e2).elim | cases e2); rfl
    · exact absurd (List.mem_map.mpr ⟨(x, k'), e2, by rw [← e1]⟩) hn.1
    · exact absurd (List.mem_map.mpr ⟨(x, k), e1, by rw [← e2]⟩) hn.1
    · exact ih hn.2 e1 e2

theorem wpAny_newFunctionEnv_comp {M : Model} {A : Around} {E : Value → Shared → Prop} {s : Shared} {scope : Scope} {globals : Addr} {cl : List (Str × Addr)} {qual : Str} {env : Env} {Q : Env → Shared → Prop}
    (hQ : Q (newEnv scope s.heap.objs.size globals (cellsFrom (s.heap.objs.size + 1) scope.names [] ++ cl) qual none .none (some env) builtinsNs)
      { s with heap := pushCells (s.heap.push { cls := .type "dict", data := .dict #[] }) scope.names }) :
    wpAny M A (newFunctionEnv scope globals cl [] qual none .none (some env)) Q E s := by
  simp only [newFunctionEnv, Option.isSome_some, if_true]
  refine wpAny_bind (wpAny_alloc ?_)
  refine wpAny_bind (wpAny_layCells _ (fun name kind cells => by cases hkc : kind == NameKind.cell <;> simp [hkc]) _ _ _ _ ?_)
  rw [List.forIn_nil]
  refine wpAny_bind (wpAny_pure (wpAny_pure ?_))
  rw [cellsFrom_append]
  rw [show ({ s with heap := s.heap.push { cls := .type "dict", data := .dict #[] } } : Shared).heap.objs.size = s.heap.objs.size + 1 from Heap.size_push ..]
  exact hQ

theorem closL_free {cells : List (Str × Addr)} : ∀ (names : List (Str × NameKind)) (acc : List (Str × Addr)) (x : Str) (c : Addr), (closL cells names acc).lookup x = some c → acc.lookup x = some c ∨ (x, NameKind.free) ∈ names
  | [], acc, x, c, e => .inl e
  | (n, k) :: r, acc, x, c, e => by
    unfold closL at e
    split at e
    · rename_i hk
      have ek : k = .free := by simpa using hk
      subst ek
      split at e
      · rcases closL_free r _ x c e with q | q
        · rw [List.lookup_cons] at q
          cases hx : (x == n) with
          | true => right; rw [eq_of_beq hx]; exact .head _
          | false => rw [hx] at q; exact .inl q
        · exact .inr (.tail _ q)
      · exact (closL_free r acc x c e).elim .inl fun q => .inr (.tail _ q)
    · exact (closL_free r acc x c e).elim .inl fun q => .inr (.tail _ q)

/-- the context within a comprehension -/
noncomputable def Ctx.comp (Γ : Ctx) (scope : Scope) (Da C : Addr) (own : List (Str × Addr)) : Ctx :=
  { Γ with env := compEnvC scope (own ++ clos scope Γ.env) C Γ.env, S := fun b => Γ.S b ∨ b = Da ∨ b = C ∨ ∃ x, (x, b) ∈ own, ρ := fun x => if scope.names.lookup x = some .free then Γ.ρ x else none }

/-- what must be seen of a comprehension's table of names -/
structure ScopeOk (Γ : Ctx) (scope : Scope) (tg : List Str) : Prop where
  kind : scope.kind = .function
  nodup : (scope.names.map (·.1)).Nodup
  free : ∀ p ∈ scope.names, p.2 = .free → (Γ.env.cells.lookup p.1).isSome = true ∧ Γ.env.kindOf p.1 ≠ some .local
  tg : ∀ x ∈ tg, scope.names.lookup x = some .local ∨ scope.names.lookup x = some .cell

theorem mem_lookup {α : Type} : ∀ {l : List (Str × α)} {x : Str} {k : α}, l.lookup x = some k → (x, k) ∈ l := mem_of_lookup
theorem lookup_mem {names : List (Str × NameKind)} (hn : (names.map (·.1)).Nodup) {x : Str} {k : NameKind} (h : (x, k) ∈ names) : names.lookup x = some k := by
  cases e : names.lookup x with
  | none =>
    exfalso
    have := List.lookup_eq_none_iff.mp e _ h
    simp at this
  | some k' => rw [nodup_kind hn (mem_lookup e) h]

theorem lookup_append {α : Type} (a b : List (Str × α)) (x : Str) : (a ++ b).lookup x = (a.lookup x).or (b.lookup x) := by
  induction a with
  | nil => rfl
  | cons p r ih =>
    obtain ⟨n, v⟩ := p
    rw [List.cons_append, List.lookup_cons, List.lookup_cons]
    cases x == n with
    | true => rfl
    | false => exact ih

section
variable {Γ : Ctx} {scope : Scope} {tg : List Str}
theorem comp_at (Z : ScopeOk Γ scope tg) {h₁ h : Heap} {wr : List Addr} {Da C : Addr} {own : List (Str × Addr)} (C1 : Γ.At h₁) (kp : ∀ b o, h₁.get? b = some o → h.get? b = some o)
    (hw : ∀ b ∈ wr, h₁.get? b = none ∧ (h.get? b).isSome = true) (hD : h₁.get? Da = none ∧ (h.get? Da).isSome = true) (hC : h₁.get? C = none) (hns : h.Ns C fun _ => none)
    (hown : ∀ x c, (x, c) ∈ own → h.IsCell c none ∧ h₁.get? c = none ∧ c ≠ C) (hap : own.Pairwise fun x y => x.2 ≠ y.2) (hoc : ∀ x c, (x, c) ∈ own → (x, NameKind.cell) ∈ scope.names) :
    ((Γ.comp scope Da C own).plus wr).At h := by
  have hCl : (h.get? C).isSome = true := let ⟨o, _, _, e, _⟩ := hns; by rw [e]; rfl
  have gone : ∀ {b : Addr}, h₁.get? b = none → (h₁.get? b).isSome = true → False := fun e q => by rw [e] at q; (first | obtain ⟨_, rfl⟩ := q.atom | exact (nsE q).elim | exact (snE q).elim | exact (ftE q).elim | cases q)
  have cls : ∀ x c, (clos scope Γ.env).lookup x = some c → Γ.env.cells.lookup x = some c := fun x c e => (closL_sub scope.names [] x c e).elim (fun q => nomatch q) id
  have both : ∀ x c, (own ++ clos scope Γ.env).lookup x = some c → (x, c) ∈ own ∨ ((clos scope Γ.env).lookup x = some c ∧ (h₁.get? c).isSome = true) := fun x c e => by
    rw [lookup_append] at e
    cases q : own.lookup x with
    | some c' => rw [q] at e; (first | obtain ⟨_, rfl⟩ := e.atom | exact (nsE e).elim | exact (snE e).elim | exact (ftE e).elim | cases e); exact .inl (mem_lookup q)
    | none => rw [q] at e; exact .inr ⟨e, C1.cin x c (cls x c e)⟩
  refine ⟨⟨C1.wd.gl, fun b o e => kp b o (C1.wd.up b o e), fun a q => ?_, fun a q => ?_⟩, Z.kind, C1.globals, C1.builtins, C1.room, ⟨fun x y c e f => ?_, fun x c e => ?_⟩, fun x c e => ?_, fun x d e => ?_⟩
  · rcases q with (q | q | q | ⟨x, q⟩) | q
    · exact C1.wd.off a q
    · subst q; exact C1.wd.fresh hD.1
    · subst q; exact C1.wd.fresh hC
    · exact C1.wd.fresh (hown x a q).2.1
    · exact C1.wd.fresh (hw a q).1
  · rcases q with (q | q | q | ⟨x, q⟩) | q
    · exact some_keep (C1.wd.held a q) kp
    · subst q; exact hD.2
    · subst q; exact hCl
    · obtain ⟨o, e, _⟩ := (hown x a q).1; rw [e]; rfl
    · exact (hw a q).2
  · rcases both x c e with a | ⟨a, a'⟩ <;> rcases both y c f with b | ⟨b, b'⟩
    · exact name_of_addr hap a b
    · exact (gone (hown x c a).2.1 b').elim
    · exact (gone (hown y c b).2.1 a').elim
    · exact C1.sep.1 x y c (cls x c a) (cls y c b)
  · rcases both x c e with a | ⟨a, a'⟩
    · exact (hown x c a).2.2
    · intro q
      have : c = C := q
      rw [this] at a'; exact gone hC a'
  · rcases both x c e with a | ⟨a, a'⟩
    · obtain ⟨o, e, _⟩ := (hown x c a).1; rw [e]; rfl
    · exact some_keep a' kp
  · have e' : (if scope.names.lookup x = some .free then Γ.ρ x else none) = some d := e
    by_cases hf : scope.names.lookup x = some .free
    · rw [if_pos hf] at e'
      obtain ⟨v, hv, r⟩ := C1.vars x d e'
      refine ⟨v, ?_, (r.avoid (S' := ((Γ.comp scope Da C own).plus wr).S) fun b q => ?_).keep kp⟩
      · have hfz := Z.free (x, .free) (mem_lookup hf) rfl
        rcases hv with ⟨a, _⟩ | ⟨a, c, l, n⟩
        · exact absurd a hfz.2
        · refine .inr ⟨?_, c, ?_, n.keeps kp⟩
          · show ((compEnvC scope (own ++ clos scope Γ.env) C Γ.env).kindOf x = some .cell ∨ _)
            rw [kind_relabel, hf]
            rcases a with a | ⟨a, b⟩
            · left; simp [C1.kind, a]
            · right; exact ⟨by rw [show ((Γ.comp scope Da C own).plus wr).env = compEnvC scope (own ++ clos scope Γ.env) C Γ.env from rfl, kind_relabel, hf]; simp [a], b⟩
          · show (own ++ clos scope Γ.env).lookup x = some c
            rw [lookup_append]
            have : own.lookup x = none := by
              cases q : own.lookup x with
              | none => rfl
              | some c' =>
                have := nodup_kind Z.nodup (hoc x c' (mem_lookup q)) (mem_lookup hf)
                (first | obtain ⟨_, rfl⟩ := this.atom | exact (nsE this).elim | exact (snE this).elim | exact (ftE this).elim | cases this)
            rw [this]
            exact closL_has scope.names [] x c (fun c' q => nomatch q) l (.inr (mem_lookup hf))
      · rcases q with (q | q | q | ⟨x, q⟩) | q
        · exact .inl q
        · subst q; exact .inr hD.1
        · subst q; exact .inr hC
        · exact .inr (hown x b q).2.1
        · exact .inr (hw b q).1
    · rw [if_neg hf] at e'; (first | obtain ⟨_, rfl⟩ := e'.atom | exact (nsE e').elim | exact (snE e').elim | exact (ftE e').elim | cases e')

theorem comp_slots (Z : ScopeOk Γ scope tg) {h : Heap} {wr : List Addr} {Da C : Addr} {n : Nat} (hns : h.Ns C fun _ => none) (hown : ∀ x c, (x, c) ∈ cellsFrom n scope.names [] → h.IsCell c none) :
    ∀ x ∈ tg, Slot ((Γ.comp scope Da C (cellsFrom n scope.names [])).plus wr) h x := fun x hx => by
  rcases Z.tg x hx with e | e
  · refine .inl ⟨?_, ⟨_, hns⟩, .inl (.inr (.inr (.inl rfl)))⟩
    show (compEnvC scope _ C Γ.env).kindOf x = _
    rw [kind_relabel, e]; rfl
  · have hs := cellsFrom_has scope.names n [] x (.inr (mem_lookup e))
    cases q : (cellsFrom n scope.names []).lookup x with
    | none => rw [q] at hs; (first | obtain ⟨_, rfl⟩ := hs.atom | exact (nsE hs).elim | exact (snE hs).elim | exact (ftE hs).elim | cases hs)
    | some c =>
      refine .inr ⟨?_, c, none, ?_, hown x c (mem_lookup q), .inl (.inr (.inr (.inr ⟨x, mem_lookup q⟩)))⟩
      · show (compEnvC scope _ C Γ.env).kindOf x = _
        rw [kind_relabel, e]; rfl
      · show (cellsFrom n scope.names [] ++ _).lookup x = _
        rw [lookup_append, q]; rfl
end
theorem size_big {Γ : Ctx} {h : Heap} (C : Γ.At h) : 3 < h.objs.size := by
  obtain ⟨mg, o, _, _, e, _⟩ := C.wd.glh.mg
  exact Heap.lt_size e

/-- the start of a comprehension: iterator, gathered object, block -/
theorem comp_core {τ : Type} {P : Addr → τ → (Addr → Prop) → Heap → Prop} (hP : ∀ Da t, AccOk (P Da t) Da) {newAcc : Sem Value} {ob : Obj} (hfree : ob.isFreed = false)
    (hnew : ∀ (M : Model) (A : Around) (s : Shared) (Q : Value → Shared → Prop) (E : Value → Shared → Prop), Q (.ref s.heap.objs.size) { s with heap := s.heap.push ob } → wpAny M A newAcc Q E s)
    (t : Nat → τ) (hP0 : ∀ Da S h, S Da → (Da == sysModules) = false → h.get? Da = some ob → P Da (t 0) S h)
    {Γ : Ctx} {scope : Scope} {tg : List Str} (Z : ScopeOk Γ scope tg) {s₁ : Shared} (C1 : Γ.At s₁.heap) {x : Value} {d : D} {ds : List D} (rx : Γ.R s₁.heap x d) (hit : Iterable d ds)
    {e : Expr} {ip : Pos} {target : Expr} {ifs : List Expr} {kt : Addr → Addr → Ctx → Sem Fin} {R : Value → Addr → Result → Shared → Prop} {E : Value → Shared → Prop}
    (hstart : ∀ {A : Around} {R : Result → Shared → Prop} {s : Shared} {it acc : Value} {env : Env}, codeAny (model Γ.prog Γ.w) A (.compLoop e 0 it acc env) R s → wpAny (model Γ.prog Γ.w) A (pyIter it) (fun it' s' => codeAny (model Γ.prog Γ.w) A (.compLoop e 0 it' acc env) R s') (notedBy (model Γ.prog Γ.w) A env fun x s' => R (.error x) s') s → codeAny (model Γ.prog Γ.w) A (.compStart e 0 it acc env) R s)
    (hq : ∀ it acc env, (Code.compLoop e 0 it acc env).quiet = true) (hun : ∀ (A : Around) it acc env, A.under (.compLoop e 0 it acc env) = A)
    (hden : ∀ I Da C own, (model Γ.prog Γ.w).den (.compLoop e 0 (.ref I) (.ref Da) (Γ.comp scope Da C own).env) =
      (turnAt ip target ifs (Γ.comp scope Da C own).env (kt I Da (Γ.comp scope Da C own)) (again (.compLoop e 0 (.ref I) (.ref Da) (Γ.comp scope Da C own).env)) (.ref I)).onRaise (fun x => do noteFrame x (Γ.comp scope Da C own).env; theTreesLotGoes x))
    (turn : ∀ (I Da C : Addr) (own : List (Str × Addr)) (fp wr : List Addr), Lay ((Γ.comp scope Da C own).plus wr) tg Da (fun _ => False) s₁.heap → Da ∉ fp → (∀ b ∈ wr, b ∈ fp) → (∀ x ∈ tg, ∀ c, (Γ.comp scope Da C own).env.cells.lookup x = some c → c ∉ fp) → C ∉ fp → (∀ x ∈ tg, ∀ c, (Γ.comp scope Da C own).env.cells.lookup x = some c → (Γ.comp scope Da C own).S c) → ∀ k d, ds[k]? = some d → ∃ bs ok, Bnd target d bs ∧ (∀ b ∈ bs, b.1 ∈ tg) ∧ TestsOk (((Γ.comp scope Da C own).plus wr).setAll bs) ifs ok ∧ (ok = false → t (k + 1) = t k) ∧
      (ok = true → ∀ s, Cst (((Γ.comp scope Da C own).plus wr).setAll bs) tg (fun _ => False) s₁.heap (P Da (t k)) s₁ s →
        wpAny (model Γ.prog Γ.w) Γ.A (kt I Da (Γ.comp scope Da C own)) (fun fin s' => fin = .again (.compLoop e 0 (.ref I) (.ref Da) (Γ.comp scope Da C own).env) ∧ Cst (((Γ.comp scope Da C own).plus wr).setAll bs) tg (fun _ => False) s₁.heap (P Da (t (k + 1))) s₁ s' ∧ ∀ b ∈ fp, ∀ o, s.heap.get? b = some o → s'.heap.get? b = some o) (fun _ _ => False) s))
    (fin : ∀ Da C own s', s₁.heap.get? C = none → s₁.heap.get? Da = none → Da ≠ C → Cst (Γ.comp scope Da C own) tg (fun _ => False) s₁.heap (P Da (t ds.length)) s₁ s' → R (.ref Da) C (.ok .next) s') :
    wpAny (model Γ.prog Γ.w) Γ.A (pyIter x) (fun it s₂ => wpAny (model Γ.prog Γ.w) Γ.A newAcc (fun acc s₃ => wpAny (model Γ.prog Γ.w) Γ.A (newFunctionEnv scope Γ.env.globals (clos scope Γ.env) [] Γ.env.qual none .none (some Γ.env)) (fun cenv s₄ =>
      codeAny (model Γ.prog Γ.w) Γ.A (.compStart e 0 it acc { cenv with scope := relabel scope Γ.env }) (R acc cenv.locals) s₄) E s₃) E s₂) E s₁ := by
  refine hit _ _ _ _ _ _ _ _ C1.room.1 rx fun I fp wr St s₂ k₂ T st hfp hwr _ => ?_
  have C2 := C1.go k₂
  refine hnew _ _ _ _ _ (wpAny_newFunctionEnv_comp ?_)
  have hz3 : ({ s₂ with heap := s₂.heap.push ob } : Shared).heap.objs.size = s₂.heap.objs.size + 1 := Heap.size_push ..
  rw [hz3]
  generalize hDa : s₂.heap.objs.size = Da
  generalize hCa : Da + 1 = C
  have hC : C = ({ s₂ with heap := s₂.heap.push ob } : Shared).heap.objs.size := by rw [hz3, hDa, hCa]
  have okc := cellsFrom_ok scope.names ((s₂.heap.push ob).push { cls := .type "dict", data := .dict #[] }) (C + 1) [] ⟨fun _ _ hm => (nomatch hm), List.Pairwise.nil⟩ (by rw [Heap.size_push, Heap.size_push, hDa]; omega)
  have hsz4 : ((s₂.heap.push ob).push { cls := .type "dict", data := .dict #[] }).objs.size = C + 1 := by rw [Heap.size_push, Heap.size_push, hDa]; omega
  rw [hsz4] at okc
  generalize hown : cellsFrom (C + 1) scope.names [] = own at okc
  generalize hH : pushCells ((s₂.heap.push ob).push { cls := .type "dict", data := .dict #[] }) scope.names = H at okc
  have kp23 : ∀ b o, s₂.heap.get? b = some o → H.get? b = some o := fun b o q => by rw [← hH]; exact pushCells_keeps _ _ _ _ (Heap.get?_push_of_some _ (Heap.get?_push_of_some _ q))
  have kp : ∀ b o, s₁.heap.get? b = some o → H.get? b = some o := fun b o q => kp23 b o (k₂.k b o q)
  have unused : ∀ b : Nat, s₂.heap.objs.size ≤ b → s₁.heap.get? b = none := fun b hb => by
    cases q : s₁.heap.get? b with
    | none => rfl
    | some o => exact absurd (Heap.lt_size (k₂.k b o q)) (Nat.not_lt.mpr hb)
  have hDob : H.get? Da = some ob := by rw [← hH]; exact pushCells_keeps _ _ _ _ (Heap.get?_push_of_some _ (by rw [← hDa]; exact Heap.get?_push_size _ hfree))
  have hns : H.Ns C fun _ => none := by
    rw [← hH, hC]
    exact (Heap.Ns.new _ _).keeps (pushCells_keeps _ _)
  have okc2 : ∀ (x : Str) (c : Nat), (x, c) ∈ own → C + 1 ≤ c := fun x c m => (okc.empty x c m).2
  have hfp' : ∀ b : Nat, b ∈ fp → b < s₂.heap.objs.size := hfp
  have hownf : ∀ (x : Str) (c : Nat), (x, c) ∈ own → H.IsCell c none ∧ s₁.heap.get? c = none ∧ c ≠ C := fun x c m => by
    have b := okc2 x c m
    exact ⟨(okc.empty x c m).1, unused c (by omega), by show (c : Nat) ≠ C; omega⟩
  have hDn : s₁.heap.get? Da = none := unused Da (by omega)
  have hCn : s₁.heap.get? C = none := unused C (by omega)
  have hlive : ∀ b ∈ wr, (H.get? b).isSome = true := fun b hb => some_keep (T.live 0 _ st b hb) kp23
  have hDC : Da ≠ C := by omega
  have hfpD : Da ∉ fp := fun m => by have := hfp' _ m; omega
  have hfpC : C ∉ fp := fun m => by have := hfp' _ m; omega
  have hcellsE : ∀ x c, (Γ.comp scope Da C own).env.cells.lookup x = some c → (x, c) ∈ own ∨ (Γ.env.cells.lookup x = some c ∧ (s₁.heap.get? c).isSome = true) := fun x c e => by
    have e' : (own ++ clos scope Γ.env).lookup x = some c := e
    rw [lookup_append] at e'
    cases q : own.lookup x with
    | some c' => rw [q] at e'; (first | obtain ⟨_, rfl⟩ := e'.atom | exact (nsE e').elim | exact (snE e').elim | exact (ftE e').elim | cases e'); exact .inl (mem_lookup q)
    | none =>
      rw [q] at e'
      have : Γ.env.cells.lookup x = some c := (closL_sub scope.names [] x c e').elim (fun q => nomatch q) id
      exact .inr ⟨this, C1.cin x c this⟩
  have hcap : ∀ x c, (Γ.comp scope Da C own).env.cells.lookup x = some c → c ∉ wr := fun x c e m => by
    rcases hcellsE x c e with a | ⟨_, a⟩
    · have h1 := okc2 x c a
      have h2 := hfp' c (T.sub _ m)
      omega
    · rw [hwr c m] at a; (first | obtain ⟨_, rfl⟩ := a.atom | exact (nsE a).elim | exact (snE a).elim | exact (ftE a).elim | cases a)
  have hat : ((Γ.comp scope Da C own).plus wr).At H := comp_at Z C1 kp (fun b hb => ⟨hwr b hb, hlive b hb⟩) ⟨hDn, by rw [hDob]; rfl⟩ hCn hns hownf okc.apart (fun x c m => own_cell scope.names (C + 1) x c (by rw [hown]; exact m))
  have hsl : ∀ x ∈ tg, Slot ((Γ.comp scope Da C own).plus wr) H x := by
    have := comp_slots (Γ := Γ) (wr := wr) (Da := Da) (n := C + 1) Z hns (fun x c m => (hownf x c (by rw [hown] at m; exact m)).1)
    rw [hown] at this; exact this
  have hmod : (Da == sysModules) = false := by
    have := size_big C2
    have e : sysModules = 1 := rfl
    rw [e]
    exact beq_eq_false_iff_ne.mpr (by omega)
  have hcellsT : ∀ x ∈ tg, ∀ c, (Γ.comp scope Da C own).env.cells.lookup x = some c → (x, c) ∈ own := fun x hx c e => by
    have e' : (own ++ clos scope Γ.env).lookup x = some c := e
    rw [lookup_append] at e'
    cases q : own.lookup x with
    | some c' => rw [q] at e'; (first | obtain ⟨_, rfl⟩ := e'.atom | exact (nsE e').elim | exact (snE e').elim | exact (ftE e').elim | cases e'); exact mem_lookup q
    | none =>
      exfalso
      rw [q] at e'
      have hf := (closL_free scope.names [] x c e').elim (fun q => nomatch q) id
      rcases Z.tg x hx with hk | hk <;> cases nodup_kind Z.nodup hf (mem_lookup hk)
  have hfpT : ∀ x ∈ tg, ∀ c, (Γ.comp scope Da C own).env.cells.lookup x = some c → c ∉ fp := fun x hx c e m => by
    have h1 := okc2 x c (hcellsT x hx c e)
    have h2 := hfp' c m
    omega
  have hcD : ∀ x, (Γ.comp scope Da C own).env.cells.lookup x ≠ some Da := by
    intro x q
    rcases hcellsE x Da q with a | ⟨_, a⟩
    · have := okc2 x Da a; omega
    · rw [hDn] at a; (first | obtain ⟨_, rfl⟩ := a.atom | exact (nsE a).elim | exact (snE a).elim | exact (ftE a).elim | cases a)
  have L : Lay (Γ.comp scope Da C own) tg Da (fun _ => False) s₁.heap := ⟨hDC, hcD, .inr hCn, fun x hx c q => .inr (hownf x c (hcellsT x hx c q)).2.1, .inr hDn⟩
  have loop : codeAny (model Γ.prog Γ.w) Γ.A (.compLoop e 0 (.ref I) (.ref Da) (Γ.comp scope Da C own).env) (R (.ref Da) C) { s₂ with heap := H } := by
    refine loop_rule (Γ := Γ.comp scope Da C own) (hP Da) L (hq _ _ _) (hden I Da C own) (hun _ _ _ _) T (fun b q => ?_) (fun h q => fun b o _ e => q b o id e) hfpC (fun x hx c q => ?_) hfpD (fun b hb => .inr (hwr b hb)) (fun b hb q => ?_) hcap t
      (fun k d hd => ?_) ⟨⟨k₂.1.1, k₂.1.2⟩, fun b o _ q => kp b o q, hat, hsl, hP0 Da _ H (.inl (.inr (.inl rfl))) hmod hDob, ⟨_, hns⟩⟩ (T.frame _ _ _ st fun b _ o q => kp23 b o q) (fun s' c => fin Da C own s' hCn hDn hDC c)
    · rcases q with (q | q | q | ⟨x, q⟩) | q
      · exact .inl q
      · subst q; exact .inr hDn
      · subst q; exact .inr hCn
      · exact .inr (hownf x b q).2.1
      · exact .inr (hwr b q)
    · exact hfpT x hx c q
    · have hb' := hwr b hb
      have hbf := hfp' b (T.sub b hb)
      rcases q with q | q | q | ⟨x, q⟩
      · have := C1.wd.held b q; rw [hb'] at this; (first | obtain ⟨_, rfl⟩ := this.atom | exact (nsE this).elim | exact (snE this).elim | exact (ftE this).elim | cases this)
      · have q : @Eq Nat b Da := q
        omega
      · have q : @Eq Nat b C := q
        omega
      · have := okc2 x b q; omega
    · obtain ⟨bs, ok, h1, h2, h3, h4, h5⟩ := turn I Da C own fp wr ⟨L.dl, L.dc, L.fl, L.fc, L.fd⟩ hfpD T.sub hfpT hfpC (fun x hx c e => .inr (.inr (.inr ⟨x, hcellsT x hx c e⟩))) k d hd
      refine ⟨bs, ok, h1, fun b hb => ⟨h2 b hb, ?_⟩, h3, h4, h5⟩
      show (if scope.names.lookup b.1 = some .free then Γ.ρ b.1 else none) = none
      rcases Z.tg b.1 (h2 b hb) with hk | hk <;> rw [hk] <;> rfl
  exact hstart loop (T.self 0 _ _ _ (T.frame _ _ _ st fun b _ o q => kp23 b o q) loop)
-- part PL10
/-- a new list, whose address nothing else knows -/
inductive NewL (Γ : Ctx) (h₀ : Heap) (ds : List D) (v : Value) (h : Heap) : Prop
  | mk (a : Addr) (vs : List Value) (e : v = .ref a) (n : h₀.get? a = none) (hl : h.PlainList a vs.toArray) (rs : RepAll Γ.prog Γ.w (fun b => Γ.S b ∨ b = a) h vs ds) : NewL Γ h₀ ds v h
/-- a new dict -/
inductive NewD {K : Type} [DecidableEq K] (Γ : Ctx) (knd : KeyKind Γ.prog Γ.w K) (h₀ : Heap) (kvs : List (K × Int)) (v : Value) (h : Heap) : Prop
  | mk (a : Addr) (us : List (K × Value)) (e : v = .ref a) (n : h₀.get? a = none) (m : (a == sysModules) = false) (hd : h.DictOf knd a us) (hk : KV us kvs) : NewD Γ knd h₀ kvs v h
theorem NewL.rep {Γ : Ctx} {h₀ h : Heap} {ds : List D} {v : Value} (x : NewL Γ h₀ ds v h) (held : ∀ a, Γ.S a → (h₀.get? a).isSome = true) : Γ.R h v (.list ds) := by
  obtain ⟨a, vs, rfl, hn, hl, rs⟩ := x
  exact .list (not_held held hn) hl (rs.less fun b q => .inl q)
structure EvNL (Γ : Ctx) (e : Expr) (ds : List D) : Prop where
  run : ∀ s, Γ.At s.heap → Tr Γ (eval e Γ.env) (NewL Γ s.heap ds) s
structure EvND {K : Type} [DecidableEq K] (Γ : Ctx) (knd : KeyKind Γ.prog Γ.w K) (e : Expr) (kvs : List (K × Int)) : Prop where
  run : ∀ s, Γ.At s.heap → Tr Γ (eval e Γ.env) (NewD Γ knd s.heap kvs) s
theorem EvNL.ev {Γ : Ctx} {e : Expr} {ds : List D} (h : EvNL Γ e ds) : Ev Γ e (.list ds) := .mk fun s C => (h.run s C).mono fun _ _ q => q.rep C.wd.held
/-- the context of a turn of a comprehension -/
noncomputable abbrev Ctx.cx (Γ : Ctx) (scope : Scope) (bs : List (Str × D)) (Da C : Addr) (own : List (Str × Addr)) (wr : List Addr) : Ctx := ((Γ.comp scope Da C own).plus wr).setAll bs

theorem lay_setAll {Γ : Ctx} {bs : List (Str × D)} {tg : List Str} {Da : Addr} {Sr : Addr → Prop} {hr : Heap} (L : Lay Γ tg Da Sr hr) : Lay (Γ.setAll bs) tg Da Sr hr := by
  obtain ⟨e1, -⟩ := setAll_env bs Γ
  obtain ⟨a, b, c, d, e⟩ := L
  refine ⟨?_, ?_, ?_, ?_, e⟩
  · rw [e1]; exact a
  · rw [e1]; exact b
  · rw [e1]; exact c
  · rw [e1]; exact d

section
variable {Γ : Ctx} {scope : Scope} {tg : List Str} {s₁ s' : Shared} {Da C : Addr} {own : List (Str × Addr)}

theorem comp_end {P : (Addr → Prop) → Heap → Prop} (hC : s₁.heap.get? C = none) (c : Cst (Γ.comp scope Da C own) tg (fun _ => False) s₁.heap P s₁ s') :
    ∃ m, s'.heap.Ns C m ∧ ∀ h', Heap.SameBut C s'.heap h' → Kp s₁ { s' with heap := h' } ∧ Ext (Γ.comp scope Da C own).S s'.heap h' := by
  obtain ⟨m, hm⟩ := c.ns
  refine ⟨m, hm, fun h' hs => ⟨?_, fun b o hb e => hs.extBut b o (fun q => hb (.inr (.inr (.inl q)))) e⟩⟩
  exact ⟨⟨c.same.1, c.same.2⟩, fun b o e => hs.extBut b o (fun q => by rw [q, hC] at e; (first | obtain ⟨_, rfl⟩ := e.atom | exact (nsE e).elim | exact (snE e).elim | exact (ftE e).elim | cases e)) (c.ext b o id e)⟩

theorem newL_of {outs : List D} {h' : Heap} (hDn : s₁.heap.get? Da = none) (hDC : Da ≠ C) (hs : Heap.SameBut C s'.heap h') (hx : Ext (Γ.comp scope Da C own).S s'.heap h') (a : AccL Γ.prog Γ.w Da outs (Γ.comp scope Da C own).S s'.heap) : NewL Γ s₁.heap outs (.ref Da) h' := by
  obtain ⟨_, vs, hl, rs⟩ := a
  exact ⟨Da, vs, rfl, hDn, hl.at fun o e => hs.extBut Da o hDC e, (rs.ext hx).less fun b q => q.elim .inl fun e => .inr (.inl e)⟩
end

theorem scope_names {Γ : Ctx} {scope : Scope} {tg : List Str} (Z : ScopeOk Γ scope tg) : ∀ x ∈ scope.names, x.2 = .local → scope.names.lookup x.1 = some .local := fun x hx e => lookup_mem Z.nodup (by rw [← e]; exact hx)
theorem scope_clos {Γ : Ctx} {scope : Scope} {tg : List Str} (Z : ScopeOk Γ scope tg) : closureFor scope Γ.env = pure (clos scope Γ.env) := closure_is fun p hp e => (Z.free p hp e).1

noncomputable def pickOut {τ : Type} (p : τ → Bool) (g : τ → D) (xs : List τ) : List D := (xs.filter p).map g
theorem pickOut_len {τ : Type} (p : τ → Bool) (g : τ → D) (xs : List τ) : (pickOut p g xs).length ≤ xs.length := by unfold pickOut; rw [List.length_map]; exact List.length_filter_le ..
theorem pickOut_take {τ : Type} (p : τ → Bool) (g : τ → D) (xs : List τ) (k : Nat) (x : τ) (h : xs[k]? = some x) : pickOut p g (xs.take (k + 1)) = pickOut p g (xs.take k) ++ (if p x = true then [g x] else []) := by
  unfold pickOut
  rw [List.take_add_one, h, List.filter_append, List.map_append]
  by_cases e : p x = true
  · simp [e]
  · simp [e]

theorem hden_list1 {Γ : Ctx} {elt target iter : Expr} {ifs : List Expr} {scope sc : Scope} {pos : Pos} (I Da C : Addr) (own : List (Str × Addr)) :
    (model Γ.prog Γ.w).den (.compLoop (.ListComp elt [⟨target, iter, ifs, 0⟩] sc pos) 0 (.ref I) (.ref Da) (Γ.comp scope Da C own).env) =
      (turnAt iter.pos target ifs (Γ.comp scope Da C own).env (emitL elt (.ref Da) (Γ.comp scope Da C own).env >>= fun _ => again (.compLoop (.ListComp elt [⟨target, iter, ifs, 0⟩] sc pos) 0 (.ref I) (.ref Da) (Γ.comp scope Da C own).env))
        (again (.compLoop (.ListComp elt [⟨target, iter, ifs, 0⟩] sc pos) 0 (.ref I) (.ref Da) (Γ.comp scope Da C own).env)) (.ref I)).onRaise (fun x => do noteFrame x (Γ.comp scope Da C own).env; theTreesLotGoes x) := by
  rw [← turn_list1 elt target iter ifs sc pos]; rfl

/-- the heart of a list comprehension with one clause: whatever is made of the list -/
theorem listcomp_use {τ : Type} {xs : List τ} {inj : τ → D} {bs : τ → List (Str × D)} {p : τ → Bool} {g : τ → D} {Γ : Ctx} {scope : Scope} {tg : List Str} {d : D} {iter elt target : Expr} {ifs : List Expr} {pos : Pos}
    (hi : Ev Γ iter d) (hit : Iterable d (xs.map inj)) (Z : ScopeOk Γ scope tg) (hsz : xs.length ≤ sizeLine)
    (hb : ∀ x ∈ xs, Bnd target (inj x) (bs x)) (hn : ∀ x ∈ xs, ∀ b ∈ bs x, b.1 ∈ tg)
    (ht : ∀ x ∈ xs, ∀ Da C own wr, TestsOk (Γ.cx scope (bs x) Da C own wr) ifs (p x))
    (he : ∀ x ∈ xs, p x = true → ∀ Da C own wr, Ev (Γ.cx scope (bs x) Da C own wr) elt (g x))
    {use : Option (Value → Sem Unit)} {Q : Value → Shared → Prop} {s : Shared} (hC : Γ.At s.heap)
    (fin : ∀ s₁ Da C own s', Kp s s₁ → Γ.At s₁.heap → s₁.heap.get? C = none → s₁.heap.get? Da = none → Da ≠ C → Cst (Γ.comp scope Da C own) tg (fun _ => False) s₁.heap (AccL Γ.prog Γ.w Da (pickOut p g xs)) s₁ s' →
      compPost (model Γ.prog Γ.w) Γ.A (fun _ _ => False) use Q (.ref Da) C (.ok .next) s')
    (hs : ∀ x, foldedSetIterable iter Γ.env x = pure x := by intro _; rfl) :
    wpAny (model Γ.prog Γ.w) Γ.A (comprehension (.ListComp elt [⟨target, iter, ifs, 0⟩] scope pos) scope Γ.env (firstIterPos [⟨target, iter, ifs, 0⟩] pos) (newList []) false (eval iter Γ.env) use) Q (fun _ _ => False) s := by
  refine wpAny_comprehension_free rfl hs (scope_clos Z) Z.kind (scope_names Z) ((hi.run s hC).then' fun xv s₁ k₁ r₁ => ?_)
  have C1 := hC.go k₁
  refine comp_core (P := fun Da t => AccL Γ.prog Γ.w Da t) (fun Da t => accL_ok) (ob := { cls := .type "list", data := .seq ([] : List Value).toArray }) rfl
    (fun M A s Q E q => wpAny_newObj_type q) (fun k => pickOut p g (xs.take k)) (fun Da S h hS _ e => ⟨hS, [], ⟨0, e⟩, ?_⟩) Z C1 r₁ hit (ip := iter.pos) (target := target) (ifs := ifs)
    (kt := fun I Da Γ' => emitL elt (.ref Da) Γ'.env >>= fun _ => again (.compLoop (.ListComp elt [⟨target, iter, ifs, 0⟩] scope pos) 0 (.ref I) (.ref Da) Γ'.env))
    (fun h h' => codeAny_compStart_list h h') (fun _ _ _ => rfl) (fun _ _ _ _ => rfl) ?_ ?_ ?_
  · rw [List.take_zero]; exact .nil
  · exact fun I Da C own => hden_list1 I Da C own
  · intro I Da C own fp wr L hfd _ _ _ _ k d hd
    rw [List.getElem?_map] at hd
    cases hx : xs[k]? with
    | none => rw [hx] at hd; (first | obtain ⟨_, rfl⟩ := hd.atom | exact (nsE hd).elim | exact (snE hd).elim | exact (ftE hd).elim | cases hd)
    | some x =>
      rw [hx] at hd
      (first | obtain ⟨_, rfl⟩ := hd.atom | exact (nsE hd).elim | exact (snE hd).elim | exact (ftE hd).elim | cases hd)
      have hm : x ∈ xs := List.mem_of_getElem? hx
      refine ⟨bs x, p x, hb x hm, hn x hm, ht x hm Da C own wr, fun e => ?_, fun e s c => ?_⟩
      · show pickOut p g (xs.take (k + 1)) = _
        rw [pickOut_take p g xs k x hx, e]; simp
      · have e2 : pickOut p g (xs.take (k + 1)) = pickOut p g (xs.take k) ++ [g x] := by rw [pickOut_take p g xs k x hx, e]; simp
        show wpAny _ _ _ (fun fin s' => fin = _ ∧ Cst _ tg _ s₁.heap (AccL Γ.prog Γ.w Da (pickOut p g (xs.take (k + 1)))) s₁ s' ∧ _) _ s
        rw [e2]
        obtain ⟨e1, -, e3, e4, e5, -⟩ := setAll_env (bs x) ((Γ.comp scope Da C own).plus wr)
        have := emitL_rule (c := .compLoop (.ListComp elt [⟨target, iter, ifs, 0⟩] scope pos) 0 (.ref I) (.ref Da) (Γ.comp scope Da C own).env) (fp := fp) (Γ := Γ.cx scope (bs x) Da C own wr) (y := g x) (elt := elt) (outs := pickOut p g (xs.take k)) (lay_setAll L) hfd
          (by rw [e3, e4]; exact c) (he x hm e Da C own wr) (Nat.le_trans (pickOut_len p g _) (Nat.le_trans (by rw [List.length_take]; exact Nat.min_le_right ..) hsz))
        rw [e1, e3, e4, e5] at this
        exact this
  · intro Da C own s' h1 h2 h3 c
    refine fin s₁ Da C own s' k₁ C1 h1 h2 h3 ?_
    have : (xs.map inj).length = xs.length := List.length_map ..
    rw [this, List.take_length] at c
    exact c

theorem ev_listcomp {τ : Type} {xs : List τ} {inj : τ → D} {bs : τ → List (Str × D)} {p : τ → Bool} {g : τ → D} {Γ : Ctx} {scope : Scope} {tg : List Str} {d : D} {iter elt target : Expr} {ifs : List Expr} {pos : Pos}
    (hi : Ev Γ iter d) (hit : Iterable d (xs.map inj)) (Z : ScopeOk Γ scope tg) (hsz : xs.length ≤ sizeLine)
    (hb : ∀ x ∈ xs, Bnd target (inj x) (bs x)) (hn : ∀ x ∈ xs, ∀ b ∈ bs x, b.1 ∈ tg)
    (ht : ∀ x ∈ xs, ∀ Da C own wr, TestsOk (Γ.cx scope (bs x) Da C own wr) ifs (p x))
    (he : ∀ x ∈ xs, p x = true → ∀ Da C own wr, Ev (Γ.cx scope (bs x) Da C own wr) elt (g x))
    (hs : ∀ x, foldedSetIterable iter Γ.env x = pure x := by intro _; rfl) : EvNL Γ (.ListComp elt [⟨target, iter, ifs, 0⟩] scope pos) (pickOut p g xs) := .mk fun s hC => by
  unfold Tr
  rw [eval_ListComp]
  refine listcomp_use (use := none) hi hit Z hsz hb hn ht he hC (fun s₁ Da C own s' k₁ C1 h1 h2 h3 c => ?_) hs
  obtain ⟨m, hm, hk⟩ := comp_end h1 c
  refine ⟨m, hm, fun h' hs' => ?_⟩
  obtain ⟨k, hx⟩ := hk h' hs'
  have := newL_of h2 h3 hs' hx c.acc
  obtain ⟨a, vs, e, hn, r, r2⟩ := this
  refine ⟨k₁.trans k, a, vs, e, ?_, r, r2⟩
  cases q : s.heap.get? a with
  | none => rfl
  | some o => rw [k₁.k a o q] at hn; (first | obtain ⟨_, rfl⟩ := hn.atom | exact (nsE hn).elim | exact (snE hn).elim | exact (ftE hn).elim | cases hn)
-- part PL11
noncomputable def kvOut {τ K : Type} [DecidableEq K] (p : τ → Bool) (gk : τ → K) (gv : τ → Int) (xs : List τ) : List (K × Int) := (xs.filter p).foldl (fun acc x => put acc (gk x) (gv x)) []
theorem put_len {K : Type} [DecidableEq K] (kvs : List (K × Int)) (k : K) (i : Int) : (put kvs k i).length ≤ kvs.length + 1 := by
  unfold put; split <;> simp
theorem foldl_put_len {τ K : Type} [DecidableEq K] (gk : τ → K) (gv : τ → Int) : ∀ (xs : List τ) (acc : List (K × Int)), (xs.foldl (fun acc x => put acc (gk x) (gv x)) acc).length ≤ acc.length + xs.length
  | [], acc => Nat.le_refl _
  | x :: r, acc => by
    have a := foldl_put_len gk gv r (put acc (gk x) (gv x))
    have b := put_len acc (gk x) (gv x)
    simp only [List.foldl_cons, List.length_cons]; omega
theorem kvOut_len {τ K : Type} [DecidableEq K] (p : τ → Bool) (gk : τ → K) (gv : τ → Int) (xs : List τ) : (kvOut p gk gv xs).length ≤ xs.length := by
  have := foldl_put_len gk gv (xs.filter p) []
  have b := List.length_filter_le p xs
  unfold kvOut; simp only [List.length_nil] at this; omega
theorem kvOut_take {τ K : Type} [DecidableEq K] (p : τ → Bool) (gk : τ → K) (gv : τ → Int) (xs : List τ) (k : Nat) (x : τ) (h : xs[k]? = some x) :
    kvOut p gk gv (xs.take (k + 1)) = if p x = true then put (kvOut p gk gv (xs.take k)) (gk x) (gv x) else kvOut p gk gv (xs.take k) := by
  unfold kvOut
  rw [List.take_add_one, h, List.filter_append, List.foldl_append]
  by_cases e : p x = true
  · simp [e]
  · simp [e]
/-- no key comes twice -/
theorem put_new {K : Type} [DecidableEq K] {kvs : List (K × Int)} {k : K} {i : Int} (h : k ∉ kvs.map (·.1)) : put kvs k i = kvs ++ [(k, i)] := by
  unfold put
  rw [if_neg]
  simp only [List.any_eq_true, decide_eq_true_eq, not_exists, not_and]
  intro x hx e
  exact h (List.mem_map.mpr ⟨x, hx, e⟩)
theorem foldl_put_new {τ K : Type} [DecidableEq K] (gk : τ → K) (gv : τ → Int) : ∀ (xs : List τ) (acc : List (K × Int)), (acc.map (·.1) ++ xs.map gk).Nodup → xs.foldl (fun acc x => put acc (gk x) (gv x)) acc = acc ++ xs.map fun x => (gk x, gv x)
  | [], acc, _ => by simp
  | x :: r, acc, h => by
    have hx : gk x ∉ acc.map (·.1) := fun m => by
      rw [List.nodup_append] at h
      exact h.2.2 _ m _ (by simp) rfl
    rw [List.foldl_cons, put_new hx, foldl_put_new gk gv r _ (by simpa using h)]
    simp
theorem kvOut_new {τ K : Type} [DecidableEq K] {p : τ → Bool} {gk : τ → K} {gv : τ → Int} {xs : List τ} (h : ((xs.filter p).map gk).Nodup) : kvOut p gk gv xs = (xs.filter p).map fun x => (gk x, gv x) := by
  unfold kvOut; rw [foldl_put_new gk gv _ [] (by simpa using h)]; simp

theorem hden_dict1 {Γ : Ctx} {kx vx target iter : Expr} {ifs : List Expr} {scope sc : Scope} {pos : Pos} (I Da C : Addr) (own : List (Str × Addr)) :
    (model Γ.prog Γ.w).den (.compLoop (.DictComp kx vx [⟨target, iter, ifs, 0⟩] sc pos) 0 (.ref I) (.ref Da) (Γ.comp scope Da C own).env) =
      (turnAt iter.pos target ifs (Γ.comp scope Da C own).env (emitD kx vx Da (Γ.comp scope Da C own).env >>= fun _ => again (.compLoop (.DictComp kx vx [⟨target, iter, ifs, 0⟩] sc pos) 0 (.ref I) (.ref Da) (Γ.comp scope Da C own).env))
        (again (.compLoop (.DictComp kx vx [⟨target, iter, ifs, 0⟩] sc pos) 0 (.ref I) (.ref Da) (Γ.comp scope Da C own).env)) (.ref I)).onRaise (fun x => do noteFrame x (Γ.comp scope Da C own).env; theTreesLotGoes x) := by
  rw [← turn_dict1 kx vx target iter ifs sc pos]; rfl

theorem dictcomp_use {K : Type} [DecidableEq K] {Γ : Ctx} {knd : KeyKind Γ.prog Γ.w K} {τ : Type} {xs : List τ} {inj : τ → D} {bs : τ → List (Str × D)} {p : τ → Bool} {gk : τ → K} {dk : τ → D} {gv : τ → Int} {scope : Scope} {tg : List Str} {d : D} {iter kx vx target : Expr} {ifs : List Expr} {pos : Pos}
    (hi : Ev Γ iter d) (hit : Iterable d (xs.map inj)) (Z : ScopeOk Γ scope tg) (hsz : xs.length ≤ sizeLine)
    (hb : ∀ x ∈ xs, Bnd target (inj x) (bs x)) (hn : ∀ x ∈ xs, ∀ b ∈ bs x, b.1 ∈ tg)
    (hkey : ∀ x ∈ xs, p x = true → ∀ S h v, Rep Γ.prog Γ.w S h v (dk x) → knd.is (gk x) v = true)
    (ht : ∀ x ∈ xs, ∀ Da C own wr, TestsOk (Γ.cx scope (bs x) Da C own wr) ifs (p x))
    (he : ∀ x ∈ xs, p x = true → ∀ Da C own wr, Ev (Γ.cx scope (bs x) Da C own wr) kx (dk x))
    (hv : ∀ x ∈ xs, p x = true → ∀ Da C own wr, Ev (Γ.cx scope (bs x) Da C own wr) vx (.int (gv x)))
    {use : Option (Value → Sem Unit)} {Q : Value → Shared → Prop} {s : Shared} (hC : Γ.At s.heap)
    (fin : ∀ s₁ Da C own s', Kp s s₁ → Γ.At s₁.heap → s₁.heap.get? C = none → s₁.heap.get? Da = none → Da ≠ C → Cst (Γ.comp scope Da C own) tg (fun _ => False) s₁.heap (AccD Γ.prog Γ.w knd Da (kvOut p gk gv xs)) s₁ s' →
      compPost (model Γ.prog Γ.w) Γ.A (fun _ _ => False) use Q (.ref Da) C (.ok .next) s')
    (hs : ∀ x, foldedSetIterable iter Γ.env x = pure x := by intro _; rfl) :
    wpAny (model Γ.prog Γ.w) Γ.A (comprehension (.DictComp kx vx [⟨target, iter, ifs, 0⟩] scope pos) scope Γ.env (firstIterPos [⟨target, iter, ifs, 0⟩] pos) newDict false (eval iter Γ.env) use) Q (fun _ _ => False) s := by
  refine wpAny_comprehension_free rfl hs (scope_clos Z) Z.kind (scope_names Z) ((hi.run s hC).then' fun xv s₁ k₁ r₁ => ?_)
  have C1 := hC.go k₁
  refine comp_core (P := fun Da t => AccD Γ.prog Γ.w knd Da t) (fun Da t => accD_ok) (ob := { cls := .type "dict", data := .dict #[] }) rfl
    (fun M A s Q E q => wpAny_newObj_type q) (fun k => kvOut p gk gv (xs.take k)) (fun Da S h hS hm e => ⟨hS, hm, [], ?_, ?_⟩) Z C1 r₁ hit (ip := iter.pos) (target := target) (ifs := ifs)
    (kt := fun I Da Γ' => emitD kx vx Da Γ'.env >>= fun _ => again (.compLoop (.DictComp kx vx [⟨target, iter, ifs, 0⟩] scope pos) 0 (.ref I) (.ref Da) Γ'.env))
    (fun h h' => codeAny_compStart_dict h h') (fun _ _ _ => rfl) (fun _ _ _ _ => rfl) ?_ ?_ ?_
  · exact ⟨_, #[], 0, e, ⟨rfl, rfl, rfl⟩, rfl, by intro x hx; simp at hx, .nil, List.nodup_nil⟩
  · rw [List.take_zero]; exact .nil
  · exact fun I Da C own => hden_dict1 I Da C own
  · intro I Da C own fp wr L hfd _ _ _ _ k d hd
    rw [List.getElem?_map] at hd
    cases hx : xs[k]? with
    | none => rw [hx] at hd; (first | obtain ⟨_, rfl⟩ := hd.atom | exact (nsE hd).elim | exact (snE hd).elim | exact (ftE hd).elim | cases hd)
    | some x =>
      rw [hx] at hd
      (first | obtain ⟨_, rfl⟩ := hd.atom | exact (nsE hd).elim | exact (snE hd).elim | exact (ftE hd).elim | cases hd)
      have hm : x ∈ xs := List.mem_of_getElem? hx
      refine ⟨bs x, p x, hb x hm, hn x hm, ht x hm Da C own wr, fun e => ?_, fun e s c => ?_⟩
      · show kvOut p gk gv (xs.take (k + 1)) = _
        rw [kvOut_take p gk gv xs k x hx, e]; simp
      · have e2 : kvOut p gk gv (xs.take (k + 1)) = put (kvOut p gk gv (xs.take k)) (gk x) (gv x) := by rw [kvOut_take p gk gv xs k x hx, e]; simp
        show wpAny _ _ _ (fun fin s' => fin = _ ∧ Cst _ tg _ s₁.heap (AccD Γ.prog Γ.w knd Da (kvOut p gk gv (xs.take (k + 1)))) s₁ s' ∧ _) _ s
        rw [e2]
        obtain ⟨e1, -, e3, e4, e5, -⟩ := setAll_env (bs x) ((Γ.comp scope Da C own).plus wr)
        have key : ∀ (Γ' : Ctx), Γ'.prog = Γ.prog → Γ'.w = Γ.w → Γ'.A = Γ.A → Γ'.env = (Γ.comp scope Da C own).env → Lay Γ' tg Da (fun _ => False) s₁.heap → Cst Γ' tg (fun _ => False) s₁.heap (AccD Γ.prog Γ.w knd Da (kvOut p gk gv (xs.take k))) s₁ s →
            Ev Γ' kx (dk x) → Ev Γ' vx (.int (gv x)) →
            wpAny (model Γ.prog Γ.w) Γ.A (emitD kx vx Da (Γ.comp scope Da C own).env >>= fun _ => again (.compLoop (.DictComp kx vx [⟨target, iter, ifs, 0⟩] scope pos) 0 (.ref I) (.ref Da) (Γ.comp scope Da C own).env))
              (fun fin s' => fin = .again (.compLoop (.DictComp kx vx [⟨target, iter, ifs, 0⟩] scope pos) 0 (.ref I) (.ref Da) (Γ.comp scope Da C own).env) ∧ Cst Γ' tg (fun _ => False) s₁.heap (AccD Γ.prog Γ.w knd Da (put (kvOut p gk gv (xs.take k)) (gk x) (gv x))) s₁ s' ∧ ∀ b ∈ fp, ∀ o, s.heap.get? b = some o → s'.heap.get? b = some o) (fun _ _ => False) s := by
          rintro ⟨K', prog', w', A', n', base', env', S', ρ'⟩ q1 q2 q3 q4 L' c' h1 h2
          dsimp only at q1 q2 q3 q4
          subst q1 q2 q3 q4
          exact emitD_rule L' hfd c' h1 h2 (hkey x hm e) (Nat.le_trans (kvOut_len p gk gv _) (Nat.le_trans (by rw [List.length_take]; exact Nat.min_le_right ..) hsz))
        exact key (Γ.cx scope (bs x) Da C own wr) e3 e4 e5 e1 (lay_setAll L) c (he x hm e Da C own wr) (hv x hm e Da C own wr)
  · intro Da C own s' h1 h2 h3 c
    refine fin s₁ Da C own s' k₁ C1 h1 h2 h3 ?_
    have : (xs.map inj).length = xs.length := List.length_map ..
    rw [this, List.take_length] at c
    exact c
-- part PL12
theorem hden_list2a {Γ : Ctx} {elt target iter target2 iter2 : Expr} {ifs2 : List Expr} {scope sc : Scope} {pos : Pos} (I Da C : Addr) (own : List (Str × Addr)) :
    (model Γ.prog Γ.w).den (.compLoop (.ListComp elt [⟨target, iter, [], 0⟩, ⟨target2, iter2, ifs2, 0⟩] sc pos) 0 (.ref I) (.ref Da) (Γ.comp scope Da C own).env) =
      (turnAt iter.pos target [] (Γ.comp scope Da C own).env (goIn (.ListComp elt [⟨target, iter, [], 0⟩, ⟨target2, iter2, ifs2, 0⟩] sc pos) 1 iter2 (.ref Da) (Γ.comp scope Da C own).env (again (.compLoop (.ListComp elt [⟨target, iter, [], 0⟩, ⟨target2, iter2, ifs2, 0⟩] sc pos) 0 (.ref I) (.ref Da) (Γ.comp scope Da C own).env)))
        (again (.compLoop (.ListComp elt [⟨target, iter, [], 0⟩, ⟨target2, iter2, ifs2, 0⟩] sc pos) 0 (.ref I) (.ref Da) (Γ.comp scope Da C own).env)) (.ref I)).onRaise (fun x => do noteFrame x (Γ.comp scope Da C own).env; theTreesLotGoes x) := by
  rw [← turn_list2a elt target iter target2 iter2 [] ifs2 sc pos]; rfl
theorem hden_list2b {prog : Program} {w : World} {elt target iter target2 iter2 : Expr} {ifs2 : List Expr} {sc : Scope} {pos : Pos} (I Da : Addr) (env : Env) :
    (model prog w).den (.compLoop (.ListComp elt [⟨target, iter, [], 0⟩, ⟨target2, iter2, ifs2, 0⟩] sc pos) 1 (.ref I) (.ref Da) env) =
      (turnAt iter2.pos target2 ifs2 env (emitL elt (.ref Da) env >>= fun _ => again (.compLoop (.ListComp elt [⟨target, iter, [], 0⟩, ⟨target2, iter2, ifs2, 0⟩] sc pos) 1 (.ref I) (.ref Da) env))
        (again (.compLoop (.ListComp elt [⟨target, iter, [], 0⟩, ⟨target2, iter2, ifs2, 0⟩] sc pos) 1 (.ref I) (.ref Da) env)) (.ref I)).onRaise (fun x => do noteFrame x env; theTreesLotGoes x) := by
  rw [← turn_list2b elt target iter target2 iter2 [] ifs2 sc pos]; rfl

theorem compStart_at1 {prog : Program} {w : World} {A : Around} {R : Result → Shared → Prop} {s : Shared} {elt target iter ifs target2 iter2 ifs2 scope pos it acc env}
    (h0 : codeAny (model prog w) A (.compLoop (.ListComp elt [⟨target, iter, ifs, 0⟩, ⟨target2, iter2, ifs2, 0⟩] scope pos) 1 it acc env) R s)
    (h : wpAny (model prog w) A (pyIter it) (fun it' s' => codeAny (model prog w) A (.compLoop (.ListComp elt [⟨target, iter, ifs, 0⟩, ⟨target2, iter2, ifs2, 0⟩] scope pos) 1 it' acc env) R s')
      (notedBy (model prog w) A env fun x s' => R (.error x) s') s) :
    codeAny (model prog w) A (.compStart (.ListComp elt [⟨target, iter, ifs, 0⟩, ⟨target2, iter2, ifs2, 0⟩] scope pos) 1 it acc env) R s := by
  refine codeAny_of_tree ?_
  show wpAny _ _ ((compStart (.ListComp elt [⟨target, iter, ifs, 0⟩, ⟨target2, iter2, ifs2, 0⟩] scope pos) 1 it acc env).onRaise (fun x => do noteFrame x env; standAt theWindowsPlace)) _ _ s
  refine wpAny_notedAt ?_
  unfold compStart
  show wpAny _ _ (ask >>= _) _ _ s
  refine wpAny_bind (wpAny_askSetting (wpAny_ite ?_))
  split
  · first
      | exact wpAny_bind (wpAny_pure (wpAny_pure (And.intro rfl h0)))
      | exact wpAny_pure (And.intro rfl h0)
  · first
      | exact wpAny_bind (wpAny_rule (wpAny_bind (wpAny_standAt (wpAny_bind (wpAny_mono h (fun it' s' h' => wpAny_pure (And.intro rfl h')) fun _ _ x => x)))))
      | (refine wpAny_bind (wpAny_rule ?_); show wpAny _ _ (standAt iter2.pos >>= _) _ _ s; exact wpAny_bind (wpAny_standAt (wpAny_bind (wpAny_mono h (fun it' s' h' => wpAny_pure (And.intro rfl h')) fun _ _ x => x))))

noncomputable def flatOut {τ σ : Type} (ys : τ → List σ) (p : τ → σ → Bool) (g : τ → σ → D) (xs : List τ) : List D := xs.flatMap fun x => pickOut (p x) (g x) (ys x)
theorem flatOut_take {τ σ : Type} (ys : τ → List σ) (p : τ → σ → Bool) (g : τ → σ → D) (xs : List τ) (k : Nat) (x : τ) (h : xs[k]? = some x) : flatOut ys p g (xs.take (k + 1)) = flatOut ys p g (xs.take k) ++ pickOut (p x) (g x) (ys x) := by
  unfold flatOut
  rw [List.take_add_one, h, List.flatMap_append]
  simp
theorem flatOut_len {τ σ : Type} (ys : τ → List σ) (p : τ → σ → Bool) (g : τ → σ → D) (xs : List τ) (k : Nat) (x : τ) (h : xs[k]? = some x) (j : Nat) :
    (flatOut ys p g (xs.take k) ++ pickOut (p x) (g x) ((ys x).take j)).length ≤ (flatOut ys (fun _ _ => true) g xs).length := by
  have e : xs = xs.take k ++ x :: xs.drop (k + 1) := by
    have hk : k < xs.length := by
      rcases Nat.lt_or_ge k xs.length with q | q
      · exact q
      · rw [List.getElem?_eq_none q] at h; (first | obtain ⟨_, rfl⟩ := h.atom | exact (nsE h).elim | exact (snE h).elim | exact (ftE h).elim | cases h)
    have hx : xs[k] = x := by rw [List.getElem?_eq_getElem hk] at h; exact Option.some.inj h
    rw [← hx]; simp
  have mono : ∀ (l : List τ), (flatOut ys p g l).length ≤ (flatOut ys (fun _ _ => true) g l).length := fun l => by
    induction l with
    | nil => exact Nat.le_refl _
    | cons a l ih =>
      unfold flatOut at ih ⊢
      simp only [List.flatMap_cons, List.length_append]
      have h1 := pickOut_len (p a) (g a) (ys a)
      have h2 : (pickOut (fun _ => true) (g a) (ys a)).length = (ys a).length := by simp [pickOut]
      show (pickOut (p a) (g a) (ys a)).length + (l.flatMap fun x => pickOut (p x) (g x) (ys x)).length ≤ (pickOut (fun _ => true) (g a) (ys a)).length + (l.flatMap fun x => pickOut (fun _ => true) (g x) (ys x)).length
      have ih' : (l.flatMap fun x => pickOut (p x) (g x) (ys x)).length ≤ (l.flatMap fun x => pickOut (fun _ => true) (g x) (ys x)).length := ih
      omega
  have h1 := mono (xs.take k)
  have h2 := pickOut_len (p x) (g x) ((ys x).take j)
  have h3 : (pickOut (fun _ => true) (g x) (ys x)).length = (ys x).length := by simp [pickOut]
  have h4 : ((ys x).take j).length ≤ (ys x).length := by rw [List.length_take]; exact Nat.min_le_right ..
  have h5 : (flatOut ys (fun _ _ => true) g xs).length = (flatOut ys (fun _ _ => true) g (xs.take k)).length + ((pickOut (fun _ => true) (g x) (ys x)).length + (flatOut ys (fun _ _ => true) g (xs.drop (k + 1))).length) := by
    conv => lhs; rw [e]
    unfold flatOut
    rw [List.flatMap_append, List.flatMap_cons, List.length_append, List.length_append]
  rw [List.length_append]
  omega

/-- the heart of a list comprehension with two clauses -/
theorem listcomp2_use {τ σ : Type} {xs : List τ} {inj : τ → D} {bs : τ → List (Str × D)} {ys : τ → List σ} {inj2 : τ → σ → D} {bs2 : τ → σ → List (Str × D)} {p : τ → σ → Bool} {g : τ → σ → D} {d2 : τ → D}
    {Γ : Ctx} {scope : Scope} {tg : List Str} {d : D} {iter elt target iter2 target2 : Expr} {ifs2 : List Expr} {pos : Pos}
    (hi : Ev Γ iter d) (hit : Iterable d (xs.map inj)) (Z : ScopeOk Γ scope tg) (hsz : (flatOut ys (fun _ _ => true) g xs).length ≤ sizeLine)
    (hb : ∀ x ∈ xs, Bnd target (inj x) (bs x)) (hn : ∀ x ∈ xs, ∀ b ∈ bs x, b.1 ∈ tg)
    (hi2 : ∀ x ∈ xs, ∀ Da C own wr, Ev (Γ.cx scope (bs x) Da C own wr) iter2 (d2 x)) (hit2 : ∀ x ∈ xs, Iterable (d2 x) ((ys x).map (inj2 x)))
    (hb2 : ∀ x ∈ xs, ∀ y ∈ ys x, Bnd target2 (inj2 x y) (bs2 x y)) (hn2 : ∀ x ∈ xs, ∀ y ∈ ys x, ∀ b ∈ bs2 x y, b.1 ∈ tg ∧ ∀ c ∈ bs x, c.1 ≠ b.1)
    (ht : ∀ x ∈ xs, ∀ y ∈ ys x, ∀ Da C own wr wr2, TestsOk (((Γ.cx scope (bs x) Da C own wr).plus wr2).setAll (bs2 x y)) ifs2 (p x y))
    (he : ∀ x ∈ xs, ∀ y ∈ ys x, p x y = true → ∀ Da C own wr wr2, Ev (((Γ.cx scope (bs x) Da C own wr).plus wr2).setAll (bs2 x y)) elt (g x y))
    {use : Option (Value → Sem Unit)} {Q : Value → Shared → Prop} {s : Shared} (hC : Γ.At s.heap)
    (fin : ∀ s₁ Da C own s', Kp s s₁ → Γ.At s₁.heap → s₁.heap.get? C = none → s₁.heap.get? Da = none → Da ≠ C → Cst (Γ.comp scope Da C own) tg (fun _ => False) s₁.heap (AccL Γ.prog Γ.w Da (flatOut ys p g xs)) s₁ s' →
      compPost (model Γ.prog Γ.w) Γ.A (fun _ _ => False) use Q (.ref Da) C (.ok .next) s')
    (hs : ∀ x, foldedSetIterable iter Γ.env x = pure x := by intro _; rfl) (hs2 : ∀ env x, foldedSetIterable iter2 env x = pure x := by intro _ _; rfl) :
    wpAny (model Γ.prog Γ.w) Γ.A (comprehension (.ListComp elt [⟨target, iter, [], 0⟩, ⟨target2, iter2, ifs2, 0⟩] scope pos) scope Γ.env (firstIterPos [⟨target, iter, [], 0⟩, ⟨target2, iter2, ifs2, 0⟩] pos) (newList []) false (eval iter Γ.env) use) Q (fun _ _ => False) s := by
  refine wpAny_comprehension_free rfl hs (scope_clos Z) Z.kind (scope_names Z) ((hi.run s hC).then' fun xv s₁ k₁ r₁ => ?_)
  have C1 := hC.go k₁
  refine comp_core (P := fun Da t => AccL Γ.prog Γ.w Da t) (fun Da t => accL_ok) (ob := { cls := .type "list", data := .seq ([] : List Value).toArray }) rfl
    (fun M A s Q E q => wpAny_newObj_type q) (fun k => flatOut ys p g (xs.take k)) (fun Da S h hS _ e => ⟨hS, [], ⟨0, e⟩, ?_⟩) Z C1 r₁ hit (ip := iter.pos) (target := target) (ifs := [])
    (kt := fun I Da Γ' => goIn (.ListComp elt [⟨target, iter, [], 0⟩, ⟨target2, iter2, ifs2, 0⟩] scope pos) 1 iter2 (.ref Da) Γ'.env (again (.compLoop (.ListComp elt [⟨target, iter, [], 0⟩, ⟨target2, iter2, ifs2, 0⟩] scope pos) 0 (.ref I) (.ref Da) Γ'.env)))
    (fun h h' => codeAny_compStart_list h h') (fun _ _ _ => rfl) (fun _ _ _ _ => rfl) ?_ ?_ ?_
  · rw [List.take_zero]; exact .nil
  · exact fun I Da C own => hden_list2a I Da C own
  · intro I Da C own fp wr L hfd hwfp hfpT hfpC cellS k d hd
    rw [List.getElem?_map] at hd
    cases hx : xs[k]? with
    | none => rw [hx] at hd; (first | obtain ⟨_, rfl⟩ := hd.atom | exact (nsE hd).elim | exact (snE hd).elim | exact (ftE hd).elim | cases hd)
    | some x =>
      rw [hx] at hd
      (first | obtain ⟨_, rfl⟩ := hd.atom | exact (nsE hd).elim | exact (snE hd).elim | exact (ftE hd).elim | cases hd)
      have hm : x ∈ xs := List.mem_of_getElem? hx
      refine ⟨bs x, true, hb x hm, hn x hm, tests_nil, (fun e => by (first | obtain ⟨_, rfl⟩ := e.atom | exact (nsE e).elim | exact (snE e).elim | exact (ftE e).elim | cases e)), fun _ s c => ?_⟩
      show wpAny _ _ _ (fun fin s' => fin = _ ∧ Cst _ tg _ s₁.heap (AccL Γ.prog Γ.w Da (flatOut ys p g (xs.take (k + 1)))) s₁ s' ∧ _) _ s
      have e2 := flatOut_take ys p g xs k x hx
      have hfree : ∀ y ∈ ys x, ∀ b ∈ bs2 x y, (Γ.cx scope (bs x) Da C own wr).ρ b.1 = none := fun y hy b hb' => by
        obtain ⟨h1, h2⟩ := hn2 x hm y hy b hb'
        rw [Ctx.cx, setAll_rho _ _ _ fun c hc => h2 c hc]
        show (if scope.names.lookup b.1 = some .free then Γ.ρ b.1 else none) = none
        rcases Z.tg b.1 h1 with hk | hk <;> rw [hk] <;> rfl
      have L1 : Lay (Γ.cx scope (bs x) Da C own wr) tg Da (fun _ => False) s₁.heap := lay_setAll L
      obtain ⟨e1, eS, e3, e4, e5, -⟩ := setAll_env (bs x) ((Γ.comp scope Da C own).plus wr)
      have key : ∀ (Γ' : Ctx), Γ'.prog = Γ.prog → Γ'.w = Γ.w → Γ'.A = Γ.A → Γ'.env = (Γ.comp scope Da C own).env → Γ'.S = ((Γ.comp scope Da C own).plus wr).S → Lay Γ' tg Da (fun _ => False) s₁.heap →
          Cst Γ' tg (fun _ => False) s₁.heap (AccL Γ.prog Γ.w Da (flatOut ys p g (xs.take k))) s₁ s → Ev Γ' iter2 (d2 x) →
          (∀ y ∈ ys x, ∀ b ∈ bs2 x y, Γ'.ρ b.1 = none) →
          (∀ y ∈ ys x, ∀ wr2, TestsOk ((Γ'.plus wr2).setAll (bs2 x y)) ifs2 (p x y)) → (∀ y ∈ ys x, p x y = true → ∀ wr2, Ev ((Γ'.plus wr2).setAll (bs2 x y)) elt (g x y)) →
          wpAny (model Γ.prog Γ.w) Γ.A (goIn (.ListComp elt [⟨target, iter, [], 0⟩, ⟨target2, iter2, ifs2, 0⟩] scope pos) 1 iter2 (.ref Da) (Γ.comp scope Da C own).env (again (.compLoop (.ListComp elt [⟨target, iter, [], 0⟩, ⟨target2, iter2, ifs2, 0⟩] scope pos) 0 (.ref I) (.ref Da) (Γ.comp scope Da C own).env)))
            (fun fin s' => fin = .again (.compLoop (.ListComp elt [⟨target, iter, [], 0⟩, ⟨target2, iter2, ifs2, 0⟩] scope pos) 0 (.ref I) (.ref Da) (Γ.comp scope Da C own).env) ∧
              Cst Γ' tg (fun _ => False) s₁.heap (AccL Γ.prog Γ.w Da (flatOut ys p g (xs.take (k + 1)))) s₁ s' ∧ ∀ b ∈ fp, ∀ o, s.heap.get? b = some o → s'.heap.get? b = some o) (fun _ _ => False) s := by
        rintro ⟨K', prog', w', A', n', base', env', S', ρ'⟩ q1 q2 q3 q4 q5 L' c' hI hfr htt hee
        dsimp only at q1 q2 q3 q4
        subst q1 q2 q3
        rw [← q4]
        generalize hΓ : (⟨K', Γ.prog, Γ.w, Γ.A, n', base', env', S', ρ'⟩ : Ctx) = Γ' at *
        have p1 : Γ'.prog = Γ.prog := by rw [← hΓ]
        have p2 : Γ'.w = Γ.w := by rw [← hΓ]
        have p3 : Γ'.A = Γ.A := by rw [← hΓ]
        have p4 : Γ'.env = env' := by rw [← hΓ]
        have cellS' : ∀ y ∈ tg, ∀ c, Γ'.env.cells.lookup y = some c → Γ'.S c := fun y hy c hc => by rw [q5]; exact .inl (cellS y hy c (by rw [← q4, ← p4]; exact hc))
        have locS' : Γ'.S Γ'.env.locals := by rw [q5, p4, q4]; exact .inl (.inr (.inr (.inl rfl)))
        have DaS' : Γ'.S Da := by rw [q5]; exact .inl (.inr (.inl rfl))
        have hfpT' : ∀ y ∈ tg, ∀ c, Γ'.env.cells.lookup y = some c → c ∉ fp := fun y hy c hc => hfpT y hy c (by rw [← q4, ← p4]; exact hc)
        have hfpC' : Γ'.env.locals ∉ fp := by rw [p4, q4]; exact hfpC
        have c0 := c'
        rw [e2]
        clear q4 q5 e1 eS e3 e4 e5 hΓ
        rw [← p4, ← p1, ← p2, ← p3]
        rw [← p1, ← p2] at c'
        refine wpAny_bind ((hI.run s c'.at_).then' fun v2 s₂ k₂ r₂ => wpAny_bind (wpAny_standAt (wpAny_bind (wpAny_of_eq (hs2 _ v2) (wpAny_bind (wpAny_holding ?_))))))
        have c₂ := c'.kp accL_ok k₂
        refine hit2 x hm _ _ _ _ _ _ _ _ c₂.at_.room.1 r₂ fun I2 fp2 wr2 St2 s₃ k₃ T st hfp2 hwr2 hoff2 => ?_
        have c₃ := c₂.kp accL_ok k₃
        have held : ∀ b, Γ'.S b → (s₂.heap.get? b).isSome = true := c₂.at_.wd.held
        have offS : ∀ b ∈ fp2, ¬ Γ'.S b := fun b hb q => (hoff2 b hb).elim (fun n => by have := held b q; rw [hwr2 b n] at this; (first | obtain ⟨_, rfl⟩ := this.atom | exact (nsE this).elim | exact (snE this).elim | exact (ftE this).elim | cases this)) fun n => n.2 q
        have offW : ∀ b ∈ wr2, ¬ Γ'.S b := fun b hb => offS b (T.sub b hb)
        have hcap : ∀ y c, Γ'.env.cells.lookup y = some c → c ∉ wr2 := fun y c e m => by have := c₂.at_.cin y c e; rw [hwr2 c m] at this; (first | obtain ⟨_, rfl⟩ := this.atom | exact (nsE this).elim | exact (snE this).elim | exact (ftE this).elim | cases this)
        have Lx : Lay Γ' tg Da (fun b => b = Γ'.env.locals ∨ b = Da ∨ ∃ y ∈ tg, Γ'.env.cells.lookup y = some b) s₂.heap := ⟨L'.dl, L'.dc, .inl (.inl rfl), fun y hy c e => .inl (.inr (.inr ⟨y, hy, e⟩)), .inl (.inr (.inl rfl))⟩
        have hSub : ∀ b, (b = Γ'.env.locals ∨ b = Da ∨ ∃ y ∈ tg, Γ'.env.cells.lookup y = some b) → Γ'.S b := fun b q => by
          rcases q with rfl | rfl | ⟨y, hy, e⟩
          · exact locS'
          · exact DaS'
          · exact cellS' y hy b e
        refine wpAny_bind (wpAny_runOwn ?_)
        have xW : Ext (fun b => b = Γ'.env.locals ∨ b = Da ∨ ∃ y ∈ tg, Γ'.env.cells.lookup y = some b) s₂.heap s₃.heap := Ext.of_keep k₃.k
        have cP : (Γ'.plus wr2).At s₃.heap := by
          have a := c₃.at_
          refine ⟨⟨a.wd.gl, a.wd.up, fun b q => q.elim (a.wd.off b) fun m => ?_, fun b q => q.elim (a.wd.held b) fun m => T.live 0 _ st b m⟩, a.kind, a.globals, a.builtins, a.room, a.sep, a.cin, fun y d q => ?_⟩
          · exact c₂.at_.wd.fresh (hwr2 b m)
          · obtain ⟨v, hv, rv⟩ := c₂.at_.vars y d q
            refine ⟨v, hv.keeps k₃.k, (rv.avoid (S' := (Γ'.plus wr2).S) fun b q => q.elim .inl fun m => .inr (hwr2 b m)).keep k₃.k⟩
        have accP : AccL Γ'.prog Γ'.w Da (flatOut ys p g (xs.take k)) (Γ'.plus wr2).S s₃.heap := by
          have a := accL_ok.move _ (Γ'.plus wr2).S _ c₂.acc (fun b q => q.elim .inl fun m => .inr (hwr2 b m)) (.inl DaS')
          exact accL_ok.ext _ _ _ a (Ext.of_keep k₃.k) fun o e => k₃.k Da o e
        have loop : ∀ (R : Result → Shared → Prop), (∀ s', Cst Γ' tg (fun b => b = Γ'.env.locals ∨ b = Da ∨ ∃ y ∈ tg, Γ'.env.cells.lookup y = some b) s₂.heap (AccL Γ'.prog Γ'.w Da (flatOut ys p g (xs.take k) ++ pickOut (p x) (g x) (ys x))) s₁ s' → R (.ok .next) s') →
            codeAny (model Γ'.prog Γ'.w) Γ'.A (.compLoop (.ListComp elt [⟨target, iter, [], 0⟩, ⟨target2, iter2, ifs2, 0⟩] scope pos) 1 (.ref I2) (.ref Da) Γ'.env) R s₃ := fun R hR => by
          refine loop_rule (τ := List D) (s₁ := s₁) (P := fun t => AccL Γ'.prog Γ'.w Da t) (fun t => accL_ok) Lx rfl (hden_list2b I2 Da Γ'.env) rfl T (fun b q => q.elim .inl fun m => .inr (hwr2 b m))
            (fun h q => fun b o hb e => q b o (fun z => hb (hSub b z)) e) (fun m => offS _ m locS') (fun y hy c e m => offS _ m (cellS' y hy c e)) (fun m => offS _ m DaS')
            (fun b m => .inr (hwr2 b m)) offW hcap (fun j => flatOut ys p g (xs.take k) ++ pickOut (p x) (g x) ((ys x).take j)) ?_ ?_ st ?_
          · intro j dj hj
            rw [List.getElem?_map] at hj
            cases hy : (ys x)[j]? with
            | none => rw [hy] at hj; (first | obtain ⟨_, rfl⟩ := hj.atom | exact (nsE hj).elim | exact (snE hj).elim | exact (ftE hj).elim | cases hj)
            | some y =>
              rw [hy] at hj
              (first | obtain ⟨_, rfl⟩ := hj.atom | exact (nsE hj).elim | exact (snE hj).elim | exact (ftE hj).elim | cases hj)
              have hym : y ∈ ys x := List.mem_of_getElem? hy
              refine ⟨bs2 x y, p x y, hb2 x hm y hym, fun b hb' => ⟨(hn2 x hm y hym b hb').1, hfr y hym b hb'⟩, htt y hym wr2, fun e => ?_, fun e s₄ c₄ => ?_⟩
              · show _ ++ pickOut _ _ ((ys x).take (j + 1)) = _
                rw [pickOut_take _ _ _ j y hy, e]; simp
              · have e4 : flatOut ys p g (xs.take k) ++ pickOut (p x) (g x) ((ys x).take (j + 1)) = (flatOut ys p g (xs.take k) ++ pickOut (p x) (g x) ((ys x).take j)) ++ [g x y] := by rw [pickOut_take _ _ _ j y hy, e]; simp
                show wpAny _ _ _ (fun fin s' => fin = _ ∧ Cst _ tg _ s₂.heap (AccL Γ'.prog Γ'.w Da (flatOut ys p g (xs.take k) ++ pickOut (p x) (g x) ((ys x).take (j + 1)))) s₁ s' ∧ _) _ s₄
                rw [e4]
                have Ly : Lay (Γ'.plus wr2) tg Da (fun b => b = Γ'.env.locals ∨ b = Da ∨ ∃ y ∈ tg, Γ'.env.cells.lookup y = some b) s₂.heap := ⟨Lx.dl, Lx.dc, Lx.fl, Lx.fc, Lx.fd⟩
                obtain ⟨g1, -, g3, g4, g5, -⟩ := setAll_env (bs2 x y) (Γ'.plus wr2)
                have := emitL_rule (c := .compLoop (.ListComp elt [⟨target, iter, [], 0⟩, ⟨target2, iter2, ifs2, 0⟩] scope pos) 1 (.ref I2) (.ref Da) Γ'.env) (fp := fp2) (Γ := (Γ'.plus wr2).setAll (bs2 x y)) (y := g x y) (elt := elt)
                  (outs := flatOut ys p g (xs.take k) ++ pickOut (p x) (g x) ((ys x).take j)) (lay_setAll Ly) (fun m => offS _ m DaS') (by rw [g3, g4]; exact c₄) (hee y hym e wr2)
                  (Nat.le_trans (flatOut_len ys p g xs k x hx j) hsz)
                rw [g1, g3, g4, g5] at this
                exact this
          · refine ⟨c₃.same, xW, cP, fun y hy => ?_, ?_, c₃.ns⟩
            · rcases c₃.slots y hy with ⟨a, b, c⟩ | ⟨a, c, v, l, b, d⟩
              · exact .inl ⟨a, b, .inl c⟩
              · exact .inr ⟨a, c, v, l, b, .inl d⟩
            · show AccL _ _ _ (_ ++ pickOut _ _ ((ys x).take 0)) _ _
              rw [List.take_zero]
              simpa [pickOut] using accP
          · intro s' c
            refine hR s' ?_
            have : ((ys x).map (inj2 x)).length = (ys x).length := List.length_map ..
            rw [this, List.take_length] at c
            exact c
        have done : ∀ s', Cst Γ' tg (fun b => b = Γ'.env.locals ∨ b = Da ∨ ∃ y ∈ tg, Γ'.env.cells.lookup y = some b) s₂.heap (AccL Γ'.prog Γ'.w Da (flatOut ys p g (xs.take k) ++ pickOut (p x) (g x) (ys x))) s₁ s' →
            Cst Γ' tg (fun _ => False) s₁.heap (AccL Γ'.prog Γ'.w Da (flatOut ys p g (xs.take k) ++ pickOut (p x) (g x) (ys x))) s₁ s' ∧ ∀ b ∈ fp, ∀ o, s.heap.get? b = some o → s'.heap.get? b = some o := fun s' c => by
          refine ⟨⟨c.same, fun b o _ e => ?_, c.at_, c.slots, c.acc, c.ns⟩, fun b hb o e => ?_⟩
          · refine c.ext b o (fun q => ?_) (k₂.k b o (c'.ext b o id e))
            rcases q with q | q | ⟨y, hy, q⟩
            · rcases L'.fl with z | z
              · exact z
              · rw [← q, e] at z; (first | obtain ⟨_, rfl⟩ := z.atom | exact (nsE z).elim | exact (snE z).elim | exact (ftE z).elim | cases z)
            · rcases L'.fd with z | z
              · exact z
              · rw [← q, e] at z; (first | obtain ⟨_, rfl⟩ := z.atom | exact (nsE z).elim | exact (snE z).elim | exact (ftE z).elim | cases z)
            · rcases L'.fc y hy b q with z | z
              · exact z
              · rw [e] at z; (first | obtain ⟨_, rfl⟩ := z.atom | exact (nsE z).elim | exact (snE z).elim | exact (ftE z).elim | cases z)
          · refine c.ext b o (fun q => ?_) (k₂.k b o e)
            rcases q with q | q | ⟨y, hy, q⟩
            · exact hfpC' (q ▸ hb)
            · exact hfd (q ▸ hb)
            · exact hfpT' y hy b q hb
        exact compStart_at1 (loop _ fun s' c => wpAny_pure ⟨rfl, done s' c⟩) (T.self 0 _ _ _ st (loop _ fun s' c => wpAny_pure ⟨rfl, done s' c⟩))
      exact key (Γ.cx scope (bs x) Da C own wr) e3 e4 e5 e1 eS L1 c (hi2 x hm Da C own wr) hfree (fun y hy wr2 => ht x hm y hy Da C own wr wr2) (fun y hy e wr2 => he x hm y hy e Da C own wr wr2)
  · intro Da C own s' h1 h2 h3 c
    refine fin s₁ Da C own s' k₁ C1 h1 h2 h3 ?_
    have : (xs.map inj).length = xs.length := List.length_map ..
    rw [this, List.take_length] at c
    exact c

theorem ev_listcomp2 {τ σ : Type} {xs : List τ} {inj : τ → D} {bs : τ → List (Str × D)} {ys : τ → List σ} {inj2 : τ → σ → D} {bs2 : τ → σ → List (Str × D)} {p : τ → σ → Bool} {g : τ → σ → D} {d2 : τ → D}
    {Γ : Ctx} {scope : Scope} {tg : List Str} {d : D} {iter elt target iter2 target2 : Expr} {ifs2 : List Expr} {pos : Pos}
    (hi : Ev Γ iter d) (hit : Iterable d (xs.map inj)) (Z : ScopeOk Γ scope tg) (hsz : (flatOut ys (fun _ _ => true) g xs).length ≤ sizeLine)
    (hb : ∀ x ∈ xs, Bnd target (inj x) (bs x)) (hn : ∀ x ∈ xs, ∀ b ∈ bs x, b.1 ∈ tg)
    (hi2 : ∀ x ∈ xs, ∀ Da C own wr, Ev (Γ.cx scope (bs x) Da C own wr) iter2 (d2 x)) (hit2 : ∀ x ∈ xs, Iterable (d2 x) ((ys x).map (inj2 x)))
    (hb2 : ∀ x ∈ xs, ∀ y ∈ ys x, Bnd target2 (inj2 x y) (bs2 x y)) (hn2 : ∀ x ∈ xs, ∀ y ∈ ys x, ∀ b ∈ bs2 x y, b.1 ∈ tg ∧ ∀ c ∈ bs x, c.1 ≠ b.1)
    (ht : ∀ x ∈ xs, ∀ y ∈ ys x, ∀ Da C own wr wr2, TestsOk (((Γ.cx scope (bs x) Da C own wr).plus wr2).setAll (bs2 x y)) ifs2 (p x y))
    (he : ∀ x ∈ xs, ∀ y ∈ ys x, p x y = true → ∀ Da C own wr wr2, Ev (((Γ.cx scope (bs x) Da C own wr).plus wr2).setAll (bs2 x y)) elt (g x y))
    (hs : ∀ x, foldedSetIterable iter Γ.env x = pure x := by intro _; rfl) (hs2 : ∀ env x, foldedSetIterable iter2 env x = pure x := by intro _ _; rfl) :
    EvNL Γ (.ListComp elt [⟨target, iter, [], 0⟩, ⟨target2, iter2, ifs2, 0⟩] scope pos) (flatOut ys p g xs) := .mk fun s hC => by
  unfold Tr
  rw [eval_ListComp]
  refine listcomp2_use (use := none) hi hit Z hsz hb hn hi2 hit2 hb2 hn2 ht he hC (fun s₁ Da C own s' k₁ C1 h1 h2 h3 c => ?_) hs hs2
  obtain ⟨m, hm, hk⟩ := comp_end h1 c
  refine ⟨m, hm, fun h' hs' => ?_⟩
  obtain ⟨k, hx⟩ := hk h' hs'
  obtain ⟨a, vs, e, hn, r, r2⟩ := newL_of h2 h3 hs' hx c.acc
  refine ⟨k₁.trans k, a, vs, e, ?_, r, r2⟩
  cases q : s.heap.get? a with
  | none => rfl
  | some o => rw [k₁.k a o q] at hn; (first | obtain ⟨_, rfl⟩ := hn.atom | exact (nsE hn).elim | exact (snE hn).elim | exact (ftE hn).elim | cases hn)
-- part PL13
/-- objects that a function alone knows, at the addresses os -/
structure OwnOk (P : (Addr → Prop) → Heap → Prop) (os : List Addr) : Prop where
  ext : ∀ S h h', P S h → Ext S h h' → (∀ a ∈ os, ∀ o, h.get? a = some o → h'.get? a = some o) → P S h'
  move : ∀ S S' h, P S h → (∀ b, S' b → S b ∨ h.get? b = none) → (∀ a ∈ os, S' a) → P S' h
  has : ∀ S h, P S h → ∀ a ∈ os, S a
noncomputable def noOwn : (Addr → Prop) → Heap → Prop := fun _ _ => True
theorem noOwn_ok : OwnOk noOwn [] := ⟨fun _ _ _ _ _ _ => trivial, fun _ _ _ _ _ _ => trivial, fun _ _ _ _ h => nomatch h⟩
theorem AccOk.own {P : (Addr → Prop) → Heap → Prop} {a : Addr} (h : AccOk P a) : OwnOk P [a] :=
  ⟨fun S h' h'' p e k => h.ext S h' h'' p e (k a (.head _)), fun S S' h' p m q => h.move S S' h' p m (q a (.head _)), fun S h' p b hb => by rw [List.mem_singleton.mp hb]; exact h.has S h' p⟩
theorem OwnOk.and {P Q : (Addr → Prop) → Heap → Prop} {os qs : List Addr} (hp : OwnOk P os) (hq : OwnOk Q qs) : OwnOk (fun S h => P S h ∧ Q S h) (os ++ qs) :=
  ⟨fun S h h' p e k => ⟨hp.ext S h h' p.1 e fun a m => k a (List.mem_append_left _ m), hq.ext S h h' p.2 e fun a m => k a (List.mem_append_right _ m)⟩,
   fun S S' h p m q => ⟨hp.move S S' h p.1 m fun a z => q a (List.mem_append_left _ z), hq.move S S' h p.2 m fun a z => q a (List.mem_append_right _ z)⟩,
   fun S h p a m => (List.mem_append.mp m).elim (hp.has S h p.1 a) (hq.has S h p.2 a)⟩

/-- what a function's frame rests on: what may be written, loops' iterators, the state at its call -/
structure Lev where
  W : Addr → Prop
  zs : List Addr
  Z : (Addr → Prop) → Heap → Prop
  s₀ : Shared

structure Fm (L : Lev) (Γ : Ctx) (os : List Addr) (P : (Addr → Prop) → Heap → Prop) (s : Shared) : Prop where
  same : Sm L.s₀ s
  ext : Ext L.W L.s₀.heap s.heap
  at_ : Γ.At s.heap
  ns : ∃ m, s.heap.Ns Γ.env.locals m
  lS : Γ.S Γ.env.locals ∧ L.s₀.heap.get? Γ.env.locals = none
  cS : ∀ x c, Γ.env.cells.lookup x = some c → Γ.env.kindOf x = some .cell ∧ Γ.S c ∧ L.s₀.heap.get? c = none ∧ ∃ v, s.heap.IsCell c v
  ol : Γ.env.locals ∉ os ∧ Γ.env.locals ∉ L.zs
  oc : ∀ x c, Γ.env.cells.lookup x = some c → c ∉ os ∧ c ∉ L.zs
  own : P Γ.S s.heap
  rest : L.Z Γ.S s.heap
  oz : ∀ a ∈ os, a ∉ L.zs
  zok : OwnOk L.Z L.zs
  pok : OwnOk P os
  base : ∀ b, (L.s₀.heap.get? b).isSome = true → (s.heap.get? b).isSome = true

theorem Ev.on {Γ : Ctx} {e : Expr} {d : D} (h : Ev Γ e d) {s : Shared} (C : Γ.At s.heap) : Tr Γ (eval e Γ.env) (fun v h => Γ.R h v d) s := h.run s C
theorem EvT.on {Γ : Ctx} {e : Expr} {b : Bool} (h : EvT Γ e b) {s : Shared} (C : Γ.At s.heap) : Tr Γ (isTrue e Γ.env (eval e Γ.env)) (fun t _ => t = b) s := h.run s C

/-- a name that the function may bind -/
noncomputable def asg (Γ : Ctx) (x : Str) : Bool := Γ.env.kindOf x == some .local || (Γ.env.kindOf x == some .cell && (Γ.env.cells.lookup x).isSome)

section
variable {L : Lev} {Γ : Ctx} {os : List Addr} {P : (Addr → Prop) → Heap → Prop} {s s' : Shared}

theorem Fm.slot (F : Fm L Γ os P s) {x : Str} (h : asg Γ x = true) : Slot Γ s.heap x := by
  unfold asg at h
  rcases Bool.or_eq_true_iff.mp h with h | h
  · exact .inl ⟨eq_of_beq h, F.ns, F.lS.1⟩
  · obtain ⟨h1, h2⟩ := Bool.and_eq_true_iff.mp h
    obtain ⟨c, hc⟩ := Option.isSome_iff_exists.mp h2
    obtain ⟨_, hS, _, v, hv⟩ := F.cS x c hc
    exact .inr ⟨eq_of_beq h1, c, v, hc, hv, hS⟩

theorem Fm.kp (F : Fm L Γ os P s) (k : Kp s s') : Fm L Γ os P s' :=
  ⟨F.same.trans k.1, F.ext.trans (Ext.of_keep k.k), F.at_.go k, let ⟨m, q⟩ := F.ns; ⟨m, q.keeps k.k⟩, F.lS,
    fun x c e => let ⟨a, b, c', v, d⟩ := F.cS x c e; ⟨a, b, c', v, d.keeps k.k⟩, F.ol, F.oc, F.pok.ext _ _ _ F.own (Ext.of_keep k.k) fun a _ o e => k.k a o e,
    F.zok.ext _ _ _ F.rest (Ext.of_keep k.k) fun a _ o e => k.k a o e, F.oz, F.zok, F.pok, fun b e => some_keep (F.base b e) k.k⟩

theorem Fm.wr {tg : List Str} {bs : List (Str × D)} (F : Fm L Γ os P s) (w : Wr Γ tg s s') (C : (Γ.setAll bs).At s'.heap) : Fm L (Γ.setAll bs) os P s' := by
  obtain ⟨e1, e2, -⟩ := setAll_env bs Γ
  have keep : ∀ b, b ≠ Γ.env.locals → (∀ x, Γ.env.cells.lookup x ≠ some b) → ∀ o, s.heap.get? b = some o → s'.heap.get? b = some o := fun b h1 h2 o e => w.off b o h1 (fun x _ => h2 x) e
  have h1 : ∀ a ∈ os, ∀ o, s.heap.get? a = some o → s'.heap.get? a = some o := fun a m => keep a (fun q => F.ol.1 (q ▸ m)) fun x q => (F.oc x a q).1 m
  have h2 : ∀ a ∈ L.zs, ∀ o, s.heap.get? a = some o → s'.heap.get? a = some o := fun a m => keep a (fun q => F.ol.2 (q ▸ m)) fun x q => (F.oc x a q).2 m
  refine ⟨F.same.trans w.same, fun b o hb e => keep b (fun q => ?_) (fun x q => ?_) o (F.ext b o hb e), C, ?_, ?_, ?_, ?_, ?_, ?_, ?_, F.oz, F.zok, F.pok, fun b q => ?_⟩
  · rw [q, F.lS.2] at e; (first | obtain ⟨_, rfl⟩ := e.atom | exact (nsE e).elim | exact (snE e).elim | exact (ftE e).elim | cases e)
  · rw [(F.cS x b q).2.2.1] at e; (first | obtain ⟨_, rfl⟩ := e.atom | exact (nsE e).elim | exact (snE e).elim | exact (ftE e).elim | cases e)
  · rw [e1]; exact w.ns F.ns
  · rw [e1, e2]; exact F.lS
  · rw [e1, e2]
    intro x c e
    obtain ⟨a, b, c', v, d⟩ := F.cS x c e
    have := w.slot x (.inr ⟨a, c, v, e, d, b⟩)
    rcases this with ⟨q, _⟩ | ⟨_, c'', v', e', d', _⟩
    · rw [a] at q; (first | obtain ⟨_, rfl⟩ := q.atom | exact (nsE q).elim | exact (snE q).elim | exact (ftE q).elim | cases q)
    · rw [e] at e'; (first | obtain ⟨_, rfl⟩ := e'.atom | exact (nsE e').elim | exact (snE e').elim | exact (ftE e').elim | cases e'); exact ⟨a, b, c', v', d'⟩
  · rw [e1]; exact F.ol
  · rw [e1]; exact F.oc
  · rw [e2]; exact F.pok.ext _ _ _ F.own w.ext h1
  · rw [e2]; exact F.zok.ext _ _ _ F.rest w.ext h2
  · have q' := F.base b q
    cases e : s.heap.get? b with
    | none => rw [e] at q'; (first | obtain ⟨_, rfl⟩ := q'.atom | exact (nsE q').elim | exact (snE q').elim | exact (ftE q').elim | cases q')
    | some o =>
      rw [keep b (fun z => ?_) (fun x z => ?_) o e]; · rfl
      · rw [z, F.lS.2] at q; (first | obtain ⟨_, rfl⟩ := q.atom | exact (nsE q).elim | exact (snE q).elim | exact (ftE q).elim | cases q)
      · rw [(F.cS x b z).2.2.1] at q; (first | obtain ⟨_, rfl⟩ := q.atom | exact (nsE q).elim | exact (snE q).elim | exact (ftE q).elim | cases q)

noncomputable abbrev Wx (Γ : Ctx) {α : Type} (t : Sem α) (Q : α → Shared → Prop) (s : Shared) : Prop := wpAny (model Γ.prog Γ.w) Γ.A t Q (fun _ _ => False) s
/-- a run of statements within a frame -/
structure Ex (Γ : Ctx) {α : Type} (t : Sem α) (Q : α → Shared → Prop) (s : Shared) : Prop where
  run : wpAny (model Γ.prog Γ.w) Γ.A t Q (fun _ _ => False) s

theorem ex_setAll {bs : List (Str × D)} {rest : List Stmt} {Q : Flow → Shared → Prop} (h : Ex (Γ.setAll bs) (execs rest (Γ.setAll bs).env) Q s) : Ex Γ (execs rest Γ.env) Q s := by
  obtain ⟨e1, _, e3, e4, e5, -⟩ := setAll_env bs Γ
  have h := h.run
  rw [e1, e3, e4, e5] at h
  exact .mk h

theorem bnd_list_ok {bs : List (Str × D)} (h : bs.all (fun b => asg Γ b.1) = true) : ∀ b ∈ bs, asg Γ b.1 = true := fun b hb => List.all_eq_true.mp h b hb

theorem Bnd.t2 {x y : Str} {px py p : Pos} {k : Nat} {d e : D} : Bnd (.Tuple [.Name x px, .Name y py] k p) (.tuple [d, e]) [(x, d), (y, e)] := Bnd.tuple (bs := [((x, px), d), ((y, py), e)])
theorem Bnd.t5 {x y z u v : Str} {px py pz pu pv p : Pos} {k : Nat} {d e f g h : D} : Bnd (.Tuple [.Name x px, .Name y py, .Name z pz, .Name u pu, .Name v pv] k p) (.tuple [d, e, f, g, h]) [(x, d), (y, e), (z, f), (u, g), (v, h)] :=
  Bnd.tuple (bs := [((x, px), d), ((y, py), e), ((z, pz), f), ((u, pu), g), ((v, pv), h)])

/-- name = value -/
theorem x_assign {x : Str} {px pos : Pos} {value : Expr} {rest : List Stmt} {d : D} {Q : Flow → Shared → Prop} (F : Fm L Γ os P s) (he : Tr Γ (eval value Γ.env) (fun v h => Γ.R h v d) s)
    (k : ∀ s', Fm L (Γ.set x d) os P s' → Ex (Γ.set x d) (execs rest (Γ.set x d).env) Q s')
    (ha : asg Γ x = true := by rfl) (hs : swapsWith value (some (.Name x px)) pos.line Γ.env = pure false := by rfl) : Ex Γ (execs (.Assign [.Name x px] value pos :: rest) Γ.env) Q s := by
  refine .mk <| wpAny_execs_cons (wpAny_Assign_Name (he.then' fun v s₁ k₁ r₁ => ?_) hs)
  exact store_rule (F.kp k₁).at_ ((F.kp k₁).slot ha) r₁ fun s' w C => (k s' ((F.kp k₁).wr (bs := [(x, d)]) w C)).run

/-- names = value, one after the other -/
theorem x_unpack {elts : List Expr} {kk : Nat} {tpos pos : Pos} {value : Expr} {rest : List Stmt} {d : D} {bs : List (Str × D)} {Q : Flow → Shared → Prop} (F : Fm L Γ os P s) (he : Tr Γ (eval value Γ.env) (fun v h => Γ.R h v d) s)
    (b : Bnd (.Tuple elts kk tpos) d bs) (k : ∀ s', Fm L (Γ.setAll bs) os P s' → Ex (Γ.setAll bs) (execs rest (Γ.setAll bs).env) Q s')
    (ha : bs.all (fun b => asg Γ b.1) = true := by rfl) (hs : swapsWithSole [.Tuple elts kk tpos] value pos.line Γ.env = pure false := by rfl) (hw : swappedStores [.Tuple elts kk tpos] value Γ.env = pure none := by rfl) :
    Ex Γ (execs (.Assign [.Tuple elts kk tpos] value pos :: rest) Γ.env) Q s := by
  refine .mk <| wpAny_execs_cons (Assign_Tuple (he.then' fun v s₁ k₁ r₁ => ?_) hs hw)
  exact assign_rule (Γ := Γ) (prog := Γ.prog) (w := Γ.w) F.at_.room.1 (F.kp k₁).at_ b (fun y hy => (F.kp k₁).slot (bnd_list_ok ha y hy)) r₁ fun s' w C => (ex_setAll (k s' ((F.kp k₁).wr w C))).run

theorem x_if {test : Expr} {body orelse rest : List Stmt} {pos : Pos} {b : Bool} {Q : Flow → Shared → Prop} (F : Fm L Γ os P s) (ht : Tr Γ (isTrue test Γ.env (eval test Γ.env)) (fun t _ => t = b) s)
    (h1 : b = true → ∀ s', Fm L Γ os P s' → Ex Γ (execs body Γ.env) (fun f s'' => match f with | .next => Ex Γ (execs rest Γ.env) Q s'' | f => Q f s'') s')
    (h2 : b = false → ∀ s', Fm L Γ os P s' → Ex Γ (execs orelse Γ.env) (fun f s'' => match f with | .next => Ex Γ (execs rest Γ.env) Q s'' | f => Q f s'') s') : Ex Γ (execs (.If test body orelse pos :: rest) Γ.env) Q s := by
  refine .mk <| wpAny_execs_cons (wpAny_If (ht.then' fun t s₁ k₁ e => ?_))
  subst e
  cases t with
  | true => exact wpAny_mono (h1 rfl s₁ (F.kp k₁)).run (fun f s'' q => by (first | obtain ⟨_, rfl⟩ := f.atom | exact (nsE f).elim | exact (snE f).elim | exact (ftE f).elim | cases f) <;> first | exact q.run | exact q) fun _ _ x => x
  | false => exact wpAny_mono (h2 rfl s₁ (F.kp k₁)).run (fun f s'' q => by (first | obtain ⟨_, rfl⟩ := f.atom | exact (nsE f).elim | exact (snE f).elim | exact (ftE f).elim | cases f) <;> first | exact q.run | exact q) fun _ _ x => x
/-- a test that fails, without an else -/
theorem x_skip {test : Expr} {body rest : List Stmt} {pos : Pos} {Q : Flow → Shared → Prop} (F : Fm L Γ os P s) (ht : Tr Γ (isTrue test Γ.env (eval test Γ.env)) (fun t _ => t = false) s)
    (k : ∀ s', Fm L Γ os P s' → Ex Γ (execs rest Γ.env) Q s') : Ex Γ (execs (.If test body [] pos :: rest) Γ.env) Q s :=
  x_if F ht (fun e => by (first | obtain ⟨_, rfl⟩ := e.atom | exact (nsE e).elim | exact (snE e).elim | exact (ftE e).elim | cases e)) fun _ s' F' => .mk (wpAny_execs_nil (k s' F'))

theorem ex_nil {Q : Flow → Shared → Prop} (h : Q .next s) : Ex Γ (execs [] Γ.env) Q s := .mk (wpAny_execs_nil h)
theorem x_ret {e : Expr} {pos : Pos} {rest : List Stmt} {d : D} {Q : Flow → Shared → Prop} (F : Fm L Γ os P s) (he : Tr Γ (eval e Γ.env) (fun v h => Γ.R h v d) s) (k : ∀ v s', Fm L Γ os P s' → Γ.R s'.heap v d → Q (.ret v) s') :
    Ex Γ (execs (.Return (some e) pos :: rest) Γ.env) Q s :=
  .mk <| wpAny_execs_cons (wpAny_Return_some (he.then' fun v s₁ k₁ r₁ => k v s₁ (F.kp k₁) r₁))

/-- name += value, of ints -/
theorem x_aug {x : Str} {px pos : Pos} {op : Operator} {value : Expr} {rest : List Stmt} {d1 d2 d : D} {Q : Flow → Shared → Prop} (F : Fm L Γ os P s) (hx : Γ.ρ x = some d1) (he : Ev Γ value d2) (ho : Op2 Γ (inplaceOp op) d1 d2 d)
    (k : ∀ s', Fm L (Γ.set x d) os P s' → Ex (Γ.set x d) (execs rest (Γ.set x d).env) Q s') (ha : asg Γ x = true := by rfl) : Ex Γ (execs (.AugAssign (.Name x px) op value pos :: rest) Γ.env) Q s := by
  have hl : Tr Γ (loadName Γ.env x) (fun v h => Γ.R h v d1) s := by
    obtain ⟨v, hv, r⟩ := F.at_.vars x d1 hx
    have C := F.at_
    rcases hv with ⟨a, m, n, e⟩ | ⟨a, c, l, n⟩
    · exact wpAny_loadName_local C.kind a n e ⟨Kp.refl s, r⟩
    · rcases a with a | ⟨a, b⟩
      · exact wpAny_loadName_cell C.kind a l n ⟨Kp.refl s, r⟩
      · exact wpAny_loadName_free C.kind a l n ⟨Kp.refl s, r⟩ b
  refine .mk <| wpAny_execs_cons (wpAny_AugAssign_Name (hl.then' fun a s₁ k₁ r₁ => (he.run s₁ (F.kp k₁).at_).then' fun b s₂ k₂ r₂ => (ho.run a b s₂ ((F.kp k₁).kp k₂).at_ (r₁.keep k₂.k) r₂).then' fun v s₃ k₃ r₃ => ?_))
  have F₃ := ((F.kp k₁).kp k₂).kp k₃
  exact store_rule F₃.at_ (F₃.slot ha) r₃ fun s' w C => (k s' (F₃.wr (bs := [(x, d)]) w C)).run
end
-- part PL14
/-- a comprehension whose value is stored before its block is left -/
structure EvU (Γ : Ctx) (value : Expr) (N : Ctx → Heap → Value → Heap → Prop) : Prop where
  run : ∀ (s : Shared) (use : Value → Sem Unit) (Q : Shared → Prop), Γ.At s.heap →
  (∀ s' v C, Kp s s' → s.heap.get? C = none → (∃ m, s'.heap.Ns C m) → N (Γ.plus [C]) s.heap v s'.heap → (∃ a, v = .ref a ∧ a ≠ C ∧ s.heap.get? a = none) →
    Wx Γ (use v) (fun _ s'' => ∃ m, s''.heap.Ns C m ∧ ∀ h', Heap.SameBut C s''.heap h' → Q { s'' with heap := h' }) s') → Wx Γ (evalThenUse value Γ.env use) (fun _ s' => Q s') s

section
variable {Γ : Ctx} {scope : Scope} {tg : List Str} {s s₁ s' : Shared} {Da C : Addr} {own : List (Str × Addr)}
theorem cst_kp {P : (Addr → Prop) → Heap → Prop} (c : Cst (Γ.comp scope Da C own) tg (fun _ => False) s₁.heap P s₁ s') : Kp s₁ s' := by
  exact ⟨c.same, fun b o e => c.ext b o id e⟩
theorem none_back (k : Kp s s₁) {a : Addr} (e : s₁.heap.get? a = none) : s.heap.get? a = none := by
  cases q : s.heap.get? a with
  | none => rfl
  | some o => rw [k.k a o q] at e; (first | obtain ⟨_, rfl⟩ := e.atom | exact (nsE e).elim | exact (snE e).elim | exact (ftE e).elim | cases e)

theorem evU_of {Γ : Ctx} {elt target iter : Expr} {gs : List Comprehension} {scope : Scope} {pos : Pos} {ds : List D}
    (h : ∀ (s : Shared) (use : Option (Value → Sem Unit)) (Q : Value → Shared → Prop), Γ.At s.heap → (∀ s₁ Da C own s', Kp s s₁ → Γ.At s₁.heap → s₁.heap.get? C = none → s₁.heap.get? Da = none → Da ≠ C → Cst (Γ.comp scope Da C own) tg (fun _ => False) s₁.heap (AccL Γ.prog Γ.w Da ds) s₁ s' →
      compPost (model Γ.prog Γ.w) Γ.A (fun _ _ => False) use Q (.ref Da) C (.ok .next) s') →
      wpAny (model Γ.prog Γ.w) Γ.A (comprehension (.ListComp elt (⟨target, iter, ifs, 0⟩ :: gs) scope pos) scope Γ.env (firstIterPos (⟨target, iter, ifs, 0⟩ :: gs) pos) (newList []) false (eval iter Γ.env) use) Q (fun _ _ => False) s) :
    EvU Γ (.ListComp elt (⟨target, iter, ifs, 0⟩ :: gs) scope pos) fun Γ h₀ v h => NewL Γ h₀ ds v h := .mk fun s use Q hC k => by
  show wpAny _ Γ.A (do let _ ← comprehension (.ListComp elt (⟨target, iter, ifs, 0⟩ :: gs) scope pos) scope Γ.env _ (newList []) false (eval iter Γ.env) (some use)) _ _ s
  refine wpAny_bind (wpAny_mono (h s (some use) (fun _ s' => Q s') hC ?_) (fun _ _ q => wpAny_pure q) fun _ _ x => x)
  intro s₁ Da C own s' k₁ C1 h1 h2 h3 c
  have kk := cst_kp c
  refine wpAny_mono (k s' (.ref Da) C (k₁.trans kk) (none_back k₁ h1) c.ns ?_ ⟨Da, rfl, h3, none_back k₁ h2⟩) (fun _ s'' q => q) fun _ _ x => x
  obtain ⟨_, vs, hl, rs⟩ := c.acc
  exact ⟨Da, vs, rfl, none_back k₁ h2, hl, rs.less fun b q => by
    rcases q with (q | q) | q
    · exact .inl q
    · exact .inr (.inr (.inl (List.mem_singleton.mp q)))
    · exact .inr (.inl q)⟩

theorem evU_listcomp {τ : Type} {xs : List τ} {inj : τ → D} {bs : τ → List (Str × D)} {p : τ → Bool} {g : τ → D} {Γ : Ctx} {scope : Scope} {tg : List Str} {d : D} {iter elt target : Expr} {ifs : List Expr} {pos : Pos}
    (hi : Ev Γ iter d) (hit : Iterable d (xs.map inj)) (Z : ScopeOk Γ scope tg) (hsz : xs.length ≤ sizeLine)
    (hb : ∀ x ∈ xs, Bnd target (inj x) (bs x)) (hn : ∀ x ∈ xs, ∀ b ∈ bs x, b.1 ∈ tg)
    (ht : ∀ x ∈ xs, ∀ Da C own wr, TestsOk (Γ.cx scope (bs x) Da C own wr) ifs (p x))
    (he : ∀ x ∈ xs, p x = true → ∀ Da C own wr, Ev (Γ.cx scope (bs x) Da C own wr) elt (g x))
    (hs : ∀ x, foldedSetIterable iter Γ.env x = pure x := by intro _; rfl) : EvU Γ (.ListComp elt [⟨target, iter, ifs, 0⟩] scope pos) fun Γ h₀ v h => NewL Γ h₀ (pickOut p g xs) v h :=
  evU_of fun s use Q hC fin => listcomp_use hi hit Z hsz hb hn ht he hC fin hs

theorem evU_dictcomp {K : Type} [DecidableEq K] {Γ : Ctx} {knd : KeyKind Γ.prog Γ.w K} {τ : Type} {xs : List τ} {inj : τ → D} {bs : τ → List (Str × D)} {p : τ → Bool} {gk : τ → K} {dk : τ → D} {gv : τ → Int} {scope : Scope} {tg : List Str} {d : D} {iter kx vx target : Expr} {ifs : List Expr} {pos : Pos}
    (hi : Ev Γ iter d) (hit : Iterable d (xs.map inj)) (Z : ScopeOk Γ scope tg) (hsz : xs.length ≤ sizeLine)
    (hb : ∀ x ∈ xs, Bnd target (inj x) (bs x)) (hn : ∀ x ∈ xs, ∀ b ∈ bs x, b.1 ∈ tg)
    (hkey : ∀ x ∈ xs, p x = true → ∀ S h v, Rep Γ.prog Γ.w S h v (dk x) → knd.is (gk x) v = true)
    (ht : ∀ x ∈ xs, ∀ Da C own wr, TestsOk (Γ.cx scope (bs x) Da C own wr) ifs (p x))
    (he : ∀ x ∈ xs, p x = true → ∀ Da C own wr, Ev (Γ.cx scope (bs x) Da C own wr) kx (dk x))
    (hv : ∀ x ∈ xs, p x = true → ∀ Da C own wr, Ev (Γ.cx scope (bs x) Da C own wr) vx (.int (gv x)))
    (hs : ∀ x, foldedSetIterable iter Γ.env x = pure x := by intro _; rfl) : EvU Γ (.DictComp kx vx [⟨target, iter, ifs, 0⟩] scope pos) fun _ h₀ v h => NewD Γ knd h₀ (kvOut p gk gv xs) v h := .mk fun s use Q hC k => by
  show wpAny _ Γ.A (do let _ ← comprehension (.DictComp kx vx [⟨target, iter, ifs, 0⟩] scope pos) scope Γ.env _ newDict false (eval iter Γ.env) (some use)) _ _ s
  refine wpAny_bind (wpAny_mono (dictcomp_use (use := some use) (Q := fun _ s' => Q s') (knd := knd) hi hit Z hsz hb hn hkey ht he hv hC ?_ hs) (fun _ _ q => wpAny_pure q) fun _ _ x => x)
  intro s₁ Da C own s' k₁ C1 h1 h2 h3 c
  have kk := cst_kp c
  refine wpAny_mono (k s' (.ref Da) C (k₁.trans kk) (none_back k₁ h1) c.ns ?_ ⟨Da, rfl, h3, none_back k₁ h2⟩) (fun _ s'' q => q) fun _ _ x => x
  obtain ⟨_, hm, us, hd, hkv⟩ := c.acc
  exact ⟨Da, us, rfl, none_back k₁ h2, hm, hd, hkv⟩
end

section
variable {L : Lev} {Γ : Ctx} {os : List Addr} {P : (Addr → Prop) → Heap → Prop} {s s' : Shared}

/-- more addresses that data keeps off: new ones -/
theorem At.plus {wr : List Addr} {h h' : Heap} (C : Γ.At h) (k : ∀ b o, h.get? b = some o → h'.get? b = some o) (hw : ∀ b ∈ wr, h.get? b = none) (hl : ∀ b ∈ wr, (h'.get? b).isSome = true) : (Γ.plus wr).At h' :=
  ⟨⟨C.wd.gl, fun b o e => k b o (C.wd.up b o e), fun a q => q.elim (C.wd.off a) fun m => C.wd.fresh (hw a m), fun a q => q.elim (fun z => some_keep (C.wd.held a z) k) (hl a)⟩, C.kind, C.globals, C.builtins, C.room, C.sep, fun x c e => some_keep (C.cin x c e) k,
    fun x d e => let ⟨v, hv, r⟩ := C.vars x d e; ⟨v, hv.keeps k, (r.avoid (S' := (Γ.plus wr).S) fun b q => q.elim .inl fun m => .inr (hw b m)).keep k⟩⟩
theorem Fm.plus {wr : List Addr} (F : Fm L Γ os P s) (k : Kp s s') (hw : ∀ b ∈ wr, s.heap.get? b = none) (hl : ∀ b ∈ wr, (s'.heap.get? b).isSome = true) : Fm L (Γ.plus wr) os P s' := by
  have F' := F.kp k
  have h1 : ∀ b, (Γ.plus wr).S b → Γ.S b ∨ s.heap.get? b = none := fun b q => q.elim .inl fun m => .inr (hw b m)
  refine ⟨F'.same, F'.ext, At.plus F.at_ k.k hw hl, F'.ns, ⟨.inl F'.lS.1, F'.lS.2⟩, fun x c e => let ⟨a, b, c'⟩ := F'.cS x c e; ⟨a, .inl b, c'⟩, F'.ol, F'.oc, ?_, ?_, F'.oz, F'.zok, F'.pok, F'.base⟩
  · exact F.pok.ext _ _ _ (F.pok.move _ _ _ F.own h1 fun a m => .inl (F.pok.has _ _ F.own a m)) (Ext.of_keep k.k) fun a _ o e => k.k a o e
  · exact F.zok.ext _ _ _ (F.zok.move _ _ _ F.rest h1 fun a m => .inl (F.zok.has _ _ F.rest a m)) (Ext.of_keep k.k) fun a _ o e => k.k a o e

theorem At.off {C : Addr} {h h' : Heap} (X : (Γ.plus [C]).At h) (k : ∀ b o, b ≠ C → h.get? b = some o → h'.get? b = some o) (hl : Γ.env.locals ≠ C) (hcc : ∀ x c, Γ.env.cells.lookup x = some c → c ≠ C) (hS : ¬ Γ.S C) : Γ.At h' := by
  have live : ∀ a, a ≠ C → (h.get? a).isSome = true → (h'.get? a).isSome = true := fun a m q => by
    cases e : h.get? a with
    | none => rw [e] at q; (first | obtain ⟨_, rfl⟩ := q.atom | exact (nsE q).elim | exact (snE q).elim | exact (ftE q).elim | cases q)
    | some o => rw [k a o m e]; rfl
  have hb : Γ.base.get? C = none := X.wd.off C (.inr (.head _))
  refine ⟨⟨X.wd.gl, fun b o e => k b o (fun q => by rw [q, hb] at e; (first | obtain ⟨_, rfl⟩ := e.atom | exact (nsE e).elim | exact (snE e).elim | exact (ftE e).elim | cases e)) (X.wd.up b o e), fun a q => X.wd.off a (.inl q), fun a q => live a (fun e => hS (e ▸ q)) (X.wd.held a (.inl q))⟩, X.kind, X.globals, X.builtins, X.room, X.sep,
    fun x c e => live c (hcc x c e) (X.cin x c e), fun x d e => ?_⟩
  obtain ⟨v, hv, r⟩ := X.vars x d e
  refine ⟨v, ?_, r.move fun b o hb e => ⟨k b o (fun q => hb (.inr (by rw [q]; exact .head _))) e, fun q => hb (.inl q)⟩⟩
  rcases hv with ⟨a, m, n, em⟩ | ⟨a, c, l, o, ho, hd⟩
  · exact .inl ⟨a, m, n.at' fun o q => k _ o hl q, em⟩
  · exact .inr ⟨a, c, l, o, k c o (hcc x c l) ho, hd⟩

/-- change at C alone, which nothing knows -/
theorem Fm.sameBut {C : Addr} {h' : Heap} (F : Fm L (Γ.plus [C]) os P s) (hs : Heap.SameBut C s.heap h') (hC : Γ.env.locals ≠ C) (hcc : ∀ x c, Γ.env.cells.lookup x = some c → c ≠ C) (hCo : C ∉ os) (hCz : C ∉ L.zs) (hC₀ : L.s₀.heap.get? C = none)
    (hCS : ¬ Γ.S C) : Fm L Γ os P { s with heap := h' } := by
  have hx : Ext (Γ.plus [C]).S s.heap h' := Ext.sameBut hs (.inr (.head _))
  have k1 : ∀ a, a ≠ C → ∀ o, s.heap.get? a = some o → h'.get? a = some o := fun a m o e => hs.extBut a o m e
  have hmem : ∀ a ∈ os, a ≠ C := fun a m e => hCo (e ▸ m)
  have hmz : ∀ a ∈ L.zs, a ≠ C := fun a m e => hCz (e ▸ m)
  refine ⟨⟨F.same.1, F.same.2⟩, fun b o hb e => k1 b (fun q => by rw [q, hC₀] at e; (first | obtain ⟨_, rfl⟩ := e.atom | exact (nsE e).elim | exact (snE e).elim | exact (ftE e).elim | cases e)) o (F.ext b o hb e), ?_, let ⟨m, q⟩ := F.ns; ⟨m, q.sameBut hs hC⟩, ⟨F.lS.1.elim id fun m => absurd (List.mem_singleton.mp m) hC, F.lS.2⟩,
    fun x c e => ?_, F.ol, F.oc, ?_, ?_, F.oz, F.zok, F.pok, fun b e => ?_⟩
  · exact At.off F.at_ (fun b o m e => k1 b m o e) hC hcc hCS
  · obtain ⟨a, b, c', v, d⟩ := F.cS x c e
    exact ⟨a, b.elim id fun m => absurd (List.mem_singleton.mp m) (hcc x c e), c', v, d.sameBut hs (hcc x c e)⟩
  · refine F.pok.move _ _ _ (F.pok.ext _ _ _ F.own hx fun a m => k1 a (hmem a m)) (fun b q => .inl (.inl q)) fun a m => ?_
    exact (F.pok.has _ _ F.own a m).elim id fun z => absurd (List.mem_singleton.mp z) (hmem a m)
  · refine F.zok.move _ _ _ (F.zok.ext _ _ _ F.rest hx fun a m => k1 a (hmz a m)) (fun b q => .inl (.inl q)) fun a m => ?_
    exact (F.zok.has _ _ F.rest a m).elim id fun z => absurd (List.mem_singleton.mp z) (hmz a m)
  · by_cases q : b = C
    · rw [q, hC₀] at e; (first | obtain ⟨_, rfl⟩ := e.atom | exact (nsE e).elim | exact (snE e).elim | exact (ftE e).elim | cases e)
    · show (h'.get? b).isSome = true
      rw [hs.2 b q]; exact F.base b e

structure FreshIs (L : Lev) (Γ : Ctx) (os : List Addr) (a : Addr) : Prop where
  f1 : Γ.env.locals ≠ a
  f2 : ∀ x c, Γ.env.cells.lookup x = some c → c ≠ a
  f3 : a ∉ os
  f4 : a ∉ L.zs
  f5 : L.s₀.heap.get? a = none
  f6 : ¬ Γ.S a
theorem Fm.fresh {a : Addr} (F : Fm L Γ os P s) (e : s.heap.get? a = none) :
    FreshIs L Γ os a := by
  have nS : ¬ Γ.S a := not_held F.at_.wd.held e
  refine ⟨fun q => nS (q ▸ F.lS.1), fun x c l q => nS (q ▸ (F.cS x c l).2.1), fun m => nS (F.pok.has _ _ F.own a m), fun m => nS (F.zok.has _ _ F.rest a m), ?_, nS⟩
  cases q : L.s₀.heap.get? a with
  | none => rfl
  | some o =>
    have := F.base a (by rw [q]; rfl)
    rw [e] at this; (first | obtain ⟨_, rfl⟩ := this.atom | exact (nsE this).elim | exact (snE this).elim | exact (ftE this).elim | cases this)

/-- name = comprehension, where the two stand in one row -/
theorem x_used {x : Str} {px pos : Pos} {value : Expr} {rest : List Stmt} {d : D} {N : Ctx → Heap → Value → Heap → Prop} {Q : Flow → Shared → Prop} (F : Fm L Γ os P s) (he : EvU Γ value N)
    (hN : ∀ C h v h', (∀ b, (Γ.plus [C]).S b → b = C ∨ (h.get? b).isSome = true) → (∃ a, v = .ref a ∧ a ≠ C ∧ h.get? a = none) → N (Γ.plus [C]) h v h' → (Γ.plus [C]).R h' v d)
    (k : ∀ s', Fm L (Γ.set x d) os P s' → Ex (Γ.set x d) (execs rest (Γ.set x d).env) Q s')
    (ha : asg Γ x = true := by rfl) (hs : swapsWith value (some (.Name x px)) pos.line Γ.env = pure true := by rfl) : Ex Γ (execs (.Assign [.Name x px] value pos :: rest) Γ.env) Q s := by
  refine .mk <| wpAny_execs_cons ?_
  rw [exec_Assign_Name_used _ _ _ _ hs]
  refine wpAny_bind (wpAny_standAt (wpAny_bind (wpAny_mono (he.run s (assign (.Name x px) Γ.env) (fun s' => Wx Γ (execs rest Γ.env) Q s') F.at_ ?_) (fun _ s' q => wpAny_pure q) fun _ _ x => x)))
  intro s' v C k₁ hC hns hv hva
  obtain ⟨f1, f2, f3, f4, f5, f6⟩ := F.fresh hC
  obtain ⟨m, hm⟩ := hns
  have hCl : (s'.heap.get? C).isSome = true := let ⟨o, _, _, e, _⟩ := hm; by rw [e]; rfl
  have F' := F.plus k₁ (wr := [C]) (fun b m => by rw [List.mem_singleton.mp m]; exact hC) (fun b m => by rw [List.mem_singleton.mp m]; exact hCl)
  have r := hN C s.heap v s'.heap (fun b q => q.elim (fun z => .inr (F.at_.wd.held b z)) fun m => .inl (List.mem_singleton.mp m)) hva hv
  refine wpAny_assign_Name (store_rule (Γ := Γ.plus [C]) F'.at_ (F'.slot ha) r fun s'' w At' => ?_)
  have F'' := F'.wr (bs := [(x, d)]) w At'
  have hm' : s''.heap.Ns C m := hm.at' fun o e => w.off C o (Ne.symm f1) (fun y _ q => f2 y C q rfl) e
  exact ⟨m, hm', fun h' hs' => (k _ (Fm.sameBut (Γ := Γ.set x d) F'' hs' f1 f2 f3 f4 f5 f6)).run⟩
theorem x_used_list {x : Str} {px pos : Pos} {value : Expr} {rest : List Stmt} {ds : List D} {Q : Flow → Shared → Prop} (F : Fm L Γ os P s) (he : EvU Γ value fun Γ h₀ v h => NewL Γ h₀ ds v h)
    (k : ∀ s', Fm L (Γ.set x (.list ds)) os P s' → Ex (Γ.set x (.list ds)) (execs rest (Γ.set x (.list ds)).env) Q s')
    (ha : asg Γ x = true := by rfl) (hs : swapsWith value (some (.Name x px)) pos.line Γ.env = pure true := by rfl) : Ex Γ (execs (.Assign [.Name x px] value pos :: rest) Γ.env) Q s :=
  x_used F he (fun C h v h' hh hva hv => by
    obtain ⟨a, vs, rfl, hn, hl, rs⟩ := hv
    obtain ⟨a', e, hne, hn'⟩ := hva
    (first | obtain ⟨_, rfl⟩ := e.atom | exact (nsE e).elim | exact (snE e).elim | exact (ftE e).elim | cases e)
    exact .list (fun q => (hh a q).elim (fun e => hne e) fun e => by rw [hn] at e; (first | obtain ⟨_, rfl⟩ := e.atom | exact (nsE e).elim | exact (snE e).elim | exact (ftE e).elim | cases e)) hl (rs.less fun b q => .inl q)) k ha hs
theorem x_used_sdict {x : Str} {px pos : Pos} {value : Expr} {rest : List Stmt} {kvs : List (Str × Int)} {Q : Flow → Shared → Prop} (F : Fm L Γ os P s) (he : EvU Γ value fun Γ' h₀ v h => NewD Γ (strKind Γ.prog Γ.w) h₀ kvs v h)
    (k : ∀ s', Fm L (Γ.set x (.sdict kvs)) os P s' → Ex (Γ.set x (.sdict kvs)) (execs rest (Γ.set x (.sdict kvs)).env) Q s')
    (ha : asg Γ x = true := by rfl) (hs : swapsWith value (some (.Name x px)) pos.line Γ.env = pure true := by rfl) : Ex Γ (execs (.Assign [.Name x px] value pos :: rest) Γ.env) Q s :=
  x_used F he (fun C h v h' hh hva hv => by
    obtain ⟨a, us, rfl, hn, hm, hd, hk⟩ := hv
    obtain ⟨a', e, hne, hn'⟩ := hva
    (first | obtain ⟨_, rfl⟩ := e.atom | exact (nsE e).elim | exact (snE e).elim | exact (ftE e).elim | cases e)
    exact .sdict (fun q => (hh a q).elim (fun e => hne e) fun e => by rw [hn] at e; (first | obtain ⟨_, rfl⟩ := e.atom | exact (nsE e).elim | exact (snE e).elim | exact (ftE e).elim | cases e)) hm hd hk) k ha hs
end
-- part PL15
noncomputable def look (l : List (Str × D)) : Str → Option D := fun x => l.lookup x
noncomputable def Ctx.only (Γ : Ctx) (l : List (Str × D)) : Ctx := { Γ with ρ := look l }
noncomputable def Agree (Γ : Ctx) : List (Str × D) → Prop
  | [] => True
  | (x, d) :: r => Γ.ρ x = some d ∧ Agree Γ r
theorem Agree.mem {Γ : Ctx} : ∀ {l : List (Str × D)}, Agree Γ l → ∀ {x : Str} {d : D}, (x, d) ∈ l → Γ.ρ x = some d
  | [], _, _, _, m => nomatch m
  | (y, e) :: r, h, x, d, m => by
    rcases List.mem_cons.mp m with q | q
    · (first | obtain ⟨_, rfl⟩ := q.atom | exact (nsE q).elim | exact (snE q).elim | exact (ftE q).elim | cases q); exact h.1
    · exact h.2.mem q

section
variable {L : Lev} {Γ : Ctx} {os : List Addr} {P : (Addr → Prop) → Heap → Prop} {s s' : Shared}
theorem At.only {l : List (Str × D)} {h : Heap} (a : Agree Γ l) (C : Γ.At h) : (Γ.only l).At h :=
  ⟨C.wd, C.kind, C.globals, C.builtins, C.room, C.sep, C.cin, fun x d e => C.vars x d (a.mem (mem_of_lookup e))⟩
theorem Fm.only {l : List (Str × D)} (a : Agree Γ l) (F : Fm L Γ os P s) : Fm L (Γ.only l) os P s := { F with at_ := At.only a F.at_ }

theorem Fm.next {Γ' : Ctx} {l : List (Str × D)} (F : Fm L Γ os P s) (e : Γ' = Γ.only l) (a : Agree Γ l) : Fm L Γ' os P s := by rw [e]; exact Fm.only a F

/-- what a loop's iterator is, beside what the function owns -/
structure Zit (Γ : Ctx) (h₁ : Heap) (St : Nat → Heap → Prop) (fp wr : List Addr) (k : Nat) (S : Addr → Prop) (h : Heap) : Prop where
  st : St k h
  z2 : ∀ b ∈ fp, (h.get? b).isSome = true
  z3 : ∀ b ∈ fp, b ∈ wr ∨ ¬ S b
  z4 : ∀ b ∈ wr, S b
  z5 : ∀ b, S b → Γ.S b ∨ h₁.get? b = none
  z6 : Ext Γ.S h₁ h
theorem zit_ok {nt : Bool} {prog : Program} {w : World} {A : Around} {S₀ : Addr → Prop} {h₀ h₁ : Heap} {I : Addr} {fp wr : List Addr} {ds : List D} {St : Nat → Heap → Prop} (T : It nt prog w A S₀ h₀ I fp wr ds St) (k : Nat) : OwnOk (Zit Γ h₁ St fp wr k) wr where
  ext := fun S h h' ⟨z1, z2, z3, z4, z5, z6⟩ x q => by
    have keep : ∀ b ∈ fp, ∀ o, h.get? b = some o → h'.get? b = some o := fun b hb o e => (z3 b hb).elim (fun m => q b m o e) fun n => x b o n e
    refine ⟨T.frame k h h' z1 keep, fun b hb => ?_, z3, z4, z5, fun b o hb e => ?_⟩
    · have := z2 b hb
      cases e : h.get? b with
      | none => rw [e] at this; (first | obtain ⟨_, rfl⟩ := this.atom | exact (nsE this).elim | exact (snE this).elim | exact (ftE this).elim | cases this)
      | some o => rw [keep b hb o e]; rfl
    · exact x b o (fun n => (z5 b n).elim hb fun n' => by rw [n'] at e; (first | obtain ⟨_, rfl⟩ := e.atom | exact (nsE e).elim | exact (snE e).elim | exact (ftE e).elim | cases e)) (z6 b o hb e)
  move := fun S S' h ⟨z1, z2, z3, z4, z5, z6⟩ x q => ⟨z1, z2, fun b hb => (z3 b hb).elim .inl fun n => .inr fun m => (x b m).elim n fun e => (by have := z2 b hb; rw [e] at this; (first | obtain ⟨_, rfl⟩ := this.atom | exact (nsE this).elim | exact (snE this).elim | exact (ftE this).elim | cases this)), q,
    fun b m => (x b m).elim (z5 b) (fun e => (by
      by_cases g : Γ.S b
      · exact .inl g
      · right
        cases r : h₁.get? b with
        | none => rfl
        | some o => rw [z6 b o g r] at e; (first | obtain ⟨_, rfl⟩ := e.atom | exact (nsE e).elim | exact (snE e).elim | exact (ftE e).elim | cases e))), z6⟩
  has := fun S h z => z.z4

theorem x_for {nt : Bool} {target iter : Expr} {body rest : List Stmt} {pos : Pos} {d : D} {ds : List D} {Q : Flow → Shared → Prop} (vars : Nat → List (Str × D)) (Pk : Nat → (Addr → Prop) → Heap → Prop) (F : Fm L Γ os (Pk 0) s) (pok : ∀ k, OwnOk (Pk k) os)
    (hi : Tr Γ (eval iter Γ.env) (fun v h => Γ.R h v d) s) (hit : IterableN nt d ds) (h0 : Agree Γ (vars 0))
    (turn : ∀ k d', ds[k]? = some d' → ∃ bs, Bnd target d' bs ∧ (bs.all fun b => asg Γ b.1) = true ∧ ∀ (L' : Lev) (wr : List Addr) (s' : Shared), L'.W = L.W → L'.s₀ = L.s₀ → Fm L' (((Γ.plus wr).only (vars k)).setAll bs) os (Pk k) s' →
      Ex (((Γ.plus wr).only (vars k)).setAll bs) (execs body (((Γ.plus wr).only (vars k)).setAll bs).env) (fun f s'' => ((f = .next ∨ f = .cont) ∧ Fm L' ((Γ.plus wr).only (vars (k + 1))) os (Pk (k + 1)) s'') ∨ ((∃ v, f = .ret v) ∧ Q f s'')) s')
    (fin : ∀ s', Fm L (Γ.only (vars ds.length)) os (Pk ds.length) s' → Ex (Γ.only (vars ds.length)) (execs rest (Γ.only (vars ds.length)).env) Q s')
    (hs : ∀ x, foldedSetIterable iter Γ.env x = pure x := by intro _; rfl) (hnt : nt = true → ∃ es k p, target = .Tuple es k p := by intro e; first | exact ⟨_, _, _, rfl⟩ | cases e) : Ex Γ (execs (.For target iter body [] pos :: rest) Γ.env) Q s := by
  refine .mk <| wpAny_execs_cons (wpAny_For (hi.then' fun xv s₁ k₁ r₁ => ?_) hs)
  have F₁ := F.kp k₁
  refine hit _ _ _ _ _ _ _ _ F.at_.room.1 r₁ fun I fp wr St s₂ k₂ T st hfp hwr hoff => ?_
  have F₂ := F₁.plus k₂ hwr (fun b m => T.live 0 _ st b m)
  have held : ∀ b, Γ.S b → (s₁.heap.get? b).isSome = true := F₁.at_.wd.held
  have hwS : ∀ b ∈ wr, ¬ Γ.S b := fun b m q => by have := held b q; rw [hwr b m] at this; (first | obtain ⟨_, rfl⟩ := this.atom | exact (nsE this).elim | exact (snE this).elim | exact (ftE this).elim | cases this)
  have hlw : Γ.env.locals ∉ wr := fun m => hwS _ m F.lS.1
  have hcw : ∀ x c, Γ.env.cells.lookup x = some c → c ∉ wr := fun x c e m => hwS _ m (F.cS x c e).2.1
  have hosS : ∀ a ∈ os, Γ.S a := F.pok.has _ _ F.own
  have hzsS : ∀ a ∈ L.zs, Γ.S a := F.zok.has _ _ F.rest
  have hw₀ : ∀ b ∈ wr, L.s₀.heap.get? b = none := fun b m => by
    cases q : L.s₀.heap.get? b with
    | none => rfl
    | some o => have := F₁.base b (by rw [q]; rfl); rw [hwr b m] at this; (first | obtain ⟨_, rfl⟩ := this.atom | exact (nsE this).elim | exact (snE this).elim | exact (ftE this).elim | cases this)
  have zok : ∀ k, OwnOk (fun S h => L.Z S h ∧ Zit Γ s₁.heap St fp wr k S h) (L.zs ++ wr) := fun k => F.zok.and (zit_ok T k)
  let Lk : Nat → Lev := fun k => { L with zs := L.zs ++ wr, Z := fun S h => L.Z S h ∧ Zit Γ s₁.heap St fp wr k S h }
  have F₃ : Fm (Lk 0) ((Γ.plus wr).only (vars 0)) os (Pk 0) s₂ := by
    refine Fm.only (l := vars 0) (Γ := Γ.plus wr) (show Agree (Γ.plus wr) (vars 0) from ?_) ⟨F₂.same, F₂.ext, F₂.at_, F₂.ns, F₂.lS, F₂.cS, ⟨F₂.ol.1, fun m => (List.mem_append.mp m).elim F₂.ol.2 hlw⟩, fun x c e => ⟨(F₂.oc x c e).1, fun m => (List.mem_append.mp m).elim (F₂.oc x c e).2 (hcw x c e)⟩,
      F₂.own, ⟨F₂.rest, st, fun b hb => ?_, fun b hb => ?_, fun b m => .inr m, fun b q => q.elim .inl fun m => .inr (hwr b m), Ext.of_keep k₂.k⟩, fun a m q => (List.mem_append.mp q).elim (F.oz a m) fun z => hwS a z (hosS a m), zok 0, F₂.pok, F₂.base⟩
    · clear turn fin
      have agr : ∀ l, Agree Γ l → Agree (Γ.plus wr) l := fun l => by
        induction l with
        | nil => exact fun _ => trivial
        | cons p l ih => exact fun q => ⟨q.1, ih q.2⟩
      exact agr _ h0
    · rcases hoff b hb with n | n
      · exact T.live 0 _ st b n
      · exact some_keep n.1 k₂.k
    · exact (hoff b hb).elim .inl fun n => by
        by_cases m : b ∈ wr
        · exact .inl m
        · exact .inr fun q => q.elim n.2 m
  refine codeAny_forLoop_any (fun n s => ∃ k, k ≤ ds.length ∧ n = ds.length - k ∧ Fm (Lk k) ((Γ.plus wr).only (vars k)) os (Pk k) s) ?_ _ ⟨0, Nat.zero_le _, rfl, F₃⟩
  rintro n s ⟨k, hk, rfl, c⟩
  obtain ⟨zL, st', z2, z3, z4, z5, z6⟩ := c.rest
  have moved : ∀ (h' : Heap) (tk : Nat), (∀ b o, b ∉ wr → s.heap.get? b = some o → h'.get? b = some o) → (∀ b ∈ wr, (h'.get? b).isSome = true) → ∀ (k' : Nat), St k' h' →
      (∀ b ∈ fp, (h'.get? b).isSome = true) → Fm (Lk k') ((Γ.plus wr).only (vars k)) os (Pk k) { s with heap := h', toks := tk } := fun h' tk he hv k' hst' hfp' => by
    have hx : Ext (Γ.plus wr).S s.heap h' := fun b o hb e => he b o (fun m => hb (.inr m)) e
    have hnw : ∀ a, Γ.S a → a ∉ wr := fun a q m => hwS a m q
    refine ⟨⟨c.same.1, c.same.2⟩, fun b o hb e => he b o (fun m => by rw [show (Lk k').s₀ = L.s₀ from rfl, hw₀ b m] at e; (first | obtain ⟨_, rfl⟩ := e.atom | exact (nsE e).elim | exact (snE e).elim | exact (ftE e).elim | cases e)) (c.ext b o hb e), At.wr (wr := wr) c.at_ he (fun b m => .inr m) hv hlw hcw,
      let ⟨m, q⟩ := c.ns; ⟨m, q.at' fun o e => he _ o hlw e⟩, c.lS, fun x c' e => ?_, c.ol, c.oc, ?_, ⟨?_, hst', hfp', z3, z4, z5, ?_⟩, c.oz, zok k', c.pok, fun b e => ?_⟩
    · obtain ⟨a, b, d', v, o, ho, hd⟩ := c.cS x c' e
      exact ⟨a, b, d', v, o, he _ _ (hcw x c' e) ho, hd⟩
    · exact c.pok.ext _ _ _ c.own hx fun a m o e => he a o (hnw a (hosS a m)) e
    · exact F.zok.ext _ _ _ zL hx fun a m o e => he a o (hnw a (hzsS a m)) e
    · exact fun b o hb e => he b o (fun m => by rw [hwr b m] at e; (first | obtain ⟨_, rfl⟩ := e.atom | exact (nsE e).elim | exact (snE e).elim | exact (ftE e).elim | cases e)) (z6 b o hb e)
    · have := c.base b e
      cases q : s.heap.get? b with
      | none => rw [q] at this; (first | obtain ⟨_, rfl⟩ := this.atom | exact (nsE this).elim | exact (snE this).elim | exact (ftE this).elim | cases this)
      | some o =>
        have nb : b ∉ wr := fun m => by
          have e' : (L.s₀.heap.get? b).isSome = true := e
          rw [hw₀ b m] at e'; (first | obtain ⟨_, rfl⟩ := e'.atom | exact (nsE e').elim | exact (snE e').elim | exact (ftE e').elim | cases e')
        show (h'.get? b).isSome = true
        rw [he b o nb q]; rfl
  rcases Nat.lt_or_ge k ds.length with hlt | hge
  · have hd : ds[k]? = some ds[k] := List.getElem?_eq_getElem hlt
    obtain ⟨bs, hb, hba, hbody⟩ := turn k _ hd
    refine wpAny_mono (T.step k _ target bs s (fun v s' => wpAny (model Γ.prog Γ.w) Γ.A (assign target Γ.env v) (fun _ s₂ => wpAny (model Γ.prog Γ.w) Γ.A (execs body Γ.env) (fun f s₃ => ((f = .next ∨ f = .cont) ∧ Fm (Lk (k + 1)) ((Γ.plus wr).only (vars (k + 1))) os (Pk (k + 1)) s₃) ∨ ((∃ v, f = .ret v) ∧ Q f s₃)) (fun _ _ => False) s₂) (fun _ _ => False) s')
      hnt hb hd st' fun v h' tk hv stn he => ?_) (fun r s₁' h₁' => ?_) fun _ _ x => x.elim
    · have live : ∀ b ∈ wr, (h'.get? b).isSome = true := fun b m => T.live _ _ stn b m
      have c' := moved h' tk he live (k + 1) stn fun b hb => by
        by_cases m : b ∈ wr
        · exact live b m
        · have := z2 b hb
          cases q : s.heap.get? b with
          | none => rw [q] at this; (first | obtain ⟨_, rfl⟩ := this.atom | exact (nsE this).elim | exact (snE this).elim | exact (ftE this).elim | cases this)
          | some o => rw [he b o m q]; rfl
      have x1 : Ext Γ.S s₁.heap h' := fun b o hb e => he b o (fun m => by rw [hwr b m] at e; (first | obtain ⟨_, rfl⟩ := e.atom | exact (nsE e).elim | exact (snE e).elim | exact (ftE e).elim | cases e)) (z6 b o hb e)
      have rv := hv (Γ.plus wr).S (fun b q => q.elim .inl fun m => .inr (hwr b m)) c.at_.wd.held x1
      refine assign_rule (Γ := (Γ.plus wr).only (vars k)) (prog := Γ.prog) (w := Γ.w) F.at_.room.1 c'.at_ hb (fun y hy => c'.slot (bnd_list_ok (Γ := (Γ.plus wr).only (vars k)) hba y hy)) rv fun s₂ W C₂ => ?_
      exact (ex_setAll (Γ := (Γ.plus wr).only (vars k)) (hbody (Lk (k + 1)) wr s₂ rfl rfl (c'.wr W C₂))).run
    · obtain ⟨v, rfl, h₁'⟩ := h₁'
      refine wpAny_mono h₁' (fun _ s₂ h₂ => wpAny_mono h₂ (fun _ s₃ h₃ => wpAny_mono h₃ (fun f s₄ h₄ => ?_) fun _ _ x => x.elim) fun _ _ x => x.elim) fun _ _ x => x.elim
      rcases h₄ with ⟨rfl | rfl, h₄⟩ | ⟨⟨v, rfl⟩, h₄⟩
      · exact ⟨ds.length - (k + 1), by omega, k + 1, hlt, rfl, h₄⟩
      · exact ⟨ds.length - (k + 1), by omega, k + 1, hlt, rfl, h₄⟩
      · exact h₄
  · have hk' : k = ds.length := by omega
    subst hk'
    refine T.done _ _ _ st' fun h' tk he => wpAny_execs_nil ?_
    refine (fin _ ?_).run
    have hnw : ∀ a, Γ.S a → a ∉ wr := fun a q m => hwS a m q
    have hx : Ext (Γ.plus wr).S s.heap h' := fun b o hb e => he b o (fun m => hb (.inr m)) e
    have live : ∀ a, a ∉ wr → (s.heap.get? a).isSome = true → (h'.get? a).isSome = true := fun a m q => by
      cases e : s.heap.get? a with
      | none => rw [e] at q; (first | obtain ⟨_, rfl⟩ := q.atom | exact (nsE q).elim | exact (snE q).elim | exact (ftE q).elim | cases q)
      | some o => rw [he a o m e]; rfl
    refine ⟨⟨c.same.1, c.same.2⟩, fun b o hb e => he b o (fun m => by rw [hw₀ b m] at e; (first | obtain ⟨_, rfl⟩ := e.atom | exact (nsE e).elim | exact (snE e).elim | exact (ftE e).elim | cases e)) (c.ext b o hb e), ?_,
      let ⟨m, q⟩ := c.ns; ⟨m, q.at' fun o e => he _ o hlw e⟩, F.lS, fun x c' e => ?_, F.ol, F.oc, ?_, ?_, F.oz, F.zok, c.pok, fun b e => ?_⟩
    · have C := c.at_
      refine ⟨⟨C.wd.gl, fun b o e => he b o (fun m => by have this : Γ.base.get? b = none := C.wd.off b (.inr m); have e' : Γ.base.get? b = some o := e; rw [this] at e'; (first | obtain ⟨_, rfl⟩ := e'.atom | exact (nsE e').elim | exact (snE e').elim | exact (ftE e').elim | cases e')) (C.wd.up b o e), fun a q => C.wd.off a (.inl q), fun a q => live a (hnw a q) (C.wd.held a (.inl q))⟩,
        C.kind, C.globals, C.builtins, C.room, C.sep, fun x c' e => live c' (hcw x c' e) (C.cin x c' e), fun x d e => ?_⟩
      obtain ⟨v, hv, r⟩ := C.vars x d e
      refine ⟨v, ?_, (r.ext hx).less fun b q => .inl q⟩
      rcases hv with ⟨a, m, n, em⟩ | ⟨a, c', l, o, ho, hd⟩
      · exact .inl ⟨a, m, n.at' fun o q => he _ o hlw q, em⟩
      · exact .inr ⟨a, c', l, o, he _ _ (hcw x c' l) ho, hd⟩
    · obtain ⟨a, b, d', v, o, ho, hd⟩ := c.cS x c' e
      exact ⟨a, (F.cS x c' e).2.1, d', v, o, he _ _ (hcw x c' e) ho, hd⟩
    · exact c.pok.move _ _ _ (c.pok.ext _ _ _ c.own hx fun a m o e => he a o (hnw a (hosS a m)) e) (fun b q => .inl (.inl q)) hosS
    · exact F.zok.move _ _ _ (F.zok.ext _ _ _ zL hx fun a m o e => he a o (hnw a (hzsS a m)) e) (fun b q => .inl (.inl q)) hzsS
    · exact live b (fun m => by rw [hw₀ b m] at e; (first | obtain ⟨_, rfl⟩ := e.atom | exact (nsE e).elim | exact (snE e).elim | exact (ftE e).elim | cases e)) (c.base b e)
end
-- part PL16
/-- the context of a called function's body -/
noncomputable def fnCtx (K : Frag) (prog : Program) (w : World) (A : Around) (n : Nat) (base : Heap) (S : Addr → Prop) (fd : FuncData) (L a : Addr) (vars : List (Str × D)) : Ctx :=
  { K := K, prog := prog, w := w, A := A.deeper (callEnvC fd L a), n := n, base := base, env := callEnvC fd L a, S := fun b => S b ∨ b = L ∨ ∃ x, (callEnvC fd L a).cells.lookup x = some b, ρ := look vars }

theorem bindL_other {kindOf : Str → Option NameKind} : ∀ (binds : List (Str × Value)) (m : Str → Option Value) (x : Str), x ∉ binds.map (·.1) → bindL kindOf binds m x = m x
  | [], _, _, _ => rfl
  | (n, v) :: r, m, x, h => by
    unfold bindL
    rw [bindL_other r _ x fun q => h (List.mem_cons_of_mem _ q)]
    have hx : x ≠ n := fun e => h (by rw [e]; exact .head _)
    split
    · simp [hx]
    · rfl
theorem bindC_other {kindOf : Str → Option NameKind} : ∀ (binds : List (Str × Value)) (m : Str → Option Value) (x : Str), x ∉ binds.map (·.1) → bindC kindOf binds m x = m x
  | [], _, _, _ => rfl
  | (n, v) :: r, m, x, h => by
    unfold bindC
    rw [bindC_other r _ x fun q => h (List.mem_cons_of_mem _ q)]
    have hx : x ≠ n := fun e => h (by rw [e]; exact .head _)
    split
    · rfl
    · simp [hx]
theorem bindL_at {kindOf : Str → Option NameKind} : ∀ (binds : List (Str × Value)) (m : Str → Option Value) (x : Str) (v : Value), (binds.map (·.1)).Nodup → (x, v) ∈ binds → kindOf x = some .local → bindL kindOf binds m x = some v
  | [], _, _, _, _, h, _ => nomatch h
  | (n, u) :: r, m, x, v, hn, h, hk => by
    rw [List.map_cons, List.nodup_cons] at hn
    unfold bindL
    rcases List.mem_cons.mp h with q | q
    · (first | obtain ⟨_, rfl⟩ := q.atom | exact (nsE q).elim | exact (snE q).elim | exact (ftE q).elim | cases q)
      rw [bindL_other r _ _ hn.1, if_pos hk]; simp
    · exact bindL_at r _ x v hn.2 q hk
theorem bindC_at {kindOf : Str → Option NameKind} : ∀ (binds : List (Str × Value)) (m : Str → Option Value) (x : Str) (v : Value), (binds.map (·.1)).Nodup → (x, v) ∈ binds → kindOf x ≠ some .local → bindC kindOf binds m x = some v
  | [], _, _, _, _, h, _ => nomatch h
  | (n, u) :: r, m, x, v, hn, h, hk => by
    rw [List.map_cons, List.nodup_cons] at hn
    unfold bindC
    rcases List.mem_cons.mp h with q | q
    · (first | obtain ⟨_, rfl⟩ := q.atom | exact (nsE q).elim | exact (snE q).elim | exact (ftE q).elim | cases q)
      rw [bindC_other r _ _ hn.1, if_neg hk]; simp
    · exact bindC_at r _ x v hn.2 q hk

theorem zip_rep {prog : Program} {w : World} {S : Addr → Prop} {h : Heap} : ∀ (ps : List Str) (vals : List Value) (ds : List D), RepAll prog w S h vals ds → ∀ x d, (ps.zip ds).lookup x = some d → ∃ v, (x, v) ∈ ps.zip vals ∧ Rep prog w S h v d
  | [], _, _, _, x, d, e => by simp at e
  | p :: ps, [], _, r, x, d, e => by (first | obtain ⟨_, rfl⟩ := r.atom | exact (nsE r).elim | exact (snE r).elim | exact (ftE r).elim | cases r); simp at e
  | p :: ps, v :: vals, _, r, x, d, e => by
    cases r with
    | cons a r =>
      rw [List.zip_cons_cons, List.lookup_cons] at e
      cases hx : (x == p) with
      | true => rw [hx] at e; (first | obtain ⟨_, rfl⟩ := e.atom | exact (nsE e).elim | exact (snE e).elim | exact (ftE e).elim | cases e); exact ⟨v, by rw [eq_of_beq hx]; exact .head _, a⟩
      | false =>
        rw [hx] at e
        obtain ⟨u, h1, h2⟩ := zip_rep ps vals _ r x d e
        exact ⟨u, .tail _ h1, h2⟩

/-- what is to be seen of a function's data, by computation -/
structure FnOk (K : Frag) (a : Addr) (fd : FuncData) (body : List Stmt) (ps : List Str) : Prop where
  at_ : ∃ c d sl, K.lookup a = some ⟨c, d, .func fd, sl⟩
  code : ∃ cc c d vs sl t, fd.code = .ref cc ∧ K.lookup cc = some ⟨c, d, .fields vs, sl⟩ ∧ vs[1]? = some (.str fd.qualname t)
  body : fd.body = .stmts body
  clo : fd.closure = []
  glob : fd.globals = mainGlobals
  blt : fd.builtins = builtinsNs
  kind : fd.scope.kind = .function
  co : fd.scope.isCoroutine = false
  gen : fd.scope.isGenerator = false
  names : (fd.scope.names.map (·.1)).Nodup
  params : ps.Nodup
  kinds : ∀ p ∈ ps, fd.scope.names.lookup p = some .local ∨ fd.scope.names.lookup p = some .cell
  binds : ∀ vals : List Value, vals.length = ps.length → bindArgs fd ⟨vals, []⟩ = pure (ps.zip vals)

theorem FnOk.callable {K : Frag} {a : Addr} {fd : FuncData} {body : List Stmt} {ps : List Str} (h : FnOk K a fd body ps) : Callable K (.ref a) := by
  obtain ⟨c, d, sl, e⟩ := h.at_
  show keepIn K (.ref a) = true
  unfold keepIn
  split
  · rename_i q
    (first | obtain ⟨_, rfl⟩ := q.atom | exact (nsE q).elim | exact (snE q).elim | exact (ftE q).elim | cases q)
    split
    · rfl
    · rename_i q; rw [e] at q; (first | obtain ⟨_, rfl⟩ := q.atom | exact (nsE q).elim | exact (snE q).elim | exact (ftE q).elim | cases q)
    · rename_i q1 q2; exact absurd e (q1 c d fd sl)
  · rename_i q; exact absurd rfl (q a)

theorem fn_enterC {K : Frag} {prog : Program} {w : World} {n : Nat} {fd : FuncData} {body : List Stmt} {ps : List Str} {a : Addr} (H : FnOk K a fd body ps) {A : Around} {base : Heap} {S : Addr → Prop} {s : Shared} {vals : List Value} {ds : List D}
    (hr : RoomA (n + 1) A) (hw : Wd K base S s.heap) (r : RepAll prog w S s.heap vals ds) (hlen : ds.length = ps.length) {W : Addr → Prop} {os : List Addr} {P : (Addr → Prop) → Heap → Prop} (pok : OwnOk P os) (hP : P S s.heap) {R : Result → Shared → Prop}
    (hx : ∀ L s₁, Fm ⟨W, [], noOwn, s⟩ (fnCtx K prog w A n base S fd L a (ps.zip ds)) os P s₁ → Ex (fnCtx K prog w A n base S fd L a (ps.zip ds)) (execs body (fnCtx K prog w A n base S fd L a (ps.zip ds)).env) (fun f s' => R (.ok (.ret (match f with | .ret v => v | _ => .none))) s') s₁) :
    codeAny (model prog w) A (.call (.ref a) ⟨vals, []⟩) R s := by
  have hv := r.length
  obtain ⟨c, d, sl, hat⟩ := H.at_
  obtain ⟨cc, c', d', vs, sl', t, hcode, hcat, hq⟩ := H.code
  have g := hw.glh
  have kinds : ∀ x ∈ ps.zip vals, fd.scope.names.lookup x.1 = some .local ∨ (fd.scope.names.lookup x.1 = some .cell ∧ ((cellsFrom (s.heap.objs.size + 1) fd.scope.names []).lookup x.1).isSome = true) := fun x hx => by
    rcases H.kinds x.1 (List.of_mem_zip hx).1 with q | q
    · exact .inl q
    · exact .inr ⟨q, cellsFrom_has _ _ _ _ (.inr (mem_lookup q))⟩
  refine codeAny_call_cells (fd := fd) (binds := ps.zip vals) (by have := hr.2.1; show A.depth < 1000; omega) (g.inn _ _ hat) rfl g.nolimit ⟨cc, _, vs, t, hcode, g.inn _ _ hcat, rfl, hq⟩ H.body (H.binds vals (by omega)) H.clo kinds (fun s₁ X => ?_) H.co H.gen H.kind
  have keep := X.toInCall.keep
  generalize hL : s.heap.objs.size = L at *
  have hLn : s.heap.get? L = none := get_size _ (by rw [hL]; exact Nat.le_refl _)
  have hcell : ∀ x c, (callEnvC fd L a).cells.lookup x = some c → (x, NameKind.cell) ∈ fd.scope.names ∧ L < c := fun x c e => ⟨own_cell fd.scope.names (L + 1) x c (mem_of_lookup e), X.above x c (mem_of_lookup e)⟩
  have hcn : ∀ x c, (callEnvC fd L a).cells.lookup x = some c → s.heap.get? c = none := fun x c e => get_size _ (by rw [hL]; exact Nat.le_of_lt (hcell x c e).2)
  have hLl : (s₁.heap.get? L).isSome = true := let ⟨o, _, _, e, _⟩ := X.toInCall.ns; by
    have e' : s₁.heap.get? L = some o := e
    rw [e']; rfl
  have sm : Sm s s₁ := let ⟨h', tk, e, k⟩ := X.done; ⟨by rw [e], by rw [e]⟩
  have kp : Kp s s₁ := ⟨sm, keep⟩
  have hkind : ∀ x, (callEnvC fd L a).kindOf x = fd.scope.names.lookup x := fun _ => rfl
  have at_ : (fnCtx K prog w A n base S fd L a (ps.zip ds)).At s₁.heap := by
    refine ⟨⟨hw.gl, fun b o e => keep b o (hw.up b o e), fun b q => ?_, fun b q => ?_⟩, H.kind, H.glob, H.blt, RoomA.deeper hr _, ⟨fun x y c e f => name_of_addr X.apart (mem_of_lookup e) (mem_of_lookup f), fun x c e => ?_⟩, fun x c e => ?_, fun x d e => ?_⟩
    · rcases q with q | q | ⟨x, q⟩
      · exact hw.off b q
      · rw [q]; exact hw.fresh hLn
      · exact hw.fresh (hcn x b q)
    · rcases q with q | q | ⟨x, q⟩
      · exact some_keep (hw.held b q) keep
      · rw [q]; exact hLl
      · obtain ⟨o, ho, _⟩ := X.cell x b q; rw [ho]; rfl
    · show c ≠ L
      have := (hcell x c e).2
      exact fun q => by rw [q] at this; exact Nat.lt_irrefl _ this
    · obtain ⟨o, ho, _⟩ := X.cell x c e; rw [ho]; rfl
    · obtain ⟨v, hm, rv⟩ := zip_rep ps vals ds r x d e
      have hnod : ((ps.zip vals).map (·.1)).Nodup := by
        rw [List.map_fst_zip (by omega)]; exact H.params
      refine ⟨v, ?_, (rv.avoid (S' := (fnCtx K prog w A n base S fd L a (ps.zip ds)).S) fun b q => ?_).keep keep⟩
      · rcases H.kinds x (List.of_mem_zip hm).1 with q | q
        · exact .inl ⟨q, _, X.toInCall.ns, bindL_at _ _ x v hnod hm q⟩
        · have hs := cellsFrom_has fd.scope.names (L + 1) [] x (.inr (mem_lookup q))
          obtain ⟨c, hc⟩ := Option.isSome_iff_exists.mp hs
          have := X.cell x c hc
          rw [bindC_at _ _ x v hnod hm (by rw [hkind, q]; decide)] at this
          exact .inr ⟨.inl q, c, hc, this⟩
      · rcases q with q | q | ⟨y, q⟩
        · exact .inl q
        · right; rw [q]; exact hLn
        · exact .inr (hcn y b q)
  have F : Fm ⟨W, [], noOwn, s⟩ (fnCtx K prog w A n base S fd L a (ps.zip ds)) os P s₁ := by
    have hosS : ∀ b ∈ os, S b := pok.has _ _ hP
    have hosl : ∀ b ∈ os, (s.heap.get? b).isSome = true := fun b m => hw.held b (hosS b m)
    refine ⟨sm, fun b o _ e => keep b o e, at_, ⟨_, X.toInCall.ns⟩, ⟨.inr (.inl rfl), hLn⟩, fun x c e => ⟨?_, .inr (.inr ⟨x, e⟩), hcn x c e, _, X.cell x c e⟩, ⟨fun m => ?_, (fun m => nomatch m)⟩, fun x c e => ⟨fun m => ?_, (fun m => nomatch m)⟩, ?_, trivial, (fun _ _ m => nomatch m), noOwn_ok, pok, fun b e => some_keep e keep⟩
    · rw [show (fnCtx K prog w A n base S fd L a (ps.zip ds)).env.kindOf x = fd.scope.names.lookup x from rfl]
      exact lookup_mem H.names (hcell x c e).1
    · have := hosl _ m
      rw [show (fnCtx K prog w A n base S fd L a (ps.zip ds)).env.locals = L from rfl, hLn] at this; (first | obtain ⟨_, rfl⟩ := this.atom | exact (nsE this).elim | exact (snE this).elim | exact (ftE this).elim | cases this)
    · have := hosl _ m
      rw [hcn x c e] at this; (first | obtain ⟨_, rfl⟩ := this.atom | exact (nsE this).elim | exact (snE this).elim | exact (ftE this).elim | cases this)
    · refine pok.ext _ _ _ (pok.move _ (fnCtx K prog w A n base S fd L a (ps.zip ds)).S _ hP (fun b q => ?_) fun b m => .inl (hosS b m)) (Ext.of_keep keep) fun b _ o e => keep b o e
      rcases q with q | q | ⟨y, q⟩
      · exact .inl q
      · right; rw [q]; exact hLn
      · exact .inr (hcn y b q)
  exact wpAny_mono (hx L s₁ F).run (fun f s' q => q) fun _ _ x => x.elim
theorem fn_enter {K : Frag} {prog : Program} {w : World} {n : Nat} {fd : FuncData} {body : List Stmt} {ps : List Str} {a : Addr} (H : FnOk K a fd body ps) {A : Around} {base : Heap} {S : Addr → Prop} {s : Shared} {vals : List Value} {ds : List D}
    (hr : RoomA (n + 1) A) (hw : Wd K base S s.heap) (r : RepAll prog w S s.heap vals ds) (hlen : ds.length = ps.length) {W : Addr → Prop} {os : List Addr} {P : (Addr → Prop) → Heap → Prop} (pok : OwnOk P os) (hP : P S s.heap) {Q : Value → Shared → Prop}
    (hx : ∀ L s₁, Fm ⟨W, [], noOwn, s⟩ (fnCtx K prog w A n base S fd L a (ps.zip ds)) os P s₁ → Ex (fnCtx K prog w A n base S fd L a (ps.zip ds)) (execs body (fnCtx K prog w A n base S fd L a (ps.zip ds)).env) (fun f s' => ∃ v, f = .ret v ∧ Q v s') s₁) :
    wpAny (model prog w) A (call (.ref a) vals) Q (fun _ _ => False) s :=
  wpAny_call (fn_enterC H hr hw r hlen pok hP fun L s₁ F => .mk (wpAny_mono (hx L s₁ F).run (fun f s' q => by
    obtain ⟨v, rfl, q⟩ := q
    exact q) fun _ _ x => x))

/-- the end of a function that owns nothing from without -/
theorem Fm.done {s s' : Shared} {os : List Addr} {P : (Addr → Prop) → Heap → Prop} {Γ : Ctx} {Lv : Lev}
    (F : Fm Lv Γ os P s') (h1 : Lv.W = fun _ => False) (h2 : Lv.s₀ = s) : Kp s s' := by
  have y := F.same
  have x := F.ext
  rw [h2] at x y
  rw [h1] at x
  exact ⟨y, fun b o q => x b o id q⟩

/-- a function's law, from its body's -/
theorem fn_of_body {K : Frag} {prog : Program} {w : World} {n : Nat} {fd : FuncData} {body : List Stmt} {ps : List Str} {a : Addr} (H : FnOk K a fd body ps) {ds : List D} {d : D} (hlen : ds.length = ps.length)
    (hx : ∀ A base S s₀ L s₁, Fm ⟨fun _ => False, [], noOwn, s₀⟩ (fnCtx K prog w A n base S fd L a (ps.zip ds)) [] noOwn s₁ → Ex (fnCtx K prog w A n base S fd L a (ps.zip ds)) (execs body (fnCtx K prog w A n base S fd L a (ps.zip ds)).env) (fun f s' => ∃ v, f = .ret v ∧ Kp s₀ s' ∧ Rep prog w S s'.heap v d) s₁) :
    Fn K prog w (n + 1) (.ref a) ds d := .mk fun A base S s vals hr hw r =>
  fn_enter H hr hw r hlen noOwn_ok trivial fun L s₁ F => hx A base S s L s₁ F
-- part PL17
noncomputable def lookD {K : Type} [DecidableEq K] (kvs : List (K × Int)) (k : K) : Option Int := (kvs.find? fun kv => kv.1 = k).map (·.2)
noncomputable def eqKV {K : Type} [DecidableEq K] (k1 k2 : List (K × Int)) : Bool := k1.length == k2.length && k1.all fun p => lookD k2 p.1 == some p.2

/-- what == tells of two data -/
inductive EqD : Nat → D → D → Bool → Prop
  | int (n : Nat) (a b : Int) : EqD n (.int a) (.int b) (a == b)
  | str (n : Nat) (a b : Str) : EqD n (.str a) (.str b) (a == b)
  | len (n : Nat) {ds es : List D} : ds.length ≠ es.length → EqD n (.list ds) (.list es) false
  | list {n : Nat} {ds es : List D} (bs : Nat → Bool) : ds.length = es.length → (∀ j d e, ds[j]? = some d → es[j]? = some e → EqD n d e (bs j)) → EqD (n + 1) (.list ds) (.list es) ((List.range ds.length).all bs)
  | tuple {n : Nat} {ds es : List D} (bs : Nat → Bool) : ds.length = es.length → (∀ j d e, ds[j]? = some d → es[j]? = some e → EqD n d e (bs j)) → EqD (n + 1) (.tuple ds) (.tuple es) ((List.range ds.length).all bs)
  | idict (n : Nat) (k1 k2 : List (Int × Int)) : EqD (n + 1) (.idict k1) (.idict k2) (eqKV k1 k2)

section
variable {prog : Program} {w : World}
theorem kv_find {K : Type} [DecidableEq K] {us : List (K × Value)} {kvs : List (K × Int)} (r : KV us kvs) (k : K) : (lookD kvs k = none ∧ valueAt us k = none) ∨ ∃ i t, lookD kvs k = some i ∧ valueAt us k = some (.int i t) := by
  induction r with
  | nil => exact .inl ⟨rfl, rfl⟩
  | @cons k' i t us kvs _ ih =>
    by_cases e : k' = k
    · subst e; exact .inr ⟨i, t, by simp [lookD], by simp [valueAt]⟩
    · have h1 : lookD ((k', i) :: kvs) k = lookD kvs k := by simp [lookD, e]
      have h2 : valueAt ((k', Value.int i t) :: us) k = valueAt us k := by simp [valueAt, e]
      rw [h1, h2]; exact ih

theorem kv_hits {K : Type} [DecidableEq K] {A : Around} {s : Shared} {us2 : List (K × Value)} {k2 : List (K × Int)} (r2 : KV us2 k2) {us1 : List (K × Value)} {k1 : List (K × Int)} (r1 : KV us1 k1) : KeqHits A s us2 us1 (k1.all fun p => lookD k2 p.1 == some p.2) := by
  induction r1 with
  | nil => exact .nil
  | @cons k i t us kvs _ ih =>
    rw [List.all_cons]
    rcases kv_find r2 k with ⟨h1, h2⟩ | ⟨j, u, h1, h2⟩
    · rw [h1]; exact .miss h2
    · rw [h1]
      have : (some j == some i) = (i == j) := by
        show (j == i) = (i == j)
        exact Bool.beq_comm
      rw [this]
      exact .hit h2 (PySem.SeqAt.EqAt.int_int i t j u) ih

theorem rc_dict {K : Type} [DecidableEq K] {knd : KeyKind prog w K} {A : Around} {s : Shared} {a b : Addr} {us1 us2 : List (K × Value)} {k1 k2 : List (K × Int)} (ha : (a == sysModules) = false) (hb : (b == sysModules) = false) (d1 : s.heap.DictOf knd a us1) (d2 : s.heap.DictOf knd b us2) (r1 : KV us1 k1) (r2 : KV us2 k2) (hu : A.units < cLine)
    {E : Value → Shared → Prop} {Q : Value → Shared → Prop} (h : Q (.bool (eqKV k1 k2)) s) : wpAny (model prog w) A (compareOp .Eq (.ref a) (.ref b)) Q E s :=
  keq_eq ha hb d1 d2 hu (fun _ => kv_hits r2 r1) (by rw [r1.length, r2.length]; exact h)
theorem rc_dict_ne {K : Type} [DecidableEq K] {knd : KeyKind prog w K} {A : Around} {s : Shared} {a b : Addr} {us1 us2 : List (K × Value)} {k1 k2 : List (K × Int)} (ha : (a == sysModules) = false) (hb : (b == sysModules) = false) (d1 : s.heap.DictOf knd a us1) (d2 : s.heap.DictOf knd b us2) (r1 : KV us1 k1) (r2 : KV us2 k2) (hu : A.units < cLine)
    {E : Value → Shared → Prop} {Q : Value → Shared → Prop} (h : Q (.bool (!eqKV k1 k2)) s) : wpAny (model prog w) A (compareOp .NotEq (.ref a) (.ref b)) Q E s :=
  keq_ne ha hb d1 d2 hu (fun _ => kv_hits r2 r1) (by rw [r1.length, r2.length]; exact h)

theorem pairs_kind {K : Type} [DecidableEq K] {prog' : Program} {w' : World} {knd : KeyKind prog w K} {knd' : KeyKind prog' w' K} (hi : ∀ k v, knd.is k v = knd'.is k v) {es : List DictEntry} {kvs : List (K × Value)} (p : Pairs knd es kvs) : Pairs knd' es kvs := by
  induction p with
  | nil => exact .nil
  | cons h1 h2 _ ih => exact .cons (by rw [← hi]; exact h1) h2 ih
theorem dictOf_int {prog' : Program} {w' : World} {h : Heap} {a : Addr} {us : List (Int × Value)} (d : h.DictOf (intKind prog w) a us) : h.DictOf (intKind prog' w') a us :=
  let ⟨o, es, ep, h1, h2, h3, h4, h5, h6⟩ := d; ⟨o, es, ep, h1, h2, h3, h4, pairs_kind (knd := intKind prog w) (knd' := intKind prog' w') (fun _ _ => rfl) h5, h6⟩
theorem pairs_uniq {K : Type} [DecidableEq K] {knd : KeyKind prog w K} : ∀ {es : List DictEntry} {kvs kvs' : List (K × Value)}, Pairs knd es kvs → Pairs knd es kvs' → kvs = kvs'
  | _, _, _, .nil, .nil => rfl
  | _, _, _, .cons (kv := kv) h1 h2 r, .cons (kv := kv') h1' h2' r' => by
    have e1 : kv.1 = kv'.1 := knd.inj _ _ _ h1 h1'
    have e2 : kv.2 = kv'.2 := by rw [← h2, ← h2']
    rw [pairs_uniq r r', Prod.ext e1 e2]
theorem dictOf_uniq {K : Type} [DecidableEq K] {knd : KeyKind prog w K} {h : Heap} {a : Addr} {us us' : List (K × Value)} (d : h.DictOf knd a us) (d' : h.DictOf knd a us') : us = us' := by
  obtain ⟨o, es, ep, h1, _, h3, _, h5, _⟩ := d
  obtain ⟨o', es', ep', h1', _, h3', _, h5', _⟩ := d'
  rw [h1] at h1'; (first | obtain ⟨_, rfl⟩ := h1'.atom | exact (nsE h1').elim | exact (snE h1').elim | exact (ftE h1').elim | cases h1')
  rw [h3] at h3'; (first | obtain ⟨_, rfl⟩ := h3'.atom | exact (nsE h3').elim | exact (snE h3').elim | exact (ftE h3').elim | cases h3')
  exact pairs_uniq h5 h5'
theorem kv_uniq {K : Type} {us : List (K × Value)} {k1 k2 : List (K × Int)} (r1 : KV us k1) (r2 : KV us k2) : k1 = k2 := by
  induction r1 generalizing k2 with
  | nil => (first | obtain ⟨_, rfl⟩ := r2.atom | exact (nsE r2).elim | exact (snE r2).elim | exact (ftE r2).elim | cases r2); rfl
  | cons _ ih => cases r2 with
    | cons r => rw [ih r]
theorem lookD_mem {K : Type} [DecidableEq K] : ∀ {kvs : List (K × Int)}, (kvs.map (·.1)).Nodup → ∀ p ∈ kvs, lookD kvs p.1 = some p.2
  | [], _, _, h => nomatch h
  | q :: r, hn, p, h => by
    rw [List.map_cons, List.nodup_cons] at hn
    rcases List.mem_cons.mp h with e | e
    · subst e; simp [lookD]
    · have : q.1 ≠ p.1 := fun z => hn.1 (List.mem_map.mpr ⟨p, e, z.symm⟩)
      have ih := lookD_mem hn.2 p e
      unfold lookD at ih ⊢
      rw [List.find?_cons_of_neg (by simpa using this)]; exact ih
theorem eqKV_self {K : Type} [DecidableEq K] {kvs : List (K × Int)} (hn : (kvs.map (·.1)).Nodup) : eqKV kvs kvs = true := by
  unfold eqKV
  simp only [beq_self_eq_true, Bool.true_and, List.all_eq_true]
  intro p hp
  rw [lookD_mem hn p hp]; simp
theorem kv_keys {K : Type} {us : List (K × Value)} {kvs : List (K × Int)} (r : KV us kvs) : us.map (·.1) = kvs.map (·.1) := by
  induction r with
  | nil => rfl
  | cons _ ih => rw [List.map_cons, List.map_cons, ih]

theorem dict_same {K : Type} [DecidableEq K] {knd : KeyKind prog w K} {h : Heap} {a : Addr} {us us' : List (K × Value)} {k1 k2 : List (K × Int)} (d1 : h.DictOf knd a us) (d2 : h.DictOf knd a us') (q1 : KV us k1) (q2 : KV us' k2) : eqKV k1 k2 = true := by
  obtain rfl := dictOf_uniq d1 d2
  obtain rfl := kv_uniq q1 q2
  obtain ⟨_, _, _, _, _, _, _, _, hn⟩ := d1
  exact eqKV_self (by rw [← kv_keys q1]; exact hn)

/-- all that == and != tell of two values -/
structure Eq3 (A : Around) (s : Shared) (v y : Value) (b : Bool) : Prop where
  at_ : PySem.SeqAt.EqAt A s v y b
  rc : PySem.SeqAt.RcAt A s v y b
  ne : PySem.SeqAt.RcNeAt A s v y (!b)
theorem Eq3.refs {A : Around} {s : Shared} {a a' : Addr} {b : Bool} (hs : a = a' → b = true) (rc : PySem.SeqAt.RcAt A s (.ref a) (.ref a') b) (ne : PySem.SeqAt.RcNeAt A s (.ref a) (.ref a') (!b)) : Eq3 A s (.ref a) (.ref a') b :=
  ⟨if h : a = a' then by subst h; rw [hs rfl]; exact .same _ else .of_refs h rc, rc, ne⟩
/-- what the items tell, one by one -/
structure EqI (prog : Program) (w : World) (d e : D) (n : Nat) (b : Bool) : Prop where
  same : ∀ {S : Addr → Prop} {h : Heap} {v : Value}, Rep prog w S h v d → Rep prog w S h v e → b = true
  eq : ∀ {S : Addr → Prop} {s : Shared} {v y : Value} {A : Around}, Rep prog w S s.heap v d → Rep prog w S s.heap y e → A.units + n < cLine → Eq3 A s v y b
theorem items_same {n : Nat} {ds es : List D} {bs : Nat → Bool} (ih : ∀ j d e, ds[j]? = some d → es[j]? = some e → EqI prog w d e n (bs j)) (hlen : ds.length = es.length) {S : Addr → Prop} {h : Heap} {vs : List Value} (rs : RepAll prog w S h vs ds) (rs' : RepAll prog w S h vs es) : (List.range ds.length).all bs = true :=
  List.all_eq_true.mpr fun j hj => by
    have hj := List.mem_range.mp hj
    obtain ⟨v, hv, rv⟩ := rs.get (List.getElem?_eq_getElem hj)
    obtain ⟨v', hv', rv'⟩ := rs'.get (List.getElem?_eq_getElem (hlen ▸ hj))
    obtain rfl := Option.some.inj (hv.symm.trans hv')
    exact (ih j _ _ (List.getElem?_eq_getElem hj) (List.getElem?_eq_getElem (hlen ▸ hj))).same rv rv'
theorem items_eq {n : Nat} {ds es : List D} {bs : Nat → Bool} (ih : ∀ j d e, ds[j]? = some d → es[j]? = some e → EqI prog w d e n (bs j)) {S : Addr → Prop} {s : Shared} {A : Around} {vs vs' : List Value} (rs : RepAll prog w S s.heap vs ds) (rs' : RepAll prog w S s.heap vs' es) (hu : A.units + (n + 1) < cLine)
    (j : Nat) (g1 : j < vs.toArray.size) (g2 : j < vs'.toArray.size) : PySem.SeqAt.EqAt A.in1 s vs.toArray[j] vs'.toArray[j] (bs j) := by
  obtain ⟨d, hd, rd⟩ := rs.get' (List.getElem?_eq_getElem (i := j) (by simpa using g1))
  obtain ⟨e, he, re⟩ := rs'.get' (List.getElem?_eq_getElem (i := j) (by simpa using g2))
  exact ((ih j d e hd he).eq (A := A.in1) rd re (by show A.units + 1 + n < _; omega)).at_

theorem isTuple_of {h : Heap} {a : Addr} {vs : List Value} {n : Nat} (e : h.get? a = some { cls := .type "tuple", data := .seq vs.toArray n }) : h.IsTuple a vs.toArray := ⟨_, e, rfl, n, rfl⟩
/-- a list, a tuple stand once -/
theorem seq_same {h : Heap} {a a' : Addr} {vs vs' : List Value} {c c' : Nat} {T : String} (h1 : h.get? a = some { cls := .type T, data := .seq vs.toArray c }) (h2 : h.get? a' = some { cls := .type T, data := .seq vs'.toArray c' }) (e : a = a') : vs = vs' := by
  subst e
  have := h1.symm.trans h2
  injection this with this; injection this with _ _ this; injection this with this
  exact congrArg Array.toList this
theorem ref_inj {a a' : Addr} (e : Value.ref a = .ref a') : a = a' := by injection e
theorem eqd_len {n : Nat} {ds es : List D} (hne : ds.length ≠ es.length) : EqI prog w (.list ds) (.list es) n false := by
  have same : ∀ {S : Addr → Prop} {h : Heap} {a a' : Addr} {vs vs' : List Value}, h.PlainList a vs.toArray → RepAll prog w S h vs ds → h.PlainList a' vs'.toArray → RepAll prog w S h vs' es → a = a' → false = true := fun h1 rs h2 rs' e => by
    obtain ⟨c, h1⟩ := h1; obtain ⟨c', h2⟩ := h2
    obtain rfl := seq_same h1 h2 e
    exact absurd (rs.length.symm.trans rs'.length) hne
  refine ⟨fun r1 r2 => ?_, fun r1 r2 hu => ?_⟩
  · obtain ⟨a, vs, rfl, _, h1, rs⟩ := r1.list_inv
    obtain ⟨a', vs', e, _, h2, rs'⟩ := r2.list_inv
    exact same h1 rs h2 rs' (ref_inj e)
  · obtain ⟨a, vs, rfl, _, h1, rs⟩ := r1.list_inv
    obtain ⟨a', vs', rfl, _, h2, rs'⟩ := r2.list_inv
    have hz : (vs.toArray.size != vs'.toArray.size) = true := by simpa [rs.length, rs'.length] using hne
    exact .refs (same h1 rs h2 rs') (.lists_lengths h1.isList h2.isList hz (by omega)) (.lists_lengths h1.isList h2.isList hz (by omega))
theorem eqd_list {n : Nat} {ds es : List D} {bs : Nat → Bool} (hlen : ds.length = es.length) (ih : ∀ j d e, ds[j]? = some d → es[j]? = some e → EqI prog w d e n (bs j)) : EqI prog w (.list ds) (.list es) (n + 1) ((List.range ds.length).all bs) := by
  refine ⟨fun r1 r2 => ?_, fun {S} {s} {v} {y} {A} r1 r2 hu => ?_⟩
  · obtain ⟨a, vs, rfl, _, ⟨c, h1⟩, rs⟩ := r1.list_inv
    obtain ⟨a', vs', e, _, ⟨c', h2⟩, rs'⟩ := r2.list_inv
    obtain rfl := seq_same h1 h2 (ref_inj e)
    exact items_same ih hlen rs rs'
  · obtain ⟨a, vs, rfl, _, h1, rs⟩ := r1.list_inv
    obtain ⟨a', vs', rfl, _, h2, rs'⟩ := r2.list_inv
    have e1 : vs.toArray.size = ds.length := rs.length
    have e2 : vs.toArray.size = vs'.toArray.size := e1.trans (hlen.trans rs'.length.symm)
    rw [← e1]
    refine .refs (fun e => ?_) (.lists h1.isList h2.isList e2 (by omega) (items_eq ih rs rs' hu)) (.lists h1.isList h2.isList e2 (by omega) (items_eq ih rs rs' hu))
    obtain ⟨c, h1⟩ := h1; obtain ⟨c', h2⟩ := h2
    obtain rfl := seq_same h1 h2 e
    rw [e1]; exact items_same ih hlen rs rs'
theorem eqd_tuple {n : Nat} {ds es : List D} {bs : Nat → Bool} (hlen : ds.length = es.length) (ih : ∀ j d e, ds[j]? = some d → es[j]? = some e → EqI prog w d e n (bs j)) : EqI prog w (.tuple ds) (.tuple es) (n + 1) ((List.range ds.length).all bs) := by
  refine ⟨fun r1 r2 => ?_, fun {S} {s} {v} {y} {A} r1 r2 hu => ?_⟩
  · obtain ⟨a, vs, m, rfl, _, h1, rs⟩ := r1.tuple_inv
    obtain ⟨a', vs', m', e, _, h2, rs'⟩ := r2.tuple_inv
    obtain rfl := seq_same h1 h2 (ref_inj e)
    exact items_same ih hlen rs rs'
  · obtain ⟨a, vs, m, rfl, _, h1, rs⟩ := r1.tuple_inv
    obtain ⟨a', vs', m', rfl, _, h2, rs'⟩ := r2.tuple_inv
    have e1 : vs.toArray.size = ds.length := rs.length
    have e2 : vs'.toArray.size = ds.length := rs'.length.trans hlen.symm
    have e3 : (List.range ds.length).all bs = ((List.range (min vs.toArray.size vs'.toArray.size)).all bs && vs.toArray.size == vs'.toArray.size) := by rw [e1, e2, Nat.min_self, beq_self_eq_true, Bool.and_true]
    refine .refs (fun e => ?_) (e3 ▸ .tuples (isTuple_of h1) (isTuple_of h2) (by omega) (items_eq ih rs rs' hu)) (e3 ▸ .tuples (isTuple_of h1) (isTuple_of h2) (by omega) (items_eq ih rs rs' hu))
    obtain rfl := seq_same h1 h2 e
    exact items_same ih hlen rs rs'
theorem eqd_all {n : Nat} {d e : D} {b : Bool} (q : EqD n d e b) : EqI prog w d e n b := by
  induction q with
  | int n a b =>
    refine ⟨fun r1 r2 => ?_, fun r1 r2 _ => ?_⟩
    · obtain ⟨t, rfl⟩ := r1.atom; obtain ⟨u, e⟩ := r2.atom
      injection e with e; exact beq_iff_eq.mpr e
    · obtain ⟨t, rfl⟩ := r1.atom; obtain ⟨u, rfl⟩ := r2.atom
      exact ⟨.int_int _ _ _ _, .int_int _ _ _ _, .int_int _ _ _ _⟩
  | str n a b =>
    refine ⟨fun r1 r2 => ?_, fun r1 r2 _ => ?_⟩
    · obtain ⟨t, rfl⟩ := r1.atom; obtain ⟨u, e⟩ := r2.atom
      injection e with e; exact beq_iff_eq.mpr e
    · obtain ⟨t, rfl⟩ := r1.atom; obtain ⟨u, rfl⟩ := r2.atom
      exact ⟨.str_str _ _ _ _, .str_str _ _ _ _, .str_str _ _ _ _⟩
  | len n hne => exact eqd_len hne
  | list bs hlen _ ih => exact eqd_list hlen ih
  | tuple bs hlen _ ih => exact eqd_tuple hlen ih
  | idict n k1 k2 =>
    refine ⟨fun r1 r2 => ?_, fun r1 r2 hu => ?_⟩
    · cases r1 with | idict _ _ d1 q1 => cases r2 with | idict _ _ d2 q2 => exact dict_same d1 d2 q1 q2
    · cases r1 with | idict _ m1 d1 q1 => cases r2 with | idict _ m2 d2 q2 =>
      exact .refs (fun e => by subst e; exact dict_same d1 d2 q1 q2) (fun _ _ _ _ h => rc_dict m1 m2 (dictOf_int d1) (dictOf_int d2) q1 q2 (by omega) h) (fun _ _ _ _ h => rc_dict_ne m1 m2 (dictOf_int d1) (dictOf_int d2) q1 q2 (by omega) h)
theorem eqd_at {S : Addr → Prop} {s : Shared} {n : Nat} {d e : D} {b : Bool} (q : EqD n d e b) {v y : Value} {A : Around} (r1 : Rep prog w S s.heap v d) (r2 : Rep prog w S s.heap y e) (hu : A.units + n < cLine) : PySem.SeqAt.EqAt A s v y b := ((eqd_all q).eq r1 r2 hu).at_
end

section
variable {Γ : Ctx}
theorem units_ok {h : Heap} (C : Γ.At h) : Γ.A.units + 300 < cLine := by
  have := C.room.2.2
  show _ < 9900
  omega
theorem op_eqD {n : Nat} {d e : D} {b : Bool} (q : EqD n d e b) (hn : n ≤ 100) : Op2 Γ (compareOp .Eq) d e (.bool b) := .mk fun v y s C r1 r2 => ((eqd_all q).eq r1 r2 (by have := units_ok C; omega)).rc _ _ _ _ ⟨Kp.refl s, .bool _⟩
theorem op_neD {n : Nat} {d e : D} {b : Bool} (q : EqD n d e b) (hn : n ≤ 100) : Op2 Γ (compareOp .NotEq) d e (.bool (!b)) := .mk fun v y s C r1 r2 => ((eqd_all q).eq r1 r2 (by have := units_ok C; omega)).ne _ _ _ _ ⟨Kp.refl s, .bool _⟩

-- ready shapes
theorem range_all_get (ns ms : List Int) (h : ns.length = ms.length) : ((List.range ns.length).all fun j => ns[j]? == ms[j]?) = decide (ns = ms) := by
  rw [Bool.eq_iff_iff]
  simp only [List.all_eq_true, List.mem_range, beq_iff_eq, decide_eq_true_eq]
  constructor
  · intro q
    refine List.ext_getElem? fun j => ?_
    rcases Nat.lt_or_ge j ns.length with z | z
    · exact q j z
    · rw [List.getElem?_eq_none z, List.getElem?_eq_none (by omega)]
  · rintro rfl j _; rfl
theorem EqD.ints (n : Nat) (ns ms : List Int) : EqD (n + 1) (.list (ns.map .int)) (.list (ms.map .int)) (decide (ns = ms)) := by
  by_cases h : ns.length = ms.length
  · rw [← range_all_get ns ms h, show ns.length = (ns.map D.int).length by simp]
    refine .list _ (by simpa using h) fun j d e hd he => ?_
    rw [List.getElem?_map] at hd he
    cases h1 : ns[j]? with
    | none => rw [h1] at hd; (first | obtain ⟨_, rfl⟩ := hd.atom | exact (nsE hd).elim | exact (snE hd).elim | exact (ftE hd).elim | cases hd)
    | some a =>
      cases h2 : ms[j]? with
      | none => rw [h2] at he; (first | obtain ⟨_, rfl⟩ := he.atom | exact (nsE he).elim | exact (snE he).elim | exact (ftE he).elim | cases he)
      | some b =>
        rw [h1] at hd; rw [h2] at he
        (first | obtain ⟨_, rfl⟩ := hd.atom | exact (nsE hd).elim | exact (snE hd).elim | exact (ftE hd).elim | cases hd); (first | obtain ⟨_, rfl⟩ := he.atom | exact (nsE he).elim | exact (snE he).elim | exact (ftE he).elim | cases he)
        have := EqD.int n a b
        simpa using this
  · have : decide (ns = ms) = false := by simp; exact fun e => h (by rw [e])
    rw [this]
    exact .len _ (by simpa using h)
end
-- part PL18
/-- dicts with keys of one kind -/
structure KD (K : Type) [DecidableEq K] where
  knd : (prog : Program) → (w : World) → KeyKind prog w K
  enc : K → D
  con : List (K × Int) → D
  inv : ∀ prog w S h v kvs, Rep prog w S h v (con kvs) → ∃ a us, v = .ref a ∧ ¬ S a ∧ (a == sysModules) = false ∧ h.DictOf (knd prog w) a us ∧ KV us kvs
  rd : ∀ prog w S h a us kvs, ¬ S a → (a == sysModules) = false → h.DictOf (knd prog w) a us → KV us kvs → Rep prog w S h (.ref a) (con kvs)
  key : ∀ prog w S h v k, Rep prog w S h v (enc k) → (knd prog w).is k v = true
  rep : ∀ prog w S h v k, (knd prog w).is k v = true → Rep prog w S h v (enc k)
noncomputable def kdI : KD Int where
  knd := intKind
  enc := .int
  con := .idict
  inv := fun prog w S h v kvs r => by cases r with | idict a b c d => exact ⟨_, _, rfl, a, b, c, d⟩
  rd := fun prog w S h a us kvs h1 h2 h3 h4 => .idict h1 h2 h3 h4
  key := fun prog w S h v k r => by (first | obtain ⟨_, rfl⟩ := r.atom | exact (nsE r).elim | exact (snE r).elim | exact (ftE r).elim | cases r); exact intKind_is prog w k _
  rep := fun prog w S h v k e => by obtain ⟨t, rfl⟩ := Value.isInt_shape e; exact .int _ _
noncomputable def kdS : KD Str where
  knd := strKind
  enc := .str
  con := .sdict
  inv := fun prog w S h v kvs r => by cases r with | sdict a b c d => exact ⟨_, _, rfl, a, b, c, d⟩
  rd := fun prog w S h a us kvs h1 h2 h3 h4 => .sdict h1 h2 h3 h4
  key := fun prog w S h v k r => by (first | obtain ⟨_, rfl⟩ := r.atom | exact (nsE r).elim | exact (snE r).elim | exact (ftE r).elim | cases r); exact strKind_is prog w k _
  rep := fun prog w S h v k e => by obtain ⟨t, rfl⟩ := Value.isStrOf_shape e; exact .str _ _

theorem kv_get {K : Type} {us : List (K × Value)} {kvs : List (K × Int)} (r : KV us kvs) {i : Nat} {k : K} {x : Int} (h : kvs[i]? = some (k, x)) : ∃ t, us[i]? = some (k, .int x t) := by
  induction r generalizing i with
  | nil => simp at h
  | cons _ ih =>
    cases i with
    | zero => simp at h; obtain ⟨rfl, rfl⟩ := h; exact ⟨_, rfl⟩
    | succ i => simp at h; simpa using ih h

section
variable {K : Type} [DecidableEq K] (κ : KD K)

theorem rep_box {prog : Program} {w : World} {S : Addr → Prop} {h : Heap} {v : Value} {T : String} {d : D} (r : Rep prog w S h v (.box T d)) : ∃ a x, v = .ref a ∧ ¬ S a ∧ h.get? a = some { cls := .type T, data := .fields #[x] } ∧ Rep prog w S h x d := by
  cases r with
  | box a b c => exact ⟨_, _, rfl, a, b, c⟩

theorem iterable_values {kvs : List (K × Int)} : IterableN false (.box "dict_values" (κ.con kvs)) (kvs.map fun p => .int p.2) := by
  intro prog w A S s v Q E hh r k
  obtain ⟨a, x, rfl, hSa, ha, rx⟩ := rep_box r
  obtain ⟨d, us, rfl, hSd, hm, hd, hkv⟩ := κ.inv _ _ _ _ _ _ rx
  obtain ⟨ep, hat⟩ := hd.dictAt
  have hdl : d < s.heap.objs.size := let ⟨o, _, _, e, _⟩ := hd; Heap.lt_size e
  have hne : d ≠ s.heap.objs.size := Nat.ne_of_lt hdl
  refine wpAny_pyIter_values (d := d) ⟨_, ha, rfl, rfl⟩ hat (k s.heap.objs.size [s.heap.objs.size, d] [s.heap.objs.size] (fun i h => h.IsValIter s.heap.objs.size d i us.length ep ∧ h.DictAt (κ.knd prog w) d us ep) _ (Kp.push s _) ?_ ⟨⟨_, Heap.get?_push_size _ rfl, rfl, rfl⟩, hat.push _⟩ ?_ ?_ ?_)
  · have W := Walks.dictValues (prog := prog) (w := w) (A := A) (knd := κ.knd prog w) hh s.heap.objs.size d hne us ep
    refine It0.it ⟨W.sub, fun i h st b hb => ?_, W.frame, fun i d' s' Q' E' hd' st k' => ?_, fun s' Q' E' st k' => W.done s' Q' E' (by rw [List.length_map, ← hkv.length] at st; exact st) k', W.self, fun i target d' bs v s' Q' E' b rv st q => ?_⟩
    · simp at hb; subst hb; obtain ⟨⟨o, ho, _⟩, _⟩ := st; rw [ho]; rfl
    · rw [List.getElem?_map] at hd'
      cases hx : kvs[i]? with
      | none => rw [hx] at hd'; (first | obtain ⟨_, rfl⟩ := hd'.atom | exact (nsE hd').elim | exact (snE hd').elim | exact (ftE hd').elim | cases hd')
      | some p =>
        rw [hx] at hd'; (first | obtain ⟨_, rfl⟩ := hd'.atom | exact (nsE hd').elim | exact (snE hd').elim | exact (ftE hd').elim | cases hd')
        obtain ⟨t, hu⟩ := kv_get hkv (k := p.1) (x := p.2) hx
        have hi : i < us.length := by
          rcases Nat.lt_or_ge i us.length with z | z
          · exact z
          · rw [List.getElem?_eq_none z] at hu; (first | obtain ⟨_, rfl⟩ := hu.atom | exact (nsE hu).elim | exact (snE hu).elim | exact (ftE hu).elim | cases hu)
        refine W.item i s' Q' E' hi st fun v h' tk hv st' hk => k' v h' tk ?_ st' hk
        obtain ⟨k₀, hv⟩ := hv
        rw [hu] at hv; (first | obtain ⟨_, rfl⟩ := hv.atom | exact (nsE hv).elim | exact (snE hv).elim | exact (ftE hv).elim | cases hv)
        exact .int _ _
    · rcases bnd_target b with ⟨x, p, rfl⟩ | ⟨es, k, p, rfl⟩
      · exact wpAny_pure q
      · cases rv with
        | int => exact wpAny_pure q
        | _ =>
          obtain ⟨⟨o, ho, hc, hdat⟩, _⟩ := st
          first
          | exact wpAny_pure q
          | (unfold letOwnedTupleGo
             refine wpAny_bind (wpAny_load ho ?_)
             rw [hc, hdat]
             show wpAny _ A (if (["enumerate", "zip", "dict_itemiterator", "dict_reverseitemiterator", "odict_iterator", "itertools.zip_longest", "itertools.pairwise"].contains "dict_valueiterator" && _) = true then _ else _) Q' E' s'
             rw [if_neg (by
               rw [show (["enumerate", "zip", "dict_itemiterator", "dict_reverseitemiterator", "odict_iterator", "itertools.zip_longest", "itertools.pairwise"].contains "dict_valueiterator") = false from by decide, Bool.false_and]
               exact Bool.false_ne_true)]
             exact wpAny_pure q)
          | cases v with
            | ref aa =>
              unfold letOwnedTupleGo
              refine wpAny_bind (wpAny_load ho ?_)
              rw [hc, hdat]
              show wpAny _ A (if (["enumerate", "zip", "dict_itemiterator", "dict_reverseitemiterator", "odict_iterator", "itertools.zip_longest", "itertools.pairwise"].contains "dict_valueiterator" && _) = true then _ else _) Q' E' s'
              rw [if_neg (by
                rw [show (["enumerate", "zip", "dict_itemiterator", "dict_reverseitemiterator", "odict_iterator", "itertools.zip_longest", "itertools.pairwise"].contains "dict_valueiterator") = false from by decide, Bool.false_and]
                exact Bool.false_ne_true)]
              exact wpAny_pure q
            | _ => exact wpAny_pure q
  · intro b hb
    show b < (s.heap.push _).objs.size
    rw [Heap.size_push]
    rcases List.mem_cons.mp hb with rfl | hb
    · exact Nat.lt_succ_self _
    · rcases List.mem_cons.mp hb with rfl | hb
      · exact Nat.lt_succ_of_lt hdl
      · (first | obtain ⟨_, rfl⟩ := hb.atom | exact (nsE hb).elim | exact (snE hb).elim | exact (ftE hb).elim | cases hb)
  · intro b hb
    simp at hb; subst hb
    exact get_size _ (Nat.le_refl _)
  · intro b hb
    rcases List.mem_cons.mp hb with rfl | hb
    · exact .inl (.head _)
    · rcases List.mem_cons.mp hb with rfl | hb
      · exact .inr ⟨by obtain ⟨o, _, _, e, _⟩ := hd; rw [e]; rfl, hSd⟩
      · (first | obtain ⟨_, rfl⟩ := hb.atom | exact (nsE hb).elim | exact (snE hb).elim | exact (ftE hb).elim | cases hb)

theorem iterable_items {kvs : List (K × Int)} : IterableN true (.box "dict_items" (κ.con kvs)) (kvs.map fun p => .tuple [κ.enc p.1, .int p.2]) := by
  intro prog w A S s v Q E hh r k
  obtain ⟨a, x, rfl, hSa, ha, rx⟩ := rep_box r
  obtain ⟨d, us, rfl, hSd, hm, hd, hkv⟩ := κ.inv _ _ _ _ _ _ rx
  obtain ⟨ep, hat⟩ := hd.dictAt
  have hdl : d < s.heap.objs.size := let ⟨o, _, _, e, _⟩ := hd; Heap.lt_size e
  generalize hI : s.heap.objs.size = I at *
  have hne : d ≠ I := Nat.ne_of_lt hdl
  have hIn : s.heap.get? I = none := get_size _ (by rw [hI]; exact Nat.le_refl _)
  refine wpAny_pyIter_items (knd := κ.knd prog w) (d := d) (kvs := us) (ep := ep) ⟨_, ha, rfl, rfl⟩ hat ?_
  rw [hI]
  refine k I [I, d] [I] (fun i h => (∃ ok ov, IsItemIter h I d i us.length ep ok ov) ∧ h.DictAt (κ.knd prog w) d us ep) _ (Kp.push s _) ?_ ⟨⟨_, _, hI ▸ Heap.get?_push_size _ rfl⟩, hat.push _⟩ ?_ ?_ ?_
  · refine ⟨fun b hb => by simp at hb; simp [hb], fun i h st b hb => ?_, fun i h h' st hk => ?_, fun s' Q' E' st k' => ?_, fun i s' Q' E' st q => ?_, fun i d' target bs s' Q' hT b hd' st k' => ?_⟩
    · simp at hb; subst hb; obtain ⟨⟨ok, ov, e⟩, _⟩ := st
      have e' : h.get? b = some _ := e
      rw [e']; rfl
    · obtain ⟨⟨ok, ov, e⟩, st⟩ := st
      exact ⟨⟨ok, ov, hk I (by simp) _ e⟩, st.at' fun o e => hk d (by simp) o e⟩
    · obtain ⟨⟨ok, ov, e⟩, hat'⟩ := st
      rw [List.length_map, ← hkv.length] at e
      exact wpAny_pyNext_items_end hh e hat' (by simp) fun h' he => k' h' s'.toks fun b o hb q => he b o (fun z => hb (by simp [z])) q
    · obtain ⟨⟨ok, ov, e⟩, hat'⟩ := st
      have hT : s'.TypeIs (.ref I) "dict_itemiterator" := ⟨_, e, rfl⟩
      refine wpAny_pyIter_slot hT F.slot_dict_itemiterator_iter (wpAny_call_entry F.slot_dict_itemiterator_iter hT kcp_entry ?_ (F.args_dict_itemiterator_iter_1 _))
      show wpAny _ _ (ret (.ref I)) _ _ s'
      exact wpAny_pure ⟨_, rfl, "dict_itemiterator", _, hT, F.slot_dict_itemiterator_next.lookup, q⟩
    · rw [List.getElem?_map] at hd'
      cases hx : kvs[i]? with
      | none => rw [hx] at hd'; (first | obtain ⟨_, rfl⟩ := hd'.atom | exact (nsE hd').elim | exact (snE hd').elim | exact (ftE hd').elim | cases hd')
      | some p =>
        rw [hx] at hd'; (first | obtain ⟨_, rfl⟩ := hd'.atom | exact (nsE hd').elim | exact (snE hd').elim | exact (ftE hd').elim | cases hd')
        obtain ⟨t, hu⟩ := kv_get hkv (k := p.1) (x := p.2) hx
        obtain ⟨⟨ok, ov, e⟩, hat'⟩ := st
        obtain ⟨es, k₀, p₀, rfl⟩ := hT rfl
        have hIl : I < s'.heap.objs.size := Heap.lt_size e
        have hdl' : d < s'.heap.objs.size := let ⟨o, _, q, _⟩ := hat'; Heap.lt_size q
        refine wpAny_pyNext_items_item e hat' hu fun key h₁ hkey heo ht₁ hz₁ hk₁ => ⟨_, rfl, ?_⟩
        refine wpAny_letOwnedTupleGo_items heo fun h₂ he₂ hs₂ => ?_
        have ht₂ : h₂.get? s'.heap.objs.size = some { cls := .type "tuple", data := .seq #[key, Value.int p.2 t] } := (hs₂.2 _ (Nat.ne_of_gt hIl)).trans ht₁
        refine k' _ h₂ s'.toks (fun S' hS' held ext => ?_) ⟨⟨_, _, he₂⟩, (hat'.at' fun o q => hk₁ d o hne q).extBut hs₂.extBut hne⟩ fun b o hb q => hs₂.extBut b o (fun z => hb (by simp [z])) (hk₁ b o (fun z => hb (by simp [z])) q)
        exact .tuple (vs := [key, Value.int p.2 t]) (n := 0) (not_held held (get_size _ (Nat.le_refl _))) ht₂ (.cons (κ.rep _ _ _ _ _ _ hkey) (.cons (.int _ _) .nil))
  · intro b hb
    show b < (s.heap.push _).objs.size
    rw [Heap.size_push, hI]
    rcases List.mem_cons.mp hb with rfl | hb
    · exact Nat.lt_succ_self _
    · rcases List.mem_cons.mp hb with rfl | hb
      · exact Nat.lt_succ_of_lt hdl
      · (first | obtain ⟨_, rfl⟩ := hb.atom | exact (nsE hb).elim | exact (snE hb).elim | exact (ftE hb).elim | cases hb)
  · intro b hb
    simp at hb; subst hb
    exact hIn
  · intro b hb
    rcases List.mem_cons.mp hb with rfl | hb
    · exact .inl (.head _)
    · rcases List.mem_cons.mp hb with rfl | hb
      · exact .inr ⟨by obtain ⟨o, _, _, e, _⟩ := hd; rw [e]; rfl, hSd⟩
      · (first | obtain ⟨_, rfl⟩ := hb.atom | exact (nsE hb).elim | exact (snE hb).elim | exact (ftE hb).elim | cases hb)
end
-- part PL19
/-- data of one built-in type, without a dict of its own -/
noncomputable def HasT (d : D) (T : String) : Prop := ∀ prog w S (s : Shared) v, Rep prog w S s.heap v d → s.TypeIs v T ∧ ∀ a, v = .ref a → ∃ ob, s.heap.get? a = some ob ∧ ob.dict = none
theorem hasT_list {ds : List D} : HasT (.list ds) "list" := fun prog w S s v r => by
  obtain ⟨a, vs, rfl, _, ⟨n, hl⟩, _⟩ := r.list_inv
  exact ⟨⟨_, hl, rfl⟩, fun b e => by (first | obtain ⟨_, rfl⟩ := e.atom | exact (nsE e).elim | exact (snE e).elim | exact (ftE e).elim | cases e); exact ⟨_, hl, rfl⟩⟩
theorem hasT_dict {K : Type} [DecidableEq K] (κ : KD K) {kvs : List (K × Int)} : HasT (κ.con kvs) "dict" := fun prog w S s v r => by
  obtain ⟨a, us, rfl, _, _, hd, _⟩ := κ.inv _ _ _ _ _ _ r
  exact ⟨hd.typeIs, fun b e => by (first | obtain ⟨_, rfl⟩ := e.atom | exact (nsE e).elim | exact (snE e).elim | exact (ftE e).elim | cases e); exact hd.mapOf.noDict _ rfl⟩
theorem hasT_str {x : Str} : HasT (.str x) "str" := fun prog w S s v r => by
  (first | obtain ⟨_, rfl⟩ := r.atom | exact (nsE r).elim | exact (snE r).elim | exact (ftE r).elim | cases r); exact ⟨rfl, fun b e => by (first | obtain ⟨_, rfl⟩ := e.atom | exact (nsE e).elim | exact (snE e).elim | exact (ftE e).elim | cases e)⟩

section
variable {Γ : Ctx} {s : Shared}
/-- a method of a built-in type -/
theorem ev_meth {o : Expr} {name : Str} {apos pos : Pos} {args : List Expr} {T id : String} {d0 d : D} {ds : List D} (ho : Ev Γ o d0) (ha : Evs Γ pos args ds) (hT : HasT d0 T) (pa : PlainAttrs T) (slot : PySem.Slot T name id) (hty : typeOf (.builtin id) = pure (.type "method_descriptor"))
    (F : Fn Γ.K Γ.prog Γ.w Γ.n (.builtin id) (d0 :: ds) d) (hbase : attributeBase o name Γ.env (eval o Γ.env) = eval o Γ.env := by rfl)
    (hfew : ((backTo pos (starEach args Γ.env)).all (fun x => !x.1) && (backToKw pos (keywordEach [] Γ.env)).all (fun x => x.1.isSome)
      && decide (args.length + ([] : List Keyword).length + (if ([] : List Keyword).isEmpty then 0 else 1) < 30)) = true := by rfl)
    (hline : (apos.endLine == pos.line) = true := by rfl) (hp : List.all args plainE = true := by rfl) : Ev Γ (.Call (.Attribute o name apos) args [] pos) d := .mk fun s C => by
  refine wpAny_Call_method hbase hfew hline pa slot hty ((ho.run s C).then' fun v s₁ k₁ r₁ => ?_)
  obtain ⟨h1, h2⟩ := hT _ _ _ _ _ r₁
  refine ⟨h1, h2, spliced_args (C.go k₁) trivial ha (any_plain hp) fun vs s₂ k₂ r₂ => ?_⟩
  have C₂ := (C.go k₁).go k₂
  exact wpAny_mono (F.run Γ.A Γ.base Γ.S s₂ (v :: vs) C₂.room C₂.wd (.cons (r₁.keep k₂.k) r₂)) (fun _ _ q => ⟨(k₁.trans k₂).trans q.1, q.2⟩) fun _ _ x => x
end

section
variable {K : Frag} {prog : Program} {w : World} {n : Nat} {KK : Type} [DecidableEq KK] (κ : KD KK)
theorem fn_values {kvs : List (KK × Int)} : Fn K prog w n (.builtin "dict.values") [κ.con kvs] (.box "dict_values" (κ.con kvs)) := .mk fun A base S s vals hr hw r => by
  obtain ⟨v, rfl, r₁⟩ := r.one
  obtain ⟨a, us, rfl, hS, hm, hd, hkv⟩ := κ.inv _ _ _ _ _ _ r₁
  refine call_meetsIn F.slot_dict_values hd.typeIs F.entry_dict_values (F.args_dict_values_1 _) (meets_dict_values (κ.knd prog w) a hm) ⟨⟨us, hd⟩, Kp.push s _, ?_⟩
  exact .box (not_held hw.held (get_size _ (Nat.le_refl _))) (Heap.get?_push_size _ rfl) (r₁.keep fun _ _ e => Heap.get?_push_of_some _ e)
theorem fn_items {kvs : List (KK × Int)} : Fn K prog w n (.builtin "dict.items") [κ.con kvs] (.box "dict_items" (κ.con kvs)) := .mk fun A base S s vals hr hw r => by
  obtain ⟨v, rfl, r₁⟩ := r.one
  obtain ⟨a, us, rfl, hS, hm, hd, hkv⟩ := κ.inv _ _ _ _ _ _ r₁
  refine call_meetsIn F.slot_dict_items hd.typeIs F.entry_dict_items (F.args_dict_items_1 _) (meets_dict_items (κ.knd prog w) a hm) ⟨⟨us, hd⟩, Kp.push s _, ?_⟩
  exact .box (not_held hw.held (get_size _ (Nat.le_refl _))) (Heap.get?_push_size _ rfl) (r₁.keep fun _ _ e => Heap.get?_push_of_some _ e)
end
section
variable {Γ : Ctx} {KK : Type} [DecidableEq KK] (κ : KD KK)
theorem ev_values {o : Expr} {apos pos : Pos} {kvs : List (KK × Int)} (ho : Ev Γ o (κ.con kvs)) (hbase : attributeBase o "values" Γ.env (eval o Γ.env) = eval o Γ.env := by rfl) (hline : (apos.endLine == pos.line) = true := by rfl) :
    Ev Γ (.Call (.Attribute o "values" apos) [] [] pos) (.box "dict_values" (κ.con kvs)) :=
  ev_meth ho evs_nil (hasT_dict κ) F.plainAttrs_dict F.slot_dict_values F.type_dict_values (fn_values κ) hbase rfl hline rfl
theorem ev_items {o : Expr} {apos pos : Pos} {kvs : List (KK × Int)} (ho : Ev Γ o (κ.con kvs)) (hbase : attributeBase o "items" Γ.env (eval o Γ.env) = eval o Γ.env := by rfl) (hline : (apos.endLine == pos.line) = true := by rfl) :
    Ev Γ (.Call (.Attribute o "items" apos) [] [] pos) (.box "dict_items" (κ.con kvs)) :=
  ev_meth ho evs_nil (hasT_dict κ) F.plainAttrs_dict F.slot_dict_items F.type_dict_items (fn_items κ) hbase rfl hline rfl
theorem op_in_dict {kvs : List (KK × Int)} {k : KK} : Op2 Γ (compareOp .In) (κ.enc k) (κ.con kvs) (.bool (lookD kvs k).isSome) := .mk fun v y s C r1 r2 => by
  obtain ⟨a, us, rfl, hS, hm, hd, hkv⟩ := κ.inv _ _ _ _ _ _ r2
  refine wpAny_in_of (κ.key _ _ _ _ _ _ r1) hm hd.mapOf ⟨Kp.toks s _, ?_⟩
  rcases kv_find hkv k with ⟨h1, h2⟩ | ⟨i, t, h1, h2⟩ <;> rw [h1, h2] <;> exact .bool _
/-- membership in a list -/
theorem any_rep {prog : Program} {w : World} {S : Addr → Prop} {h : Heap} {b : D → Bool} : ∀ {vs : List Value} {ds : List D}, RepAll prog w S h vs ds → ∀ (e : Value → Bool), (∀ v d, d ∈ ds → Rep prog w S h v d → b d = true → e v = true) → (∀ v ∈ vs, e v = true → ∃ d ∈ ds, b d = true) → vs.any e = ds.any b := by
  intro vs ds r e h1 h2
  rw [Bool.eq_iff_iff, List.any_eq_true, List.any_eq_true]
  constructor
  · rintro ⟨v, hv, q⟩; exact h2 v hv q
  · rintro ⟨d, hd, q⟩
    obtain ⟨j, hj, rfl⟩ := List.getElem_of_mem hd
    obtain ⟨v, hv, rv⟩ := r.get (List.getElem?_eq_getElem hj)
    exact ⟨v, List.mem_of_getElem? hv, h1 v _ hd rv q⟩
open Classical in
theorem mem_at {n : Nat} {dx : D} {ds : List D} {b : D → Bool} (q : ∀ d ∈ ds, EqD n d dx (b d)) {s : Shared} {S : Addr → Prop} {prog : Program} {w : World} {vs : List Value} {x : Value} {A : Around} (rs : RepAll prog w S s.heap vs ds) (rx : Rep prog w S s.heap x dx) (hu : A.units + n < cLine) :
    ∃ e : Value → Bool, (∀ y, y ∈ vs.toArray → PySem.SeqAt.EqAt A s y x (e y)) ∧ vs.any e = ds.any b := by
  refine ⟨fun v => decide (∃ d ∈ ds, Rep prog w S s.heap v d ∧ b d = true), fun y hy => ?_, any_rep rs _ (fun v d hd r hb => by simp; exact ⟨d, hd, r, hb⟩) fun v _ q => by simp at q; obtain ⟨d, hd, _, hb⟩ := q; exact ⟨d, hd, hb⟩⟩
  by_cases h : ∃ d ∈ ds, Rep prog w S s.heap y d ∧ b d = true
  · show PySem.SeqAt.EqAt A s y x (decide (∃ d ∈ ds, Rep prog w S s.heap y d ∧ b d = true))
    rw [decide_eq_true h]
    obtain ⟨d, hd, r, hb⟩ := h
    have := eqd_at (q d hd) (A := A) r rx hu
    rw [hb] at this; exact this
  · show PySem.SeqAt.EqAt A s y x (decide (∃ d ∈ ds, Rep prog w S s.heap y d ∧ b d = true))
    rw [decide_eq_false h]
    have hy' : y ∈ vs := by simpa using hy
    obtain ⟨j, hj, rfl⟩ := List.getElem_of_mem hy'
    obtain ⟨d, hd, rd⟩ := rs.get' (List.getElem?_eq_getElem hj)
    have hm : d ∈ ds := List.mem_of_getElem? hd
    have hb : b d = false := by
      cases e : b d with
      | false => rfl
      | true => exact absurd ⟨d, hm, rd, e⟩ h
    have := eqd_at (q d hm) (A := A) rd rx hu
    rw [hb] at this; exact this
theorem op_notin_list {n : Nat} {dx : D} {ds : List D} (b : D → Bool) (q : ∀ d ∈ ds, EqD n d dx (b d)) (hn : n ≤ 100) : Op2 Γ (compareOp .NotIn) dx (.list ds) (.bool (!ds.any b)) := .mk fun v y s C r1 r2 => by
  obtain ⟨a, vs, rfl, hS, hl, rs⟩ := r2.list_inv
  have hu := units_ok C
  obtain ⟨e, h1, h2⟩ := mem_at q (A := Γ.A.in1) rs r1 (by show Γ.A.units + 1 + n < _; omega)
  refine PySem.SeqAt.notIn_listAt e hl.isList h1 ⟨Kp.refl s, ?_⟩
  rw [show vs.toArray.any e = ds.any b by simpa using h2]; exact .bool _
end

/-- how often, where -/
noncomputable def isI (k : Int) : Value → Bool
  | .int i _ => i == k
  | _ => false
theorem ints_eqAt {A : Around} {s : Shared} {vs : List Value} {ns : List Int} (r : IntsAre vs ns) (k : Int) (t : Tok) : ∀ y, y ∈ vs.toArray → PySem.SeqAt.EqAt A s y (.int k t) (isI k y) := fun y hy => by
  have hy' : y ∈ vs := by simpa using hy
  clear hy
  induction r with
  | nil => (first | obtain ⟨_, rfl⟩ := hy'.atom | exact (nsE hy').elim | exact (snE hy').elim | exact (ftE hy').elim | cases hy')
  | cons i u _ ih =>
    rcases List.mem_cons.mp hy' with rfl | z
    · exact PySem.SeqAt.EqAt.int_int _ _ _ _
    · exact ih z
theorem ints_get {vs : List Value} {ns : List Int} (r : IntsAre vs ns) {j : Nat} {i : Int} (h : ns[j]? = some i) : ∃ t, vs[j]? = some (.int i t) := by
  induction r generalizing j with
  | nil => simp at h
  | cons i u _ ih =>
    cases j with
    | zero => simp at h; subst h; exact ⟨_, rfl⟩
    | succ j => simp at h; simpa using ih h
section
variable {K : Frag} {prog : Program} {w : World} {n : Nat}
theorem fn_index {ns : List Int} {k : Int} {j : Nat} (hj : ns[j]? = some k) (hno : ∀ m : Nat, m < j → ns[m]? ≠ some k) (hz : ns.length ≤ 16384) : Fn K prog w n (.builtin "list.index") [.list (ns.map .int), .int k] (.int j) := .mk fun A base S s vals hr hw r => by
  obtain ⟨v, u, rfl, r₁, r₂⟩ := r.two
  obtain ⟨l, vs, rfl, _, ⟨c, hl⟩, rs⟩ := r₁.list_inv
  (first | obtain ⟨_, rfl⟩ := r₂.atom | exact (nsE r₂).elim | exact (snE r₂).elim | exact (ftE r₂).elim | cases r₂)
  have hlen := rs.length
  rw [List.length_map] at hlen
  have hjl : j < vs.length := by
    rcases Nat.lt_or_ge j ns.length with z | z
    · omega
    · rw [List.getElem?_eq_none z] at hj; (first | obtain ⟨_, rfl⟩ := hj.atom | exact (nsE hj).elim | exact (snE hj).elim | exact (ftE hj).elim | cases hj)
  have at_ : ∀ m (hm : m < vs.length), ∃ i t, vs[m] = .int i t ∧ ns[m]? = some i := fun m hm => by
    have : m < ns.length := by omega
    obtain ⟨t, ht⟩ := ints_get rs.ints (List.getElem?_eq_getElem this)
    rw [List.getElem?_eq_getElem hm] at ht
    exact ⟨_, t, Option.some.inj ht, List.getElem?_eq_getElem this⟩
  refine call_meets F.slot_list_index ⟨_, hl, rfl⟩ F.entry_list_index (F.args_list_index_2 _ _) (PySem.SeqAt.list_indexAt l vs.toArray c none #[] _ (isI k) j (by simpa using hjl) (by omega) ?_ fun m hm hlt => ?_) ⟨hl, fun y hy => ints_eqAt rs.ints k _ y hy, Kp.toks s _, .int _ _⟩
  · obtain ⟨i, t, h1, h2⟩ := at_ j hjl
    rw [hj] at h2; (first | obtain ⟨_, rfl⟩ := h2.atom | exact (nsE h2).elim | exact (snE h2).elim | exact (ftE h2).elim | cases h2)
    simp [h1, isI]
  · have hm' : m < vs.length := by simpa using hm
    obtain ⟨i, t, h1, h2⟩ := at_ m hm'
    have : i ≠ k := fun z => hno m hlt (by rw [h2, z])
    simp [h1, isI, this]

/-- a call that makes a new list, a new dict -/
structure FnL (K : Frag) (prog : Program) (w : World) (n : Nat) (f : Value) (ds : List D) (out : List D) : Prop where
  run : ∀ (A : Around) (base : Heap) (S : Addr → Prop) (s : Shared) (vals : List Value), RoomA n A → Wd K base S s.heap → RepAll prog w S s.heap vals ds →
    wpAny (model prog w) A (call f vals) (fun v s' => Kp s s' ∧ ∃ a vs, v = .ref a ∧ s.heap.get? a = none ∧ s'.heap.PlainList a vs.toArray ∧ RepAll prog w (fun b => S b ∨ b = a) s'.heap vs out) (fun _ _ => False) s
structure FnD {KK : Type} [DecidableEq KK] (κ : KD KK) (K : Frag) (prog : Program) (w : World) (n : Nat) (f : Value) (ds : List D) (out : List (KK × Int)) : Prop where
  run : ∀ (A : Around) (base : Heap) (S : Addr → Prop) (s : Shared) (vals : List Value), RoomA n A → Wd K base S s.heap → RepAll prog w S s.heap vals ds →
    wpAny (model prog w) A (call f vals) (fun v s' => Kp s s' ∧ ∃ a us, v = .ref a ∧ s.heap.get? a = none ∧ (a == sysModules) = false ∧ s'.heap.DictOf (κ.knd prog w) a us ∧ KV us out) (fun _ _ => False) s
theorem fn_dict {KK : Type} [DecidableEq KK] (κ : KD KK) {kvs : List (KK × Int)} (hz : kvs.length ≤ sizeLine) : FnD κ K prog w n (.type "dict") [κ.con kvs] kvs := .mk fun A base S s vals hr hw r => by
  obtain ⟨v, rfl, r₁⟩ := r.one
  obtain ⟨a, us, rfl, hS, hm, hd, hkv⟩ := κ.inv _ _ _ _ _ _ r₁
  refine kt_call_dict hm hd (by rw [hkv.length]; exact hz) fun h' hd' hs => ⟨Kp.heap s h' fun b o e => hs.extBut b o (Nat.ne_of_lt (Heap.lt_size e)) (Heap.get?_push_of_some _ e), _, us, rfl, get_size _ (Nat.le_refl _), ?_, hd', hkv⟩
  obtain ⟨mg, o, _, _, e, _⟩ := hw.glh.mg
  have h3 : (3 : Nat) < s.heap.objs.size := Heap.lt_size e
  have h1 : sysModules = 1 := rfl
  rw [h1]
  exact beq_eq_false_iff_ne.mpr (Nat.ne_of_gt (show (1 : Nat) < _ by omega))
end
section
variable {Γ : Ctx} {KK : Type} [DecidableEq KK] {κ : KD KK}
theorem ev_callL {x : Str} {px p : Pos} {es : List Expr} {ds out : List D} {f : Value} (hf : Ev Γ (.Name x px) (.raw f)) (hc : Callable Γ.K f) (h : Evs Γ p es ds) (F : FnL Γ.K Γ.prog Γ.w Γ.n f ds out)
    (hp : List.all es plainE = true := by rfl) : EvNL Γ (.Call (.Name x px) es [] p) out := .mk fun s C => by
  refine wpAny_Call_Name_kw ((hf.run s C).then' fun v s₁ k₁ r₁ => ?_)
  (first | obtain ⟨_, rfl⟩ := r₁.atom | exact (nsE r₁).elim | exact (snE r₁).elim | exact (ftE r₁).elim | cases r₁)
  show wpAny _ _ (callWith p f [] (backTo p (starEach es Γ.env)) []) _ _ _
  exact spliced_args (C.go k₁) hc h (any_plain hp) fun vs s₂ k₂ r₂ => by
    have C₂ := (C.go k₁).go k₂
    exact wpAny_mono (F.run Γ.A Γ.base Γ.S s₂ vs C₂.room C₂.wd r₂) (fun _ _ q => ⟨(k₁.trans k₂).trans q.1, by
      obtain ⟨a, vs, e, hn, r, r2⟩ := q.2
      exact ⟨a, vs, e, none_back (k₁.trans k₂) hn, r, r2⟩⟩) fun _ _ x => x
theorem ev_callD {x : Str} {px p : Pos} {es : List Expr} {ds : List D} {out : List (KK × Int)} {f : Value} (hf : Ev Γ (.Name x px) (.raw f)) (hc : Callable Γ.K f) (h : Evs Γ p es ds) (F : FnD κ Γ.K Γ.prog Γ.w Γ.n f ds out)
    (hp : List.all es plainE = true := by rfl) : EvND Γ (κ.knd Γ.prog Γ.w) (.Call (.Name x px) es [] p) out := .mk fun s C => by
  refine wpAny_Call_Name_kw ((hf.run s C).then' fun v s₁ k₁ r₁ => ?_)
  (first | obtain ⟨_, rfl⟩ := r₁.atom | exact (nsE r₁).elim | exact (snE r₁).elim | exact (ftE r₁).elim | cases r₁)
  show wpAny _ _ (callWith p f [] (backTo p (starEach es Γ.env)) []) _ _ _
  exact spliced_args (C.go k₁) hc h (any_plain hp) fun vs s₂ k₂ r₂ => by
    have C₂ := (C.go k₁).go k₂
    exact wpAny_mono (F.run Γ.A Γ.base Γ.S s₂ vs C₂.room C₂.wd r₂) (fun _ _ q => ⟨(k₁.trans k₂).trans q.1, by
      obtain ⟨a, vs, e, hn, r, r2, r3⟩ := q.2
      exact ⟨a, vs, e, none_back (k₁.trans k₂) hn, r, r2, r3⟩⟩) fun _ _ x => x
/-- an empty dict -/
theorem ev_dict0 (κ : KD KK) {p : Pos} : EvND Γ (κ.knd Γ.prog Γ.w) (.Dict [] [] p) [] := .mk fun s C =>
  wpAny_Dict_empty ⟨Kp.push s _, _, [], rfl, get_size _ (Nat.le_refl _), by
    have := size_big C
    have h1 : sysModules = 1 := rfl
    rw [h1]
    exact beq_eq_false_iff_ne.mpr (Nat.ne_of_gt (show (1 : Nat) < _ by omega)), Heap.DictOf.new s.heap, .nil⟩
/-- [x] * n -/
theorem ev_mulL {l r : Expr} {p : Pos} {d : D} {k : Int} (h1 : Ev Γ l (.list [d])) (h2 : Ev Γ r (.int k)) (h0 : 0 ≤ k) (hk : k ≤ 16384) : EvNL Γ (.BinOp l .Mult r p) (List.replicate k.toNat d) := .mk fun s C => by
  refine wpAny_BinOp ((h1.run s C).then' fun a s₁ k₁ r₁ => (h2.run s₁ (C.go k₁)).then' fun b s₂ k₂ r₂ => ?_)
  have C₂ := (C.go k₁).go k₂
  obtain ⟨x, vs, rfl, _, ⟨c, hl⟩, rs⟩ := (r₁.keep k₂.k).list_inv
  (first | obtain ⟨_, rfl⟩ := r₂.atom | exact (nsE r₂).elim | exact (snE r₂).elim | exact (ftE r₂).elim | cases r₂)
  rename_i u
  obtain ⟨v, rfl, rv⟩ := rs.one
  refine wpAny_binaryOp_repeat_ref (T := "list") (U := "int") (by decide) ⟨_, hl, rfl⟩ (fun s' => typeIs_int s' k u) noFill_list_mul F.fills_int_mul F.slot_int_rmul repeat_list F.slot_int_index.lookup
    (call_meets F.slot_int_rmul (typeIs_int s₂ k u) F.entry_int_rmul (F.args_int_rmul_2 _ _) (int___rmul___int_list k u x _ c)
      ⟨hl, rfl, ⟨_, hl, rfl⟩, call_meets F.slot_list_mul ⟨_, hl, rfl⟩ F.entry_list_mul (F.args_list_mul_2 _ _)
        (AutoListH.list___mul___list_int_3 x _ c k u (by simp [Builtin.List.listFitsIndex]; omega) (by simp; omega) (by simp [Builtin.List.listTooLong, sizeLine]; omega))
        ⟨hl, (k₁.trans k₂).trans (Kp.push s₂ _), s₂.heap.objs.size, List.replicate k.toNat v, rfl, none_back (k₁.trans k₂) (get_size _ (Nat.le_refl _)), ⟨0, ?_⟩, ?_⟩⟩)
  · have e : List.foldl (fun x1 x2 => x1 ++ x2) #[] (List.replicate (if ([v].toArray).isEmpty = true then 0 else k.toNat) [v].toArray) = (List.replicate k.toNat v).toArray := by
      have : ∀ (m : Nat) (acc : Array Value), (List.foldl (fun x1 x2 => x1 ++ x2) acc (List.replicate m [v].toArray)).toList = acc.toList ++ List.replicate m v := by
        intro m
        induction m with
        | zero => intro acc; simp
        | succ m ih => intro acc; rw [List.replicate_succ, List.foldl_cons, ih, List.replicate_succ]; simp
      apply Array.ext'
      have h := this k.toNat #[]
      simpa using h
    rw [e]
    exact Heap.get?_push_size _ rfl
  · have rv' := rv.avoid (S' := fun b => Γ.S b ∨ b = s₂.heap.objs.size) fun b q => q.elim .inl fun e => .inr (by rw [e]; exact get_size _ (Nat.le_refl _))
    refine RepAll.keep (h := s₂.heap) ?_ fun _ _ e => Heap.get?_push_of_some _ e
    generalize k.toNat = m
    induction m with
    | zero => exact .nil
    | succ m ih => exact .cons rv' ih
end
-- part PL20
/-- what is owned, seen as data for a while -/
noncomputable def Ctx.view (Γ : Ctx) (as : List Addr) (l : List (Str × D)) : Ctx := { Γ with S := fun b => Γ.S b ∧ b ∉ as, ρ := fun x => match l.lookup x with | some d => some d | none => Γ.ρ x }
theorem At.view {Γ : Ctx} {as : List Addr} {l : List (Str × D)} {h : Heap} (C : Γ.At h) (q : ∀ x d, l.lookup x = some d → ∃ a, Γ.ρ x = some (.raw (.ref a)) ∧ Rep Γ.prog Γ.w (fun b => Γ.S b ∧ b ∉ as) h (.ref a) d) : (Γ.view as l).At h := by
  refine ⟨C.wd.less fun _ z => z.1, C.kind, C.globals, C.builtins, C.room, C.sep, C.cin, fun x d e => ?_⟩
  have e' : (match l.lookup x with | some d => some d | none => Γ.ρ x) = some d := e
  cases h' : l.lookup x with
  | some d' =>
    rw [h'] at e'; (first | obtain ⟨_, rfl⟩ := e'.atom | exact (nsE e').elim | exact (snE e').elim | exact (ftE e').elim | cases e')
    obtain ⟨a, h1, h2⟩ := q x d h'
    obtain ⟨v, hv, r⟩ := C.vars x _ h1
    (first | obtain ⟨_, rfl⟩ := r.atom | exact (nsE r).elim | exact (snE r).elim | exact (ftE r).elim | cases r)
    exact ⟨_, hv, h2⟩
  | none =>
    rw [h'] at e'
    obtain ⟨v, hv, r⟩ := C.vars x d e'
    exact ⟨v, hv, r.less fun _ z => z.1⟩

theorem AccL.rep {prog : Program} {w : World} {a : Addr} {ds : List D} {S : Addr → Prop} {h : Heap} {as : List Addr} (x : AccL prog w a ds S h) (ha : a ∈ as) : Rep prog w (fun b => S b ∧ b ∉ as) h (.ref a) (.list ds) :=
  let ⟨_, vs, hl, rs⟩ := x; .list (fun q => q.2 ha) hl (rs.less fun _ q => q.1)
theorem AccD.rep {KK : Type} [DecidableEq KK] (κ : KD KK) {prog : Program} {w : World} {a : Addr} {kvs : List (KK × Int)} {S : Addr → Prop} {h : Heap} {as : List Addr} (x : AccD prog w (κ.knd prog w) a kvs S h) (ha : a ∈ as) : Rep prog w (fun b => S b ∧ b ∉ as) h (.ref a) (κ.con kvs) :=
  let ⟨_, hm, us, hd, hk⟩ := x; κ.rd _ _ _ _ _ _ _ (fun q => q.2 ha) hm hd hk

section
variable {L : Lev} {Γ : Ctx} {os : List Addr} {P : (Addr → Prop) → Heap → Prop} {s s' : Shared}

/-- an owned object changes -/
theorem Fm.mut {a : Addr} {h' : Heap} {tk : Nat} {P' : (Addr → Prop) → Heap → Prop} (F : Fm L Γ os P s) (ha : a ∈ os) (hs : Heap.SameBut a s.heap h') (live : (h'.get? a).isSome = true) (hW : L.W a ∨ L.s₀.heap.get? a = none) (pok' : OwnOk P' os) (hP' : P' Γ.S h') :
    Fm L Γ os P' { s with heap := h', toks := tk } := by
  have hS : Γ.S a := F.pok.has _ _ F.own a ha
  have k1 : ∀ b, b ≠ a → ∀ o, s.heap.get? b = some o → h'.get? b = some o := fun b m o e => hs.extBut b o m e
  have hl : Γ.env.locals ≠ a := fun q => F.ol.1 (q ▸ ha)
  have hc : ∀ x c, Γ.env.cells.lookup x = some c → c ≠ a := fun x c e q => (F.oc x c e).1 (q ▸ ha)
  refine ⟨⟨F.same.1, F.same.2⟩, fun b o hb e => k1 b (fun q => ?_) o (F.ext b o hb e), ?_, let ⟨m, q⟩ := F.ns; ⟨m, q.sameBut hs hl⟩, F.lS, fun x c e => let ⟨p, q, r, v, z⟩ := F.cS x c e; ⟨p, q, r, v, z.sameBut hs (hc x c e)⟩, F.ol, F.oc, hP', ?_, F.oz, F.zok, pok', fun b e => ?_⟩
  · rcases hW with z | z
    · exact hb (q ▸ z)
    · rw [q, z] at e; (first | obtain ⟨_, rfl⟩ := e.atom | exact (nsE e).elim | exact (snE e).elim | exact (ftE e).elim | cases e)
  · exact At.wr (wr := [a]) F.at_ (fun b o m e => k1 b (fun q => m (by simp [q])) o e) (fun b m => by rw [List.mem_singleton.mp m]; exact hS) (fun b m => by rw [List.mem_singleton.mp m]; exact live) (fun m => hl (List.mem_singleton.mp m)) fun x c e m => hc x c e (List.mem_singleton.mp m)
  · exact F.zok.ext _ _ _ F.rest (Ext.sameBut hs hS) fun b m o e => k1 b (fun q => F.oz a ha (q ▸ m)) o e
  · have := F.base b e
    by_cases q : b = a
    · rw [q]; exact live
    · show (h'.get? b).isSome = true
      rw [hs.2 b q]; exact this

/-- name = a new object, which the function owns from now on -/
theorem x_own {x : Str} {px pos : Pos} {value : Expr} {rest : List Stmt} {P2 : Addr → (Addr → Prop) → Heap → Prop} {Q : Flow → Shared → Prop} (F : Fm L Γ os P s) (ok2 : ∀ a, OwnOk (P2 a) [a]) (hlive : ∀ a S h, P2 a S h → (h.get? a).isSome = true)
    (he : Tr Γ (eval value Γ.env) (fun v h => ∃ a, v = .ref a ∧ s.heap.get? a = none ∧ P2 a (fun b => Γ.S b ∨ b = a) h) s)
    (k : ∀ a s', L.s₀.heap.get? a = none → a ∉ os → Fm L ((Γ.plus [a]).set x (.raw (.ref a))) (a :: os) (fun S h => P2 a S h ∧ P S h) s' → Ex ((Γ.plus [a]).set x (.raw (.ref a))) (execs rest ((Γ.plus [a]).set x (.raw (.ref a))).env) Q s')
    (ha : asg Γ x = true := by rfl) (hs : swapsWith value (some (.Name x px)) pos.line Γ.env = pure false := by rfl) : Ex Γ (execs (.Assign [.Name x px] value pos :: rest) Γ.env) Q s := by
  refine .mk <| wpAny_execs_cons (wpAny_Assign_Name (he.then' fun v s₁ k₁ r₁ => ?_) hs)
  obtain ⟨a, rfl, hn, hP⟩ := r₁
  obtain ⟨f1, f2, f3, f4, f5, f6⟩ := F.fresh hn
  have live := hlive _ _ _ hP
  have F₁ := F.plus k₁ (wr := [a]) (fun b m => by rw [List.mem_singleton.mp m]; exact hn) (fun b m => by rw [List.mem_singleton.mp m]; exact live)
  have hP' : P2 a (Γ.plus [a]).S s₁.heap := (ok2 a).move _ _ _ hP (fun b q => q.elim (fun z => .inl (.inl z)) fun m => .inl (.inr (List.mem_singleton.mp m))) fun b m => .inr m
  have F₂ : Fm L (Γ.plus [a]) (a :: os) (fun S h => P2 a S h ∧ P S h) s₁ := ⟨F₁.same, F₁.ext, F₁.at_, F₁.ns, F₁.lS, F₁.cS, ⟨fun m => (List.mem_cons.mp m).elim f1 F₁.ol.1, F₁.ol.2⟩, fun x c e => ⟨fun m => (List.mem_cons.mp m).elim (f2 x c e) (F₁.oc x c e).1, (F₁.oc x c e).2⟩,
    ⟨hP', F₁.own⟩, F₁.rest, fun b m => (List.mem_cons.mp m).elim (fun e => e ▸ f4) (F₁.oz b), F₁.zok, (ok2 a).and F₁.pok, F₁.base⟩
  exact store_rule (Γ := Γ.plus [a]) F₂.at_ (F₂.slot (show asg (Γ.plus [a]) x = true from ha)) (.raw _) fun s' w C => (k a s' f5 f3 (F₂.wr (bs := [(x, .raw (.ref a))]) w C)).run

theorem x_own_list {x : Str} {px pos : Pos} {value : Expr} {rest : List Stmt} {ds : List D} {Q : Flow → Shared → Prop} (F : Fm L Γ os P s) (he : Tr Γ (eval value Γ.env) (NewL Γ s.heap ds) s)
    (k : ∀ a s', L.s₀.heap.get? a = none → a ∉ os → Fm L ((Γ.plus [a]).set x (.raw (.ref a))) (a :: os) (fun S h => AccL Γ.prog Γ.w a ds S h ∧ P S h) s' → Ex ((Γ.plus [a]).set x (.raw (.ref a))) (execs rest ((Γ.plus [a]).set x (.raw (.ref a))).env) Q s')
    (ha : asg Γ x = true := by rfl) (hs : swapsWith value (some (.Name x px)) pos.line Γ.env = pure false := by rfl) : Ex Γ (execs (.Assign [.Name x px] value pos :: rest) Γ.env) Q s :=
  x_own (P2 := fun a => AccL Γ.prog Γ.w a ds) F (fun a => accL_ok.own) (fun a S h ⟨_, vs, ⟨n, e⟩, _⟩ => by rw [e]; rfl) (he.mono fun v h ⟨a, vs, e, hn, hl, rs⟩ => ⟨a, e, hn, .inr rfl, vs, hl, rs⟩) k ha hs
theorem x_own_dict {KK : Type} [DecidableEq KK] (κ : KD KK) {x : Str} {px pos : Pos} {value : Expr} {rest : List Stmt} {kvs : List (KK × Int)} {Q : Flow → Shared → Prop} (F : Fm L Γ os P s) (he : Tr Γ (eval value Γ.env) (NewD Γ (κ.knd Γ.prog Γ.w) s.heap kvs) s)
    (k : ∀ a s', L.s₀.heap.get? a = none → a ∉ os → Fm L ((Γ.plus [a]).set x (.raw (.ref a))) (a :: os) (fun S h => AccD Γ.prog Γ.w (κ.knd Γ.prog Γ.w) a kvs S h ∧ P S h) s' → Ex ((Γ.plus [a]).set x (.raw (.ref a))) (execs rest ((Γ.plus [a]).set x (.raw (.ref a))).env) Q s')
    (ha : asg Γ x = true := by rfl) (hs : swapsWith value (some (.Name x px)) pos.line Γ.env = pure false := by rfl) : Ex Γ (execs (.Assign [.Name x px] value pos :: rest) Γ.env) Q s :=
  x_own (P2 := fun a => AccD Γ.prog Γ.w (κ.knd Γ.prog Γ.w) a kvs) F (fun a => accD_ok.own) (fun a S h ⟨_, _, us, ⟨o, _, _, e, _⟩, _⟩ => by rw [e]; rfl) (he.mono fun v h ⟨a, vs, e, hn, hm, hd, hk⟩ => ⟨a, e, hn, .inr rfl, hm, vs, hd, hk⟩) k ha hs

theorem RepAll.set {prog : Program} {w : World} {S : Addr → Prop} {h : Heap} : ∀ {vs : List Value} {ds : List D} (_ : RepAll prog w S h vs ds) (j : Nat) {v : Value} {d : D}, Rep prog w S h v d → RepAll prog w S h (vs.set j v) (ds.set j d)
  | _, _, .nil, _, _, _, _ => .nil
  | _, _, .cons a r, 0, _, _, q => .cons q r
  | _, _, .cons a r, j + 1, _, _, q => .cons a (r.set j q)

/-- owned[i] = value: a list -/
theorem x_setL {o i value : Expr} {p' pos : Pos} {rest : List Stmt} {a : Addr} {ds : List D} {d : D} {j : Nat} {P1 : (Addr → Prop) → Heap → Prop} {Q : Flow → Shared → Prop} (F : Fm L Γ os (fun S h => AccL Γ.prog Γ.w a ds S h ∧ P1 S h) s) (ha : a ∈ os) (hW : L.W a ∨ L.s₀.heap.get? a = none)
    (pok' : OwnOk (fun S h => AccL Γ.prog Γ.w a (ds.set j d) S h ∧ P1 S h) os) (hP1 : ∀ S h h', Heap.SameBut a h h' → S a → P1 S h → P1 S h')
    (hv : Tr Γ (eval value Γ.env) (fun v h => Γ.R h v d) s) (ho : Ev Γ o (.raw (.ref a))) (hi : ∀ s', Fm L Γ os (fun S h => AccL Γ.prog Γ.w a ds S h ∧ P1 S h) s' → Tr Γ (eval i Γ.env) (fun v h => Γ.R h v (.int j)) s') (hj : j < ds.length) (hz : ds.length ≤ 16384)
    (k : ∀ s', Fm L Γ os (fun S h => AccL Γ.prog Γ.w a (ds.set j d) S h ∧ P1 S h) s' → Ex Γ (execs rest Γ.env) Q s')
    (hs : swapsWith value (some (.Subscript o i p')) pos.line Γ.env = pure false := by rfl) : Ex Γ (execs (.Assign [.Subscript o i p'] value pos :: rest) Γ.env) Q s := by
  refine .mk <| wpAny_execs_cons (wpAny_Assign_Subscript (hv.then' fun v s₁ k₁ r₁ => ?_) hs)
  have F₁ := F.kp k₁
  refine (ho.run s₁ F₁.at_).then' fun ov s₂ k₂ r₂ => ?_
  (first | obtain ⟨_, rfl⟩ := r₂.atom | exact (nsE r₂).elim | exact (snE r₂).elim | exact (ftE r₂).elim | cases r₂)
  have F₂ := F₁.kp k₂
  refine (hi s₂ F₂).then' fun iv s₃ k₃ r₃ => ?_
  have F₃ := F₂.kp k₃
  (first | obtain ⟨_, rfl⟩ := r₃.atom | exact (nsE r₃).elim | exact (snE r₃).elim | exact (ftE r₃).elim | cases r₃)
  obtain ⟨⟨hS, vs, hl, rs⟩, hp⟩ := F₃.own
  have hlen := rs.length
  have rv : Γ.R s₃.heap v d := (r₁.keep k₂.k).keep k₃.k
  obtain ⟨n, hl'⟩ := id hl
  refine ki_setAt (n := n) hl' (by omega) (by omega) (by simp; omega) ?_
  have hh := PySem.IsL.update (h := s₃.heap) hl' (·.setIfInBounds ((j : Int)).toNat v)
  have hs' : Heap.SameBut a s₃.heap (s₃.heap.update a (Obj.mapSeq (·.setIfInBounds ((j : Int)).toNat v))) := Heap.SameBut.update ..
  have hpl : (s₃.heap.update a (Obj.mapSeq (·.setIfInBounds ((j : Int)).toNat v))).PlainList a (vs.toArray.setIfInBounds ((j : Int)).toNat v) := ⟨_, hh⟩
  rw [Int.toNat_natCast, List.setIfInBounds_toArray] at hpl
  refine (k _ (Fm.mut (tk := s₃.toks) F₃ ha hs' (by rw [hh]; rfl) hW pok' ⟨⟨hS, vs.set j v, by simpa using hpl, ?_⟩, hP1 _ _ _ hs' hS hp⟩)).run
  exact (rs.set j rv).ext (Ext.sameBut hs' hS)

/-- owned.append(value) -/
theorem x_append {o value : Expr} {apos cpos pos : Pos} {rest : List Stmt} {a : Addr} {ds : List D} {d : D} {P1 : (Addr → Prop) → Heap → Prop} {Q : Flow → Shared → Prop} (F : Fm L Γ os (fun S h => AccL Γ.prog Γ.w a ds S h ∧ P1 S h) s) (ha : a ∈ os) (hW : L.W a ∨ L.s₀.heap.get? a = none)
    (pok' : OwnOk (fun S h => AccL Γ.prog Γ.w a (ds ++ [d]) S h ∧ P1 S h) os) (hP1 : ∀ S h h', Heap.SameBut a h h' → S a → P1 S h → P1 S h')
    (ho : Ev Γ o (.raw (.ref a))) (hv : Ev Γ value d) (hz : ds.length ≤ sizeLine)
    (k : ∀ s', Fm L Γ os (fun S h => AccL Γ.prog Γ.w a (ds ++ [d]) S h ∧ P1 S h) s' → Ex Γ (execs rest Γ.env) Q s')
    (hbase : attributeBase o "append" Γ.env (eval o Γ.env) = eval o Γ.env := by rfl)
    (hfew : ((backTo cpos (starEach [value] Γ.env)).all (fun x => !x.1) && (backToKw cpos (keywordEach [] Γ.env)).all (fun x => x.1.isSome)
      && decide (([value] : List Expr).length + ([] : List Keyword).length + (if ([] : List Keyword).isEmpty then 0 else 1) < 30)) = true := by rfl)
    (hline : (apos.endLine == cpos.line) = true := by rfl) (htrees : backTo cpos (starEach [value] Γ.env) = [(false, eval value Γ.env)] := by rfl)
    (hi : interactive Γ.env = false := by rfl) : Ex Γ (execs (.Expr (.Call (.Attribute o "append" apos) [value] [] cpos) pos :: rest) Γ.env) Q s := by
  refine .mk <| wpAny_execs_cons (wpAny_Expr (wpAny_Call_append hbase hfew hline htrees ((ho.run s F.at_).then' fun ov s₁ k₁ r₁ => ?_)) hi rfl)
  (first | obtain ⟨_, rfl⟩ := r₁.atom | exact (nsE r₁).elim | exact (snE r₁).elim | exact (ftE r₁).elim | cases r₁)
  have F₁ := F.kp k₁
  obtain ⟨⟨hS₁, vs₁, ⟨n₁, hl₁⟩, rs₁⟩, hp₁⟩ := F₁.own
  refine ⟨a, vs₁.toArray, rfl, ⟨_, n₁, hl₁, rfl, rfl, rfl⟩, (hv.run s₁ F₁.at_).then' fun v s₂ k₂ r₂ => ?_⟩
  have F₂ := F₁.kp k₂
  obtain ⟨⟨hS, vs, hl, rs⟩, hp⟩ := F₂.own
  have hlen := rs.length
  refine wpAny_list_append_plain hl (fun h' hl' hs' => (k _ ?_).run) (by simpa [hlen] using hz)
  refine Fm.mut (tk := s₂.toks) F₂ ha hs' (by obtain ⟨n, e⟩ := hl'; rw [e]; rfl) hW pok' ⟨⟨hS, vs ++ [v], by simpa using hl', ?_⟩, hP1 _ _ _ hs' hS hp⟩
  exact (rs.ext (Ext.sameBut hs' hS)).append (.cons (r₂.ext (Ext.sameBut hs' hS)) .nil)

/-- owned[key] = value, owned[key] += value: a dict -/
theorem x_setD {KK : Type} [DecidableEq KK] (κ : KD KK) {o i value : Expr} {p' pos : Pos} {rest : List Stmt} {a : Addr} {kvs : List (KK × Int)} {key : KK} {x : Int} {P1 : (Addr → Prop) → Heap → Prop} {Q : Flow → Shared → Prop}
    (F : Fm L Γ os (fun S h => AccD Γ.prog Γ.w (κ.knd Γ.prog Γ.w) a kvs S h ∧ P1 S h) s) (ha : a ∈ os) (hW : L.W a ∨ L.s₀.heap.get? a = none)
    (pok' : OwnOk (fun S h => AccD Γ.prog Γ.w (κ.knd Γ.prog Γ.w) a (put kvs key x) S h ∧ P1 S h) os) (hP1 : ∀ S h h', Heap.SameBut a h h' → S a → P1 S h → P1 S h')
    (hv : Ev Γ value (.int x)) (ho : Ev Γ o (.raw (.ref a))) (hi : Ev Γ i (κ.enc key)) (hz : kvs.length ≤ sizeLine)
    (k : ∀ s', Fm L Γ os (fun S h => AccD Γ.prog Γ.w (κ.knd Γ.prog Γ.w) a (put kvs key x) S h ∧ P1 S h) s' → Ex Γ (execs rest Γ.env) Q s')
    (hs : swapsWith value (some (.Subscript o i p')) pos.line Γ.env = pure false := by rfl) : Ex Γ (execs (.Assign [.Subscript o i p'] value pos :: rest) Γ.env) Q s := by
  refine .mk <| wpAny_execs_cons (wpAny_Assign_Subscript ((hv.run s F.at_).then' fun v s₁ k₁ r₁ => ?_) hs)
  have F₁ := F.kp k₁
  refine (ho.run s₁ F₁.at_).then' fun ov s₂ k₂ r₂ => ?_
  (first | obtain ⟨_, rfl⟩ := r₂.atom | exact (nsE r₂).elim | exact (snE r₂).elim | exact (ftE r₂).elim | cases r₂)
  have F₂ := F₁.kp k₂
  refine (hi.run s₂ F₂.at_).then' fun iv s₃ k₃ r₃ => ?_
  have F₃ := F₂.kp k₃
  obtain ⟨⟨hS, hm, us, hd, hk⟩, hp⟩ := F₃.own
  cases r₁ with
  | int _ t =>
  refine wpAny_setItem_pairs (κ.key _ _ _ _ _ _ r₃) hd (fun h' hd' hs' => (k _ ?_).run) (by rw [hk.length]; exact hz)
  exact Fm.mut F₃ ha hs' (by obtain ⟨o, _, _, e, _⟩ := hd'; rw [e]; rfl) hW pok' ⟨⟨hS, hm, _, hd', kv_put hk key x t⟩, hP1 _ _ _ hs' hS hp⟩
theorem x_augD {KK : Type} [DecidableEq KK] (κ : KD KK) {o i value : Expr} {p' pos : Pos} {rest : List Stmt} {a : Addr} {kvs : List (KK × Int)} {key : KK} {x y : Int} {P1 : (Addr → Prop) → Heap → Prop} {Q : Flow → Shared → Prop}
    (F : Fm L Γ os (fun S h => AccD Γ.prog Γ.w (κ.knd Γ.prog Γ.w) a kvs S h ∧ P1 S h) s) (ha : a ∈ os) (hW : L.W a ∨ L.s₀.heap.get? a = none)
    (pok' : OwnOk (fun S h => AccD Γ.prog Γ.w (κ.knd Γ.prog Γ.w) a (put kvs key (x + y)) S h ∧ P1 S h) os) (hP1 : ∀ S h h', Heap.SameBut a h h' → S a → P1 S h → P1 S h')
    (hv : Ev Γ value (.int y)) (ho : Ev Γ o (.raw (.ref a))) (hi : Ev Γ i (κ.enc key)) (hx : lookD kvs key = some x) (hz : kvs.length ≤ sizeLine)
    (k : ∀ s', Fm L Γ os (fun S h => AccD Γ.prog Γ.w (κ.knd Γ.prog Γ.w) a (put kvs key (x + y)) S h ∧ P1 S h) s' → Ex Γ (execs rest Γ.env) Q s')
    (hau : ∀ ov iv new, augStore i ov iv new = (do holding [new, ov, iv] (setItem ov iv new); release [new, ov, iv] []; pure .next) := by intro _ _ _; rfl) : Ex Γ (execs (.AugAssign (.Subscript o i p') .Add value pos :: rest) Γ.env) Q s := by
  refine .mk <| wpAny_execs_cons (wpAny_AugAssign_Subscript_any ((ho.run s F.at_).then' fun ov s₁ k₁ r₁ => ?_) hau)
  (first | obtain ⟨_, rfl⟩ := r₁.atom | exact (nsE r₁).elim | exact (snE r₁).elim | exact (ftE r₁).elim | cases r₁)
  have F₁ := F.kp k₁
  refine (hi.run s₁ F₁.at_).then' fun iv s₂ k₂ r₂ => ?_
  have F₂ := F₁.kp k₂
  have hkey := κ.key _ _ _ _ _ _ r₂
  obtain ⟨⟨hS₂, hm₂, us₂, hd₂, hk₂⟩, hp₂⟩ := F₂.own
  rcases kv_find hk₂ key with ⟨h1, h2⟩ | ⟨i, t, h1, h2⟩
  · rw [hx] at h1; (first | obtain ⟨_, rfl⟩ := h1.atom | exact (nsE h1).elim | exact (snE h1).elim | exact (ftE h1).elim | cases h1)
  rw [hx] at h1; (first | obtain ⟨_, rfl⟩ := h1.atom | exact (nsE h1).elim | exact (snE h1).elim | exact (ftE h1).elim | cases h1)
  refine wpAny_getItem_of hkey hd₂.mapOf h2 ?_
  have F₃ := F₂.kp (Kp.toks s₂ (s₂.toks + 1))
  refine (hv.run _ F₃.at_).then' fun v s₄ k₄ r₄ => ?_
  have F₄ := F₃.kp k₄
  cases r₄ with
  | int _ t' =>
  refine iadd_int ?_
  have F₅ := F₄.kp (Kp.toks s₄ (s₄.toks + 1))
  obtain ⟨⟨hS, hm, us, hd, hk⟩, hp⟩ := F₅.own
  refine wpAny_setItem_pairs hkey hd (fun h' hd' hs' => (k _ ?_).run) (by rw [hk.length]; exact hz)
  exact Fm.mut F₅ ha hs' (by obtain ⟨o, _, _, e, _⟩ := hd'; rw [e]; rfl) hW pok' ⟨⟨hS, hm, _, hd', kv_put hk key (x + y) _⟩, hP1 _ _ _ hs' hS hp⟩

/-- a loop of while -/
theorem x_while {test : Expr} {body orelse rest : List Stmt} {pos : Pos} {Q : Flow → Shared → Prop} (I : Nat → Shared → Prop) (n : Nat) (h : I n s)
    (turn : ∀ n s, I n s → ∃ b, Ex Γ (isTrue test Γ.env (eval test Γ.env)) (fun t s' => t = b ∧ if b then Ex Γ (execs body Γ.env) (fun f s₃ => match f with
        | .next | .cont => ∃ m, m < n ∧ I m s₃
        | .brk => Ex Γ (execs rest Γ.env) Q s₃
        | .ret v => Q (.ret v) s₃) s' else Ex Γ (execs orelse Γ.env) (fun f s₃ => match f with | .next => Ex Γ (execs rest Γ.env) Q s₃ | f => Q f s₃) s') s) : Ex Γ (execs (.While test body orelse pos :: rest) Γ.env) Q s := by
  refine .mk <| wpAny_execs_cons (wpAny_While (codeAny_whileLoop I (fun n s hI => ?_) n h))
  obtain ⟨b, hb⟩ := turn n s hI
  refine wpAny_mono hb.run (fun t s' q => ?_) fun _ _ x => x.elim
  obtain ⟨rfl, q⟩ := q
  cases t with
  | true =>
    simp only [if_true] at q ⊢
    exact wpAny_mono q.run (fun f s₃ z => by (first | obtain ⟨_, rfl⟩ := f.atom | exact (nsE f).elim | exact (snE f).elim | exact (ftE f).elim | cases f) <;> first | exact z | exact z.run) fun _ _ x => x.elim
  | false =>
    simp only [Bool.false_eq_true, if_false] at q ⊢
    exact wpAny_mono q.run (fun f s₃ z => by (first | obtain ⟨_, rfl⟩ := f.atom | exact (nsE f).elim | exact (snE f).elim | exact (ftE f).elim | cases f) <;> first | exact z.run | exact z) fun _ _ x => x.elim
end
-- part PL21
/-- a loop of while, whose state is told by a number -/
theorem x_whileF {L : Lev} {Γ : Ctx} {os : List Addr} {P : (Addr → Prop) → Heap → Prop} {s : Shared} {test : Expr} {body orelse rest : List Stmt} {pos : Pos} {Q : Flow → Shared → Prop} (G : Nat → List (Str × D)) (J : Nat → Prop) (n : Nat) (F : Fm L (Γ.only (G n)) os P s) (j : J n)
    (turn : ∀ n, J n → ∃ b, (∀ s, Fm L (Γ.only (G n)) os P s → Tr (Γ.only (G n)) (isTrue test (Γ.only (G n)).env (eval test (Γ.only (G n)).env)) (fun t _ => t = b) s) ∧
      (b = true → ∀ s, Fm L (Γ.only (G n)) os P s → Ex (Γ.only (G n)) (execs body (Γ.only (G n)).env) (fun f s₃ => match f with
        | .next | .cont => ∃ m, m < n ∧ J m ∧ Fm L (Γ.only (G m)) os P s₃
        | .brk => Ex Γ (execs rest Γ.env) Q s₃
        | .ret v => Q (.ret v) s₃) s) ∧
      (b = false → ∀ s, Fm L (Γ.only (G n)) os P s → Ex (Γ.only (G n)) (execs orelse (Γ.only (G n)).env) (fun f s₃ => match f with | .next => Ex Γ (execs rest Γ.env) Q s₃ | f => Q f s₃) s)) :
    Ex Γ (execs (.While test body orelse pos :: rest) Γ.env) Q s := by
  refine x_while (fun n s => Fm L (Γ.only (G n)) os P s ∧ J n) n ⟨F, j⟩ fun n s h => ?_
  obtain ⟨F, j⟩ := h
  obtain ⟨b, ht, h1, h2⟩ := turn n j
  refine ⟨b, .mk (wpAny_mono (ht s F) (fun t s' q => ?_) fun _ _ x => x)⟩
  obtain ⟨kp, rfl⟩ := q
  refine ⟨rfl, ?_⟩
  have F' := F.kp kp
  cases t with
  | true =>
    refine .mk (wpAny_mono (h1 rfl s' F').run (fun f s₃ z => ?_) fun _ _ x => x)
    cases f with
    | next => obtain ⟨m, a, b, c⟩ := z; exact ⟨m, a, c, b⟩
    | cont => obtain ⟨m, a, b, c⟩ := z; exact ⟨m, a, c, b⟩
    | brk => exact z
    | ret v => exact z
  | false => exact .mk (h2 rfl s' F').run
theorem ex_brk {Γ : Ctx} {s : Shared} {pos : Pos} {rest : List Stmt} {Q : Flow → Shared → Prop} (h : Q .brk s) : Ex Γ (execs (.Break pos :: rest) Γ.env) Q s := .mk (wpAny_execs_cons (wpAny_Break h))

/-- a comprehension's table of names, looked at by computation -/
noncomputable def scopeB (Γ : Ctx) (scope : Scope) (tg : List Str) : Bool :=
  decide (scope.kind = .function) && decide ((scope.names.map (·.1)).Nodup) && scope.names.all (fun p => decide (p.2 ≠ .free) || ((Γ.ρ p.1).isSome && decide (Γ.env.kindOf p.1 ≠ some .local))) &&
    tg.all fun x => decide (scope.names.lookup x = some .local) || decide (scope.names.lookup x = some .cell)
theorem scopeOk_at {Γ : Ctx} {scope : Scope} {tg : List Str} {h : Heap} (C : Γ.At h) (e : scopeB Γ scope tg = true) : ScopeOk Γ scope tg := by
  unfold scopeB at e
  simp only [Bool.and_eq_true, decide_eq_true_eq, List.all_eq_true, Bool.or_eq_true] at e
  obtain ⟨⟨⟨e1, e2⟩, e3⟩, e4⟩ := e
  refine ⟨e1, e2, fun p hp hf => ?_, fun x hx => e4 x hx⟩
  rcases e3 p hp with q | ⟨q, q'⟩
  · exact absurd hf q
  · obtain ⟨d, hd⟩ := Option.isSome_iff_exists.mp q
    obtain ⟨v, hv, _⟩ := C.vars _ _ hd
    rcases hv with ⟨a, _⟩ | ⟨_, c, l, _⟩
    · exact absurd a q'
    · exact ⟨by rw [l]; rfl, q'⟩

theorem Op2.cast {Γ : Ctx} {f : Value → Value → Sem Value} {d1 d2 d d' : D} (h : Op2 Γ f d1 d2 d) (q : d = d') : Op2 Γ f d1 d2 d' := q ▸ h
theorem Ev.cast {Γ : Ctx} {e : Expr} {d d' : D} (h : Ev Γ e d) (q : d = d') : Ev Γ e d' := q ▸ h
theorem EvT.cast {Γ : Ctx} {e : Expr} {b b' : Bool} (h : EvT Γ e b) (q : b = b') : EvT Γ e b' := q ▸ h

/-- range, as numbers -/
theorem iter_range {n : Int} (h0 : 0 ≤ n) (h1 : n < 2 ^ 62) : Iterable (.range 0 n 1) ((List.range n.toNat).map fun i : Nat => D.int (i : Int)) := by
  have := iterable_range1 (a := 0) (b := n) (by omega) (by omega) (by omega) h1
  have e : rangeD 0 1 (n - 0).toNat = (List.range n.toNat).map fun i : Nat => D.int (i : Int) := by simp [rangeD]
  rw [e] at this; exact this
theorem iter_range2 {a b : Int} (ha : -(2 ^ 62) ≤ a) (ha' : a < 2 ^ 62) (hb : -(2 ^ 62) ≤ b) (hb' : b < 2 ^ 62) : Iterable (.range a b 1) ((List.range (b - a).toNat).map fun i : Nat => D.int (a + (i : Int))) := by
  have := iterable_range1 ha ha' hb hb'
  have e : rangeD a 1 (b - a).toNat = (List.range (b - a).toNat).map fun i : Nat => D.int (a + (i : Int)) := by simp [rangeD]
  rw [e] at this; exact this
theorem iter_ints {ns : List Int} : Iterable (.list (ns.map .int)) (ns.map .int) := iterable_list

section
variable {Γ : Ctx}
theorem ev_range {x : Expr} {px p : Pos} {n : Int} (T : TopOk Γ.K) (hk : Γ.env.kindOf "range" = some .globalImplicit) (e : globOf Γ.K "range" = none) (h : Ev Γ x (.int n)) (hp : List.all [x] plainE = true := by rfl) (he : plainE x = true := by rfl) :
    Ev Γ (.Call (.Name "range" px) [x] [] p) (.range 0 n 1) :=
  ev_call (f := .type "range") (ev_blt T hk e (by rfl)) trivial (evs_cons h evs_nil he) fn_range1 hp
theorem ev_range2 {x y : Expr} {px p : Pos} {a b : Int} (T : TopOk Γ.K) (hk : Γ.env.kindOf "range" = some .globalImplicit) (e : globOf Γ.K "range" = none) (h1 : Ev Γ x (.int a)) (h2 : Ev Γ y (.int b)) (hp : List.all [x, y] plainE = true := by rfl) (he : plainE x = true := by rfl) (he2 : plainE y = true := by rfl) : Ev Γ (.Call (.Name "range" px) [x, y] [] p) (.range a b 1) :=
  ev_call (f := .type "range") (ev_blt T hk e (by rfl)) trivial (evs_cons h1 (evs_cons h2 evs_nil he2) he) fn_range2 hp
theorem ev_blt1 {f : Str} {F : Value} {x : Expr} {px p : Pos} {d1 d : D} (T : TopOk Γ.K) (hk : Γ.env.kindOf f = some .globalImplicit) (e : globOf Γ.K f = none) (hb : bootBuiltins f = some F) (hc : Callable Γ.K F) (h : Ev Γ x d1) (fn : Fn Γ.K Γ.prog Γ.w Γ.n F [d1] d) (hn : f ≠ "__name__" := by decide) (hd : (f == ("__debug__" : Str)) = false := by decide)
    (hp : List.all [x] plainE = true := by rfl) (he : plainE x = true := by rfl) : Ev Γ (.Call (.Name f px) [x] [] p) d :=
  ev_call (ev_blt T hk e hb hn hd) hc (evs_cons h evs_nil he) fn hp

section lc
variable {τ : Type} {xs : List τ} {inj : τ → D} {p : τ → Bool} {g : τ → D} {scope : Scope} {d : D} {iter elt : Expr} {ifs : List Expr} {x : Str} {px pos : Pos}
theorem ev_lc (hi : Ev Γ iter d) (hit : Iterable d (xs.map inj)) (hsz : xs.length ≤ sizeLine) (ht : ∀ t ∈ xs, ∀ Da C own wr, TestsOk (Γ.cx scope [(x, inj t)] Da C own wr) ifs (p t))
    (he : ∀ t ∈ xs, p t = true → ∀ Da C own wr, Ev (Γ.cx scope [(x, inj t)] Da C own wr) elt (g t)) (hz : scopeB Γ scope [x] = true := by rfl) (hs : ∀ x, foldedSetIterable iter Γ.env x = pure x := by intro _; rfl) :
    EvNL Γ (.ListComp elt [⟨.Name x px, iter, ifs, 0⟩] scope pos) (pickOut p g xs) := .mk fun s hC =>
  (ev_listcomp (bs := fun t => [(x, inj t)]) (tg := [x]) hi hit (scopeOk_at hC hz) hsz (fun t _ => .name) (fun t _ b hb => by simp at hb; simp [hb]) ht he hs).run s hC
theorem evU_lc (hi : Ev Γ iter d) (hit : Iterable d (xs.map inj)) (hsz : xs.length ≤ sizeLine) (ht : ∀ t ∈ xs, ∀ Da C own wr, TestsOk (Γ.cx scope [(x, inj t)] Da C own wr) ifs (p t))
    (he : ∀ t ∈ xs, p t = true → ∀ Da C own wr, Ev (Γ.cx scope [(x, inj t)] Da C own wr) elt (g t)) (hz : scopeB Γ scope [x] = true := by rfl) (hs : ∀ x, foldedSetIterable iter Γ.env x = pure x := by intro _; rfl) :
    EvU Γ (.ListComp elt [⟨.Name x px, iter, ifs, 0⟩] scope pos) fun Γ h₀ v h => NewL Γ h₀ (pickOut p g xs) v h := .mk fun s use Q hC =>
  (evU_listcomp (bs := fun t => [(x, inj t)]) (tg := [x]) hi hit (scopeOk_at hC hz) hsz (fun t _ => .name) (fun t _ b hb => by simp at hb; simp [hb]) ht he hs).run s use Q hC
/-- without tests -/
theorem pickOut_all (g : τ → D) (xs : List τ) : pickOut (fun _ => true) g xs = xs.map g := by unfold pickOut; rw [List.filter_eq_self.mpr (fun _ _ => rfl)]
theorem ev_lcm (hi : Ev Γ iter d) (hit : Iterable d (xs.map inj)) (hsz : xs.length ≤ sizeLine)
    (he : ∀ t ∈ xs, ∀ Da C own wr, Ev (Γ.cx scope [(x, inj t)] Da C own wr) elt (g t)) (hz : scopeB Γ scope [x] = true := by rfl) (hs : ∀ x, foldedSetIterable iter Γ.env x = pure x := by intro _; rfl) :
    EvNL Γ (.ListComp elt [⟨.Name x px, iter, [], 0⟩] scope pos) (xs.map g) := by
  rw [← pickOut_all]
  exact ev_lc hi hit hsz (fun _ _ _ _ _ _ => tests_nil) (fun t ht _ => he t ht) hz hs
theorem evU_lcm (hi : Ev Γ iter d) (hit : Iterable d (xs.map inj)) (hsz : xs.length ≤ sizeLine)
    (he : ∀ t ∈ xs, ∀ Da C own wr, Ev (Γ.cx scope [(x, inj t)] Da C own wr) elt (g t)) (hz : scopeB Γ scope [x] = true := by rfl) (hs : ∀ x, foldedSetIterable iter Γ.env x = pure x := by intro _; rfl) :
    EvU Γ (.ListComp elt [⟨.Name x px, iter, [], 0⟩] scope pos) fun Γ h₀ v h => NewL Γ h₀ (xs.map g) v h := by
  rw [← pickOut_all]
  exact evU_lc hi hit hsz (fun _ _ _ _ _ _ => tests_nil) (fun t ht _ => he t ht) hz hs
/-- one test -/
theorem ev_lcf {test : Expr} (hi : Ev Γ iter d) (hit : Iterable d (xs.map inj)) (hsz : xs.length ≤ sizeLine) (ht : ∀ t ∈ xs, ∀ Da C own wr, EvT (Γ.cx scope [(x, inj t)] Da C own wr) test (p t))
    (he : ∀ t ∈ xs, p t = true → ∀ Da C own wr, Ev (Γ.cx scope [(x, inj t)] Da C own wr) elt (g t)) (hz : scopeB Γ scope [x] = true := by rfl) (hs : ∀ x, foldedSetIterable iter Γ.env x = pure x := by intro _; rfl) :
    EvNL Γ (.ListComp elt [⟨.Name x px, iter, [test], 0⟩] scope pos) ((xs.filter p).map g) :=
  ev_lc hi hit hsz (fun t h Da C own wr => tests_one (ht t h Da C own wr)) he hz hs
end lc

section dc
variable {K : Type} [DecidableEq K] (κ : KD K) {τ : Type} {xs : List τ} {inj : τ → D} {p : τ → Bool} {gk : τ → K} {gv : τ → Int} {scope : Scope} {d : D} {iter kx vx : Expr} {ifs : List Expr} {x : Str} {px pos : Pos}
theorem evU_dc (hi : Ev Γ iter d) (hit : Iterable d (xs.map inj)) (hsz : xs.length ≤ sizeLine) (ht : ∀ t ∈ xs, ∀ Da C own wr, TestsOk (Γ.cx scope [(x, inj t)] Da C own wr) ifs (p t))
    (he : ∀ t ∈ xs, p t = true → ∀ Da C own wr, Ev (Γ.cx scope [(x, inj t)] Da C own wr) kx (κ.enc (gk t))) (hv : ∀ t ∈ xs, p t = true → ∀ Da C own wr, Ev (Γ.cx scope [(x, inj t)] Da C own wr) vx (.int (gv t)))
    (hn : ((xs.filter p).map gk).Nodup) (hz : scopeB Γ scope [x] = true := by rfl) (hs : ∀ x, foldedSetIterable iter Γ.env x = pure x := by intro _; rfl) :
    EvU Γ (.DictComp kx vx [⟨.Name x px, iter, ifs, 0⟩] scope pos) fun _ h₀ v h => NewD Γ (κ.knd Γ.prog Γ.w) h₀ ((xs.filter p).map fun t => (gk t, gv t)) v h := .mk fun s use Q hC => by
  rw [← kvOut_new hn]
  exact (evU_dictcomp (bs := fun t => [(x, inj t)]) (dk := fun t => κ.enc (gk t)) (tg := [x]) hi hit (scopeOk_at hC hz) hsz (fun t _ => .name) (fun t _ b hb => by simp at hb; simp [hb]) (fun t _ _ S h v r => κ.key _ _ _ _ _ _ r) ht he hv hs).run s use Q hC
end dc
end

theorem cutBy_map {α β : Type} (f : α → β) (xs : List α) (lo hi st : Option Int) : cutBy (xs.map f) lo hi st = (cutBy xs lo hi st).map f := by
  unfold cutBy
  rw [List.length_map, List.map_filterMap]
  congr 1
  funext i
  rw [List.getElem?_map]
theorem cut_map {α β : Type} (f : α → β) (xs : List α) (lo hi : Option Int) : cut (xs.map f) lo hi = (cut xs lo hi).map f := by
  unfold cut
  rw [List.length_map, List.map_take, List.map_drop]
theorem fmod_nat (a b : Nat) : (a : Int).fmod (b : Int) = ((a % b : Nat) : Int) := (Int.ofNat_fmod a b).symm
theorem fmod_range (a : Int) {b : Int} (hb : 0 < b) : 0 ≤ a.fmod b ∧ a.fmod b < b := ⟨Int.fmod_nonneg_of_pos a hb, Int.fmod_lt_of_pos a hb⟩

theorem cut_from {α : Type} (xs : List α) {i : Int} (h0 : 0 ≤ i) : cut xs (some i) none = xs.drop i.toNat := by
  have e : kms_lo (some i) xs.length = min i.toNat xs.length := if_neg (Int.not_lt.mpr h0)
  have e2 : kms_hi none xs.length = xs.length := rfl
  unfold cut
  rw [e, e2]
  rcases Nat.le_total i.toNat xs.length with q | q
  · rw [Nat.min_eq_left q, List.take_of_length_le (by simp)]
  · rw [Nat.min_eq_right q, List.drop_eq_nil_of_le q, List.drop_eq_nil_of_le (Nat.le_refl _)]; simp
theorem cut_to {α : Type} (xs : List α) {i : Int} (h0 : 0 ≤ i) : cut xs none (some i) = xs.take i.toNat := by
  have e : kms_hi (some i) xs.length = min i.toNat xs.length := if_neg (Int.not_lt.mpr h0)
  have e2 : kms_lo none xs.length = 0 := rfl
  unfold cut
  rw [e, e2, List.drop_zero, Nat.sub_zero]
  rcases Nat.le_total i.toNat xs.length with q | q
  · rw [Nat.min_eq_left q]
  · rw [Nat.min_eq_right q, List.take_of_length_le q, List.take_of_length_le (Nat.le_refl _)]
section
variable {K : Frag} {prog : Program} {w : World} {n : Nat}
theorem fn_max2 {a b : Int} : Fn K prog w n (.builtin "max") [.int a, .int b] (.int (if b > a then b else a)) := .mk fun A base S s vals hr hw r => by
  obtain ⟨v, u, rfl, r₁, r₂⟩ := r.two
  (first | obtain ⟨_, rfl⟩ := r₁.atom | exact (nsE r₁).elim | exact (snE r₁).elim | exact (ftE r₁).elim | cases r₁); (first | obtain ⟨_, rfl⟩ := r₂.atom | exact (nsE r₂).elim | exact (snE r₂).elim | exact (ftE r₂).elim | cases r₂)
  refine max_two_ints hr.1 fun h' tk hk => ⟨Kp.both s h' tk hk, ?_⟩
  split <;> exact .int _ _
end

noncomputable def fdOf (K : Frag) (a : Addr) : FuncData := match K.lookup a with
  | some ⟨_, _, .func fd, _⟩ => fd
  | _ => { name := "", qualname := "", params := default, body := .stmts [], scope := default, globals := 0, closure := [], defaults := .none, kwdefaults := .none, pyModule := .none, code := .none }
noncomputable def bodyOf (fd : FuncData) : List Stmt := match fd.body with
  | .stmts b => b
  | _ => []
theorem sum_take_succ (l : List Int) (k : Nat) (x : Int) (h : l[k]? = some x) : (l.take (k + 1)).sum = (l.take k).sum + x := by
  rw [List.take_add_one, h]; simp
-- part H1
namespace Hd
noncomputable abbrev pw : Program := PySem.Challenge.pw_rw0016_01
noncomputable def st (n : Nat) : Stmt := pw.main.body.getD n (.Pass default)
noncomputable def m187 : Value := .str "cpy313.pstats" 187
noncomputable def m269 : Value := .str "cpy313.re._compiler" 269
noncomputable def m281 : Value := .str "law_rw0016_01" 281
noncomputable def fnO (s : Stmt) (q : Str) (md : Value) (c : Addr) : Obj := match s with
  | .FunctionDef nm ps body _ _ _ sc _ _ _ => { cls := .type "function", data := .func { name := nm, qualname := q, params := ps, body := .stmts body, scope := sc, globals := 3, closure := [], defaults := .none, kwdefaults := .none, pyModule := md, code := .ref c } }
  | _ => default
noncomputable def cdO (l : List Value) : Obj := { cls := .type "code", data := .fields l.toArray }
noncomputable def inCls (s : Stmt) (n : Nat) : Stmt := match s with
  | .ClassDef _ _ _ body _ _ _ _ _ _ _ => body.getD n (.Pass default)
  | _ => .Pass default
noncomputable def en (P : Params) (k : Str) (t : Tok) (v : Value) : DictEntry := { hash := PyData.keyHash P k, key := .str k t, val := v }
noncomputable def frag (P : Params) : Frag :=
  [(3, { cls := .type "dict", data := .dict #[en P "__name__" 165 (.str "law_rw0016_01" 281), en P "__doc__" 166 (.none), en P "__package__" 167 (.none), en P "__loader__" 168 (.builtin "__main__.__loader__#opaque"), en P "__spec__" 169 (.none), en P "__annotations__" 170 (.ref 6), en P "__builtins__" 171 (.ref 4), en P "__file__" 173 (.str "/claim/cut.py" 172), en P "__cached__" 174 (.none), en P "TupleComp" 230 (.ref 38), en P "add_func_stats" 248 (.ref 49), en P "add_callers" 259 (.ref 56), en P "count_calls" 268 (.ref 63), en P "_generate_overlap_table" 280 (.ref 70), en P "_law_word" 288 (.ref 75), en P "_law_tables" 294 (.ref 80), en P "_law_order" 300 (.ref 85), en P "_law_taken" 306 (.ref 90), en P "_law_profile" 312 (.ref 95), en P "_law_good" 318 (.ref 100), en P "law" 328 (.ref 107)] 21 }),
   (27, cdO [.str "__init__" 201, .str "TupleComp.__init__" 202, .str "/claim/cut.py" 203, .int 4 0, .int 2 0, .int 0 0, .int 0 0, .int 3 0, .ref 22, .bool true, .int 181 0, .ref 23, .none, .ref 24, .ref 25, .ref 26, .int 206 0, .int 4 0, .str "/claim/cut.py" 207]),
   (28, fnO (inCls (st 1) 0) "TupleComp.__init__" m187 27),
   (34, cdO [.str "compare" 209, .str "TupleComp.compare" 210, .str "/claim/cut.py" 211, .int 7 0, .int 3 0, .int 0 0, .int 0 0, .int 3 0, .ref 29, .bool true, .int 181 0, .ref 30, .none, .ref 31, .ref 32, .ref 33, .int 219 0, .int 7 0, .str "/claim/cut.py" 220]),
   (35, fnO (inCls (st 1) 1) "TupleComp.compare" m187 34),
   (37, { cls := .type "dict", data := .dict #[en P "__module__" 196 (.str "cpy313.pstats" 187), en P "__firstlineno__" 200 (.int 2 199), en P "__init__" 208 (.ref 28), en P "compare" 221 (.ref 35), en P "__static_attributes__" 223 (.ref 36), en P "__dict__" 225 (.ref 39), en P "__weakref__" 227 (.ref 40), en P "__doc__" 228 (.none)] 4 }),
   (38, { cls := Value.type "type", data := Data.cls { name := "TupleComp", bases := [Value.type "object"], mro := [Value.ref 38, Value.type "object"], ns := 37, qualname := "TupleComp" }, slots := #[none, none, some (Value.str ("TupleComp") 189), some (Value.str ("TupleComp") 197), some (Value.builtin "object.__new__"), some (Value.bool true)] }),
   (48, cdO [.str "add_func_stats" 231, .str "add_func_stats" 232, .str "/claim/cut.py" 233, .int 16 0, .int 2 0, .int 0 0, .int 0 0, .int 3 0, .ref 43, .bool true, .int 181 0, .ref 44, .none, .ref 45, .ref 46, .ref 47, .int 246 0, .int 16 0, .str "/claim/cut.py" 247]),
   (49, fnO (st 2) "add_func_stats" m187 48),
   (55, cdO [.str "add_callers" 249, .str "add_callers" 250, .str "/claim/cut.py" 251, .int 20 0, .int 2 0, .int 0 0, .int 0 0, .int 3 0, .ref 50, .bool true, .int 181 0, .ref 51, .none, .ref 52, .ref 53, .ref 54, .int 257 0, .int 20 0, .str "/claim/cut.py" 258]),
   (56, fnO (st 3) "add_callers" m187 55),
   (62, cdO [.str "count_calls" 260, .str "count_calls" 261, .str "/claim/cut.py" 262, .int 33 0, .int 1 0, .int 0 0, .int 0 0, .int 3 0, .ref 57, .bool true, .int 181 0, .ref 58, .none, .ref 59, .ref 60, .ref 61, .int 266 0, .int 33 0, .str "/claim/cut.py" 267]),
   (63, fnO (st 4) "count_calls" m187 62),
   (69, cdO [.str "_generate_overlap_table" 271, .str "_generate_overlap_table" 272, .str "/claim/cut.py" 273, .int 39 0, .int 1 0, .int 0 0, .int 0 0, .int 3 0, .ref 64, .bool true, .int 181 0, .ref 65, .none, .ref 66, .ref 67, .ref 68, .int 278 0, .int 39 0, .str "/claim/cut.py" 279]),
   (70, fnO (st 6) "_generate_overlap_table" m269 69),
   (74, cdO [.str "_law_word" 283, .str "_law_word" 284, .str "/claim/cut.py" 285, .int 52 0, .int 1 0, .int 0 0, .int 0 0, .int 3 0, .ref 71, .bool true, .int 181 0, .ref 72, .none, .none, .none, .ref 73, .int 286 0, .int 52 0, .str "/claim/cut.py" 287]),
   (75, fnO (st 8) "_law_word" m281 74),
   (79, cdO [.str "_law_tables" 289, .str "_law_tables" 290, .str "/claim/cut.py" 291, .int 58 0, .int 1 0, .int 0 0, .int 0 0, .int 3 0, .ref 76, .bool true, .int 181 0, .ref 77, .none, .none, .none, .ref 78, .int 292 0, .int 58 0, .str "/claim/cut.py" 293]),
   (80, fnO (st 9) "_law_tables" m281 79),
   (84, cdO [.str "_law_order" 295, .str "_law_order" 296, .str "/claim/cut.py" 297, .int 69 0, .int 1 0, .int 0 0, .int 0 0, .int 3 0, .ref 81, .bool true, .int 181 0, .ref 82, .none, .none, .none, .ref 83, .int 298 0, .int 69 0, .str "/claim/cut.py" 299]),
   (85, fnO (st 10) "_law_order" m281 84),
   (89, cdO [.str "_law_taken" 301, .str "_law_taken" 302, .str "/claim/cut.py" 303, .int 75 0, .int 3 0, .int 0 0, .int 0 0, .int 3 0, .ref 86, .bool true, .int 181 0, .ref 87, .none, .none, .none, .ref 88, .int 304 0, .int 75 0, .str "/claim/cut.py" 305]),
   (90, fnO (st 11) "_law_taken" m281 89),
   (94, cdO [.str "_law_profile" 307, .str "_law_profile" 308, .str "/claim/cut.py" 309, .int 86 0, .int 2 0, .int 0 0, .int 0 0, .int 3 0, .ref 91, .bool true, .int 181 0, .ref 92, .none, .none, .none, .ref 93, .int 310 0, .int 86 0, .str "/claim/cut.py" 311]),
   (95, fnO (st 12) "_law_profile" m281 94),
   (99, cdO [.str "_law_good" 313, .str "_law_good" 314, .str "/claim/cut.py" 315, .int 99 0, .int 2 0, .int 0 0, .int 0 0, .int 3 0, .ref 96, .bool true, .int 181 0, .ref 97, .none, .none, .none, .ref 98, .int 316 0, .int 99 0, .str "/claim/cut.py" 317]),
   (100, fnO (st 13) "_law_good" m281 99),
   (106, cdO [.str "law" 319, .str "law" 320, .str "/claim/cut.py" 321, .int 134 0, .int 1 0, .int 0 0, .int 0 0, .int 3 0, .ref 101, .bool true, .int 181 0, .ref 102, .none, .ref 103, .ref 104, .ref 105, .int 326 0, .int 134 0, .str "/claim/cut.py" 327]),
   (107, fnO (st 14) "law" m281 106)]
noncomputable def addrs : List Addr := [3, 27, 28, 34, 35, 37, 38, 48, 49, 55, 56, 62, 63, 69, 70, 74, 75, 79, 80, 84, 85, 89, 90, 94, 95, 99, 100, 106, 107]
noncomputable def view : Program := { pw with main := { pw.main with body := [st 1, st 2, st 3, st 4, st 6, st 8, st 9, st 10, st 11, st 12, st 13, st 14] } }
noncomputable def lawDef : DefRec := match st 14 with
  | .FunctionDef nm ps body _ _ _ sc _ _ pos => ⟨nm, ps, body, sc, pos⟩
  | _ => ⟨"", default, [], default, default⟩
theorem addrs_ok (P : Params) : addrs = (frag P).map (·.1) := rfl
noncomputable def hook : Hook := kHook frag addrs addrs_ok
theorem said : PySem.Challenge.rw_rw0016_01.wellSaid = true := by
  rw [Fast.te9446332074065402090]
  kernel_rfl
theorem boot1 : opening pw = plainProg pw.main.scope.names := by kernel_rfl
theorem boot2 (s : Shared) : fenceModules? pw s = some s := by kernel_rfl
theorem leftTop (w : World) (os : OsState) : (topFrom treeTable pw w 1346 { heap := boot_heap w.params, gens := Array.mk [], drawn := boot_drawn, toks := boot_toks, os := os }).map (fun s => (openSeen view [] (importedModules pw.main.body) (fun s => xlAt view [] s && recOk [] s) true s, Hook.obs hook s)) =
    some (openGood view [], Hook.val hook w) := by
  unfold topFrom
  rw [Fast.te14082659384304107361, Fast.te14364793385576792824, Fast.te4187177175401517315, Fast.te5923862056798008813]
  kernel_rfl
theorem left : LeftO pw view [] (fun s => xlAt view [] s && recOk [] s) (Hook.obs hook) (Hook.val hook) 1346 := fun w => by
  obtain ⟨s, hs, hv⟩ := Option.map_eq_some_iff.mp (boot_open (p := pw) (N := 1346) boot1 (by decide) boot2 w)
  show ((fencedOpening treeTable pw w 1346).bind (topFrom treeTable pw w 1346)).map _ = _
  rw [hs]
  obtain ⟨heap, gens, drawn, toks, os⟩ := s
  simp only [Prod.mk.injEq] at hv
  obtain ⟨rfl, rfl, rfl, rfl⟩ := hv
  rw [Option.bind_some]; exact leftTop w os
theorem hdef : defOf view "law" = some (lawDef, []) := by kernel_rfl
theorem hthe : pw.theDef "law" = some (lawDef.params, lawDef.body, lawDef.scope) := by kernel_rfl
theorem hkw : kwWritten? lawDef.params.kwonlyargs lawDef.params.kw_defaults = some [] := by kernel_rfl
theorem hchains : (chainsOk view && opensWell pw && (frees PySem.Challenge.rw_rw0016_01.row.toRowW && PySem.Challenge.rw_rw0016_01.row.within.isEmpty)) = true := by decide +kernel
theorem hbare : pw.bare := ⟨rfl, rfl, rfl, rfl, rfl, by decide +kernel⟩
theorem hprom : PySem.Challenge.rw_rw0016_01.row.toRowW.promised := ⟨[.list []], by decide +kernel, by decide +kernel⟩
theorem hd (walk : WalkO view [] (XL view []) hook.says PySem.Challenge.rw_rw0016_01.row.toRowW lawDef [] fun f vs => PySem.call f vs) : PySem.Challenge.rw_rw0016_01.Holds := by
  refine holds_law said fun said' => ?_
  exact holds_open (q := view) (loose := []) (Xt := fun s => xlAt view [] s && recOk [] s) (XP := XL view []) (Yf := Hook.obs hook) (Ya := Hook.val hook) (YP := Hook.says hook) (N := 1346) left (Hook.of hook) (Hook.keeps hook)
    (fun s e => xl_of s (Bool.and_eq_true_iff.mp e).1) XL.keeps hdef hthe hkw (fun s e => recFacts_of (Bool.and_eq_true_iff.mp e).2) rfl said' hchains hbare hprom walk
end Hd
-- part G0
noncomputable def Kf (w : World) : Frag := Hd.frag w.params
theorem topOk {w : World} : TopOk (Kf w) := ⟨_, _, _, _, _, rfl⟩
section
variable {w : World}
theorem g_len : globOf (Kf w) "len" = none := id rfl
theorem g_sum : globOf (Kf w) "sum" = none := id rfl
theorem g_range : globOf (Kf w) "range" = none := id rfl
theorem g_max : globOf (Kf w) "max" = none := id rfl
theorem g_min : globOf (Kf w) "min" = none := id rfl
theorem g_abs : globOf (Kf w) "abs" = none := id rfl
theorem g_isinstance : globOf (Kf w) "isinstance" = none := id rfl
theorem g_sorted : globOf (Kf w) "sorted" = none := id rfl
theorem g_set : globOf (Kf w) "set" = none := id rfl
theorem g_list : globOf (Kf w) "list" = none := id rfl
theorem g_dict : globOf (Kf w) "dict" = none := id rfl
theorem g_bool : globOf (Kf w) "bool" = none := id rfl
theorem g_int : globOf (Kf w) "int" = none := id rfl
theorem g_tuple : globOf (Kf w) "tuple" = none := id rfl
theorem g_chr : globOf (Kf w) "chr" = none := id rfl
theorem b_len : bootBuiltins "len" = some (.builtin "len") := id rfl
theorem b_sum : bootBuiltins "sum" = some (.builtin "sum") := id rfl
theorem b_max : bootBuiltins "max" = some (.builtin "max") := id rfl
theorem b_min : bootBuiltins "min" = some (.builtin "min") := id rfl
theorem b_abs : bootBuiltins "abs" = some (.builtin "abs") := id rfl
theorem b_isinstance : bootBuiltins "isinstance" = some (.builtin "isinstance") := id rfl
theorem b_sorted : bootBuiltins "sorted" = some (.builtin "sorted") := id rfl
theorem b_set : bootBuiltins "set" = some (.type "set") := id rfl
theorem b_list : bootBuiltins "list" = some (.type "list") := id rfl
theorem b_dict : bootBuiltins "dict" = some (.type "dict") := id rfl
theorem b_bool : bootBuiltins "bool" = some (.type "bool") := id rfl
theorem b_int : bootBuiltins "int" = some (.type "int") := id rfl
theorem b_tuple : bootBuiltins "tuple" = some (.type "tuple") := id rfl
theorem b_chr : bootBuiltins "chr" = some (.builtin "chr") := id rfl
theorem c_len {Γ : Ctx} {x : Expr} {px p : Pos} {d1 d : D} (hK : Γ.K = Kf w) (hk : Γ.env.kindOf "len" = some .globalImplicit) (h : Ev Γ x d1) (fn : Fn (Kf w) Γ.prog Γ.w Γ.n (.builtin "len") [d1] d)
    (hp : List.all [x] plainE = true := by rfl) (he : plainE x = true := by rfl) : Ev Γ (.Call (.Name "len" px) [x] [] p) d :=
  ev_blt1 (F := .builtin "len") (hK ▸ topOk) hk (hK ▸ g_len) b_len trivial h (hK ▸ fn) (by decide) (by decide) hp he
theorem c_sum {Γ : Ctx} {x : Expr} {px p : Pos} {d1 d : D} (hK : Γ.K = Kf w) (hk : Γ.env.kindOf "sum" = some .globalImplicit) (h : Ev Γ x d1) (fn : Fn (Kf w) Γ.prog Γ.w Γ.n (.builtin "sum") [d1] d)
    (hp : List.all [x] plainE = true := by rfl) (he : plainE x = true := by rfl) : Ev Γ (.Call (.Name "sum" px) [x] [] p) d :=
  ev_blt1 (F := .builtin "sum") (hK ▸ topOk) hk (hK ▸ g_sum) b_sum trivial h (hK ▸ fn) (by decide) (by decide) hp he
theorem c_max {Γ : Ctx} {x : Expr} {px p : Pos} {d1 d : D} (hK : Γ.K = Kf w) (hk : Γ.env.kindOf "max" = some .globalImplicit) (h : Ev Γ x d1) (fn : Fn (Kf w) Γ.prog Γ.w Γ.n (.builtin "max") [d1] d)
    (hp : List.all [x] plainE = true := by rfl) (he : plainE x = true := by rfl) : Ev Γ (.Call (.Name "max" px) [x] [] p) d :=
  ev_blt1 (F := .builtin "max") (hK ▸ topOk) hk (hK ▸ g_max) b_max trivial h (hK ▸ fn) (by decide) (by decide) hp he
theorem c_min {Γ : Ctx} {x : Expr} {px p : Pos} {d1 d : D} (hK : Γ.K = Kf w) (hk : Γ.env.kindOf "min" = some .globalImplicit) (h : Ev Γ x d1) (fn : Fn (Kf w) Γ.prog Γ.w Γ.n (.builtin "min") [d1] d)
    (hp : List.all [x] plainE = true := by rfl) (he : plainE x = true := by rfl) : Ev Γ (.Call (.Name "min" px) [x] [] p) d :=
  ev_blt1 (F := .builtin "min") (hK ▸ topOk) hk (hK ▸ g_min) b_min trivial h (hK ▸ fn) (by decide) (by decide) hp he
theorem c_abs {Γ : Ctx} {x : Expr} {px p : Pos} {d1 d : D} (hK : Γ.K = Kf w) (hk : Γ.env.kindOf "abs" = some .globalImplicit) (h : Ev Γ x d1) (fn : Fn (Kf w) Γ.prog Γ.w Γ.n (.builtin "abs") [d1] d)
    (hp : List.all [x] plainE = true := by rfl) (he : plainE x = true := by rfl) : Ev Γ (.Call (.Name "abs" px) [x] [] p) d :=
  ev_blt1 (F := .builtin "abs") (hK ▸ topOk) hk (hK ▸ g_abs) b_abs trivial h (hK ▸ fn) (by decide) (by decide) hp he
theorem c_sorted {Γ : Ctx} {x : Expr} {px p : Pos} {d1 d : D} (hK : Γ.K = Kf w) (hk : Γ.env.kindOf "sorted" = some .globalImplicit) (h : Ev Γ x d1) (fn : Fn (Kf w) Γ.prog Γ.w Γ.n (.builtin "sorted") [d1] d)
    (hp : List.all [x] plainE = true := by rfl) (he : plainE x = true := by rfl) : Ev Γ (.Call (.Name "sorted" px) [x] [] p) d :=
  ev_blt1 (F := .builtin "sorted") (hK ▸ topOk) hk (hK ▸ g_sorted) b_sorted trivial h (hK ▸ fn) (by decide) (by decide) hp he
theorem c_chr {Γ : Ctx} {x : Expr} {px p : Pos} {d1 d : D} (hK : Γ.K = Kf w) (hk : Γ.env.kindOf "chr" = some .globalImplicit) (h : Ev Γ x d1) (fn : Fn (Kf w) Γ.prog Γ.w Γ.n (.builtin "chr") [d1] d)
    (hp : List.all [x] plainE = true := by rfl) (he : plainE x = true := by rfl) : Ev Γ (.Call (.Name "chr" px) [x] [] p) d :=
  ev_blt1 (F := .builtin "chr") (hK ▸ topOk) hk (hK ▸ g_chr) b_chr trivial h (hK ▸ fn) (by decide) (by decide) hp he
theorem c_tuple {Γ : Ctx} {x : Expr} {px p : Pos} {d1 d : D} (hK : Γ.K = Kf w) (hk : Γ.env.kindOf "tuple" = some .globalImplicit) (h : Ev Γ x d1) (fn : Fn (Kf w) Γ.prog Γ.w Γ.n (.type "tuple") [d1] d)
    (hp : List.all [x] plainE = true := by rfl) (he : plainE x = true := by rfl) : Ev Γ (.Call (.Name "tuple" px) [x] [] p) d :=
  ev_blt1 (F := .type "tuple") (hK ▸ topOk) hk (hK ▸ g_tuple) b_tuple trivial h (hK ▸ fn) (by decide) (by decide) hp he
theorem c_max2 {Γ : Ctx} {x y : Expr} {px p : Pos} {d1 d2 d : D} (hK : Γ.K = Kf w) (hk : Γ.env.kindOf "max" = some .globalImplicit) (h1 : Ev Γ x d1) (h2 : Ev Γ y d2) (fn : Fn (Kf w) Γ.prog Γ.w Γ.n (.builtin "max") [d1, d2] d)
    (hp : List.all [x, y] plainE = true := by rfl) (he : plainE x = true := by rfl) (he2 : plainE y = true := by rfl) : Ev Γ (.Call (.Name "max" px) [x, y] [] p) d :=
  ev_call (f := .builtin "max") (ev_blt (hK ▸ topOk) hk (hK ▸ g_max) b_max (by decide) (by decide)) trivial (evs_cons h1 (evs_cons h2 evs_nil he2) he) (hK ▸ fn) hp
theorem c_isi_list {Γ : Ctx} {x : Expr} {px py p : Pos} {d1 : D} {b : Bool} (hK : Γ.K = Kf w) (hk : Γ.env.kindOf "isinstance" = some .globalImplicit) (hk2 : Γ.env.kindOf "list" = some .globalImplicit) (h1 : Ev Γ x d1) (fn : Fn (Kf w) Γ.prog Γ.w Γ.n (.builtin "isinstance") [d1, .raw (.type "list")] (.bool b))
    (hp : List.all [x, .Name "list" py] plainE = true := by rfl) (he : plainE x = true := by rfl) : Ev Γ (.Call (.Name "isinstance" px) [x, .Name "list" py] [] p) (.bool b) :=
  ev_call (f := .builtin "isinstance") (ev_blt (hK ▸ topOk) hk (hK ▸ g_isinstance) b_isinstance (by decide) (by decide)) trivial (evs_cons h1 (evs_cons (ev_blt (hK ▸ topOk) hk2 (hK ▸ g_list) b_list (by decide) (by decide)) evs_nil rfl) he) (hK ▸ fn) hp
theorem c_isi_bool {Γ : Ctx} {x : Expr} {px py p : Pos} {d1 : D} {b : Bool} (hK : Γ.K = Kf w) (hk : Γ.env.kindOf "isinstance" = some .globalImplicit) (hk2 : Γ.env.kindOf "bool" = some .globalImplicit) (h1 : Ev Γ x d1) (fn : Fn (Kf w) Γ.prog Γ.w Γ.n (.builtin "isinstance") [d1, .raw (.type "bool")] (.bool b))
    (hp : List.all [x, .Name "bool" py] plainE = true := by rfl) (he : plainE x = true := by rfl) : Ev Γ (.Call (.Name "isinstance" px) [x, .Name "bool" py] [] p) (.bool b) :=
  ev_call (f := .builtin "isinstance") (ev_blt (hK ▸ topOk) hk (hK ▸ g_isinstance) b_isinstance (by decide) (by decide)) trivial (evs_cons h1 (evs_cons (ev_blt (hK ▸ topOk) hk2 (hK ▸ g_bool) b_bool (by decide) (by decide)) evs_nil rfl) he) (hK ▸ fn) hp
theorem c_isi_int {Γ : Ctx} {x : Expr} {px py p : Pos} {d1 : D} {b : Bool} (hK : Γ.K = Kf w) (hk : Γ.env.kindOf "isinstance" = some .globalImplicit) (hk2 : Γ.env.kindOf "int" = some .globalImplicit) (h1 : Ev Γ x d1) (fn : Fn (Kf w) Γ.prog Γ.w Γ.n (.builtin "isinstance") [d1, .raw (.type "int")] (.bool b))
    (hp : List.all [x, .Name "int" py] plainE = true := by rfl) (he : plainE x = true := by rfl) : Ev Γ (.Call (.Name "isinstance" px) [x, .Name "int" py] [] p) (.bool b) :=
  ev_call (f := .builtin "isinstance") (ev_blt (hK ▸ topOk) hk (hK ▸ g_isinstance) b_isinstance (by decide) (by decide)) trivial (evs_cons h1 (evs_cons (ev_blt (hK ▸ topOk) hk2 (hK ▸ g_int) b_int (by decide) (by decide)) evs_nil rfl) he) (hK ▸ fn) hp
theorem c_isi_tuple {Γ : Ctx} {x : Expr} {px py p : Pos} {d1 : D} {b : Bool} (hK : Γ.K = Kf w) (hk : Γ.env.kindOf "isinstance" = some .globalImplicit) (hk2 : Γ.env.kindOf "tuple" = some .globalImplicit) (h1 : Ev Γ x d1) (fn : Fn (Kf w) Γ.prog Γ.w Γ.n (.builtin "isinstance") [d1, .raw (.type "tuple")] (.bool b))
    (hp : List.all [x, .Name "tuple" py] plainE = true := by rfl) (he : plainE x = true := by rfl) : Ev Γ (.Call (.Name "isinstance" px) [x, .Name "tuple" py] [] p) (.bool b) :=
  ev_call (f := .builtin "isinstance") (ev_blt (hK ▸ topOk) hk (hK ▸ g_isinstance) b_isinstance (by decide) (by decide)) trivial (evs_cons h1 (evs_cons (ev_blt (hK ▸ topOk) hk2 (hK ▸ g_tuple) b_tuple (by decide) (by decide)) evs_nil rfl) he) (hK ▸ fn) hp
theorem c_range {Γ : Ctx} {x : Expr} {px p : Pos} {n : Int} (hK : Γ.K = Kf w) (hk : Γ.env.kindOf "range" = some .globalImplicit) (h : Ev Γ x (.int n))
    (hp : List.all [x] plainE = true := by rfl) (he : plainE x = true := by rfl) : Ev Γ (.Call (.Name "range" px) [x] [] p) (.range 0 n 1) :=
  ev_range (hK ▸ topOk) hk (hK ▸ g_range) h hp he
theorem c_range2 {Γ : Ctx} {x y : Expr} {px p : Pos} {a b : Int} (hK : Γ.K = Kf w) (hk : Γ.env.kindOf "range" = some .globalImplicit) (h1 : Ev Γ x (.int a)) (h2 : Ev Γ y (.int b)) (hp : List.all [x, y] plainE = true := by rfl)
    (he : plainE x = true := by rfl) (he2 : plainE y = true := by rfl) : Ev Γ (.Call (.Name "range" px) [x, y] [] p) (.range a b 1) :=
  ev_range2 (hK ▸ topOk) hk (hK ▸ g_range) h1 h2 hp he he2
theorem g75 : globOf (Kf w) "_law_word" = some (.ref 75) := id rfl
theorem g70 : globOf (Kf w) "_generate_overlap_table" = some (.ref 70) := id rfl
theorem g56 : globOf (Kf w) "add_callers" = some (.ref 56) := id rfl
theorem g49 : globOf (Kf w) "add_func_stats" = some (.ref 49) := id rfl
theorem g63 : globOf (Kf w) "count_calls" = some (.ref 63) := id rfl
theorem g80 : globOf (Kf w) "_law_tables" = some (.ref 80) := id rfl
theorem g85 : globOf (Kf w) "_law_order" = some (.ref 85) := id rfl
theorem g90 : globOf (Kf w) "_law_taken" = some (.ref 90) := id rfl
theorem g95 : globOf (Kf w) "_law_profile" = some (.ref 95) := id rfl
theorem g100 : globOf (Kf w) "_law_good" = some (.ref 100) := id rfl
theorem g38 : globOf (Kf w) "TupleComp" = some (.ref 38) := id rfl
theorem len1 {α : Type} : ∀ {l : List α}, l.length = 1 → ∃ a, l = [a]
  | [a], _ => ⟨a, rfl⟩
theorem len2 {α : Type} {l : List α} (h : l.length = 2) : ∃ a b, l = [a, b] := by
  cases l with
  | nil => cases h
  | cons a l => obtain ⟨b, e⟩ := len1 (Nat.succ.inj h); exact ⟨a, b, congrArg _ e⟩
theorem len3 {α : Type} {l : List α} (h : l.length = 3) : ∃ a b c, l = [a, b, c] := by
  cases l with
  | nil => cases h
  | cons a l => obtain ⟨b, c, e⟩ := len2 (Nat.succ.inj h); exact ⟨a, b, c, congrArg _ e⟩
noncomputable def fn63 (w : World) : { fd : FuncData // ∃ c d sl, (Kf w).lookup 63 = some ⟨c, d, .func fd, sl⟩ } := ⟨_, _, _, _, rfl⟩
theorem ok63 : FnOk (Kf w) 63 (fn63 w).1 (bodyOf (fn63 w).1) ["callers"] where
  at_ := (fn63 w).2
  code := ⟨_, _, _, _, _, _, rfl, rfl, rfl⟩
  body := rfl
  clo := rfl
  glob := rfl
  blt := rfl
  kind := rfl
  co := rfl
  gen := rfl
  names := of_decide_eq_true rfl
  params := of_decide_eq_true rfl
  kinds := of_decide_eq_true rfl
  binds := by
    intro vals h
    obtain ⟨v0, rfl⟩ := len1 h
    rfl
noncomputable def fn75 (w : World) : { fd : FuncData // ∃ c d sl, (Kf w).lookup 75 = some ⟨c, d, .func fd, sl⟩ } := ⟨_, _, _, _, rfl⟩
theorem ok75 : FnOk (Kf w) 75 (fn75 w).1 (bodyOf (fn75 w).1) ["nums"] where
  at_ := (fn75 w).2
  code := ⟨_, _, _, _, _, _, rfl, rfl, rfl⟩
  body := rfl
  clo := rfl
  glob := rfl
  blt := rfl
  kind := rfl
  co := rfl
  gen := rfl
  names := of_decide_eq_true rfl
  params := of_decide_eq_true rfl
  kinds := of_decide_eq_true rfl
  binds := by
    intro vals h
    obtain ⟨v0, rfl⟩ := len1 h
    rfl
noncomputable def fn70 (w : World) : { fd : FuncData // ∃ c d sl, (Kf w).lookup 70 = some ⟨c, d, .func fd, sl⟩ } := ⟨_, _, _, _, rfl⟩
theorem ok70 : FnOk (Kf w) 70 (fn70 w).1 (bodyOf (fn70 w).1) ["prefix"] where
  at_ := (fn70 w).2
  code := ⟨_, _, _, _, _, _, rfl, rfl, rfl⟩
  body := rfl
  clo := rfl
  glob := rfl
  blt := rfl
  kind := rfl
  co := rfl
  gen := rfl
  names := of_decide_eq_true rfl
  params := of_decide_eq_true rfl
  kinds := of_decide_eq_true rfl
  binds := by
    intro vals h
    obtain ⟨v0, rfl⟩ := len1 h
    rfl
noncomputable def fn35 (w : World) : { fd : FuncData // ∃ c d sl, (Kf w).lookup 35 = some ⟨c, d, .func fd, sl⟩ } := ⟨_, _, _, _, rfl⟩
theorem ok35 : FnOk (Kf w) 35 (fn35 w).1 (bodyOf (fn35 w).1) ["self", "left", "right"] where
  at_ := (fn35 w).2
  code := ⟨_, _, _, _, _, _, rfl, rfl, rfl⟩
  body := rfl
  clo := rfl
  glob := rfl
  blt := rfl
  kind := rfl
  co := rfl
  gen := rfl
  names := of_decide_eq_true rfl
  params := of_decide_eq_true rfl
  kinds := of_decide_eq_true rfl
  binds := by
    intro vals h
    obtain ⟨v0, v1, v2, rfl⟩ := len3 h
    rfl
noncomputable def fn28 (w : World) : { fd : FuncData // ∃ c d sl, (Kf w).lookup 28 = some ⟨c, d, .func fd, sl⟩ } := ⟨_, _, _, _, rfl⟩
theorem ok28 : FnOk (Kf w) 28 (fn28 w).1 (bodyOf (fn28 w).1) ["self", "comp_select_list"] where
  at_ := (fn28 w).2
  code := ⟨_, _, _, _, _, _, rfl, rfl, rfl⟩
  body := rfl
  clo := rfl
  glob := rfl
  blt := rfl
  kind := rfl
  co := rfl
  gen := rfl
  names := of_decide_eq_true rfl
  params := of_decide_eq_true rfl
  kinds := of_decide_eq_true rfl
  binds := by
    intro vals h
    obtain ⟨v0, v1, rfl⟩ := len2 h
    rfl
noncomputable def fn56 (w : World) : { fd : FuncData // ∃ c d sl, (Kf w).lookup 56 = some ⟨c, d, .func fd, sl⟩ } := ⟨_, _, _, _, rfl⟩
theorem ok56 : FnOk (Kf w) 56 (fn56 w).1 (bodyOf (fn56 w).1) ["target", "source"] where
  at_ := (fn56 w).2
  code := ⟨_, _, _, _, _, _, rfl, rfl, rfl⟩
  body := rfl
  clo := rfl
  glob := rfl
  blt := rfl
  kind := rfl
  co := rfl
  gen := rfl
  names := of_decide_eq_true rfl
  params := of_decide_eq_true rfl
  kinds := of_decide_eq_true rfl
  binds := by
    intro vals h
    obtain ⟨v0, v1, rfl⟩ := len2 h
    rfl
noncomputable def fn49 (w : World) : { fd : FuncData // ∃ c d sl, (Kf w).lookup 49 = some ⟨c, d, .func fd, sl⟩ } := ⟨_, _, _, _, rfl⟩
theorem ok49 : FnOk (Kf w) 49 (fn49 w).1 (bodyOf (fn49 w).1) ["target", "source"] where
  at_ := (fn49 w).2
  code := ⟨_, _, _, _, _, _, rfl, rfl, rfl⟩
  body := rfl
  clo := rfl
  glob := rfl
  blt := rfl
  kind := rfl
  co := rfl
  gen := rfl
  names := of_decide_eq_true rfl
  params := of_decide_eq_true rfl
  kinds := of_decide_eq_true rfl
  binds := by
    intro vals h
    obtain ⟨v0, v1, rfl⟩ := len2 h
    rfl
noncomputable def fn80 (w : World) : { fd : FuncData // ∃ c d sl, (Kf w).lookup 80 = some ⟨c, d, .func fd, sl⟩ } := ⟨_, _, _, _, rfl⟩
theorem ok80 : FnOk (Kf w) 80 (fn80 w).1 (bodyOf (fn80 w).1) ["word"] where
  at_ := (fn80 w).2
  code := ⟨_, _, _, _, _, _, rfl, rfl, rfl⟩
  body := rfl
  clo := rfl
  glob := rfl
  blt := rfl
  kind := rfl
  co := rfl
  gen := rfl
  names := of_decide_eq_true rfl
  params := of_decide_eq_true rfl
  kinds := of_decide_eq_true rfl
  binds := by
    intro vals h
    obtain ⟨v0, rfl⟩ := len1 h
    rfl
noncomputable def fn85 (w : World) : { fd : FuncData // ∃ c d sl, (Kf w).lookup 85 = some ⟨c, d, .func fd, sl⟩ } := ⟨_, _, _, _, rfl⟩
theorem ok85 : FnOk (Kf w) 85 (fn85 w).1 (bodyOf (fn85 w).1) ["told"] where
  at_ := (fn85 w).2
  code := ⟨_, _, _, _, _, _, rfl, rfl, rfl⟩
  body := rfl
  clo := rfl
  glob := rfl
  blt := rfl
  kind := rfl
  co := rfl
  gen := rfl
  names := of_decide_eq_true rfl
  params := of_decide_eq_true rfl
  kinds := of_decide_eq_true rfl
  binds := by
    intro vals h
    obtain ⟨v0, rfl⟩ := len1 h
    rfl
noncomputable def fn90 (w : World) : { fd : FuncData // ∃ c d sl, (Kf w).lookup 90 = some ⟨c, d, .func fd, sl⟩ } := ⟨_, _, _, _, rfl⟩
theorem ok90 : FnOk (Kf w) 90 (fn90 w).1 (bodyOf (fn90 w).1) ["told", "order", "tops"] where
  at_ := (fn90 w).2
  code := ⟨_, _, _, _, _, _, rfl, rfl, rfl⟩
  body := rfl
  clo := rfl
  glob := rfl
  blt := rfl
  kind := rfl
  co := rfl
  gen := rfl
  names := of_decide_eq_true rfl
  params := of_decide_eq_true rfl
  kinds := of_decide_eq_true rfl
  binds := by
    intro vals h
    obtain ⟨v0, v1, v2, rfl⟩ := len3 h
    rfl
noncomputable def fn95 (w : World) : { fd : FuncData // ∃ c d sl, (Kf w).lookup 95 = some ⟨c, d, .func fd, sl⟩ } := ⟨_, _, _, _, rfl⟩
theorem ok95 : FnOk (Kf w) 95 (fn95 w).1 (bodyOf (fn95 w).1) ["text", "tops"] where
  at_ := (fn95 w).2
  code := ⟨_, _, _, _, _, _, rfl, rfl, rfl⟩
  body := rfl
  clo := rfl
  glob := rfl
  blt := rfl
  kind := rfl
  co := rfl
  gen := rfl
  names := of_decide_eq_true rfl
  params := of_decide_eq_true rfl
  kinds := of_decide_eq_true rfl
  binds := by
    intro vals h
    obtain ⟨v0, v1, rfl⟩ := len2 h
    rfl
noncomputable def fn100 (w : World) : { fd : FuncData // ∃ c d sl, (Kf w).lookup 100 = some ⟨c, d, .func fd, sl⟩ } := ⟨_, _, _, _, rfl⟩
theorem ok100 : FnOk (Kf w) 100 (fn100 w).1 (bodyOf (fn100 w).1) ["word", "code"] where
  at_ := (fn100 w).2
  code := ⟨_, _, _, _, _, _, rfl, rfl, rfl⟩
  body := rfl
  clo := rfl
  glob := rfl
  blt := rfl
  kind := rfl
  co := rfl
  gen := rfl
  names := of_decide_eq_true rfl
  params := of_decide_eq_true rfl
  kinds := of_decide_eq_true rfl
  binds := by
    intro vals h
    obtain ⟨v0, v1, rfl⟩ := len2 h
    rfl
noncomputable def fn107 (w : World) : { fd : FuncData // ∃ c d sl, (Kf w).lookup 107 = some ⟨c, d, .func fd, sl⟩ } := ⟨_, _, _, _, rfl⟩
theorem ok107 : FnOk (Kf w) 107 (fn107 w).1 (bodyOf (fn107 w).1) ["script"] where
  at_ := (fn107 w).2
  code := ⟨_, _, _, _, _, _, rfl, rfl, rfl⟩
  body := rfl
  clo := rfl
  glob := rfl
  blt := rfl
  kind := rfl
  co := rfl
  gen := rfl
  names := of_decide_eq_true rfl
  params := of_decide_eq_true rfl
  kinds := of_decide_eq_true rfl
  binds := by
    intro vals h
    obtain ⟨v0, rfl⟩ := len1 h
    rfl
end
-- part GX
section
variable {L : Lev} {Γ : Ctx} {os : List Addr} {s : Shared}
theorem x_forI {τ : Type} {xs : List τ} {inj : τ → D} {x : Str} {px : Pos} {iter : Expr} {body rest : List Stmt} {pos : Pos} {d : D} {Q : Flow → Shared → Prop} (vars : Nat → List (Str × D)) (Pk : Nat → (Addr → Prop) → Heap → Prop) (F : Fm L Γ os (Pk 0) s) (pok : ∀ k, OwnOk (Pk k) os)
    (hi : Tr Γ (eval iter Γ.env) (fun v h => Γ.R h v d) s) (hit : Iterable d (xs.map inj)) (h0 : Agree Γ (vars 0))
    (turn : ∀ k t, xs[k]? = some t → ∀ (L' : Lev) (wr : List Addr) (s' : Shared), L'.W = L.W → L'.s₀ = L.s₀ → Fm L' (((Γ.plus wr).only (vars k)).set x (inj t)) os (Pk k) s' →
      Ex (((Γ.plus wr).only (vars k)).set x (inj t)) (execs body (((Γ.plus wr).only (vars k)).set x (inj t)).env) (fun f s'' => ((f = .next ∨ f = .cont) ∧ Fm L' ((Γ.plus wr).only (vars (k + 1))) os (Pk (k + 1)) s'') ∨ ((∃ v, f = .ret v) ∧ Q f s'')) s')
    (fin : ∀ s', Fm L (Γ.only (vars xs.length)) os (Pk xs.length) s' → Ex (Γ.only (vars xs.length)) (execs rest (Γ.only (vars xs.length)).env) Q s')
    (hx : asg Γ x = true := by rfl) (hs : ∀ x, foldedSetIterable iter Γ.env x = pure x := by intro _; rfl) : Ex Γ (execs (.For (.Name x px) iter body [] pos :: rest) Γ.env) Q s := by
  have e : (xs.map inj).length = xs.length := List.length_map ..
  refine x_for vars Pk F pok hi hit h0 (fun k d' hd => ?_) (by rw [e]; exact fin) hs
  rw [List.getElem?_map] at hd
  obtain ⟨t, ht, rfl⟩ := Option.map_eq_some_iff.mp hd
  exact ⟨[(x, inj t)], .name, by rw [List.all_cons, hx]; rfl, turn k t ht⟩
theorem x_forN {n : Nat} {inj : Nat → D} {x : Str} {px : Pos} {iter : Expr} {body rest : List Stmt} {pos : Pos} {d : D} {Q : Flow → Shared → Prop} (vars : Nat → List (Str × D)) (Pk : Nat → (Addr → Prop) → Heap → Prop) (F : Fm L Γ os (Pk 0) s) (pok : ∀ k, OwnOk (Pk k) os)
    (hi : Tr Γ (eval iter Γ.env) (fun v h => Γ.R h v d) s) (hit : Iterable d ((List.range n).map inj)) (h0 : Agree Γ (vars 0))
    (turn : ∀ k, k < n → ∀ (L' : Lev) (wr : List Addr) (s' : Shared), L'.W = L.W → L'.s₀ = L.s₀ → Fm L' (((Γ.plus wr).only (vars k)).set x (inj k)) os (Pk k) s' →
      Ex (((Γ.plus wr).only (vars k)).set x (inj k)) (execs body (((Γ.plus wr).only (vars k)).set x (inj k)).env) (fun f s'' => ((f = .next ∨ f = .cont) ∧ Fm L' ((Γ.plus wr).only (vars (k + 1))) os (Pk (k + 1)) s'') ∨ ((∃ v, f = .ret v) ∧ Q f s'')) s')
    (fin : ∀ s', Fm L (Γ.only (vars n)) os (Pk n) s' → Ex (Γ.only (vars n)) (execs rest (Γ.only (vars n)).env) Q s')
    (hx : asg Γ x = true := by rfl) (hs : ∀ x, foldedSetIterable iter Γ.env x = pure x := by intro _; rfl) : Ex Γ (execs (.For (.Name x px) iter body [] pos :: rest) Γ.env) Q s := by
  have e : (List.range n).length = n := List.length_range
  refine x_forI vars Pk F pok hi hit h0 (fun k t ht => ?_) (by rw [e]; exact fin) hx hs
  have hk : k < n := by
    have := (List.getElem?_eq_some_iff.mp ht).1
    rwa [e] at this
  rw [List.getElem?_range hk] at ht
  obtain rfl := Option.some.inj ht
  exact turn k hk
end
-- part G2
section
variable {w : World} {prog : Program} {n : Nat}
theorem fn_count_calls {KK : Type} [DecidableEq KK] (κ : KD KK) {kvs : List (KK × Int)} : Fn (Kf w) prog w (n + 1) (.ref 63) [κ.con kvs] (.int (kvs.map (·.2)).sum) :=
  fn_of_body ok63 rfl fun A base S s₀ L s₁ F => by
    refine x_assign F (ev_int.on F.at_) fun s F => ?_
    refine x_for (d := .box "dict_values" (κ.con kvs)) (ds := kvs.map fun p => .int p.2) (fun k => [("callers", κ.con kvs), ("nc", .int ((kvs.map (·.2)).take k).sum)]) (fun _ => noOwn) F (fun _ => noOwn_ok)
      ((ev_values κ (ev_name rfl)).on F.at_) (iterable_values κ) ⟨rfl, rfl, trivial⟩ (fun k d' hd => ?_) fun s F => ?_
    · rw [List.getElem?_map] at hd
      cases hx : kvs[k]? with
      | none => rw [hx] at hd; (first | obtain ⟨_, rfl⟩ := hd.atom | exact (nsE hd).elim | exact (snE hd).elim | exact (ftE hd).elim | cases hd)
      | some p =>
        rw [hx] at hd; (first | obtain ⟨_, rfl⟩ := hd.atom | exact (nsE hd).elim | exact (snE hd).elim | exact (ftE hd).elim | cases hd)
        refine ⟨_, .name, rfl, fun L' wr s F₁ F₂ F => ?_⟩
        refine x_aug F (d1 := .int ((kvs.map (·.2)).take k).sum) rfl (ev_name rfl) op_iadd fun s F => ?_
        refine ex_nil (.inl ⟨.inl rfl, F.next rfl ⟨rfl, ?_, trivial⟩⟩)
        rw [sum_take_succ _ k p.2 (by rw [List.getElem?_map, hx]; rfl)]; rfl
    · refine x_ret F ((ev_name rfl).on F.at_) fun v s F r => ⟨v, rfl, F.done rfl rfl, ?_⟩
      rw [show (kvs.map fun p => D.int p.2).length = (kvs.map (·.2)).length by simp, List.take_length] at r
      (first | obtain ⟨_, rfl⟩ := r.atom | exact (nsE r).elim | exact (snE r).elim | exact (ftE r).elim | cases r); exact .int _ _

/-- the pattern -/
noncomputable def laid2 : List Int := [0, 1, 0, 0, 1, 0, 1, 0, 0]
noncomputable def kinds2 : List Int := [0, 2, 3, 2]
noncomputable def size2 (nums : List Int) : Nat := 5 + nums.length % 5
noncomputable def kind2 (nums : List Int) : Int := kinds2.getD (nums.sum.fmod 4).toNat 0
noncomputable def word02 (nums : List Int) : List Int := (List.range (size2 nums)).map fun (k : Nat) => laid2.getD k 0 + (cutBy nums (some (k : Int)) none (some (size2 nums : Int))).sum
noncomputable def word2 (nums : List Int) : List Int := if kind2 nums = 0 then word02 nums else (word02 nums).map fun x => x.fmod (kind2 nums)

theorem lt_cases4 {i : Int} (h0 : 0 ≤ i) (h : i < 4) : i = 0 ∨ i = 1 ∨ i = 2 ∨ i = 3 := by omega

set_option maxHeartbeats 1000000 in
theorem fn_word {nums : List Int} (hl : nums.length ≤ 63) : Fn (Kf w) prog w (n + 1) (.ref 75) [.list (nums.map .int)] (.list ((word2 nums).map .int)) :=
  fn_of_body ok75 rfl fun A base S s₀ L s₁ F => by
    have hz : nums.length ≤ 16384 := by omega
    refine x_assign F (d := .int (size2 nums)) (((ev_binop ev_int (ev_binop (c_len rfl rfl (ev_name rfl) (fn_len_list (by simpa using hz))) ev_int (op_mod (by decide))) op_add).cast (by have := fmod_nat nums.length 5; rw [List.length_map]; unfold size2; push_cast at this ⊢; rw [this])).on F.at_) fun s F => ?_
    refine x_assign F (d := .tuple (laid2.map .int)) ((ev_tuple (evs_cons ev_int (evs_cons ev_int (evs_cons ev_int (evs_cons ev_int (evs_cons ev_int (evs_cons ev_int (evs_cons ev_int (evs_cons ev_int (evs_cons ev_int evs_nil))))))))) (by decide)).on F.at_) fun s F => ?_
    have hr := fmod_range nums.sum (b := 4) (by decide)
    refine x_assign F (d := .int (kind2 nums)) ((ev_sub (ev_tuple (evs_cons ev_int (evs_cons ev_int (evs_cons ev_int (evs_cons ev_int evs_nil)))) (by decide))
      (ev_binop (c_sum rfl rfl (ev_name rfl) fn_sum) ev_int (op_mod (by decide))) (sub_tuple (by intro _ _; rfl) hr.1 (by omega) ?_)).on F.at_) fun s F => ?_
    · unfold kind2
      rcases lt_cases4 hr.1 hr.2 with e | e | e | e <;> rw [e] <;> rfl
    have hs2 : size2 nums < 10 := by unfold size2; omega
    refine x_used_list F (ds := (word02 nums).map .int) ?_ fun s F => ?_
    · rw [word02, List.map_map]
      refine evU_lcm (c_range rfl rfl (ev_name rfl)) (iter_range (by omega) (by omega)) (by simp; unfold sizeLine; omega) fun t ht Da C own wr => ?_
      have ht' : t < size2 nums := by simpa using ht
      refine ev_binop (ev_sub (ev_name rfl) (ev_name rfl) (sub_tuple (d := .int (laid2.getD t 0)) (by intro _ _; rfl) (by omega) (by omega) ?_))
        (c_sum rfl rfl ((ev_sliceBy (ev_name rfl) (part_some (ev_name rfl)) part_none (ev_name rfl) (by unfold size2; omega) (by simp; unfold sizeLine; omega)).cast (by rw [cutBy_map])) fn_sum) op_add
      have : t < 9 := by unfold size2 at ht'; omega
      rw [List.getElem?_map]
      simp only [Int.toNat_natCast, laid2]
      match t, this with
      | 0, _ | 1, _ | 2, _ | 3, _ | 4, _ | 5, _ | 6, _ | 7, _ | 8, _ => rfl
    · refine x_ret F (d := .list ((word2 nums).map .int)) ((ev_ifexp (b := kind2 nums != 0) (evT_of (ev_name rfl) truth_int) (fun hk => ?_) fun hk => ?_).on F.at_) fun v s F r => ⟨v, rfl, F.done rfl rfl, r.less fun b q => .inl q⟩
      · have hk' : kind2 nums ≠ 0 := by simpa using hk
        rw [word2, if_neg hk', List.map_map]
        exact (ev_lcm (ev_name rfl) iter_ints (by simp [word02]; unfold sizeLine; omega) fun t ht Da C own wr => ev_binop (ev_name rfl) (ev_name rfl) (op_mod hk')).ev
      · have hk' : kind2 nums = 0 := by simpa using hk
        rw [word2, if_pos hk']
        exact ev_name rfl
end
-- part G3
section
variable {L : Lev} {Γ : Ctx} {os : List Addr} {P : (Addr → Prop) → Heap → Prop} {s s' : Shared} {as : List Addr} {l : List (Str × D)}
theorem tr_view_int {e : Expr} {i : Int} (h : Ev (Γ.view as l) e (.int i)) (C : (Γ.view as l).At s.heap) : Tr Γ (eval e Γ.env) (fun v h => Γ.R h v (.int i)) s := by
  show Tr (Γ.view as l) (eval e (Γ.view as l).env) (fun v h => Γ.R h v (.int i)) s
  exact (h.on C).mono fun v _ r => by (first | obtain ⟨_, rfl⟩ := r.atom | exact (nsE r).elim | exact (snE r).elim | exact (ftE r).elim | cases r); exact .int _ _
theorem tr_view_T {e : Expr} {b : Bool} (h : EvT (Γ.view as l) e b) (C : (Γ.view as l).At s.heap) : Tr Γ (isTrue e Γ.env (eval e Γ.env)) (fun t _ => t = b) s := h.on C
theorem look1 {x y : Str} {d e : D} (h : List.lookup y [(x, d)] = some e) : y = x ∧ e = d := by
  rw [List.lookup_cons] at h
  cases q : (y == x) with
  | true => rw [q] at h; (first | obtain ⟨_, rfl⟩ := h.atom | exact (nsE h).elim | exact (snE h).elim | exact (ftE h).elim | cases h); exact ⟨eq_of_beq q, rfl⟩
  | false => rw [q] at h; (first | obtain ⟨_, rfl⟩ := h.atom | exact (nsE h).elim | exact (snE h).elim | exact (ftE h).elim | cases h)
theorem Fm.viewL {a : Addr} {x : Str} {ds : List D} {P1 : (Addr → Prop) → Heap → Prop} (F : Fm L Γ os (fun S h => AccL Γ.prog Γ.w a ds S h ∧ P1 S h) s) (hx : Γ.ρ x = some (.raw (.ref a))) : (Γ.view [a] [(x, .list ds)]).At s.heap :=
  At.view F.at_ fun y d e => by
    obtain ⟨rfl, rfl⟩ := look1 e
    exact ⟨a, hx, F.own.1.rep (.head _)⟩
end
section
variable {w : World} {prog : Program} {n : Nat}

/-- a function's call that makes a new list -/
theorem fnL_of_body {K : Frag} {fd : FuncData} {body : List Stmt} {ps : List Str} {a : Addr} (H : FnOk K a fd body ps) {ds : List D} {out : List D} (hlen : ds.length = ps.length)
    (hx : ∀ A base S s₀ L s₁, Fm ⟨fun _ => False, [], noOwn, s₀⟩ (fnCtx K prog w A n base S fd L a (ps.zip ds)) [] noOwn s₁ → Ex (fnCtx K prog w A n base S fd L a (ps.zip ds)) (execs body (fnCtx K prog w A n base S fd L a (ps.zip ds)).env)
      (fun f s' => ∃ v, f = .ret v ∧ Kp s₀ s' ∧ ∃ a vs, v = .ref a ∧ s₀.heap.get? a = none ∧ s'.heap.PlainList a vs.toArray ∧ RepAll prog w (fun b => S b ∨ b = a) s'.heap vs out) s₁) :
    FnL K prog w (n + 1) (.ref a) ds out := .mk fun A base S s vals hr hw r =>
  fn_enter H hr hw r hlen noOwn_ok trivial fun L s₁ F => hx A base S s L s₁ F

/-- the laws that make a table of the loop's values -/
structure TabLaw (pre : List Int) (pi : Nat → Nat) (R : Nat → Nat → Nat) : Prop where
  le : ∀ j, pi j ≤ j
  step : ∀ i idx, idx < i → i < pre.length → R i idx = if pre.getD i 0 = pre.getD idx 0 then idx + 1 else if idx = 0 then 0 else R i (pi (idx - 1))
  out : ∀ i, 1 ≤ i → i < pre.length → pi i = R i (pi (i - 1))
noncomputable def tabAt (m : Nat) (pi : Nat → Nat) (k : Nat) : List Int := (List.range m).map fun j => if j ≤ k then (pi j : Int) else 0
theorem tabAt_get {m : Nat} {pi : Nat → Nat} {k j : Nat} (hj : j < m) (hk : j ≤ k) : (tabAt m pi k)[j]? = some (pi j : Int) := by
  unfold tabAt; simp [hj, hk]
theorem tabAt_succ {m : Nat} {pi : Nat → Nat} {k : Nat} (hk : k + 1 < m) : (tabAt m pi k).set (k + 1) (pi (k + 1) : Int) = tabAt m pi (k + 1) := by
  apply List.ext_getElem?
  intro j
  by_cases e : j = k + 1
  · subst e
    rw [List.getElem?_set_self (by simp [tabAt]; exact hk), tabAt_get hk (Nat.le_refl _)]
  · rw [List.getElem?_set_ne (fun z => e z.symm)]
    unfold tabAt
    simp only [List.getElem?_map]
    cases h : (List.range m)[j]? with
    | none => rfl
    | some x =>
      have : x = j := by
        rw [List.getElem?_range] at h
        · (first | obtain ⟨_, rfl⟩ := h.atom | exact (nsE h).elim | exact (snE h).elim | exact (ftE h).elim | cases h); rfl
        · have := (List.getElem?_eq_some_iff.mp h).1; simpa using this
      subst this
      simp only [Option.map_some]
      by_cases h1 : x ≤ k
      · rw [if_pos h1, if_pos (by omega)]
      · rw [if_neg h1, if_neg (by omega)]
theorem tabAt_zero {m : Nat} {pi : Nat → Nat} (h0 : pi 0 = 0) : tabAt m pi 0 = List.replicate m 0 := by
  apply List.ext_getElem?
  intro j
  unfold tabAt
  rcases Nat.lt_or_ge j m with q | q
  · simp only [List.getElem?_map, List.getElem?_range q, Option.map_some, List.getElem?_replicate, q, if_true]
    by_cases e : j ≤ 0
    · have : j = 0 := by omega
      subst this; simp [h0]
    · simp [e]
  · rw [List.getElem?_eq_none (by simpa using q), List.getElem?_eq_none (by simpa using q)]
theorem beq_nat0 (i : Nat) : ((i : Int) == 0) = decide (i = 0) := by
  rw [Bool.eq_iff_iff]; simp
theorem tab_set {m : Nat} {pi : Nat → Nat} {k : Nat} {x : Int} (hk : k + 1 < m) (hx : x = (pi (k + 1) : Int)) : ((tabAt m pi k).map D.int).set (k + 1) (.int x) = (tabAt m pi (k + 1)).map D.int := by
  rw [hx, ← List.map_set, tabAt_succ hk]

set_option maxHeartbeats 1000000 in
theorem fn_table {pre : List Int} {pi : Nat → Nat} {R : Nat → Nat → Nat} (T : TabLaw pre pi R) (hm : pre.length ≤ 1000) : FnL (Kf w) prog w (n + 1) (.ref 70) [.list (pre.map .int)] ((tabAt pre.length pi (pre.length - 1)).map .int) :=
  fnL_of_body ok70 rfl fun A base S s₀ L s₁ F => by
    have h0 : pi 0 = 0 := by have := T.le 0; omega
    refine x_own_list (ds := (tabAt pre.length pi 0).map .int) F ?_ fun a s ha _ F => ?_
    · have e : (tabAt pre.length pi 0).map D.int = List.replicate (((pre.map D.int).length : Int)).toNat (D.int 0) := by
        rw [tabAt_zero h0]; simp
      rw [e]
      exact (ev_mulL (ev_list (evs_cons ev_int evs_nil) (by decide)) (c_len rfl rfl (ev_name rfl) (fn_len_list (by simp; omega))) (by omega) (by simp; omega)).run _ F.at_
    have okP : ∀ k, OwnOk (fun S h => AccL prog w a ((tabAt pre.length pi k).map .int) S h ∧ noOwn S h) [a] := fun k => (accL_ok.own).and noOwn_ok
    refine x_forN (d := .range 1 (pre.map D.int).length 1) (n := (((pre.map D.int).length : Int) - 1).toNat) (inj := fun j : Nat => D.int (1 + (j : Int))) (fun _ => [("prefix", .list (pre.map .int)), ("table", .raw (.ref a))])
      (fun k S h => AccL prog w a ((tabAt pre.length pi k).map .int) S h ∧ noOwn S h) F okP
      ((c_range2 rfl rfl ev_int (c_len rfl rfl (ev_name rfl) (fn_len_list (by simp; omega)))).on F.at_) (iter_range2 (by omega) (by omega) (by omega) (by simp; omega)) ⟨rfl, rfl, trivial⟩ (fun k hk L' wr s hW hs₀ F => ?_) fun s F => ?_
    · have hk : k + 1 < pre.length := by rw [List.length_map] at hk; omega
      refine x_assign F (d := .int (pi k)) (tr_view_int (as := [a]) (l := [("table", .list ((tabAt pre.length pi k).map .int))]) (ev_sub (ev_name rfl) (ev_binop (ev_name rfl) ev_int op_sub) (sub_list (by intro _ _; rfl) (by omega) (by omega) ?_)) (F.viewL rfl)) fun s F => ?_
      · rw [show (1 + (k : Int) - 1).toNat = k by omega, List.getElem?_map, tabAt_get (by omega) (Nat.le_refl _)]; rfl
      have gp : ∀ j : Nat, j < pre.length → (pre.map D.int)[((j : Int)).toNat]? = some (.int (pre.getD j 0)) := fun j hj => by simp [hj]
      refine x_whileF (fun idx => [("prefix", .list (pre.map .int)), ("table", .raw (.ref a)), ("i", .int (1 + (k : Int))), ("idx", .int (idx : Int))]) (fun idx => idx ≤ k ∧ R (k + 1) idx = pi (k + 1)) (pi k)
        (F.next rfl ⟨rfl, rfl, rfl, rfl, trivial⟩) ⟨T.le k, (T.out (k + 1) (by omega) hk).symm⟩ fun idx h => ?_
      obtain ⟨hidx, hR⟩ := h
      have hst := T.step (k + 1) idx (by omega) hk
      refine ⟨pre.getD (k + 1) 0 != pre.getD idx 0, fun s F => ?_, fun hb s F => ?_, fun hb s F => ?_⟩
      · exact (evT_cmp (ev_sub (ev_name rfl) (ev_name rfl) (sub_list (d := .int (pre.getD (k + 1) 0)) (by intro _ _; rfl) (by omega) (by omega) (by rw [show 1 + (k : Int) = ((k + 1 : Nat) : Int) by omega]; exact gp _ hk)))
          (ev_sub (ev_name rfl) (ev_name rfl) (sub_list (d := .int (pre.getD idx 0)) (by intro _ _; rfl) (by omega) (by omega) (gp _ (by omega)))) op_ne).on F.at_
      · have hne : pre.getD (k + 1) 0 ≠ pre.getD idx 0 := by simpa using hb
        rw [if_neg hne] at hst
        refine x_if F (b := decide (idx = 0)) ((evT_cmp (b := decide (idx = 0)) (ev_name rfl) ev_int (op_eq.cast (congrArg D.bool (beq_nat0 idx)))).on F.at_) (fun h0' s F => ?_) fun h0' s F => ?_
        · have h0' : idx = 0 := by simpa using h0'
          rw [if_pos h0'] at hst
          refine x_setL (j := k + 1) (d := .int 0) F (.head _) (.inr (hs₀ ▸ ha)) ?_ (fun S h h' _ _ _ => trivial) (ev_int.on F.at_) (ev_name rfl) (fun s F => ((ev_name rfl).cast (by rw [show 1 + (k : Int) = ((k + 1 : Nat) : Int) by omega])).on F.at_) (by simp [tabAt]; exact hk) (by simp [tabAt]; omega) fun s F => ?_
          · exact (accL_ok.own).and noOwn_ok
          rw [tab_set hk (by rw [← hR, hst]; rfl)] at F
          exact ex_brk (ex_nil (.inl ⟨.inl rfl, F.next rfl ⟨rfl, rfl, trivial⟩⟩))
        · have h0' : idx ≠ 0 := by simpa using h0'
          rw [if_neg h0'] at hst
          refine ex_nil ?_
          refine x_assign F (d := .int (pi (idx - 1) : Nat)) (tr_view_int (as := [a]) (l := [("table", .list ((tabAt pre.length pi k).map .int))]) (ev_sub (ev_name rfl) (ev_binop (ev_name rfl) ev_int op_sub) (sub_list (by intro _ _; rfl) (by omega) (by omega) ?_)) (F.viewL rfl)) fun s F => ?_
          · rw [show ((idx : Int) - 1).toNat = idx - 1 by omega, List.getElem?_map, tabAt_get (by omega) (by omega)]; rfl
          have := T.le (idx - 1)
          exact ex_nil ⟨pi (idx - 1), by omega, ⟨by omega, by rw [← hst, hR]⟩, F.next rfl ⟨rfl, rfl, rfl, rfl, trivial⟩⟩
      · have heq : pre.getD (k + 1) 0 = pre.getD idx 0 := by simpa using hb
        rw [if_pos heq] at hst
        refine x_setL (j := k + 1) (d := .int ((idx : Int) + 1)) F (.head _) (.inr (hs₀ ▸ ha)) ?_ (fun S h h' _ _ _ => trivial) ((ev_binop (ev_name rfl) ev_int op_add).on F.at_) (ev_name rfl) (fun s F => ((ev_name rfl).cast (by rw [show 1 + (k : Int) = ((k + 1 : Nat) : Int) by omega])).on F.at_) (by simp [tabAt]; exact hk) (by simp [tabAt]; omega) fun s F => ?_
        · exact (accL_ok.own).and noOwn_ok
        rw [tab_set hk (by rw [← hR, hst]; omega)] at F
        exact ex_nil (ex_nil (.inl ⟨.inl rfl, F.next rfl ⟨rfl, rfl, trivial⟩⟩))
    · refine x_ret F (d := .raw (.ref a)) ((ev_name rfl).on F.at_) fun v s F r => ⟨v, rfl, F.done rfl rfl, ?_⟩
      (first | obtain ⟨_, rfl⟩ := r.atom | exact (nsE r).elim | exact (snE r).elim | exact (ftE r).elim | cases r)
      obtain ⟨⟨hS, vs, hl, rs⟩, _⟩ := F.own
      rw [show (((pre.map D.int).length : Int) - 1).toNat = pre.length - 1 by rw [List.length_map]; omega] at rs
      exact ⟨a, vs, rfl, ha, hl, rs.less fun b q => q.elim (fun z => .inl (.inl z)) fun e => .inr (by rw [e]; exact .head _)⟩
end
-- part G6
/-- counts put together -/
noncomputable def addKV {K : Type} [DecidableEq K] (acc : List (K × Int)) (p : K × Int) : List (K × Int) := put acc p.1 ((lookD acc p.1).getD 0 + p.2)
noncomputable def putAll {K : Type} [DecidableEq K] (t : List (K × Int)) : List (K × Int) := t.foldl (fun acc p => put acc p.1 p.2) []
noncomputable def addAll {K : Type} [DecidableEq K] (t s : List (K × Int)) : List (K × Int) := s.foldl addKV (putAll t)
theorem foldl_take_succ {α β : Type} (f : β → α → β) (b : β) (l : List α) (k : Nat) (x : α) (h : l[k]? = some x) : (l.take (k + 1)).foldl f b = f ((l.take k).foldl f b) x := by
  rw [List.take_add_one, h, List.foldl_append]; rfl
theorem putAll_len {K : Type} [DecidableEq K] (t : List (K × Int)) : (putAll t).length ≤ t.length := by
  have := foldl_put_len (fun p : K × Int => p.1) (fun p => p.2) t []
  simpa [putAll] using this
theorem addAll_len {K : Type} [DecidableEq K] (t : List (K × Int)) : ∀ (s : List (K × Int)) (acc : List (K × Int)), (s.foldl addKV acc).length ≤ acc.length + s.length
  | [], acc => Nat.le_refl _
  | p :: r, acc => by
    have a := addAll_len t r (addKV acc p)
    have b := put_len acc p.1 ((lookD acc p.1).getD 0 + p.2)
    simp only [List.foldl_cons, List.length_cons]
    unfold addKV at a ⊢
    omega

section
variable {L : Lev} {Γ : Ctx} {os : List Addr} {P : (Addr → Prop) → Heap → Prop} {s s' : Shared}
theorem Fm.viewD {KK : Type} [DecidableEq KK] (κ : KD KK) {a : Addr} {x : Str} {kvs : List (KK × Int)} {P1 : (Addr → Prop) → Heap → Prop} (F : Fm L Γ os (fun S h => AccD Γ.prog Γ.w (κ.knd Γ.prog Γ.w) a kvs S h ∧ P1 S h) s) (hx : Γ.ρ x = some (.raw (.ref a))) : (Γ.view [a] [(x, κ.con kvs)]).At s.heap :=
  At.view F.at_ fun y d e => by
    obtain ⟨rfl, rfl⟩ := look1 e
    exact ⟨a, hx, F.own.1.rep κ (.head _)⟩
end
section
variable {w : World} {prog : Program} {n : Nat} {KK : Type} [DecidableEq KK] (κ : KD KK)

/-- a function's call that makes a new dict -/
theorem fnD_of_body {K : Frag} {fd : FuncData} {body : List Stmt} {ps : List Str} {a : Addr} (H : FnOk K a fd body ps) {ds : List D} {out : List (KK × Int)} (hlen : ds.length = ps.length)
    (hx : ∀ A base S s₀ L s₁, Fm ⟨fun _ => False, [], noOwn, s₀⟩ (fnCtx K prog w A n base S fd L a (ps.zip ds)) [] noOwn s₁ → Ex (fnCtx K prog w A n base S fd L a (ps.zip ds)) (execs body (fnCtx K prog w A n base S fd L a (ps.zip ds)).env)
      (fun f s' => ∃ v, f = .ret v ∧ Kp s₀ s' ∧ ∃ a us, v = .ref a ∧ s₀.heap.get? a = none ∧ (a == sysModules) = false ∧ s'.heap.DictOf (κ.knd prog w) a us ∧ KV us out) s₁) :
    FnD κ K prog w (n + 1) (.ref a) ds out := .mk fun A base S s vals hr hw r =>
  fn_enter H hr hw r hlen noOwn_ok trivial fun L s₁ F => hx A base S s L s₁ F

set_option maxHeartbeats 1000000 in
theorem fn_add_callers {t s : List (KK × Int)} (hz : t.length + s.length ≤ 1000000) : FnD κ (Kf w) prog w (n + 1) (.ref 56) [κ.con t, κ.con s] (addAll t s) :=
  fnD_of_body κ ok56 rfl fun A base S s₀ L s₁ F => by
    refine x_own_dict κ (kvs := []) F ((ev_dict0 κ).run _ F.at_) fun a _ ha _ F => ?_
    have okD : ∀ kvs : List (KK × Int), OwnOk (fun S h => AccD prog w (κ.knd prog w) a kvs S h ∧ noOwn S h) [a] := fun kvs => (accD_ok.own).and noOwn_ok
    have hsz : sizeLine = 16777216 := by decide
    refine x_for (d := .box "dict_items" (κ.con t)) (ds := t.map fun p => .tuple [κ.enc p.1, .int p.2]) (fun k => [("target", κ.con t), ("source", κ.con s), ("new_callers", .raw (.ref a))]) (fun k S h => AccD prog w (κ.knd prog w) a (putAll (t.take k)) S h ∧ noOwn S h) F (fun _ => okD _)
      ((ev_items κ (ev_name rfl)).on F.at_) (iterable_items κ) ⟨rfl, rfl, rfl, trivial⟩ (fun k d' hd => ?_) fun _ F => ?_
    · rw [List.getElem?_map] at hd
      cases hx : t[k]? with
      | none => rw [hx] at hd; (first | obtain ⟨_, rfl⟩ := hd.atom | exact (nsE hd).elim | exact (snE hd).elim | exact (ftE hd).elim | cases hd)
      | some p =>
        rw [hx] at hd; (first | obtain ⟨_, rfl⟩ := hd.atom | exact (nsE hd).elim | exact (snE hd).elim | exact (ftE hd).elim | cases hd)
        refine ⟨_, .t2, rfl, fun L' wr _ hW hs₀ F => ?_⟩
        have hl := putAll_len (t.take k)
        have hl2 : (t.take k).length ≤ t.length := by rw [List.length_take]; exact Nat.min_le_right ..
        refine x_setD κ (key := p.1) (x := p.2) F (.head _) (.inr (hs₀ ▸ ha)) (okD _) (fun _ _ _ _ _ _ => trivial) (ev_name rfl) (ev_name rfl) (ev_name rfl) (by omega) fun _ F => ?_
        rw [show put (putAll (t.take k)) p.1 p.2 = putAll (t.take (k + 1)) by unfold putAll; rw [foldl_take_succ _ _ _ k p hx]] at F
        exact ex_nil (.inl ⟨.inl rfl, F.next rfl ⟨rfl, rfl, rfl, trivial⟩⟩)
    rw [List.length_map, List.take_length] at F
    refine x_for (d := .box "dict_items" (κ.con s)) (ds := s.map fun p => .tuple [κ.enc p.1, .int p.2]) (fun k => [("target", κ.con t), ("source", κ.con s), ("new_callers", .raw (.ref a))]) (fun k S h => AccD prog w (κ.knd prog w) a (addAll t (s.take k)) S h ∧ noOwn S h) F (fun _ => okD _)
      ((ev_items κ (ev_name rfl)).on F.at_) (iterable_items κ) ⟨rfl, rfl, rfl, trivial⟩ (fun k d' hd => ?_) fun _ F => ?_
    · rw [List.getElem?_map] at hd
      cases hx : s[k]? with
      | none => rw [hx] at hd; (first | obtain ⟨_, rfl⟩ := hd.atom | exact (nsE hd).elim | exact (snE hd).elim | exact (ftE hd).elim | cases hd)
      | some p =>
        rw [hx] at hd; (first | obtain ⟨_, rfl⟩ := hd.atom | exact (nsE hd).elim | exact (snE hd).elim | exact (ftE hd).elim | cases hd)
        refine ⟨_, .t2, rfl, fun L' wr _ hW hs₀ F => ?_⟩
        have hl := putAll_len t
        have hl3 := addAll_len t (s.take k) (putAll t)
        have hl2 : (s.take k).length ≤ s.length := by rw [List.length_take]; exact Nat.min_le_right ..
        have hl4 : (addAll t (s.take k)).length ≤ sizeLine := by unfold addAll; omega
        have hnext : addKV (addAll t (s.take k)) p = addAll t (s.take (k + 1)) := by unfold addAll; rw [foldl_take_succ _ _ _ k p hx]
        refine x_if F (b := (lookD (addAll t (s.take k)) p.1).isSome) (tr_view_T (as := [a]) (l := [("new_callers", κ.con (addAll t (s.take k)))]) (evT_cmp (ev_name (d := κ.enc p.1) rfl) (ev_name rfl) (op_in_dict κ)) (F.viewD κ rfl)) (fun hb _ F => ?_) fun hb _ F => ?_
        · obtain ⟨x, hx'⟩ := Option.isSome_iff_exists.mp hb
          refine x_if F (b := false) ((evT_of (c_isi_tuple rfl rfl rfl (ev_name (d := .int p.2) rfl) fn_isi_int_tuple) truth_bool).on F.at_) (fun e => by (first | obtain ⟨_, rfl⟩ := e.atom | exact (nsE e).elim | exact (snE e).elim | exact (ftE e).elim | cases e)) fun _ _ F => ?_
          refine x_augD κ (key := p.1) (x := x) (y := p.2) F (.head _) (.inr (hs₀ ▸ ha)) (okD _) (fun _ _ _ _ _ _ => trivial) (ev_name rfl) (ev_name rfl) (ev_name rfl) hx' hl4 fun _ F => ?_
          rw [show put (addAll t (s.take k)) p.1 (x + p.2) = addAll t (s.take (k + 1)) by rw [← hnext]; unfold addKV; rw [hx']; rfl] at F
          exact ex_nil (ex_nil (ex_nil (.inl ⟨.inl rfl, F.next rfl ⟨rfl, rfl, rfl, trivial⟩⟩)))
        · have hx' : lookD (addAll t (s.take k)) p.1 = none := by
            cases e : lookD (addAll t (s.take k)) p.1 with
            | none => rfl
            | some x => rw [e] at hb; (first | obtain ⟨_, rfl⟩ := hb.atom | exact (nsE hb).elim | exact (snE hb).elim | exact (ftE hb).elim | cases hb)
          refine x_setD κ (key := p.1) (x := p.2) F (.head _) (.inr (hs₀ ▸ ha)) (okD _) (fun _ _ _ _ _ _ => trivial) (ev_name rfl) (ev_name rfl) (ev_name rfl) hl4 fun _ F => ?_
          rw [show put (addAll t (s.take k)) p.1 p.2 = addAll t (s.take (k + 1)) by rw [← hnext]; unfold addKV; rw [hx']; simp] at F
          exact ex_nil (ex_nil (.inl ⟨.inl rfl, F.next rfl ⟨rfl, rfl, rfl, trivial⟩⟩))
    · rw [List.length_map, List.take_length] at F
      refine x_ret F (d := .raw (.ref a)) ((ev_name rfl).on F.at_) fun v _ F r => ⟨v, rfl, F.done rfl rfl, ?_⟩
      (first | obtain ⟨_, rfl⟩ := r.atom | exact (nsE r).elim | exact (snE r).elim | exact (ftE r).elim | cases r)
      obtain ⟨⟨hS, hm, us, hd, hk⟩, _⟩ := F.own
      exact ⟨a, us, rfl, ha, hm, hd, hk⟩
end
-- part PL22
/-- made of new objects alone -/
noncomputable def isOld (h : Heap) : Addr → Prop := fun b => (h.get? b).isSome = true
structure EvNew (Γ : Ctx) (e : Expr) (d : D) : Prop where
  run : ∀ s, Γ.At s.heap → Tr Γ (eval e Γ.env) (fun v h => Rep Γ.prog Γ.w (isOld s.heap) h v d) s
structure EvsNew (Γ : Ctx) (p : Pos) (es : List Expr) (ds : List D) : Prop where
  run : ∀ s, Γ.At s.heap → Tr Γ (spliced (backTo p (starEach es Γ.env))) (fun vs h => RepAll Γ.prog Γ.w (isOld s.heap) h vs ds) s
structure FnN (K : Frag) (prog : Program) (w : World) (n : Nat) (f : Value) (ds : List D) (d : D) : Prop where
  run : ∀ (A : Around) (base : Heap) (S : Addr → Prop) (s : Shared) (vals : List Value), RoomA n A → Wd K base S s.heap → RepAll prog w S s.heap vals ds →
    wpAny (model prog w) A (call f vals) (fun v s' => Kp s s' ∧ Rep prog w (isOld s.heap) s'.heap v d) (fun _ _ => False) s

theorem isOld_mono {s s' : Shared} (k : Kp s s') {b : Addr} (h : isOld s.heap b) : isOld s'.heap b := some_keep h k.k
theorem not_old {h : Heap} {a : Addr} (e : h.get? a = none) : ¬ isOld h a := fun q => by unfold isOld at q; rw [e] at q; (first | obtain ⟨_, rfl⟩ := q.atom | exact (nsE q).elim | exact (snE q).elim | exact (ftE q).elim | cases q)

section
variable {Γ : Ctx}
theorem new_int {e : Expr} {i : Int} (h : Ev Γ e (.int i)) : EvNew Γ e (.int i) := .mk fun s C => (h.run s C).mono fun _ _ r => by (first | obtain ⟨_, rfl⟩ := r.atom | exact (nsE r).elim | exact (snE r).elim | exact (ftE r).elim | cases r); exact .int _ _
theorem EvND.new {KK : Type} [DecidableEq KK] {κ : KD KK} {e : Expr} {kvs : List (KK × Int)} (h : EvND Γ (κ.knd Γ.prog Γ.w) e kvs) : EvNew Γ e (κ.con kvs) := .mk fun s C => (h.run s C).mono fun _ _ r => by
  obtain ⟨a, us, rfl, hn, hm, hd, hk⟩ := r
  exact κ.rd _ _ _ _ _ _ _ (not_old hn) hm hd hk
theorem newS_nil {p : Pos} : EvsNew Γ p [] [] := .mk fun s _ => wpAny_items_nil ⟨Kp.refl s, .nil⟩
theorem newS_cons {p : Pos} {e : Expr} {r : List Expr} {d : D} {ds : List D} (h1 : EvNew Γ e d) (h2 : EvsNew Γ p r ds) (he : plainE e = true := by rfl) : EvsNew Γ p (e :: r) (d :: ds) := .mk fun s C =>
  wpAny_items_cons ((h1.run s C).then' fun v s₁ k₁ r₁ => (h2.run s₁ (C.go k₁)).then' fun vs s₂ k₂ r₂ => ⟨k₁.trans k₂, .cons (r₁.keep k₂.k) (r₂.less fun b q => isOld_mono k₁ q)⟩) (starEach_plain he)
theorem new_tuple {es : List Expr} {k : Nat} {p : Pos} {ds : List D} (h : EvsNew Γ p es ds) (hz : ds.length ≤ sizeLine) : EvNew Γ (.Tuple es k p) (.tuple ds) := .mk fun s C =>
  wpAny_Tuple ((h.run s C).then' fun vs s₁ k₁ r₁ => ⟨by rw [r₁.length]; exact hz, k₁.trans (Kp.push s₁ _),
    .tuple (not_old (none_back k₁ (get_size _ (Nat.le_refl _)))) (Heap.get?_push_size _ rfl) (r₁.keep fun _ _ e => Heap.get?_push_of_some _ e)⟩)
theorem new_list {es : List Expr} {p : Pos} {ds : List D} (h : EvsNew Γ p es ds) (hz : ds.length ≤ sizeLine) : EvNew Γ (.List es p) (.list ds) := .mk fun s C =>
  wpAny_List ((h.run s C).then' fun vs s₁ k₁ r₁ => ⟨by rw [r₁.length]; exact hz, k₁.trans (Kp.push s₁ _),
    .list (not_old (none_back k₁ (get_size _ (Nat.le_refl _)))) ⟨0, Heap.get?_push_size _ rfl⟩ (r₁.keep fun _ _ e => Heap.get?_push_of_some _ e)⟩)
theorem new_call {x : Str} {px p : Pos} {es : List Expr} {ds : List D} {d : D} {f : Value} (hf : Ev Γ (.Name x px) (.raw f)) (hc : Callable Γ.K f) (h : Evs Γ p es ds) (F : FnN Γ.K Γ.prog Γ.w Γ.n f ds d)
    (hp : List.all es plainE = true := by rfl) : EvNew Γ (.Call (.Name x px) es [] p) d := .mk fun s C => by
  refine wpAny_Call_Name_kw ((hf.run s C).then' fun v s₁ k₁ r₁ => ?_)
  (first | obtain ⟨_, rfl⟩ := r₁.atom | exact (nsE r₁).elim | exact (snE r₁).elim | exact (ftE r₁).elim | cases r₁)
  show wpAny _ _ (callWith p f [] (backTo p (starEach es Γ.env)) []) _ _ _
  exact spliced_args (C.go k₁) hc h (any_plain hp) fun vs s₂ k₂ r₂ => by
    have C₂ := (C.go k₁).go k₂
    exact wpAny_mono (F.run Γ.A Γ.base Γ.S s₂ vs C₂.room C₂.wd r₂) (fun _ _ q => ⟨(k₁.trans k₂).trans q.1, q.2.less fun b z => isOld_mono (k₁.trans k₂) z⟩) fun _ _ x => x
end
section
variable {K : Frag} {prog : Program} {w : World} {n : Nat}
theorem FnD.new {KK : Type} [DecidableEq KK] {κ : KD KK} {f : Value} {ds : List D} {out : List (KK × Int)} (h : FnD κ K prog w n f ds out) : FnN K prog w n f ds (κ.con out) := .mk fun A base S s vals hr hw r =>
  wpAny_mono (h.run A base S s vals hr hw r) (fun v s' q => ⟨q.1, by
    obtain ⟨a, us, rfl, hn, hm, hd, hk⟩ := q.2
    exact κ.rd _ _ _ _ _ _ _ (not_old hn) hm hd hk⟩) fun _ _ x => x
theorem fnN_of_body {fd : FuncData} {body : List Stmt} {ps : List Str} {a : Addr} (H : FnOk K a fd body ps) {ds : List D} {d : D} (hlen : ds.length = ps.length)
    (hx : ∀ A base S s₀ L s₁, Fm ⟨fun _ => False, [], noOwn, s₀⟩ (fnCtx K prog w A n base S fd L a (ps.zip ds)) [] noOwn s₁ → Ex (fnCtx K prog w A n base S fd L a (ps.zip ds)) (execs body (fnCtx K prog w A n base S fd L a (ps.zip ds)).env)
      (fun f s' => ∃ v, f = .ret v ∧ Kp s₀ s' ∧ Rep prog w (isOld s₀.heap) s'.heap v d) s₁) : FnN K prog w (n + 1) (.ref a) ds d := .mk fun A base S s vals hr hw r =>
  fn_enter H hr hw r hlen noOwn_ok trivial fun L s₁ F => hx A base S s L s₁ F
end
section
variable {L : Lev} {Γ : Ctx} {os : List Addr} {P : (Addr → Prop) → Heap → Prop} {s s' : Shared}
theorem x_retN {e : Expr} {pos : Pos} {rest : List Stmt} {d : D} {Q : Flow → Shared → Prop} (F : Fm L Γ os P s) (he : EvNew Γ e d) (k : ∀ v s', Fm L Γ os P s' → Rep Γ.prog Γ.w (isOld L.s₀.heap) s'.heap v d → Q (.ret v) s') :
    Ex Γ (execs (.Return (some e) pos :: rest) Γ.env) Q s :=
  .mk <| wpAny_execs_cons (wpAny_Return_some ((he.run s F.at_).then' fun v s₁ k₁ r₁ => k v s₁ (F.kp k₁) (r₁.less fun b q => F.base b q)))
end
-- part G7
section
variable {w : World} {prog : Program} {n : Nat} {KK : Type} [DecidableEq KK] (κ : KD KK)
noncomputable def stats (a b c d : Int) (e : D) : D := .tuple [.int a, .int b, .int c, .int d, e]
set_option maxHeartbeats 1000000 in
theorem fn_stats {a b c d a' b' c' d' : Int} {t s : List (KK × Int)} (hz : t.length + s.length ≤ 1000000) :
    FnN (Kf w) prog w (n + 2) (.ref 49) [stats a b c d (κ.con t), stats a' b' c' d' (κ.con s)] (stats (a' + a) (b' + b) (c' + c) (d' + d) (κ.con (addAll t s))) :=
  fnN_of_body ok49 rfl fun A base S s₀ L s₁ F => by
    refine x_unpack F (d := stats a' b' c' d' (κ.con s)) ((ev_name rfl).on F.at_) .t5 fun _ F => ?_
    refine x_unpack F (d := stats a b c d (κ.con t)) ((ev_name rfl).on F.at_) .t5 fun _ F => ?_
    refine x_retN F (new_tuple (newS_cons (new_int (ev_binop (ev_name rfl) (ev_name rfl) op_add)) (newS_cons (new_int (ev_binop (ev_name rfl) (ev_name rfl) op_add)) (newS_cons (new_int (ev_binop (ev_name rfl) (ev_name rfl) op_add)) (newS_cons (new_int (ev_binop (ev_name rfl) (ev_name rfl) op_add))
      (newS_cons (new_call (f := .ref 56) (ev_glob topOk rfl g56) ok56.callable (evs_cons (ev_name rfl) (evs_cons (ev_name rfl) evs_nil)) (fn_add_callers κ hz).new) newS_nil))))) (by show 5 ≤ sizeLine; decide)) fun v _ F r => ⟨v, rfl, F.done rfl rfl, r⟩
end
-- part PL23
section
variable {Γ : Ctx} {KK : Type} [DecidableEq KK]
end

section
variable {L : Lev} {Γ : Ctx} {os : List Addr} {P : (Addr → Prop) → Heap → Prop} {s s' : Shared}
/-- owned.clear(): a dict -/
theorem x_clear {KK : Type} [DecidableEq KK] (κ : KD KK) {o : Expr} {apos cpos pos : Pos} {rest : List Stmt} {a : Addr} {kvs : List (KK × Int)} {P' : (Addr → Prop) → Heap → Prop} {Q : Flow → Shared → Prop} (F : Fm L Γ os P s) (ha : a ∈ os) (hW : L.W a ∨ L.s₀.heap.get? a = none)
    (pok' : OwnOk P' os) (hP : ∀ S h, P S h → AccD Γ.prog Γ.w (κ.knd Γ.prog Γ.w) a kvs S h) (hP' : ∀ S h h', Heap.SameBut a h h' → S a → P S h → AccD Γ.prog Γ.w (κ.knd Γ.prog Γ.w) a [] S h' → P' S h')
    (ho : Tr Γ (eval o Γ.env) (fun v _ => v = .ref a) s) (hz : kvs.length ≤ sizeLine) (k : ∀ s', Fm L Γ os P' s' → Ex Γ (execs rest Γ.env) Q s')
    (hbase : attributeBase o "clear" Γ.env (eval o Γ.env) = eval o Γ.env := by rfl) (hline : (apos.endLine == cpos.line) = true := by rfl) (hi : interactive Γ.env = false := by rfl) :
    Ex Γ (execs (.Expr (.Call (.Attribute o "clear" apos) [] [] cpos) pos :: rest) Γ.env) Q s := by
  refine .mk <| wpAny_execs_cons (wpAny_Expr (wpAny_Call_method hbase rfl hline PySem.F.plainAttrs_dict PySem.F.slot_dict_clear PySem.F.type_dict_clear (ho.then' fun v s₁ k₁ r₁ => ?_)) hi rfl)
  subst r₁
  have F₁ := F.kp k₁
  obtain ⟨hS, hm, us, hd, hk⟩ := hP _ _ F₁.own
  refine ⟨hd.typeIs, fun b e => by (first | obtain ⟨_, rfl⟩ := e.atom | exact (nsE e).elim | exact (snE e).elim | exact (ftE e).elim | cases e); exact hd.mapOf.noDict _ rfl, ?_⟩
  refine Calls.callWith_builtin rfl (evalArgs_any rfl (Calls.spliced_nil ?_))
  show wpAny _ _ (call (.builtin "dict.clear") [.ref a]) _ _ s₁
  refine call_meetsIn PySem.F.slot_dict_clear hd.typeIs PySem.F.entry_dict_clear (PySem.F.args_dict_clear_1 _) (meets_dict_clear (κ.knd Γ.prog Γ.w) a) ⟨us, hd, by rw [hk.length]; exact hz, fun h' hd' hs' => ?_⟩
  exact (k _ (Fm.mut (tk := s₁.toks) F₁ ha hs' (by obtain ⟨o, _, _, e, _⟩ := hd'; rw [e]; rfl) hW pok' (hP' _ _ _ hs' hS F₁.own ⟨hS, hm, [], hd', .nil⟩))).run

theorem tr_view_old {as : List Addr} {l : List (Str × D)} {e : Expr} {d : D} (h : EvNew (Γ.view as l) e d) (C : (Γ.view as l).At s.heap) : Tr Γ (eval e Γ.env) (fun v h' => Rep Γ.prog Γ.w (isOld s.heap) h' v d) s := h.run s C
theorem tr_view_new {as : List Addr} {l : List (Str × D)} {e : Expr} {d : D} (h : EvNew (Γ.view as l) e d) (C : (Γ.view as l).At s.heap) (held : ∀ b, Γ.S b → (s.heap.get? b).isSome = true) : Tr Γ (eval e Γ.env) (fun v h => Γ.R h v d) s := by
  show Tr (Γ.view as l) (eval e (Γ.view as l).env) (fun v h => Γ.R h v d) s
  exact (h.run s C).mono fun v _ r => r.less fun b q => held b q

theorem look2 {x y z : Str} {d e f : D} (h : List.lookup z [(x, d), (y, e)] = some f) : (z = x ∧ f = d) ∨ (z = y ∧ f = e) := by
  rw [List.lookup_cons] at h
  cases q : (z == x) with
  | true => rw [q] at h; (first | obtain ⟨_, rfl⟩ := h.atom | exact (nsE h).elim | exact (snE h).elim | exact (ftE h).elim | cases h); exact .inl ⟨eq_of_beq q, rfl⟩
  | false =>
    rw [q] at h
    rw [List.lookup_cons] at h
    cases q' : (z == y) with
    | true => rw [q'] at h; (first | obtain ⟨_, rfl⟩ := h.atom | exact (nsE h).elim | exact (snE h).elim | exact (ftE h).elim | cases h); exact .inr ⟨eq_of_beq q', rfl⟩
    | false => rw [q'] at h; (first | obtain ⟨_, rfl⟩ := h.atom | exact (nsE h).elim | exact (snE h).elim | exact (ftE h).elim | cases h)
end
-- part PL24
/-- an object that stands as it is -/
noncomputable def StandsAt (a : Addr) (o : Obj) (S : Addr → Prop) (h : Heap) : Prop := S a ∧ h.get? a = some o
theorem standsAt_ok {a : Addr} {o : Obj} : OwnOk (StandsAt a o) [a] := ⟨fun S h h' p _ k => ⟨p.1, k a (.head _) _ p.2⟩, fun S S' h p _ q => ⟨q a (.head _), p.2⟩, fun S h p b hb => by rw [List.mem_singleton.mp hb]; exact p.1⟩
/-- data made of objects that h₀ had not -/
noncomputable def RepN (prog : Program) (w : World) (h₀ : Heap) (v : Value) (d : D) (S : Addr → Prop) (h : Heap) : Prop := Rep prog w (fun b => S b ∨ isOld h₀ b) h v d
theorem repN_ok {prog : Program} {w : World} {h₀ : Heap} {v : Value} {d : D} : OwnOk (RepN prog w h₀ v d) [] :=
  ⟨fun S h h' p e _ => p.ext (S := fun b => S b ∨ isOld h₀ b) fun b o hb q => e b o (fun z => hb (.inl z)) q, fun S S' h p x _ => p.avoid fun b q => q.elim (fun z => (x b z).elim (fun y => .inl (.inl y)) .inr) fun z => .inl (.inr z), fun _ _ _ _ m => nomatch m⟩

section
variable {L : Lev} {Γ : Ctx} {os : List Addr} {P : (Addr → Prop) → Heap → Prop} {s s' : Shared}
/-- name = new data, held as it is -/
theorem x_bindN {x : Str} {px pos : Pos} {value : Expr} {rest : List Stmt} {d : D} {Q : Flow → Shared → Prop} (F : Fm L Γ os P s) (he : Tr Γ (eval value Γ.env) (fun v h => Rep Γ.prog Γ.w (isOld s.heap) h v d) s)
    (k : ∀ v s', Fm L (Γ.set x (.raw v)) os (fun S h => RepN Γ.prog Γ.w L.s₀.heap v d S h ∧ P S h) s' → Ex (Γ.set x (.raw v)) (execs rest (Γ.set x (.raw v)).env) Q s')
    (ha : asg Γ x = true := by rfl) (hs : swapsWith value (some (.Name x px)) pos.line Γ.env = pure false := by rfl) : Ex Γ (execs (.Assign [.Name x px] value pos :: rest) Γ.env) Q s := by
  refine .mk <| wpAny_execs_cons (wpAny_Assign_Name (he.then' fun v s₁ k₁ r₁ => ?_) hs)
  have F₁ := F.kp k₁
  have rn : RepN Γ.prog Γ.w L.s₀.heap v d Γ.S s₁.heap := r₁.less fun b q => q.elim (fun z => F.at_.wd.held b z) fun z => F.base b z
  have F₂ : Fm L Γ os (fun S h => RepN Γ.prog Γ.w L.s₀.heap v d S h ∧ P S h) s₁ := { F₁ with own := ⟨rn, F₁.own⟩, pok := by have := repN_ok (prog := Γ.prog) (w := Γ.w) (h₀ := L.s₀.heap) (v := v) (d := d) |>.and F₁.pok; exact this }
  exact store_rule F₂.at_ (F₂.slot ha) (.raw v) fun s' w C => (k v s' (F₂.wr (bs := [(x, .raw v)]) w C)).run
end
-- part PL25
/-- a list that is gathered of new data alone -/
noncomputable def AccN (prog : Program) (w : World) (h₁ : Heap) (Da : Addr) (outs : List D) (S : Addr → Prop) (h : Heap) : Prop := S Da ∧ ∃ vs, h.PlainList Da vs.toArray ∧ RepAll prog w (fun b => S b ∨ isOld h₁ b) h vs outs
inductive NewN (Γ : Ctx) (h₀ : Heap) (ds : List D) (v : Value) (h : Heap) : Prop
  | mk (a : Addr) (vs : List Value) (e : v = .ref a) (n : h₀.get? a = none) (hl : h.PlainList a vs.toArray) (rs : RepAll Γ.prog Γ.w (fun b => (Γ.S b ∨ b = a) ∨ isOld h₀ b) h vs ds) : NewN Γ h₀ ds v h
section
variable {Γ : Ctx} {tg : List Str} {Da : Addr} {Sr : Addr → Prop} {hr : Heap} {s₁ s : Shared}
end
section
variable {L : Lev} {Γ : Ctx} {os : List Addr} {P : (Addr → Prop) → Heap → Prop} {s s' : Shared}
end
-- part PL26
/-- an iterator of numbers, which looks at itself alone -/
structure ItR (prog : Program) (w : World) (A : Around) (I : Addr) (wr : List Addr) (ds : List D) (St : Nat → Heap → Prop) : Prop where
  live : ∀ i h, St i h → ∀ b ∈ wr, (h.get? b).isSome = true
  frame : ∀ i h h', St i h → (∀ b ∈ wr, ∀ o, h.get? b = some o → h'.get? b = some o) → St i h'
  done : ∀ (s : Shared) (Q : Option Value → Shared → Prop) (E : Value → Shared → Prop), St ds.length s.heap →
    (∀ h' tk, (∀ b o, b ∉ wr → s.heap.get? b = some o → h'.get? b = some o) → Q none { s with heap := h', toks := tk }) → wpAny (model prog w) A (pyNext (.ref I)) Q E s
  step : ∀ i d target bs (s : Shared) (Q : Value → Shared → Prop), Bnd target d bs → ds[i]? = some d → St i s.heap →
    (∀ v h' tk, (∀ S' : Addr → Prop, Rep prog w S' h' v d) → St (i + 1) h' → (∀ b o, b ∉ wr → s.heap.get? b = some o → h'.get? b = some o) → Q v { s with heap := h', toks := tk }) →
    wpAny (model prog w) A (pyNext (.ref I)) (fun r s₁ => ∃ v, r = some v ∧ wpAny (model prog w) A (letOwnedTupleGo target (.ref I) v) (fun _ s₂ => Q v s₂) (fun _ _ => False) s₁) (fun _ _ => False) s
noncomputable def IterR (d : D) (ds : List D) : Prop := ∀ (prog : Program) (w : World) (A : Around) (S : Addr → Prop) (s : Shared) (v : Value) (Q : Value → Shared → Prop) (E : Value → Shared → Prop), A.handled = none → Rep prog w S s.heap v d →
  (∀ I wr St s₂, Kp s s₂ → ItR prog w A I wr ds St → St 0 s₂.heap → (∀ b ∈ wr, s.heap.get? b = none) → Q (.ref I) s₂) → wpAny (model prog w) A (pyIter v) Q E s
noncomputable def KeepZ (L : Lev) : Prop := ∀ S S' h h', L.Z S h → (∀ b, S b → S' b) → (∀ a ∈ L.zs, ∀ o, h.get? a = some o → h'.get? a = some o) → L.Z S' h'
structure ZitR (St : Nat → Heap → Prop) (wr : List Addr) (k : Nat) (S : Addr → Prop) (h : Heap) : Prop where
  st : St k h
  z2 : ∀ b ∈ wr, (h.get? b).isSome = true
  z3 : ∀ b ∈ wr, S b
theorem zitR_ok {prog : Program} {w : World} {A : Around} {I : Addr} {wr : List Addr} {ds : List D} {St : Nat → Heap → Prop} (T : ItR prog w A I wr ds St) (k : Nat) : OwnOk (ZitR St wr k) wr where
  ext := fun S h h' ⟨z1, z2, z3⟩ _ q => ⟨T.frame k h h' z1 q, fun b hb => by
    have := z2 b hb
    cases e : h.get? b with
    | none => rw [e] at this; (first | obtain ⟨_, rfl⟩ := this.atom | exact (nsE this).elim | exact (snE this).elim | exact (ftE this).elim | cases this)
    | some o => rw [q b hb o e]; rfl, z3⟩
  move := fun S S' h ⟨z1, z2, z3⟩ _ q => ⟨z1, z2, q⟩
  has := fun S h z => z.z3
theorem iterR_range {a b c : Int} (hs : Builtin.Range.small a b c = true) (hn : 0 ≤ Builtin.Range.rangeSize a b c) : IterR (.range a b c) (rangeD a c (Builtin.Range.rangeSize a b c).toNat) := by
  intro prog w A S s v Q E hh r k
  cases r with
  | range hS hr =>
    refine wpAny_pyIter_range hr hs (k s.heap.objs.size [s.heap.objs.size] (fun i h => IsRangeIter h s.heap.objs.size (a + (i : Nat) * c) (((Builtin.Range.rangeSize a b c).toNat : Int) - (i : Nat)) c) _ (Kp.push s _) ?_ ?_ ?_)
    · have W := Walks.range (prog := prog) (w := w) (A := A) hh s.heap.objs.size a c (Builtin.Range.rangeSize a b c).toNat
      refine ⟨fun i h st b hb => ?_, W.frame, fun s' Q' E' st k' => W.done s' Q' E' (by rw [rangeD_length] at st; exact st) k', fun i d target bs s' Q' hbnd hd st k' => ?_⟩
      · simp at hb; subst hb
        have st' : h.get? s.heap.objs.size = some _ := st
        rw [st']; rfl
      · have hi : i < (Builtin.Range.rangeSize a b c).toNat := by
          rcases Nat.lt_or_ge i (Builtin.Range.rangeSize a b c).toNat with q | q
          · exact q
          · rw [List.getElem?_eq_none (by rw [rangeD_length]; exact q)] at hd; (first | obtain ⟨_, rfl⟩ := hd.atom | exact (nsE hd).elim | exact (snE hd).elim | exact (ftE hd).elim | cases hd)
        refine W.item i s' _ _ hi st fun v h' tk hv st' hk => ?_
        obtain ⟨t, rfl⟩ := hv
        have hdd : d = .int (a + (i : Int) * c) := by simpa [rangeD, hi] using hd.symm
        refine ⟨_, rfl, ?_⟩
        rcases bnd_target hbnd with ⟨x, p, rfl⟩ | ⟨es, k, p, rfl⟩
        · exact wpAny_pure (k' _ h' tk (fun S' => by rw [hdd]; exact .int _ _) st' hk)
        · exact wpAny_pure (k' _ h' tk (fun S' => by rw [hdd]; exact .int _ _) st' hk)
    · show IsRangeIter _ _ _ _ _
      have : (((Builtin.Range.rangeSize a b c).toNat : Int) - ((0 : Nat) : Int)) = Builtin.Range.rangeSize a b c := by omega
      rw [this]
      have h0 : a + ((0 : Nat) : Int) * c = a := by simp
      rw [h0]
      exact Heap.get?_push_size _ rfl
    · intro b hb
      simp at hb; subst hb
      exact get_size _ (Nat.le_refl _)
section
variable {L : Lev} {Γ : Ctx} {os : List Addr} {P : (Addr → Prop) → Heap → Prop} {s s' : Shared}
/-- a loop over numbers, whose state is known up to a ghost -/
theorem x_forG {γ : Type} {target iter : Expr} {body rest : List Stmt} {pos : Pos} {d : D} {ds : List D} {Q : Flow → Shared → Prop} (vars : Nat → γ → List (Str × D)) (Pk : Nat → γ → (Addr → Prop) → Heap → Prop) (g₀ : γ) (F : Fm L Γ os (Pk 0 g₀) s) (pok : ∀ k g, OwnOk (Pk k g) os)
    (hi : Tr Γ (eval iter Γ.env) (fun v h => Γ.R h v d) s) (hit : IterR d ds) (hkz : KeepZ L) (h0 : Agree Γ (vars 0 g₀))
    (turn : ∀ k g d', ds[k]? = some d' → ∃ bs, Bnd target d' bs ∧ (bs.all fun b => asg Γ b.1) = true ∧ ∀ (L' : Lev) (wr : List Addr) (s' : Shared), KeepZ L' → L'.W = L.W → L'.s₀ = L.s₀ → Fm L' (((Γ.plus wr).only (vars k g)).setAll bs) os (Pk k g) s' →
      Ex (((Γ.plus wr).only (vars k g)).setAll bs) (execs body (((Γ.plus wr).only (vars k g)).setAll bs).env) (fun f s'' => ((f = .next ∨ f = .cont) ∧ ∃ g', Fm L' ((Γ.plus wr).only (vars (k + 1) g')) os (Pk (k + 1) g') s'') ∨ ((∃ v, f = .ret v) ∧ Q f s'')) s')
    (fin : ∀ g s', Fm L (Γ.only (vars ds.length g)) os (Pk ds.length g) s' → Ex (Γ.only (vars ds.length g)) (execs rest (Γ.only (vars ds.length g)).env) Q s')
    (hs : ∀ x, foldedSetIterable iter Γ.env x = pure x := by intro _; rfl) : Ex Γ (execs (.For target iter body [] pos :: rest) Γ.env) Q s := by
  refine .mk <| wpAny_execs_cons (wpAny_For (hi.then' fun xv s₁ k₁ r₁ => ?_) hs)
  have F₁ := F.kp k₁
  refine hit _ _ _ _ _ _ _ _ F.at_.room.1 r₁ fun I wr St s₂ k₂ T st hwr => ?_
  have F₂ := F₁.plus k₂ hwr (fun b m => T.live 0 _ st b m)
  have held : ∀ b, Γ.S b → (s₁.heap.get? b).isSome = true := F₁.at_.wd.held
  have hwS : ∀ b ∈ wr, ¬ Γ.S b := fun b m q => by have := held b q; rw [hwr b m] at this; (first | obtain ⟨_, rfl⟩ := this.atom | exact (nsE this).elim | exact (snE this).elim | exact (ftE this).elim | cases this)
  have hlw : Γ.env.locals ∉ wr := fun m => hwS _ m F.lS.1
  have hcw : ∀ x c, Γ.env.cells.lookup x = some c → c ∉ wr := fun x c e m => hwS _ m (F.cS x c e).2.1
  have hosS : ∀ a ∈ os, Γ.S a := F.pok.has _ _ F.own
  have hzsS : ∀ a ∈ L.zs, Γ.S a := F.zok.has _ _ F.rest
  have hw₀ : ∀ b ∈ wr, L.s₀.heap.get? b = none := fun b m => by
    cases q : L.s₀.heap.get? b with
    | none => rfl
    | some o => have := F₁.base b (by rw [q]; rfl); rw [hwr b m] at this; (first | obtain ⟨_, rfl⟩ := this.atom | exact (nsE this).elim | exact (snE this).elim | exact (ftE this).elim | cases this)
  have zok : ∀ k, OwnOk (fun S h => L.Z S h ∧ ZitR St wr k S h) (L.zs ++ wr) := fun k => F.zok.and (zitR_ok T k)
  let Lk : Nat → Lev := fun k => { L with zs := L.zs ++ wr, Z := fun S h => L.Z S h ∧ ZitR St wr k S h }
  have keepK : ∀ k, KeepZ (Lk k) := fun k S S' h h' p l q => ⟨hkz S S' h h' p.1 l fun a m => q a (List.mem_append_left _ m), T.frame k h h' p.2.1 fun b m => q b (List.mem_append_right _ m), fun b m => by
    have := p.2.z2 b m
    cases e : h.get? b with
    | none => rw [e] at this; (first | obtain ⟨_, rfl⟩ := this.atom | exact (nsE this).elim | exact (snE this).elim | exact (ftE this).elim | cases this)
    | some o => rw [q b (List.mem_append_right _ m) o e]; rfl, fun b m => l b (p.2.z3 b m)⟩
  have F₃ : Fm (Lk 0) ((Γ.plus wr).only (vars 0 g₀)) os (Pk 0 g₀) s₂ := by
    refine Fm.only (l := vars 0 g₀) (Γ := Γ.plus wr) (show Agree (Γ.plus wr) (vars 0 g₀) from ?_) ⟨F₂.same, F₂.ext, F₂.at_, F₂.ns, F₂.lS, F₂.cS, ⟨F₂.ol.1, fun m => (List.mem_append.mp m).elim F₂.ol.2 hlw⟩, fun x c e => ⟨(F₂.oc x c e).1, fun m => (List.mem_append.mp m).elim (F₂.oc x c e).2 (hcw x c e)⟩,
      F₂.own, ⟨F₂.rest, st, fun b m => T.live 0 _ st b m, fun b m => .inr m⟩, fun a m q => (List.mem_append.mp q).elim (F.oz a m) fun z => hwS a z (hosS a m), zok 0, F₂.pok, F₂.base⟩
    · clear turn fin
      have agr : ∀ l, Agree Γ l → Agree (Γ.plus wr) l := fun l => by
        induction l with
        | nil => exact fun _ => trivial
        | cons p l ih => exact fun q => ⟨q.1, ih q.2⟩
      exact agr _ h0
  refine codeAny_forLoop_any (fun n s => ∃ k g, k ≤ ds.length ∧ n = ds.length - k ∧ Fm (Lk k) ((Γ.plus wr).only (vars k g)) os (Pk k g) s) ?_ _ ⟨0, g₀, Nat.zero_le _, rfl, F₃⟩
  rintro n s ⟨k, g, hk, rfl, c⟩
  obtain ⟨zL, st', z2, z4⟩ := c.rest
  have moved : ∀ (h' : Heap) (tk : Nat), (∀ b o, b ∉ wr → s.heap.get? b = some o → h'.get? b = some o) → (∀ b ∈ wr, (h'.get? b).isSome = true) → ∀ (k' : Nat), St k' h' →
      Fm (Lk k') ((Γ.plus wr).only (vars k g)) os (Pk k g) { s with heap := h', toks := tk } := fun h' tk he hv k' hst' => by
    have hx : Ext (Γ.plus wr).S s.heap h' := fun b o hb e => he b o (fun m => hb (.inr m)) e
    have hnw : ∀ a, Γ.S a → a ∉ wr := fun a q m => hwS a m q
    refine ⟨⟨c.same.1, c.same.2⟩, fun b o hb e => he b o (fun m => by rw [show (Lk k').s₀ = L.s₀ from rfl, hw₀ b m] at e; (first | obtain ⟨_, rfl⟩ := e.atom | exact (nsE e).elim | exact (snE e).elim | exact (ftE e).elim | cases e)) (c.ext b o hb e), At.wr (wr := wr) c.at_ he (fun b m => .inr m) hv hlw hcw,
      let ⟨m, q⟩ := c.ns; ⟨m, q.at' fun o e => he _ o hlw e⟩, c.lS, fun x c' e => ?_, c.ol, c.oc, ?_, ⟨?_, hst', hv, z4⟩, c.oz, zok k', c.pok, fun b e => ?_⟩
    · obtain ⟨a, b, d', v, o, ho, hd⟩ := c.cS x c' e
      exact ⟨a, b, d', v, o, he _ _ (hcw x c' e) ho, hd⟩
    · exact c.pok.ext _ _ _ c.own hx fun a m o e => he a o (hnw a (hosS a m)) e
    · exact F.zok.ext _ _ _ zL hx fun a m o e => he a o (hnw a (hzsS a m)) e
    · have := c.base b e
      cases q : s.heap.get? b with
      | none => rw [q] at this; (first | obtain ⟨_, rfl⟩ := this.atom | exact (nsE this).elim | exact (snE this).elim | exact (ftE this).elim | cases this)
      | some o =>
        have nb : b ∉ wr := fun m => by
          have e' : (L.s₀.heap.get? b).isSome = true := e
          rw [hw₀ b m] at e'; (first | obtain ⟨_, rfl⟩ := e'.atom | exact (nsE e').elim | exact (snE e').elim | exact (ftE e').elim | cases e')
        show (h'.get? b).isSome = true
        rw [he b o nb q]; rfl
  rcases Nat.lt_or_ge k ds.length with hlt | hge
  · have hd : ds[k]? = some ds[k] := List.getElem?_eq_getElem hlt
    obtain ⟨bs, hb, hba, hbody⟩ := turn k g _ hd
    refine wpAny_mono (T.step k _ target bs s (fun v s' => wpAny (model Γ.prog Γ.w) Γ.A (assign target Γ.env v) (fun _ s₂ => wpAny (model Γ.prog Γ.w) Γ.A (execs body Γ.env) (fun f s₃ => ((f = .next ∨ f = .cont) ∧ ∃ g', Fm (Lk (k + 1)) ((Γ.plus wr).only (vars (k + 1) g')) os (Pk (k + 1) g') s₃) ∨ ((∃ v, f = .ret v) ∧ Q f s₃)) (fun _ _ => False) s₂) (fun _ _ => False) s')
      hb hd st' fun v h' tk hv stn he => ?_) (fun r s₁' h₁' => ?_) fun _ _ x => x.elim
    · have live : ∀ b ∈ wr, (h'.get? b).isSome = true := fun b m => T.live _ _ stn b m
      have c' := moved h' tk he live (k + 1) stn
      have rv := hv (Γ.plus wr).S
      refine assign_rule (Γ := (Γ.plus wr).only (vars k g)) (prog := Γ.prog) (w := Γ.w) F.at_.room.1 c'.at_ hb (fun y hy => c'.slot (bnd_list_ok (Γ := (Γ.plus wr).only (vars k g)) hba y hy)) rv fun s₂ W C₂ => ?_
      exact (ex_setAll (Γ := (Γ.plus wr).only (vars k g)) (hbody (Lk (k + 1)) wr s₂ (keepK (k + 1)) rfl rfl (c'.wr W C₂))).run
    · obtain ⟨v, rfl, h₁'⟩ := h₁'
      refine wpAny_mono h₁' (fun _ s₂ h₂ => wpAny_mono h₂ (fun _ s₃ h₃ => wpAny_mono h₃ (fun f s₄ h₄ => ?_) fun _ _ x => x.elim) fun _ _ x => x.elim) fun _ _ x => x.elim
      rcases h₄ with ⟨rfl | rfl, g', h₄⟩ | ⟨⟨v, rfl⟩, h₄⟩
      · exact ⟨ds.length - (k + 1), by omega, k + 1, g', hlt, rfl, h₄⟩
      · exact ⟨ds.length - (k + 1), by omega, k + 1, g', hlt, rfl, h₄⟩
      · exact h₄
  · have hk' : k = ds.length := by omega
    subst hk'
    refine T.done _ _ _ st' fun h' tk he => wpAny_execs_nil ?_
    refine (fin g _ ?_).run
    have hnw : ∀ a, Γ.S a → a ∉ wr := fun a q m => hwS a m q
    have hx : Ext (Γ.plus wr).S s.heap h' := fun b o hb e => he b o (fun m => hb (.inr m)) e
    have live : ∀ a, a ∉ wr → (s.heap.get? a).isSome = true → (h'.get? a).isSome = true := fun a m q => by
      cases e : s.heap.get? a with
      | none => rw [e] at q; (first | obtain ⟨_, rfl⟩ := q.atom | exact (nsE q).elim | exact (snE q).elim | exact (ftE q).elim | cases q)
      | some o => rw [he a o m e]; rfl
    refine ⟨⟨c.same.1, c.same.2⟩, fun b o hb e => he b o (fun m => by rw [hw₀ b m] at e; (first | obtain ⟨_, rfl⟩ := e.atom | exact (nsE e).elim | exact (snE e).elim | exact (ftE e).elim | cases e)) (c.ext b o hb e), ?_,
      let ⟨m, q⟩ := c.ns; ⟨m, q.at' fun o e => he _ o hlw e⟩, F.lS, fun x c' e => ?_, F.ol, F.oc, ?_, ?_, F.oz, F.zok, c.pok, fun b e => ?_⟩
    · have C := c.at_
      refine ⟨⟨C.wd.gl, fun b o e => he b o (fun m => by have this : Γ.base.get? b = none := C.wd.off b (.inr m); have e' : Γ.base.get? b = some o := e; rw [this] at e'; (first | obtain ⟨_, rfl⟩ := e'.atom | exact (nsE e').elim | exact (snE e').elim | exact (ftE e').elim | cases e')) (C.wd.up b o e), fun a q => C.wd.off a (.inl q), fun a q => live a (hnw a q) (C.wd.held a (.inl q))⟩,
        C.kind, C.globals, C.builtins, C.room, C.sep, fun x c' e => live c' (hcw x c' e) (C.cin x c' e), fun x d e => ?_⟩
      obtain ⟨v, hv, r⟩ := C.vars x d e
      refine ⟨v, ?_, (r.ext hx).less fun b q => .inl q⟩
      rcases hv with ⟨a, m, n, em⟩ | ⟨a, c', l, o, ho, hd⟩
      · exact .inl ⟨a, m, n.at' fun o q => he _ o hlw q, em⟩
      · exact .inr ⟨a, c', l, o, he _ _ (hcw x c' l) ho, hd⟩
    · obtain ⟨a, b, d', v, o, ho, hd⟩ := c.cS x c' e
      exact ⟨a, (F.cS x c' e).2.1, d', v, o, he _ _ (hcw x c' e) ho, hd⟩
    · exact c.pok.move _ _ _ (c.pok.ext _ _ _ c.own hx fun a m o e => he a o (hnw a (hosS a m)) e) (fun b q => .inl (.inl q)) hosS
    · exact F.zok.move _ _ _ (F.zok.ext _ _ _ zL hx fun a m o e => he a o (hnw a (hzsS a m)) e) (fun b q => .inl (.inl q)) hzsS
    · exact live b (fun m => by rw [hw₀ b m] at e; (first | obtain ⟨_, rfl⟩ := e.atom | exact (nsE e).elim | exact (snE e).elim | exact (ftE e).elim | cases e)) (c.base b e)
end
-- part PL27
/-- a new object's attribute is stored -/
theorem osa_own {K : Frag} {prog : Program} {w : World} {A : Around} {C x dx : Addr} {name : Str} {tk : Tok} {v : Value} {s : Shared} {R : Result → Shared → Prop} (X : K.In s.heap) (hx : s.heap.get? x = some (instObj C dx)) (hd : s.heap.get? dx = some emptyDict)
    (hp : plainOver K C = true) (ht : takerIn K C name = some none) (hh : (clsIn K C).any (·.hasDict) = true)
    (h : ∀ h' hs n, Heap.SameBut dx s.heap h' → h'.get? dx = some { cls := .type "dict", data := .dict #[⟨hs, .str name s.toks, v⟩] n } → R (.ok (.ret .none)) { s with heap := h', toks := s.toks + 1 }) :
    codeAny (model prog w) A (.call (.builtin "object.__setattr__") ⟨[.ref x, .str name tk, v], []⟩) R s := by
  have I : InstAt s.heap x (instObj C dx) C (some emptyDict) := ⟨hx, rfl, rfl, hd⟩
  refine osa_open X I hp ht fun b => ?_
  obtain ⟨cd, hc, hd'⟩ := any_some hh
  refine wpAny_bind (wpAny_pure (wpAny_bind (wpAny_bind (wpAny_loadPart hx (wpAny_bind ((looks_clsIn X hc).here ?_))))))
  rw [hd']
  refine wpAny_pure (a := some dx) (wpAny_bind (wpAny_pure (wpAny_bind ?_)))
  unfold nsSet
  refine wpAny_bind (wpAny_bind (wpAny_askSetting (wpAny_pure (wpAny_bind (wpAny_mkText (wpAny_bind (wpAny_loadPart hd ?_)))))))
  dsimp only
  rw [aRefKeyMayBeTheName_at, show (!(#[] : Array DictEntry).any (·.key.isStr name) && (#[] : Array DictEntry).any (·.refKey)) = false by simp]
  have e : ∀ (hs : Int), Obj.putName name hs (.str name s.toks) v emptyDict = { cls := .type "dict", data := .dict #[⟨hs, .str name s.toks, v⟩] 1 } := fun hs => rfl
  refine wpAny_updatePart hd ?_
  have D' := fun hs => Heap.get?_update_self (Obj.putName name hs (.str name s.toks) v) hd (by rw [e]; rfl)
  refine wpAny_bind (wpAny_lookBehind (D' _) (by rw [e]; exact pastItsLine_dict (by show 1 ≤ sizeLine + 1; decide)) ?_)
  exact wpAny_pure (h _ _ 1 (Heap.SameBut.update ..) (by rw [D', e]))

/-- what is to be seen of a class, by computation -/
structure ClsOk (K : Frag) (C fI : Addr) (nm : Str) : Prop where
  makes : makesIn K C = true
  init : findIn K (.ref C) "__init__" = some (some (.ref fI))
  fn : typeIn K (.ref fI) = some (.type "function")
  set_ : findIn K (.ref C) "__setattr__" = some (some (.builtin "object.__setattr__"))
  over : plainOver K C = true
  taker : takerIn K C nm = some none
  dict : (clsIn K C).any (·.hasDict) = true
  ga : findIn K (.ref C) "__getattribute__" = some (some (.builtin "object.__getattribute__"))
  gt : findIn K (.ref C) "__getattr__" = some none
  obj : ∀ hs t v n, findObj K C (some { cls := .type "dict", data := .dict #[⟨hs, .str nm t, v⟩] n }) nm = some (.value v)

theorem RoomA.under_make {n : Nat} {A : Around} {C : Addr} {vals : List Value} (r : RoomA (n + 1) A) : RoomA n (A.under (.builtin "type.__call__" ⟨.ref C :: vals, []⟩)) := by
  refine ⟨r.1, ?_, ?_⟩
  · have := r.2.1
    show A.depth + 1 + n < 900
    omega
  · have := r.2.2
    have e : (A.under (.builtin "type.__call__" ⟨.ref C :: vals, []⟩)).units = A.units + (Code.builtin "type.__call__" ⟨.ref C :: vals, []⟩).cUnits := rfl
    have e2 : (Code.builtin "type.__call__" ⟨.ref C :: vals, []⟩).cUnits ≤ 4 := by show Code.cUnits _ ≤ 4; show 1 + 3 * (Code.builtin "type.__call__" ⟨.ref C :: vals, []⟩).frames ≤ 4; have : (Code.builtin "type.__call__" ⟨.ref C :: vals, []⟩).frames ≤ 1 := (by rw [show (Code.builtin "type.__call__" ⟨.ref C :: vals, []⟩).frames = 0 from by with_unfolding_all rfl]; exact Nat.zero_le _); omega
    omega

section
variable {K : Frag} {prog : Program} {w : World} {n : Nat}
theorem fn_make {C fI : Addr} {nm p0 p1 : Str} {fd : FuncData} {q1 q2 q3 q4 : Pos} {ds : List D} (Y : ClsOk K C fI nm) (H : FnOk K fI fd [.Assign [.Attribute (.Name p0 q1) nm q2] (.Name p1 q3) q4] [p0, p1])
    (hs : swapsWith (.Name p1 q3) (some (.Attribute (.Name p0 q1) nm q2)) q4.line = fun _ => pure false) (h01 : (p1 == p0) = false) (hd0 : (p0 == ("__debug__" : Str)) = false) (hd1 : (p1 == ("__debug__" : Str)) = false) :
    Fn K prog w (n + 2) (.ref C) [.list ds] (.inst C nm (.list ds)) := .mk fun A base S s vals hr hw r => by
  obtain ⟨v, rfl, r₁⟩ := r.one
  obtain ⟨l, vs, rfl, hSl, hl, rs⟩ := r₁.list_inv
  have X := hw.glh.inn
  have hgl := hw.glh
  generalize hx0 : s.heap.objs.size = dx at *
  refine wpAny_call ?_
  obtain ⟨h, g, d, t, os⟩ := s
  dsimp only at hx0 X
  refine make_core (makes_of X Y.makes) (looks_findIn X Y.init) (fun self => bind_fn X self Y.fn) (.inl rfl) ?_
  rw [hx0]
  have hdn : h.get? dx = none := get_size _ (by rw [hx0]; exact Nat.le_refl _)
  have hxn : h.get? (dx + 1) = none := get_size _ (by rw [hx0]; exact Nat.le_succ _)
  have k2 : ∀ b o, h.get? b = some o → ((h.push emptyDict).push (instObj C dx)).get? b = some o := fun b o e => Heap.get?_push_of_some _ (Heap.get?_push_of_some _ e)
  have od : ((h.push emptyDict).push (instObj C dx)).get? dx = some emptyDict := Heap.get?_push_of_some _ (by rw [← hx0]; exact Heap.get?_push_size _ rfl)
  have ox : ((h.push emptyDict).push (instObj C dx)).get? (dx + 1) = some (instObj C dx) := by
    have := Heap.get?_push_size (h.push emptyDict) (o := instObj C dx) rfl
    rwa [Heap.size_push, hx0] at this
  let S' : Addr → Prop := fun b => S b ∨ b = dx + 1 ∨ b = dx
  have hw' : Wd K base S' ((h.push emptyDict).push (instObj C dx)) := ⟨hw.gl, fun b o e => k2 b o (hw.up b o e), fun b q => by
    rcases q with q | rfl | rfl
    · exact hw.off b q
    · exact hw.fresh hxn
    · exact hw.fresh hdn, fun b q => by
    rcases q with q | rfl | rfl
    · exact some_keep (hw.held b q) k2
    · rw [ox]; rfl
    · rw [od]; rfl⟩
  refine fn_enterC H (n := n) (S := S') (ds := [.raw (.ref (dx + 1)), .raw (.ref l)]) (RoomA.under_make hr) hw' (.cons (.raw _) (.cons (.raw _) .nil)) rfl (W := fun b => b = dx) (os := [dx + 1, dx]) (P := fun S h => StandsAt (dx + 1) (instObj C dx) S h ∧ StandsAt dx emptyDict S h)
    (standsAt_ok.and standsAt_ok) ⟨⟨.inr (.inl rfl), ox⟩, ⟨.inr (.inr rfl), od⟩⟩ fun Lc s₁ F => ?_
  refine .mk (wpAny_execs_cons (plainObj_wpAny_Assign_Attribute (((ev_name (d := .raw (.ref l)) (by show List.lookup p1 [(p0, _), (p1, _)] = _; rw [List.lookup_cons, h01, List.lookup_cons, beq_self_eq_true]) hd1).run s₁ F.at_).then' fun v1 s₂ k₂ r₂ =>
    ((ev_name (d := .raw (.ref (dx + 1))) (by show List.lookup p0 [(p0, _), (p1, _)] = _; rw [List.lookup_cons, beq_self_eq_true]) hd0).run s₂ (F.kp k₂).at_).then' fun v2 s₃ k₃ r₃ => ?_) (by rw [hs])))
  (first | obtain ⟨_, rfl⟩ := r₂.atom | exact (nsE r₂).elim | exact (snE r₂).elim | exact (ftE r₂).elim | cases r₂); (first | obtain ⟨_, rfl⟩ := r₃.atom | exact (nsE r₃).elim | exact (snE r₃).elim | exact (ftE r₃).elim | cases r₃)
  have F₃ := (F.kp k₂).kp k₃
  obtain ⟨⟨_, o1⟩, ⟨_, o2⟩⟩ := F₃.own
  have X3 := F₃.at_.wd.glh.inn
  refine set_plain (od := some emptyDict) X3 ⟨o1, rfl, rfl, o2⟩ Y.set_ (osa_own (s := { s₃ with toks := s₃.toks + 1 }) X3 o1 o2 Y.over Y.taker Y.dict fun h' hs n hsb hdx => wpAny_execs_nil ?_)
  refine ⟨rfl, ?_⟩
  have nx : dx + 1 ≠ dx := Nat.succ_ne_self dx
  have keep : ∀ b o, h.get? b = some o → h'.get? b = some o := fun b o e => hsb.extBut b o (fun q => by rw [q, hdn] at e; (first | obtain ⟨_, rfl⟩ := e.atom | exact (nsE e).elim | exact (snE e).elim | exact (ftE e).elim | cases e)) (F₃.ext b o (fun q => by
    have q' : b = dx := q
    rw [q', hdn] at e; (first | obtain ⟨_, rfl⟩ := e.atom | exact (nsE e).elim | exact (snE e).elim | exact (ftE e).elim | cases e)) (k2 b o e))
  refine ⟨?_, ?_⟩
  · exact ⟨⟨F₃.same.1, F₃.same.2⟩, keep⟩
  · exact .inst (not_held hw.held hxn) (not_held hw.held hdn) (hsb.extBut _ _ nx o1) hdx (r₁.keep keep)
end

theorem Rep.inst_inv {prog : Program} {w : World} {S : Addr → Prop} {h : Heap} {v : Value} {C : Addr} {nm : Str} {d : D} (r : Rep prog w S h v (.inst C nm d)) : ∃ x dx hs t u n, v = .ref x ∧ ¬ S x ∧ ¬ S dx ∧ h.get? x = some { cls := .ref C, dict := some dx, data := .plain } ∧ h.get? dx = some { cls := .type "dict", data := .dict #[⟨hs, .str nm t, u⟩] n } ∧ Rep prog w S h u d := by
  cases r with
  | inst a b c e f => exact ⟨_, _, _, _, _, _, rfl, a, b, c, e, f⟩
section
variable {Γ : Ctx}
theorem ev_methI {o : Expr} {name nm : Str} {apos pos : Pos} {args : List Expr} {C fI f : Addr} {d0 d : D} {ds : List D} {pl : Sem Bool} (Y : ClsOk Γ.K C fI nm) (ho : Ev Γ o (.inst C nm d0)) (ha : Evs Γ pos args ds) (hf : findIn Γ.K (.ref C) name = some (some (.ref f))) (ht : typeIn Γ.K (.ref f) = some (.type "function"))
    (hsh : ∀ hs t v n, shadowIn (some { cls := .type "dict", data := .dict #[⟨hs, .str nm t, v⟩] n }) name = some false) (hc : Callable Γ.K (.ref f)) (F : Fn Γ.K Γ.prog Γ.w Γ.n (.ref f) (.inst C nm d0 :: ds) d)
    (he : eval (.Call (.Attribute o name apos) args [] pos) Γ.env = (do
      let ov ← eval o Γ.env
      standAt apos.atName
      let (f, first) ← holding [ov] (getMethod ov name pl)
      callWith pos f first (backTo pos (starEach args Γ.env)) (backToKw pos (keywordEach [] Γ.env))) := by rfl) (hp : List.all args plainE = true := by rfl) : Ev Γ (.Call (.Attribute o name apos) args [] pos) d := .mk fun s C => by
  refine methodCall_KW ((ho.run s C).then' fun v s₁ k₁ r₁ => ?_) he
  obtain ⟨x, dx, hs, t, u, n, rfl, h1, h2, o1, o2, ru⟩ := r₁.inst_inv
  have X1 := (C.go k₁).wd.glh.inn
  refine method_fn X1 ⟨o1, rfl, rfl, o2⟩ Y.ga Y.gt hf ht (hsh _ _ _ _) ?_
  refine spliced_args (first := [.ref x]) (C.go k₁) hc ha (any_plain hp) fun vs s₂ k₂ r₂ => ?_
  have C₂ := (C.go k₁).go k₂
  exact wpAny_mono (F.run Γ.A Γ.base Γ.S s₂ (.ref x :: vs) C₂.room C₂.wd (.cons (r₁.keep k₂.k) r₂)) (fun _ _ q => ⟨(k₁.trans k₂).trans q.1, q.2⟩) fun _ _ x => x
end
-- part PL28
section
variable {L : Lev} {Γ : Ctx} {os : List Addr} {P : (Addr → Prop) → Heap → Prop} {s s' : Shared}
/-- a comprehension's dict, stored and owned from now on -/
theorem x_own_usedD {KK : Type} [DecidableEq KK] (κ : KD KK) {x : Str} {px pos : Pos} {value : Expr} {rest : List Stmt} {kvs : List (KK × Int)} {Q : Flow → Shared → Prop} (F : Fm L Γ os P s) (he : EvU Γ value fun _ h₀ v h => NewD Γ (κ.knd Γ.prog Γ.w) h₀ kvs v h)
    (k : ∀ a s', L.s₀.heap.get? a = none → a ∉ os → ¬ Γ.S a → Fm L ((Γ.plus [a]).set x (.raw (.ref a))) (a :: os) (fun S h => AccD Γ.prog Γ.w (κ.knd Γ.prog Γ.w) a kvs S h ∧ P S h) s' → Ex ((Γ.plus [a]).set x (.raw (.ref a))) (execs rest ((Γ.plus [a]).set x (.raw (.ref a))).env) Q s')
    (ha : asg Γ x = true := by rfl) (hs : swapsWith value (some (.Name x px)) pos.line Γ.env = pure true := by rfl) : Ex Γ (execs (.Assign [.Name x px] value pos :: rest) Γ.env) Q s := by
  refine .mk <| wpAny_execs_cons ?_
  rw [exec_Assign_Name_used _ _ _ _ hs]
  refine wpAny_bind (wpAny_standAt (wpAny_bind (wpAny_mono (he.run s (assign (.Name x px) Γ.env) (fun s' => Wx Γ (execs rest Γ.env) Q s') F.at_ ?_) (fun _ s' q => wpAny_pure q) fun _ _ x => x)))
  intro s' v C k₁ hC hns hv hva
  obtain ⟨f1, f2, f3, f4, f5, f6⟩ := F.fresh hC
  obtain ⟨m, hm⟩ := hns
  have hCl : (s'.heap.get? C).isSome = true := let ⟨o, _, _, e, _⟩ := hm; by rw [e]; rfl
  obtain ⟨a, us, rfl, hn, hmod, hd, hk⟩ := hv
  obtain ⟨a', e', hne, _⟩ := hva
  (first | obtain ⟨_, rfl⟩ := e'.atom | exact (nsE e').elim | exact (snE e').elim | exact (ftE e').elim | cases e')
  obtain ⟨g1, g2, g3, g4, g5, g6⟩ := F.fresh hn
  have hal : (s'.heap.get? a).isSome = true := let ⟨o, _, _, e, _⟩ := hd; by rw [e]; rfl
  have F₁ := F.plus k₁ (wr := [a]) (fun b m => by rw [List.mem_singleton.mp m]; exact hn) (fun b m => by rw [List.mem_singleton.mp m]; exact hal)
  have F₁' := F.plus k₁ (wr := [a, C]) (fun b m => by rcases List.mem_cons.mp m with e | e; exact e ▸ hn; rw [List.mem_singleton.mp e]; exact hC) (fun b m => by rcases List.mem_cons.mp m with e | e; exact e ▸ hal; rw [List.mem_singleton.mp e]; exact hCl)
  have hSS : ∀ b, ((Γ.plus [a]).plus [C]).S b ↔ (Γ.plus [a, C]).S b := fun b => by
    show (Γ.S b ∨ b ∈ [a]) ∨ b ∈ [C] ↔ Γ.S b ∨ b ∈ [a, C]
    simp [or_assoc]
  have acc : AccD Γ.prog Γ.w (κ.knd Γ.prog Γ.w) a kvs ((Γ.plus [a]).plus [C]).S s'.heap := ⟨.inl (.inr (.head _)), hmod, us, hd, hk⟩
  have atC : ((Γ.plus [a]).plus [C]).At s'.heap := by
    have X := F₁'.at_
    refine ⟨X.wd.less fun b q => (hSS b).mp q, X.kind, X.globals, X.builtins, X.room, X.sep, X.cin, fun y d e => ?_⟩
    obtain ⟨v, hv, r⟩ := X.vars y d e
    exact ⟨v, hv, r.less fun b q => (hSS b).mp q⟩
  have F₂ : Fm L ((Γ.plus [a]).plus [C]) (a :: os) (fun S h => AccD Γ.prog Γ.w (κ.knd Γ.prog Γ.w) a kvs S h ∧ P S h) s' := by
    refine ⟨F₁'.same, F₁'.ext, atC, F₁'.ns, ⟨.inl (.inl F.lS.1), F.lS.2⟩, fun x c e => let ⟨p, q, r⟩ := F₁'.cS x c e; ⟨p, .inl (.inl (F.cS x c e).2.1), r⟩, ⟨fun m => (List.mem_cons.mp m).elim g1 F.ol.1, F.ol.2⟩, fun x c e => ⟨fun m => (List.mem_cons.mp m).elim (g2 x c e) (F.oc x c e).1, (F.oc x c e).2⟩,
      ⟨acc, ?_⟩, ?_, fun b m => (List.mem_cons.mp m).elim (fun e => e ▸ g4) (F.oz b), F.zok, accD_ok.own.and F.pok, F₁'.base⟩
    · exact F.pok.move _ _ _ F₁'.own (fun b q => .inl ((hSS b).mp q)) fun b m => .inl (.inl (F.pok.has _ _ F.own b m))
    · exact F.zok.move _ _ _ F₁'.rest (fun b q => .inl ((hSS b).mp q)) fun b m => .inl (.inl (F.zok.has _ _ F.rest b m))
  refine wpAny_assign_Name (store_rule (Γ := (Γ.plus [a]).plus [C]) F₂.at_ (F₂.slot (show asg ((Γ.plus [a]).plus [C]) x = true from ha)) (.raw (.ref a)) fun s'' w At' => ?_)
  have F₃ := F₂.wr (bs := [(x, .raw (.ref a))]) w At'
  have hm' : s''.heap.Ns C m := hm.at' fun o e => w.off C o (Ne.symm f1) (fun y _ q => f2 y C q rfl) e
  exact ⟨m, hm', fun h' hs' => Ex.run (Γ := (Γ.plus [a]).set x (.raw (.ref a))) (k a _ g5 g3 g6 (Fm.sameBut (Γ := (Γ.plus [a]).set x (.raw (.ref a))) F₃ hs' f1 f2 (fun m => (List.mem_cons.mp m).elim (fun e => hne e.symm) f3) f4 f5 fun q => q.elim f6 fun m => hne (List.mem_singleton.mp m).symm))⟩

theorem ev_list0 {p : Pos} : EvNL Γ (.List [] p) [] := .mk fun s C =>
  wpAny_List (wpAny_items_nil ⟨by show 0 ≤ sizeLine; omega, Kp.push s _, s.heap.objs.size, [], rfl, get_size _ (Nat.le_refl _), ⟨0, Heap.get?_push_size _ rfl⟩, .nil⟩)

end
-- part PS1
/-- places in rising order -/
noncomputable def Rise (xs : Array Nat) : Prop := xs.toList.Pairwise (· < ·)
theorem Rise.lt {xs : Array Nat} (h : Rise xs) {i j d e : Nat} (hij : i < j) (hj : j < xs.size) : xs.getD i d < xs.getD j e := by
  have hi : i < xs.size := Nat.lt_trans hij hj
  have := List.pairwise_iff_getElem.mp h i j (by simpa using hi) (by simpa using hj) hij
  simp only [Array.getElem_toList] at this
  simp only [Array.getD, hi, hj, dif_pos]
  exact this
theorem getD_eq {xs : Array Nat} {i d e : Nat} (hi : i < xs.size) : xs.getD i d = xs.getD i e := by simp [Array.getD, hi]

/-- where a place would go -/
structure Below (xs : Array Nat) (j r : Nat) : Prop where
  le : r ≤ xs.size
  lo : ∀ i, i < r → xs.getD i 0 < j
  hi : ∀ i, r ≤ i → i < xs.size → j ≤ xs.getD i 0
theorem below_go {xs : Array Nat} (h : Rise xs) (j : Nat) : ∀ (fuel lo hi : Nat), lo ≤ hi → hi ≤ xs.size → hi - lo ≤ fuel → (∀ i, i < lo → xs.getD i 0 < j) → (∀ i, hi ≤ i → i < xs.size → j ≤ xs.getD i 0) → Below xs j (SetTable.below.go xs j fuel lo hi)
  | 0, lo, hi, h1, h2, h3, h4, h5 => by
    have : lo = hi := by omega
    subst this
    exact ⟨h2, h4, h5⟩
  | fuel + 1, lo, hi, h1, h2, h3, h4, h5 => by
    unfold SetTable.below.go
    by_cases hl : lo < hi
    · rw [if_pos hl]
      have hm : (lo + hi) / 2 < xs.size := by omega
      dsimp only
      rw [getD_eq (e := 0) hm]
      by_cases hc : xs.getD ((lo + hi) / 2) 0 < j
      · rw [if_pos hc]
        refine below_go h j fuel _ _ (by omega) h2 (by omega) (fun i hi' => ?_) h5
        rcases Nat.lt_or_ge i ((lo + hi) / 2) with q | q
        · exact Nat.lt_trans (h.lt q hm) hc
        · have : i = (lo + hi) / 2 := by omega
          rw [this]; exact hc
      · rw [if_neg hc]
        refine below_go h j fuel _ _ (by omega) (by omega) (by omega) h4 (fun i hi' hi'' => ?_)
        rcases Nat.lt_or_ge ((lo + hi) / 2) i with q | q
        · have := h.lt (d := 0) (e := 0) q hi''
          omega
        · have : i = (lo + hi) / 2 := by omega
          rw [this]; omega
    · rw [if_neg hl]
      have : lo = hi := by omega
      subst this
      exact ⟨h2, h4, h5⟩
theorem below_is {xs : Array Nat} (h : Rise xs) (j : Nat) : Below xs j (SetTable.below xs j) :=
  below_go h j _ _ _ (Nat.zero_le _) (Nat.le_refl _) (by omega) (fun _ q => absurd q (Nat.not_lt_zero _)) fun i q q' => by omega
theorem Below.uniq {xs : Array Nat} {j r r' : Nat} (a : Below xs j r) (b : Below xs j r') : r = r' := by
  rcases Nat.lt_trichotomy r r' with q | q | q
  · have := b.lo r q
    have h2 := b.le
    have := a.hi r (Nat.le_refl _) (by omega)
    omega
  · exact q
  · have := a.lo r' q
    have h2 := a.le
    have := b.hi r' (Nat.le_refl _) (by omega)
    omega
theorem below_zero {xs : Array Nat} (h : Rise xs) : SetTable.below xs 0 = 0 := (below_is h 0).uniq ⟨Nat.zero_le _, fun _ q => absurd q (Nat.not_lt_zero _), fun _ _ _ => Nat.zero_le _⟩
theorem below_next {xs : Array Nat} (h : Rise xs) {i : Nat} (hi : i < xs.size) : SetTable.below xs (xs.getD i 0 + 1) = i + 1 :=
  (below_is h _).uniq ⟨hi, fun k q => by
    rcases Nat.lt_or_ge k i with z | z
    · have := h.lt (d := 0) (e := 0) z hi; omega
    · have : k = i := by omega
      rw [this]; omega, fun k q q' => by have := h.lt (d := 0) (e := 0) (show i < k by omega) q'; omega⟩

/-- a place put where it belongs -/
theorem rise_insert {xs : Array Nat} (h : Rise xs) {j : Nat} (hne : xs[SetTable.below xs j]? ≠ some j) : Rise (SetTable.insertAt xs (SetTable.below xs j) j) := by
  have B := below_is h j
  generalize hr : SetTable.below xs j = r at *
  unfold Rise
  rw [SetTable.toList_insertAt]
  have h' : (xs.toList.take r ++ xs.toList.drop r).Pairwise (· < ·) := by rw [List.take_append_drop]; exact h
  obtain ⟨p1, p2, p3⟩ := List.pairwise_append.mp h'
  have lo : ∀ a ∈ xs.toList.take r, a < j := fun a ha => by
    obtain ⟨i, hi, rfl⟩ := List.getElem_of_mem ha
    rw [List.length_take, Array.length_toList] at hi
    have := B.lo i (by omega)
    rw [List.getElem_take, Array.getElem_toList]
    simpa [Array.getD, show i < xs.size by omega] using this
  have hi : ∀ b ∈ xs.toList.drop r, j < b := fun b hb => by
    obtain ⟨i, hi, rfl⟩ := List.getElem_of_mem hb
    rw [List.length_drop, Array.length_toList] at hi
    rw [List.getElem_drop, Array.getElem_toList]
    have hri : r + i < xs.size := by omega
    have h1 := B.hi (r + i) (by omega) hri
    have e1 : xs.getD (r + i) 0 = xs[r + i] := by simp [Array.getD, hri]
    rw [e1] at h1
    rcases Nat.lt_or_ge j (xs[r + i]) with q | q
    · exact q
    · exfalso
      have hr0 : r < xs.size := by omega
      have h2 := B.hi r (Nat.le_refl _) hr0
      cases i with
      | zero =>
        apply hne
        rw [Array.getElem?_eq_getElem hr0]
        have : xs[r] = j := by simp at h1 q; omega
        rw [this]
      | succ i =>
        have h3 := h.lt (d := 0) (e := 0) (show r < r + (i + 1) by omega) hri
        rw [e1] at h3
        omega
  exact List.pairwise_append.mpr ⟨p1, List.pairwise_cons.mpr ⟨hi, p2⟩, fun a ha b hb => by
    rcases List.mem_cons.mp hb with e | e
    · rw [e]; exact lo a ha
    · exact p3 a ha b e⟩

/-- the table's invariant -/
noncomputable def TG (t : SetTable) : Prop := t.plain = true → Rise t.place
theorem TG.standIn (t : SetTable) (n : Nat) : TG (t.standIn n) := fun h => by simp [SetTable.standIn] at h
theorem TG.orStandIn {t : SetTable} {n : Nat} (h : TG t) : TG (t.orStandIn n) := by
  unfold SetTable.orStandIn; split
  · exact h
  · exact TG.standIn _ _
theorem led_orStandIn (t : SetTable) (n : Nat) : (t.orStandIn n).led = t.led := by unfold SetTable.orStandIn; split <;> rfl

noncomputable def FreeAt (t : SetTable) (d : Nat) : Prop := t.slot d = .empty ∨ t.slot d = .dummy
theorem probe_go {t : SetTable} {hashAt : Nat → Int} {h : Int} : ∀ (fuel : Nat) (p : SetTable.Probe), (∀ d, p.dummy = some d → FreeAt t d) → ∀ j dm, SetTable.probe.go t hashAt h fuel p = some (.empty j dm) → FreeAt t j ∧ ∀ d, dm = some d → FreeAt t d
  | 0, p, _, j, dm, e => by (first | obtain ⟨_, rfl⟩ := e.atom | exact (nsE e).elim | exact (snE e).elim | exact (ftE e).elim | cases e)
  | fuel + 1, p, hd, j, dm, e => by
    unfold SetTable.probe.go at e
    have hadv : ∀ q : SetTable.Probe, (t.advance q).dummy = q.dummy := fun q => by unfold SetTable.advance; split <;> rfl
    split at e
    · rename_i hs
      simp only [Option.some.injEq, SetTable.Met.empty.injEq] at e
      obtain ⟨rfl, rfl⟩ := e
      exact ⟨.inl hs, hd⟩
    · rename_i hs
      refine probe_go fuel _ (fun d q => ?_) j dm e
      rw [hadv] at q
      simp only [Option.some.injEq] at q
      subst q; exact .inr hs
    · split at e
      · (first | obtain ⟨_, rfl⟩ := e.atom | exact (nsE e).elim | exact (snE e).elim | exact (ftE e).elim | cases e)
      · refine probe_go fuel _ (fun d q => ?_) j dm e
        rw [hadv] at q
        exact hd d q
theorem free_slot {t : SetTable} {h : Int} {slot : Nat} {wd : Bool} (e : t.freeSlot h = some (slot, wd)) : FreeAt t slot := by
  unfold SetTable.freeSlot at e
  split at e
  · rename_i j dm hp
    simp only [Option.some.injEq, Prod.mk.injEq] at e
    obtain ⟨rfl, rfl⟩ := e
    obtain ⟨h1, h2⟩ := probe_go _ _ (fun d q => by simp [SetTable.probeStart] at q) j dm hp
    cases dm with
    | none => exact h1
    | some d => exact h2 d rfl
  · (first | obtain ⟨_, rfl⟩ := e.atom | exact (nsE e).elim | exact (snE e).elim | exact (ftE e).elim | cases e)
theorem free_not {t : SetTable} {d : Nat} (h : FreeAt t d) : t.place[SetTable.below t.place d]? ≠ some d := fun e => by
  have : t.slot d = .live (SetTable.below t.place d) := by unfold SetTable.slot; simp [e]
  rcases h with q | q <;> rw [this] at q <;> (first | obtain ⟨_, rfl⟩ := q.atom | exact (nsE q).elim | exact (snE q).elim | exact (ftE q).elim | cases q)

theorem layNew_tg {t : SetTable} (h : TG t) (es : Array (Int × Value)) (hs : Int) (x : Value) : TG (layNew t es hs x).2.1 := by
  unfold layNew
  split
  · rename_i slot wd e
    refine TG.orStandIn fun hp => ?_
    exact rise_insert (h hp) (free_not (free_slot e))
  · exact TG.standIn _ _
theorem layNew_led (t : SetTable) (es : Array (Int × Value)) (hs : Int) (x : Value) : (layNew t es hs x).2.1.led = t.led := by
  unfold layNew
  split
  · exact led_orStandIn _ _
  · rfl

theorem laid_rise {mask finger moves : Nat} {led plain : Bool} {hashes : Array Int} {t : SetTable} {o : Array Nat} (e : SetTable.laid mask finger moves led plain hashes = some (t, o)) : Rise t.place ∧ t.led = led := by
  unfold SetTable.laid at e
  obtain ⟨owner, h1, e⟩ := Option.bind_eq_some_iff.mp e
  simp only [Option.pure_def, Option.some.injEq, Prod.mk.injEq] at e
  obtain ⟨rfl, -⟩ := e
  refine ⟨?_, rfl⟩
  unfold Rise
  dsimp only
  have : ∀ l : List Nat, l.Pairwise (· < ·) → ((l.filterMap fun j => (owner.getD j none).map (j, ·)).map (·.1)).Pairwise (· < ·) := fun l hl => by
    have sub : (((l.filterMap fun j => (owner.getD j none).map (j, ·)).map (·.1))).Sublist l := by
      clear hl
      induction l with
      | nil => exact .slnil
      | cons j l ih =>
        rw [List.filterMap_cons]
        cases owner.getD j none with
        | none => exact ih.cons _
        | some k => exact ih.cons_cons _
    exact hl.sublist sub
  exact this _ List.pairwise_lt_range
theorem relaid_rise {t t' : SetTable} {hs : Array Int} {n : Nat} {o : Array Nat} (e : t.relaid hs n = some (t', o)) : Rise t'.place ∧ t'.led = t.led := laid_rise e
theorem relayAll_tg (t : SetTable) (es : Array (Int × Value)) (n : Nat) : TG (relayAll t es n).2.1 ∧ (relayAll t es n).2.1.led = t.led := by
  unfold relayAll
  split
  · rename_i t' order e
    obtain ⟨h1, h2⟩ := relaid_rise e
    dsimp only
    split
    · exact ⟨fun _ => h1, h2⟩
    · exact ⟨TG.standIn _ _, rfl⟩
  · exact ⟨TG.standIn _ _, rfl⟩
theorem TG.off {t : SetTable} : TG { t with plain := false } := fun h => by (first | obtain ⟨_, rfl⟩ := h.atom | exact (nsE h).elim | exact (snE h).elim | exact (ftE h).elim | cases h)
-- part PS2
noncomputable def setObj (es : Array (Int × Value)) (ep : Nat) (t : SetTable) : Obj := { cls := .type "set", dict := none, data := .set es ep t }
section
variable {prog : Program} {w : World} {K : Type} [DecidableEq K] (knd : KeyKind prog w K)
/-- a set's elements, by their keys -/
inductive ElK : List (Int × Value) → List K → Prop
  | nil : ElK [] []
  | cons {k : K} {v : Value} {es : List (Int × Value)} {l : List K} : knd.is k v = true → v.scannable = true → ElK es l → ElK ((knd.hash k, v) :: es) (k :: l)
/-- a set -/
noncomputable def SetG (h : Heap) (a : Addr) (l : List K) : Prop := ∃ es ep t l', h.get? a = some (setObj es ep t) ∧ t.fits es.size = true ∧ TG t ∧ (t.led = true ∨ w.params.followText "set-order" = true) ∧ ElK knd es.toList l' ∧ l'.Perm l ∧ l.Nodup ∧ l.length < scanBound
variable {knd}
theorem ElK.length {es : List (Int × Value)} {l : List K} (h : ElK knd es l) : es.length = l.length := by
  induction h with
  | nil => rfl
  | cons _ _ _ ih => simp [ih]
theorem ElK.perm {es es' : List (Int × Value)} (p : es'.Perm es) : ∀ {l : List K}, ElK knd es l → ∃ l', l'.Perm l ∧ ElK knd es' l' := by
  induction p with
  | nil => intro l h; exact ⟨l, .refl _, h⟩
  | cons x _ ih =>
    intro l h
    cases h with
    | cons h1 h2 h3 =>
      obtain ⟨l', p', h'⟩ := ih h3
      exact ⟨_, p'.cons _, .cons h1 h2 h'⟩
  | swap x y l₀ =>
    intro l h
    cases h with
    | cons h1 h2 h3 =>
      cases h3 with
      | cons h4 h5 h6 => exact ⟨_, .swap _ _ _, .cons h4 h5 (.cons h1 h2 h6)⟩
  | trans _ _ ih1 ih2 =>
    intro l h
    obtain ⟨l1, p1, h1⟩ := ih2 h
    obtain ⟨l2, p2, h2⟩ := ih1 h1
    exact ⟨l2, p2.trans p1, h2⟩
theorem ElK.snoc {es : List (Int × Value)} {l : List K} (h : ElK knd es l) {k : K} {v : Value} (hk : knd.is k v = true) (hv : v.scannable = true) : ElK knd (es ++ [(knd.hash k, v)]) (l ++ [k]) := by
  induction h with
  | nil => exact .cons hk hv .nil
  | cons a b _ ih => exact .cons a b ih
theorem ElK.elems {es : List (Int × Value)} {l : List K} (h : ElK knd es l) : ElemsOf knd es := by
  induction h with
  | nil => intro e he; (first | obtain ⟨_, rfl⟩ := he.atom | exact (nsE he).elim | exact (snE he).elim | exact (ftE he).elim | cases he)
  | cons a b _ ih =>
    intro e he
    rcases List.mem_cons.mp he with rfl | q
    · exact ⟨⟨_, a, rfl⟩, b⟩
    · exact ih e q
theorem ElK.find {es : List (Int × Value)} {l : List K} (h : ElK knd es l) (k : K) : (es.findIdx? (fun e => knd.is k e.2)).isSome = true ↔ k ∈ l := by
  induction h with
  | nil => simp
  | @cons k' v es l a b _ ih =>
    rw [List.findIdx?_cons]
    have hd : knd.is k v = decide (k = k') := KeyKind.is_eq_decide a k
    simp only [hd]
    by_cases e : k = k'
    · simp [e]
    · simp only [e, decide_false, Bool.false_eq_true, if_false, List.mem_cons, false_or, Option.isSome_map]
      exact ih
variable {A : Around} {E : Value → Shared → Prop} {s : Shared}
theorem store_set {a : Addr} {es es' : Array (Int × Value)} {ep : Nat} {t t' : SetTable} {Q : Unit → Shared → Prop} (ho : s.heap.get? a = some (setObj es ep t)) (hz : es'.size ≤ sizeLine)
    (h : ∀ h', Heap.SameBut a s.heap h' → h'.get? a = some (setObj es' (ep + 1) t') → Q () { s with heap := h' }) : wpAny (model prog w) A (storeSet a es' t') Q E s := by
  refine wpAny_storeSet_of ho rfl (h _ (Heap.SameBut.update ..) ?_) hz
  have := Heap.get?_update_self (Obj.putSet es' t') ho (by rw [putSet_of es' t' rfl]; rfl)
  rw [putSet_of es' t' rfl] at this
  exact this
theorem scan4 : scanBound = 4096 := rfl
theorem setAdd_rule {a : Addr} {l : List K} {k : K} {x : Value} {Q : Bool → Shared → Prop} (hk : knd.is k x = true) (hx : x.scannable = true) (hS : SetG knd s.heap a l) (hroom : l.length + 1 < scanBound)
    (h : ∀ h' b, Heap.SameBut a s.heap h' → SetG knd h' a (if k ∈ l then l else l ++ [k]) → Q b { s with heap := h', toks := s.toks + 1 }) : wpAny (model prog w) A (setAdd a x) Q E s := by
  unfold setAdd
  refine wpAny_holding (wpAny_bind (knd.pyHash hk ?_))
  obtain ⟨es, ep, t, l', ho, hf, hg, hled, hel, hp, hn, hb⟩ := hS
  have hlen : es.size = l.length := by rw [← Array.length_toList, hel.length, hp.length_eq]
  have hsz : sizeLine = 16777216 := by decide
  have hsc := scan4
  have hmem := hel.find k
  have hE := hel.elems
  unfold setAddHashed setAddHashedIn
  refine wpAny_holding (wpAny_bind (wpAny_setState_of (s := { s with toks := s.toks + 1 }) ho rfl hf ?_))
  dsimp only
  rw [byScan_of hx (by omega) hE]
  simp only [↓reduceIte]
  unfold setAddByScan
  refine wpAny_bind ?_
  refine wpAny_bind (wpAny_rule ?_)
  refine wpAny_bind (wpAny_setScan_of (s := { s with toks := s.toks + 1 }) hk ho rfl hf hE ?_)
  cases hr : List.findIdx? (fun e => knd.is k e.2) es.toList with
  | some j =>
    have hin : k ∈ l := hp.mem_iff.mp (hmem.mp (by rw [hr]; rfl))
    dsimp only
    refine wpAny_pure (wpAny_pure ?_)
    have := h s.heap false (Heap.SameBut.refl a s.heap)
    rw [if_pos hin] at this
    exact this ⟨es, ep, t, l', ho, hf, hg, hled, hel, hp, hn, hb⟩
  | none =>
    have hout : k ∉ l := fun q => by have := hmem.mpr (hp.mem_iff.mpr q); rw [hr] at this; (first | obtain ⟨_, rfl⟩ := this.atom | exact (nsE this).elim | exact (snE this).elim | exact (ftE this).elim | cases this)
    rw [if_neg hout] at h
    dsimp only
    have hgw : ∀ (b : Bool) {s₁ : Shared} {Q' : Unit → Shared → Prop}, Q' () s₁ → wpAny (model prog w) A (match b with | true => rule "set.scan.the-table-gave-way" | false => pure ()) Q' E s₁ :=
      fun b s₁ Q' hq => by (first | obtain ⟨_, rfl⟩ := b.atom | exact (nsE b).elim | exact (snE b).elim | exact (ftE b).elim | cases b) <;> first | exact wpAny_pure hq | exact wpAny_rule hq
    have hperm := layNew_perm t es (knd.hash k) x
    have hfits := layNew_fits t es (knd.hash k) x
    have htg := layNew_tg hg es (knd.hash k) x
    have hll := layNew_led t es (knd.hash k) x
    generalize layNew t es (knd.hash k) x = L at hperm hfits htg hll ⊢
    obtain ⟨es1, t1, wasDummy, gave⟩ := L
    dsimp only at hperm hfits htg hll ⊢
    rw [Array.toList_push] at hperm
    obtain ⟨l1, hp1, hel1⟩ := (hel.snoc hk hx).perm hperm
    have hp1' : l1.Perm (l ++ [k]) := hp1.trans (hp.append_right _)
    have hn1 : (l ++ [k]).Nodup := List.nodup_append.mpr ⟨hn, by simp, fun a ha b hb e => by simp at hb; subst hb; subst e; exact hout ha⟩
    have hb1 : (l ++ [k]).length < scanBound := by rw [List.length_append]; exact hroom
    have hs1 : es1.size = l.length + 1 := by rw [← Array.length_toList, hel1.length, hp1'.length_eq]; simp
    refine wpAny_bind (hgw _ ?_)
    have tail : ∀ (t2 : SetTable), t2.fits es1.size = true → TG t2 → t2.led = t.led → wpAny (model prog w) A (do
        storeSet a es1 t2
        if (!wasDummy && t2.tooFull) = true then do
            (match (relayAll t2 es1 (SetTable.grown es1.size)).2.2 with | true => rule "set.scan.the-table-gave-way" | false => pure ())
            storeSet a (relayAll t2 es1 (SetTable.grown es1.size)).1 (relayAll t2 es1 (SetTable.grown es1.size)).2.1
            pure (some true)
          else pure (some true)) (fun r s' => wpAny (model prog w) A (match r with | some added => pure added | none => setAddHashedIn a x (knd.hash k) 99999) Q E s') E { s with toks := s.toks + 1 } := by
      intro t2 f2 g2 e2
      refine wpAny_bind (store_set (s := { s with toks := s.toks + 1 }) ho (by omega) fun h1 sb1 o1 => ?_)
      have fin : ∀ h2 es2 ep2 t3, Heap.SameBut a s.heap h2 → h2.get? a = some (setObj es2 ep2 t3) → t3.fits es2.size = true → TG t3 → t3.led = t.led → es2.toList.Perm es1.toList → Q true { s with heap := h2, toks := s.toks + 1 } := by
        intro h2 es2 ep2 t3 sb o f g e p
        obtain ⟨l2, hp2, hel2⟩ := hel1.perm p
        exact h h2 true sb ⟨es2, ep2, t3, l2, o, f, g, by rw [e]; exact hled, hel2, hp2.trans hp1', hn1, hb1⟩
      split
      · have hp2 := relayAll_perm t2 es1 (SetTable.grown es1.size)
        have hf2 := relayAll_fits t2 es1 (SetTable.grown es1.size)
        obtain ⟨hg2, hl2⟩ := relayAll_tg t2 es1 (SetTable.grown es1.size)
        generalize relayAll t2 es1 (SetTable.grown es1.size) = R at hp2 hf2 hg2 hl2 ⊢
        obtain ⟨es2, t3, gave2⟩ := R
        dsimp only at hp2 hf2 hg2 hl2 ⊢
        have hs2 : es2.size = es1.size := by rw [← Array.length_toList, hp2.length_eq, Array.length_toList]
        refine wpAny_bind (hgw _ (wpAny_bind (store_set (s := { s with heap := h1, toks := s.toks + 1 }) o1 (by omega) fun h2 sb2 o2 => wpAny_pure (wpAny_pure ?_))))
        exact fin h2 es2 _ t3 (sb1.trans sb2) o2 hf2 hg2 (hl2.trans e2) hp2
      · exact wpAny_pure (wpAny_pure (fin h1 es1 _ t2 sb1 o1 f2 g2 e2 (.refl _)))
    split
    · refine wpAny_bind ?_
      rw [hashByValue_scannable 8 hx]
      refine wpAny_pure ?_
      refine tail _ ?_ ?_ ?_
      · split
        · exact hfits
        · exact SetTable.fits_plain_off hfits
      · split
        · exact htg
        · exact TG.off
      · split
        · exact hll
        · exact hll
    · refine wpAny_bind (wpAny_pure ?_)
      simp only [↓reduceIte]
      exact tail t1 hfits htg hll
end
-- part PS3
section
variable {prog : Program} {w : World} {K : Type} [DecidableEq K] {knd : KeyKind prog w K}
/-- every key once, at its first place -/
noncomputable def dd (ks : List K) : List K := ks.foldl (fun acc k => if k ∈ acc then acc else acc ++ [k]) []
theorem dd_take (ks : List K) (i : Nat) (k : K) (h : ks[i]? = some k) : dd (ks.take (i + 1)) = if k ∈ dd (ks.take i) then dd (ks.take i) else dd (ks.take i) ++ [k] := by
  unfold dd; rw [List.take_add_one, h, List.foldl_append]; rfl
theorem dd_len (ks : List K) : (dd ks).length ≤ ks.length := by
  have : ∀ (l acc : List K), (l.foldl (fun acc k => if k ∈ acc then acc else acc ++ [k]) acc).length ≤ acc.length + l.length := by
    intro l
    induction l with
    | nil => intro acc; exact Nat.le_refl _
    | cons k l ih =>
      intro acc
      rw [List.foldl_cons]
      refine Nat.le_trans (ih _) ?_
      split <;> simp <;> omega
  have := this ks []
  simpa [dd] using this
theorem dd_mem (ks : List K) (k : K) : k ∈ dd ks ↔ k ∈ ks := by
  have : ∀ (l acc : List K), k ∈ (l.foldl (fun acc k => if k ∈ acc then acc else acc ++ [k]) acc) ↔ k ∈ acc ∨ k ∈ l := by
    intro l
    induction l with
    | nil => intro acc; simp
    | cons k' l ih =>
      intro acc
      rw [List.foldl_cons, ih]
      split
      · rename_i h
        constructor
        · rintro (q | q)
          · exact .inl q
          · exact .inr (.tail _ q)
        · rintro (q | q)
          · exact .inl q
          · rcases List.mem_cons.mp q with e | q
            · exact .inl (e ▸ h)
            · exact .inr q
      · simp [or_assoc]
  have := this ks []
  simpa [dd] using this
variable {A : Around}
theorem set_loop {R : Result → Shared → Prop} {I : Addr} {fp wr : List Addr} {n : Nat} {P : Nat → Value → Prop} {St : Nat → Heap → Prop} (W : Walks prog w A.in1 I fp wr n P St) {a : Addr} (ha : a ∉ fp) {ks : List K} (hlen : ks.length = n)
    (hval : ∀ i v, P i v → ∃ k, ks[i]? = some k ∧ knd.is k v = true ∧ v.scannable = true) (hb : n + 1 < scanBound) :
    ∀ (m i : Nat) (s : Shared), n - i = m → i ≤ n → St i s.heap → SetG knd s.heap a (dd (ks.take i)) →
      (∀ h' tk, (∀ b o, b ≠ a → b ∉ wr → s.heap.get? b = some o → h'.get? b = some o) → SetG knd h' a (dd ks) → R (.ok (.ret .none)) { s with heap := h', toks := tk }) →
      codeAny (model prog w) A (.builtin "set.update.loop" ⟨[.ref a, .ref I], []⟩) R s := by
  have haw : a ∉ wr := fun h => ha (W.sub _ h)
  have keepG : ∀ {h h' : Heap} {l : List K}, (∀ b o, b ∉ wr → h.get? b = some o → h'.get? b = some o) → SetG knd h a l → SetG knd h' a l := fun k ⟨es, ep, t, l', ho, r⟩ => ⟨es, ep, t, l', k _ _ haw ho, r⟩
  intro m
  induction m with
  | zero =>
    intro i s hm hi hst hS hR
    have hin : i = n := by omega
    subst hin
    refine codeAny_builtin F.entry_set_update_loop ?_
    rw [Around.under_plainId F.plain_set_update_loop _]
    show wpAny _ A.in1 (pyNext (.ref I) >>= _) _ _ s
    refine wpAny_bind (W.done s _ _ hst fun h' tk hk => ?_)
    show wpAny _ A.in1 (ret Value.none) _ _ _
    have hS' := keepG hk hS
    rw [← hlen, List.take_length] at hS'
    exact wpAny_pure (hR h' tk (fun b o _ hb => hk b o hb) hS')
  | succ m ih =>
    intro i s hm hi hst hS hR
    have hlt : i < n := by omega
    refine codeAny_builtin F.entry_set_update_loop ?_
    rw [Around.under_plainId F.plain_set_update_loop _]
    show wpAny _ A.in1 (pyNext (.ref I) >>= _) _ _ s
    refine wpAny_bind (W.item i s _ _ hlt hst fun v h' tk hP hst' hk => ?_)
    obtain ⟨k, hki, hkv, hsc⟩ := hval i v hP
    show wpAny _ A.in1 (holding [v] (setAdd a v) >>= _) _ _ _
    refine wpAny_bind (wpAny_holding (setAdd_rule (s := { s with heap := h', toks := tk }) hkv hsc (keepG hk hS) ?_ fun h2 b sb hS2 => ?_))
    · have h1 := dd_len (ks.take i)
      have h2 : (ks.take i).length ≤ n := by rw [List.length_take]; omega
      omega
    · refine wpAny_pure ⟨plainId_quiet F.plain_set_update_loop _, ih (i + 1) _ (by omega) hlt (W.frame _ _ _ hst' fun b hb o e => ?_) (by rw [dd_take ks i k hki]; exact hS2) fun h3 tk3 hk3 hS3 => ?_⟩
      · exact sb.extBut b o (fun q => ha (q ▸ hb)) e
      · refine hR h3 tk3 (fun b o h1 hw e => hk3 b o h1 hw (sb.extBut b o h1 (hk b o hw e))) hS3

theorem set_fresh {h : Heap} {led : Bool} (hled : led = true ∨ w.params.followText "set-order" = true) : SetG knd (h.push (setObj #[] 0 (.fresh 0 0 led))) h.objs.size [] :=
  ⟨#[], 0, _, [], Heap.get?_push_size _ rfl, by (first | obtain ⟨_, rfl⟩ := led.atom | exact (nsE led).elim | exact (snE led).elim | exact (ftE led).elim | cases led) <;> decide, fun _ => by simp [Rise, SetTable.fresh], hled, .nil, .refl _, List.nodup_nil, by rw [scan4]; exact Nat.zero_lt_succ _⟩

variable {E : Value → Shared → Prop} {s : Shared}
theorem set_new_code (x : Value) {Q₁ : Value → Shared → Prop} (h : Q₁ (.ref s.heap.objs.size) { s with heap := s.heap.push (setObj #[] 0 (.fresh 0 0 (!(w.params.followText "set-order")))) }) :
    codeAny (model prog w) A (.call (.builtin "set.__new__") ⟨[.type "set", x], []⟩) (wants Q₁ E) s := by
  refine codeAny_of_tree ?_
  show wpAny _ A.in1 (do checkBuiltinCall "set.__new__" ⟨[.type "set", x], []⟩; again (.builtin "set.__new__" ⟨[.type "set", x], []⟩)) _ _ s
  refine wpAny_bind (wpAny_of_eq (F.newCall_set_1 x) (wpAny_pure ⟨plainId_quiet F.plain_set_new _, codeAny_builtin F.entry_set_new ?_⟩))
  rw [Around.under_plainId F.plain_set_new _]
  unfold Builtin.«set.__new__» Builtin.Frozenset.newClass
  have hsub := sub_set_self
  obtain ⟨hp, g, d, tk, os⟩ := s
  dsimp only
  wp_walk
  refine wpAny_askSetting (wpAny_pure ?_)
  dsimp only
  simp only [newObj]
  refine wpAny_bind (wpAny_alloc (wpAny_pure ?_))
  exact wpAny_pure h

set_option maxHeartbeats 3200000 in
theorem call_setL {l : Addr} {items : Array Value} {ks : List K} {Q : Value → Shared → Prop} (hh : A.handled = none) (hl : s.heap.IsList l items) (hlen : ks.length = items.size) (hval : ∀ (i : Nat) v, items[i]? = some v → ∃ k, ks[i]? = some k ∧ knd.is k v = true ∧ v.scannable = true) (hb : items.size + 1 < scanBound)
    (h : ∀ h' tk, SetG knd h' s.heap.objs.size (dd ks) → (∀ b o, s.heap.get? b = some o → h'.get? b = some o) → Q (.ref s.heap.objs.size) { s with heap := h', toks := tk }) : wpAny (model prog w) A (call (.type "set") [.ref l]) Q E s := by
  obtain ⟨c, tl, hmro⟩ := F.called_set.mro
  have hmade := F.called_set.made
  have hsub := F.called_set.sub
  refine wpAny_call (codeAny_of_tree ?_)
  show wpAny _ _ (callAny (.type "set") _) _ _ _
  refine wpAny_pure ⟨Code.quiet_builtin _ (by decide +kernel), codeAny_builtin F.entry_type_call ?_⟩
  rw [Around.under_plain (weight_type_call_type "set" [.ref l] []) rfl]
  have h1 := F.called_set.notType
  have h2 := F.called_set.canCreate
  have hct := F.typeCall_set_1 (.ref l)
  repeat (any_goals (first | assumption | wp_step))
  generalize hS0 : s.heap.objs.size = a at *
  refine codeAny_mono (set_new_code (.ref l) (E := E) (Q₁ := fun obj s₁ => obj = .ref a ∧ s₁ = { s with heap := s.heap.push (setObj #[] 0 (.fresh 0 0 (!(w.params.followText "set-order")))) }) ⟨by rw [hS0], rfl⟩) fun r s₁ hr => ?_
  cases r with
  | error e => exact hr
  | ok fl =>
    cases fl with
    | ret obj =>
      obtain ⟨rfl, rfl⟩ := hr
      have hg0 : SetG knd (s.heap.push (setObj #[] 0 (.fresh 0 0 (!(w.params.followText "set-order"))))) a [] := by
        have := set_fresh (knd := knd) (h := s.heap) (led := !(w.params.followText "set-order")) (by cases w.params.followText "set-order" <;> simp)
        rwa [hS0] at this
      have k1 : ∀ b o, s.heap.get? b = some o → (s.heap.push (setObj #[] 0 (.fresh 0 0 (!(w.params.followText "set-order"))))).get? b = some o := fun b o e => Heap.get?_push_of_some _ e
      have hz1 : (s.heap.push (setObj #[] 0 (.fresh 0 0 (!(w.params.followText "set-order"))))).objs.size = a + 1 := by rw [Heap.size_push, hS0]
      have hSo : (s.heap.push (setObj #[] 0 (.fresh 0 0 (!(w.params.followText "set-order"))))).get? a = some { cls := .type "set", dict := none, data := .set #[] 0 (.fresh 0 0 (!(w.params.followText "set-order"))) } := by rw [← hS0]; exact Heap.get?_push_size _ rfl
      generalize s.heap.push (setObj #[] 0 (.fresh 0 0 (!(w.params.followText "set-order")))) = H at *
      generalize (!(w.params.followText "set-order")) = led at hSo
      have hT : Shared.TypeIs { s with heap := H } (.ref a) "set" := ⟨_, hSo, rfl⟩
      have hli := F.called_set.init.lookup
      have hbi := F.called_set.init.bind (.ref a)
      repeat (any_goals (first | assumption | wp_step))
      refine codeAny_mono (codeAny_call_builtin (R := wants (fun r s₂ => r = .none ∧ ∃ h' tk, s₂ = { s with heap := h', toks := tk } ∧ SetG knd h' a (dd ks) ∧ (∀ b o, s.heap.get? b = some o → h'.get? b = some o)) E) F.called_set.init.plain F.entry_set_init (check_set_init_1 hT ?_)) fun r₂ s₂ hr₂ => ?_
      · obtain ⟨ol, hol, hcl, nl, hdl⟩ := hl
        obtain ⟨ocls, odict, odata, oslots⟩ := ol
        simp only at hcl hdl
        subst hcl; subst hdl
        have hol' := k1 _ _ hol
        have hsls := F.sub_list_set
        have hslf := F.sub_list_frozenset
        have hne : (Value.type "list" == Value.type "dict") = false := by decide
        have hl1 : H.IsList l items := ⟨_, hol', rfl, nl, rfl⟩
        unfold Builtin.«set.__init__» noKeywords Builtin.Frozenset.updateFrom
        generalize hPI : pyIter = PI
        wp_walk
        subst hPI
        refine wpAny_pyIter_list (s := { s with heap := H }) hl1 ?_
        refine wpAny_bind (wpAny_runValue ?_)
        have hlS : l < a := hS0 ▸ Heap.lt_size hol
        have hh3 : A.in1.in1.in1.handled = none := by simp [hh]
        have hneI : l ≠ H.objs.size := by rw [hz1]; exact Nat.ne_of_lt (Nat.lt_succ_of_lt hlS)
        have hSf : a ∉ [H.objs.size, l] := by
          rw [hz1]; simp only [List.mem_cons, List.not_mem_nil, or_false, not_or]
          exact ⟨Nat.ne_of_lt (Nat.lt_succ_self a), Nat.ne_of_gt hlS⟩
        have haI : (H.push { cls := .type "list_iterator", data := .fields #[.ref l, .int 0 0] }).get? H.objs.size = some { cls := .type "list_iterator", data := .fields #[.ref l, .int 0 0] } := Heap.get?_push_size _ rfl
        refine set_loop (Walks.list hh3 _ l hneI items) hSf hlen hval hb (items.size - 0) 0 _ (by omega) (Nat.zero_le _) ⟨⟨_, haI, rfl, rfl⟩, hl1.push _⟩ ?_ fun h' tk hk hS' => ?_
        · obtain ⟨es, ep, t, l', ho, r⟩ := hg0
          exact ⟨es, ep, t, l', Heap.get?_push_of_some _ ho, r⟩
        · refine wpAny_pure ?_
          show wpAny _ _ (ret Value.none) _ _ _
          refine wpAny_pure ⟨rfl, h', tk, rfl, hS', fun b o e => ?_⟩
          have hb1 : b < a := hS0 ▸ Heap.lt_size e
          exact hk b o (Nat.ne_of_lt hb1) (by rw [hz1]; simp only [List.mem_singleton]; exact Nat.ne_of_lt (Nat.lt_succ_of_lt hb1)) (Heap.get?_push_of_some _ (k1 b o e))
      · cases r₂ with
        | error e => exact hr₂
        | ok fl₂ =>
          cases fl₂ with
          | ret r =>
            obtain ⟨rfl, h', tk, rfl, hS', hk'⟩ := hr₂
            repeat (any_goals (first | assumption | wp_step))
            exact h h' tk hS' hk'
          | _ => exact hr₂.elim
    | _ => exact hr.elim
end
-- part PS4
theorem slot_setit_next : PySem.Slot "set_iterator" "__next__" "set_iterator.__next__" :=
  .of (owner := "set_iterator") (n := "__next__") (by rw [typeLookup_type, builtinLookup_eq_fast]; kernel_rfl) (by decide +kernel) (by decide +kernel) (by decide +kernel)
    (by first | exact .inl (by decide +kernel) | exact .inr (by decide +kernel)) (by rw [isSubtype_type]; kernel_rfl)
theorem entry_setit_next : entryFor table "set_iterator.__next__" = some Builtin.«set_iterator.__next__» := entryFor_of_tree (by kernel_rfl)
theorem args_setit_next (a : Value) : argsOk "set_iterator.__next__" ⟨[a], []⟩ := by unfold argsOk; kernel_rfl
theorem entry_set_iter : entryFor table "set.__iter__" = some Builtin.«frozenset.__iter__» :=
  entryFor_alias (id' := "frozenset.__iter__") (by kernel_rfl) rfl (by decide +kernel) (by kernel_rfl)

theorem wpAny_choose {M : Model} {A : Around} {E : Value → Shared → Prop} {s : Shared} {src : Source} {n : Nat} {Q : Nat → Shared → Prop} (hn : n ≠ 0) (h : ∀ i d, i < n → Q i { s with drawn := d }) : wpAny M A (choose src n) Q E s := fun Γ p _ => by
  unfold choose
  rw [Sem.wp_choose]
  refine ⟨hn, ?_⟩
  rw [Sem.wp]
  exact h _ _ (Nat.mod_lt _ (Nat.pos_of_ne_zero hn))
theorem erase_perm {α : Type} : ∀ {l : List α} {i : Nat} (h : i < l.length), (l[i] :: l.eraseIdx i).Perm l
  | _ :: _, 0, _ => .refl _
  | x :: l, i + 1, h => by
    simp only [List.getElem_cons_succ, List.eraseIdx_cons_succ]
    exact (List.Perm.swap _ _ _).trans ((erase_perm (by simpa using h)).cons x)
theorem drawOrder_rule {α : Type} {M : Model} {A : Around} {E : Value → Shared → Prop} : ∀ (n : Nat) (xs : List α) {s : Shared} {Q : List α → Shared → Prop}, xs.length = n → (∀ ys d, ys.Perm xs → Q ys { s with drawn := d }) → wpAny M A (drawOrder n xs) Q E s
  | 0, xs, s, Q, hl, h => by
    have : xs = [] := List.length_eq_zero_iff.mp hl
    subst this
    unfold drawOrder
    exact wpAny_pure (h [] s.drawn (.refl _))
  | n + 1, [], s, Q, hl, h => by (first | obtain ⟨_, rfl⟩ := hl.atom | exact (nsE hl).elim | exact (snE hl).elim | exact (ftE hl).elim | cases hl)
  | n + 1, x :: xs, s, Q, hl, h => by
    unfold drawOrder
    refine wpAny_bind (wpAny_choose (by simp) fun i d hi => ?_)
    rw [List.getElem?_eq_getElem hi]
    dsimp only
    refine wpAny_bind (drawOrder_rule n _ (by rw [List.length_eraseIdx_of_lt hi, hl]; rfl) fun ys d' hp => wpAny_pure ?_)
    exact h _ d' ((hp.cons _).trans (erase_perm hi))
theorem pickOrder_go {α : Type} (next : Nat → Nat) : ∀ (fuel k : Nat) (left : List α) (out : Array α), left.length = fuel → (pickOrder.go next fuel k left out).toList.Perm (out.toList ++ left)
  | 0, k, left, out, h => by
    have : left = [] := List.length_eq_zero_iff.mp h
    subst this
    simp [pickOrder.go]
  | fuel + 1, k, left, out, h => by
    unfold pickOrder.go
    have hi : next k % left.length < left.length := Nat.mod_lt _ (by omega)
    rw [List.getElem?_eq_getElem hi]
    dsimp only
    refine (pickOrder_go next fuel (k + 1) _ _ (by rw [List.length_eraseIdx_of_lt hi, h]; rfl)).trans ?_
    rw [Array.toList_push, List.append_assoc]
    exact (erase_perm hi).append_left _
theorem pickOrder_perm {α : Type} (next : Nat → Nat) (xs : Array α) : (pickOrder next xs).toList.Perm xs.toList := by
  unfold pickOrder
  have := pickOrder_go next xs.size 0 xs.toList #[] (by simp)
  simpa using this

/-- the set's iterator -/
noncomputable def setIt (first : Value) (i : Nat) (a : Addr) (n ep : Nat) : Obj := { cls := .type "set_iterator", data := .fields #[first, .int i 0, .ref a, .int n 0, .int ep 0] }

section
variable {prog : Program} {w : World} {A : Around} {E : Value → Shared → Prop} {s : Shared}
theorem state_of {a : Addr} {es : Array (Int × Value)} {ep : Nat} {t : SetTable} {Q : (Array (Int × Value) × Nat × SetTable) → Shared → Prop} (ho : s.heap.get? a = some (setObj es ep t)) (hf : t.fits es.size = true) (h : Q (es, ep, t) s) :
    wpAny (model prog w) A (setState a) Q E s := wpAny_setState_of ho rfl hf h
theorem byText_rule {Q : Bool → Shared → Prop} (h : Q (w.params.followText "set-order") s) : wpAny (model prog w) A setsByText Q E s := by
  unfold setsByText
  exact wpAny_bind (wpAny_askSetting (wpAny_pure h))


theorem set_field {I : Addr} {c : Value} {vs : Array Value} {k : Nat} {x : Value} {M : Model} {Q : Unit → Shared → Prop} (ho : s.heap.get? I = some { cls := c, data := .fields vs }) (hk : k < vs.size)
    (h : ∀ h', h'.get? I = some { cls := c, data := .fields (vs.setIfInBounds k x) } → Heap.SameBut I s.heap h' → Q () { s with heap := h' }) : wpAny M A (setField (.ref I) k x) Q E s :=
  wpAny_setField ho rfl hk (h _ (Heap.get?_update_self (Obj.mapFields (·.setIfInBounds k x)) ho rfl) (Heap.SameBut.update ..))
theorem stop_rule {I : Addr} {s₀ : Shared} {Q : Option Value → Shared → Prop} (hh : A.handled = none) (x : Heap.ExtBut I s₀.heap s.heap) (hs : ∃ h, s = { s₀ with heap := h }) (h : ∀ h', Heap.ExtBut I s₀.heap h' → Q none { s₀ with heap := h' }) :
    wpAny (model prog w) A.in1 (newExc (.type "StopIteration") [] >>= fun e => raiseNew e) (fun fin s' => ∃ v, fin = Fin.done (Flow.ret v) ∧ wpAny (model prog w) A (pure (some v)) Q E s') (fun e s' => wpAny (model prog w) A (do
      let b ← isInstance e (.type "StopIteration")
      if b = true then pure none else throw e) Q E s') s := by
  obtain ⟨hp, rfl⟩ := hs
  refine wpAny_bind ?_
  simp only [newExc, newTuple]
  refine wpAny_bind (wpAny_newObj_type ?_ (by size_fits))
  refine wpAny_bind (m := firstArgMember _ _) (wpAny_of_eq (a := Value.none) (by first | rfl | (simp only [firstArgMember]; rfl)) ?_)
  refine wpAny_newObj_type ?_ (by size_fits)
  simp only [raiseNew]
  refine wpAny_bind (wpAny_handled ?_)
  rw [show A.in1.handled = none from hh]
  refine wpAny_bind (wpAny_pure (wpAny_throw ?_))
  refine wpAny_bind (wpAny_isInstance (T := "StopIteration") (b := true) ⟨_, Heap.get?_push_size _ rfl, rfl⟩ isSubtype_stop ?_)
  exact wpAny_pure (h _ ((x.push _).push _))

theorem setit_item {I a : Addr} {slot i n ep nx : Nat} {es : Array (Int × Value)} {t : SetTable} {x : Value} {Q : Option Value → Shared → Prop} (ho : s.heap.get? I = some (setIt (.int slot 0) i a n ep)) (ha : s.heap.get? a = some (setObj es ep t)) (hf : t.fits es.size = true) (hn : es.size = n)
    (hx : ∀ (Q' : Option (Value × Nat) → Shared → Prop) (E' : Value → Shared → Prop) (A' : Around), Q' (some (x, nx)) s → wpAny (model prog w) A' (setNext a slot i ep) Q' E' s)
    (h : ∀ h', h'.get? I = some (setIt (.int nx 0) (i + 1) a n ep) → Heap.SameBut I s.heap h' → Q (some x) { s with heap := h' }) : wpAny (model prog w) A (pyNext (.ref I)) Q E s := by
  have hT : s.TypeIs (.ref I) "set_iterator" := ⟨_, ho, rfl⟩
  unfold pyNext
  refine wpAny_bind (wpAny_attempt (wpAny_callSpecial?_slot (name := Str.ofString "__next__") hT slot_setit_next (wpAny_call_entry slot_setit_next hT entry_setit_next ?_ (args_setit_next _))))
  unfold Builtin.«set_iterator.__next__»
  refine wpAny_bind (wpAny_pure ?_)
  refine wpAny_bind (wpAny_fieldsOf ho rfl ?_)
  dsimp only
  refine wpAny_bind (wpAny_bind (state_of ha hf (wpAny_pure ?_)))
  rw [if_neg (by simp [hn])]
  simp only [Int.toNat_natCast]
  refine wpAny_bind (hx _ _ _ ?_)
  dsimp only
  refine wpAny_bind (set_field ho (by simp) fun h1 o1 b1 => ?_)
  refine wpAny_bind (set_field (s := { s with heap := h1 }) o1 (by simp) fun h2 o2 b2 => wpAny_pure ⟨x, rfl, wpAny_pure (h h2 ?_ (b1.trans b2))⟩)
  rw [o2]; rfl
theorem setit_end {I a : Addr} {slot i n ep : Nat} {es : Array (Int × Value)} {t : SetTable} {Q : Option Value → Shared → Prop} (hh : A.handled = none) (ho : s.heap.get? I = some (setIt (.int slot 0) i a n ep)) (ha : s.heap.get? a = some (setObj es ep t)) (hf : t.fits es.size = true) (hn : es.size = n)
    (hx : ∀ (Q' : Option (Value × Nat) → Shared → Prop) (E' : Value → Shared → Prop) (A' : Around), Q' none s → wpAny (model prog w) A' (setNext a slot i ep) Q' E' s)
    (h : ∀ h', Heap.ExtBut I s.heap h' → Q none { s with heap := h' }) : wpAny (model prog w) A (pyNext (.ref I)) Q E s := by
  have hT : s.TypeIs (.ref I) "set_iterator" := ⟨_, ho, rfl⟩
  unfold pyNext
  refine wpAny_bind (wpAny_attempt (wpAny_callSpecial?_slot (name := Str.ofString "__next__") hT slot_setit_next (wpAny_call_entry slot_setit_next hT entry_setit_next ?_ (args_setit_next _))))
  unfold Builtin.«set_iterator.__next__»
  refine wpAny_bind (wpAny_pure ?_)
  refine wpAny_bind (wpAny_fieldsOf ho rfl ?_)
  dsimp only
  refine wpAny_bind (wpAny_bind (state_of ha hf (wpAny_pure ?_)))
  rw [if_neg (by simp [hn])]
  simp only [Int.toNat_natCast]
  refine wpAny_bind (hx _ _ _ ?_)
  dsimp only
  refine wpAny_bind (set_field ho (by simp) fun h1 o1 b1 => ?_)
  exact stop_rule hh b1.extBut ⟨_, rfl⟩ h
theorem setit_itemD {I a T : Addr} {i n ep p : Nat} {es : Array (Int × Value)} {t : SetTable} {ps : List Nat} {e : Int × Value} {Q : Option Value → Shared → Prop} (ho : s.heap.get? I = some (setIt (.ref T) i a n ep)) (ha : s.heap.get? a = some (setObj es ep t)) (hf : t.fits es.size = true) (hn : es.size = n)
    (hT' : s.heap.get? T = some { cls := .type "tuple", data := .seq (ps.map fun q : Nat => rawInt q).toArray }) (hp : ps[i]? = some p) (he : es[p]? = some e)
    (h : ∀ h', h'.get? I = some (setIt (.ref T) (i + 1) a n ep) → Heap.SameBut I s.heap h' → Q (some e.2) { s with heap := h' }) : wpAny (model prog w) A (pyNext (.ref I)) Q E s := by
  have hT : s.TypeIs (.ref I) "set_iterator" := ⟨_, ho, rfl⟩
  unfold pyNext
  refine wpAny_bind (wpAny_attempt (wpAny_callSpecial?_slot (name := Str.ofString "__next__") hT slot_setit_next (wpAny_call_entry slot_setit_next hT entry_setit_next ?_ (args_setit_next _))))
  unfold Builtin.«set_iterator.__next__»
  refine wpAny_bind (wpAny_pure ?_)
  refine wpAny_bind (wpAny_fieldsOf ho rfl ?_)
  dsimp only
  refine wpAny_bind (wpAny_bind (state_of ha hf (wpAny_pure ?_)))
  rw [if_neg (by simp [hn])]
  simp only [Int.toNat_natCast]
  refine wpAny_bind (wpAny_seqItems hT' rfl ?_)
  dsimp only
  have : (ps.map fun q : Nat => rawInt q).toArray[i]? = some (.int p 0) := by
    rw [List.getElem?_toArray, List.getElem?_map, hp]; rfl
  rw [this]
  dsimp only
  refine wpAny_bind ?_
  unfold setNextDrawn
  refine wpAny_bind (state_of ha hf ?_)
  dsimp only
  rw [if_neg (by simp)]
  simp only [Int.toNat_natCast, he]
  refine wpAny_pure ?_
  refine wpAny_bind (set_field ho (by simp) fun h1 o1 b1 => wpAny_pure ⟨e.2, rfl, wpAny_pure (h h1 ?_ b1)⟩)
  rw [o1]; rfl
theorem setit_endD {I a T : Addr} {i n ep : Nat} {es : Array (Int × Value)} {t : SetTable} {ps : List Nat} {Q : Option Value → Shared → Prop} (hh : A.handled = none) (ho : s.heap.get? I = some (setIt (.ref T) i a n ep)) (ha : s.heap.get? a = some (setObj es ep t)) (hf : t.fits es.size = true) (hn : es.size = n)
    (hT' : s.heap.get? T = some { cls := .type "tuple", data := .seq (ps.map fun q : Nat => rawInt q).toArray }) (hp : ps[i]? = none)
    (h : ∀ h', Heap.ExtBut I s.heap h' → Q none { s with heap := h' }) : wpAny (model prog w) A (pyNext (.ref I)) Q E s := by
  have hT : s.TypeIs (.ref I) "set_iterator" := ⟨_, ho, rfl⟩
  unfold pyNext
  refine wpAny_bind (wpAny_attempt (wpAny_callSpecial?_slot (name := Str.ofString "__next__") hT slot_setit_next (wpAny_call_entry slot_setit_next hT entry_setit_next ?_ (args_setit_next _))))
  unfold Builtin.«set_iterator.__next__»
  refine wpAny_bind (wpAny_pure ?_)
  refine wpAny_bind (wpAny_fieldsOf ho rfl ?_)
  dsimp only
  refine wpAny_bind (wpAny_bind (state_of ha hf (wpAny_pure ?_)))
  rw [if_neg (by simp [hn])]
  simp only [Int.toNat_natCast]
  refine wpAny_bind (wpAny_seqItems hT' rfl ?_)
  dsimp only
  have : (ps.map fun q : Nat => rawInt q).toArray[i]? = none := by
    rw [List.getElem?_toArray, List.getElem?_map, hp]; rfl
  rw [this]
  dsimp only
  refine wpAny_bind (set_field ho (by simp) fun h1 o1 b1 => ?_)
  refine wpAny_bind (set_field (s := { s with heap := h1 }) o1 (by simp) fun h2 o2 b2 => ?_)
  exact stop_rule hh (b1.trans b2).extBut ⟨_, rfl⟩ h
end
-- part PS5
section
variable {prog : Program} {w : World} {A : Around} {E : Value → Shared → Prop} {s : Shared}
theorem next_text {a : Addr} {slot i ep : Nat} {es : Array (Int × Value)} {t : SetTable} {Q : Option (Value × Nat) → Shared → Prop} (hb : w.params.followText "set-order" = true) (ha : s.heap.get? a = some (setObj es ep t)) (hf : t.fits es.size = true)
    (h : Q (((pickOrder (w.params.setOrder a ep) es)[i]?).map fun e => (e.2, slot)) s) : wpAny (model prog w) A (setNext a slot i ep) Q E s := by
  unfold setNext
  refine wpAny_bind (state_of ha hf ?_)
  dsimp only
  refine wpAny_bind (byText_rule ?_)
  rw [if_pos hb, if_neg (by simp)]
  refine wpAny_bind ?_
  unfold setWalk
  refine wpAny_bind (state_of ha hf ?_)
  dsimp only
  refine wpAny_bind (byText_rule ?_)
  rw [if_pos hb]
  exact wpAny_bind (wpAny_askSetting (wpAny_pure (wpAny_pure h)))
theorem next_open {a : Addr} {slot i ep : Nat} {es : Array (Int × Value)} {t : SetTable} {Q : Option (Value × Nat) → Shared → Prop} (hb : w.params.followText "set-order" = false) (hd : (!t.plain && decide (es.size > 1)) = false) (hl : t.led = true) (ha : s.heap.get? a = some (setObj es ep t)) (hf : t.fits es.size = true)
    (h1 : ∀ e j, es[SetTable.below t.place slot]? = some e → t.place[SetTable.below t.place slot]? = some j → Q (some (e.2, j + 1)) s) (h2 : es[SetTable.below t.place slot]? = none → Q none s) : wpAny (model prog w) A (setNext a slot i ep) Q E s := by
  have hfit : t.place.size = es.size := by
    have := hf
    unfold SetTable.fits at this
    simp only [Bool.and_eq_true, beq_iff_eq] at this
    exact this.1
  unfold setNext
  refine wpAny_bind (state_of ha hf ?_)
  dsimp only
  refine wpAny_bind (byText_rule ?_)
  rw [if_neg (by simp [hb])]
  show wpAny _ _ (if (!t.plain && decide (es.size > 1)) = true then _ else _) _ _ _
  rw [hd, if_neg (by decide)]
  show wpAny _ _ ((if (!t.led && !es.isEmpty) = true then unsupported "set:maker-not-led" else pure ()) >>= _) _ _ _
  rw [hl, if_neg (by simp)]
  refine wpAny_bind (wpAny_pure ?_)
  rcases Nat.lt_or_ge (SetTable.below t.place slot) es.size with q | q
  · have e1 : es[SetTable.below t.place slot]? = some es[SetTable.below t.place slot] := Array.getElem?_eq_getElem q
    have e2 : t.place[SetTable.below t.place slot]? = some (t.place[SetTable.below t.place slot]'(by omega)) := Array.getElem?_eq_getElem (by omega)
    have := h1 _ _ e1 e2
    rw [e1, e2]
    exact wpAny_pure this
  · have e1 : es[SetTable.below t.place slot]? = none := Array.getElem?_eq_none q
    rw [e1]
    exact wpAny_pure (h2 e1)

theorem iter_open {a : Addr} {es : Array (Int × Value)} {ep : Nat} {t : SetTable} {Q : Value → Shared → Prop} (ha : s.heap.get? a = some (setObj es ep t)) (hf : t.fits es.size = true) (hz : es.size ≤ sizeLine)
    (h1 : (!(w.params.followText "set-order") && (!t.plain && decide (es.size > 1))) = false → Q (.ref s.heap.objs.size) { s with heap := s.heap.push (setIt (.int 0 0) 0 a es.size ep) })
    (h2 : (!(w.params.followText "set-order") && (!t.plain && decide (es.size > 1))) = true → ∀ (ps : List Nat) d, ps.Perm (List.range es.size) → Q (.ref (s.heap.objs.size + 1)) { s with heap := (s.heap.push { cls := .type "tuple", data := .seq (ps.map fun q : Nat => rawInt q).toArray }).push (setIt (.ref s.heap.objs.size) 0 a es.size ep), drawn := d }) :
    wpAny (model prog w) A (pyIter (.ref a)) Q E s := by
  have hT : s.TypeIs (.ref a) "set" := ⟨_, ha, rfl⟩
  refine wpAny_pyIter_slot hT F.slot_set_iter (wpAny_call_entry F.slot_set_iter hT entry_set_iter ?_ (F.args_set_iter_1 _))
  unfold Builtin.«frozenset.__iter__» Builtin.Frozenset.slot0 slotArgs
  simp only [List.isEmpty_nil, Bool.not_true, Bool.false_eq_true, ↓reduceIte, List.length_nil, bne_self_eq_false]
  unfold Builtin.Frozenset.addrOf Builtin.Frozenset.sizeOf
  refine wpAny_bind (wpAny_bind (wpAny_pure (wpAny_pure ?_)))
  refine wpAny_bind (wpAny_bind (m := setEntries a) (wpAny_bind (state_of ha hf (wpAny_pure (wpAny_pure ?_)))))
  refine wpAny_bind (m := setDrawn a) (wpAny_bind (state_of ha hf ?_))
  dsimp only
  refine wpAny_bind (byText_rule (wpAny_pure ?_))
  show wpAny _ _ (if (!(w.params.followText "set-order") && (!t.plain && decide (es.size > 1))) = true then _ else _) _ _ _
  cases hb : (!(w.params.followText "set-order") && (!t.plain && decide (es.size > 1))) with
  | false =>
    rw [if_neg (by decide)]
    refine wpAny_bind (wpAny_pure (wpAny_bind (m := setEpoch a) (wpAny_bind (state_of ha hf (wpAny_pure ?_)))))
    refine wpAny_bind (m := newFields _ _) (wpAny_newObj_type ?_ (by size_fits))
    exact wpAny_pure ⟨_, rfl, "set_iterator", _, ⟨_, Heap.get?_push_size _ rfl, rfl⟩, slot_setit_next.lookup, h1 hb⟩
  | true =>
    rw [if_pos rfl]
    refine wpAny_bind (drawOrder_rule es.size (List.range es.size) (by simp) fun ps d hp => ?_)
    refine wpAny_bind (m := newTuple _) (wpAny_newObj_type ?_ (by show (ps.map fun i : Nat => rawInt i).toArray.size ≤ _; rw [List.size_toArray, List.length_map, hp.length_eq, List.length_range]; exact hz))
    refine wpAny_bind (m := setEpoch a) (wpAny_bind (state_of (s := { s with heap := s.heap.push { cls := .type "tuple", data := .seq (ps.map fun q : Nat => rawInt q).toArray }, drawn := d }) (Heap.get?_push_of_some _ ha) hf (wpAny_pure ?_)))
    refine wpAny_bind (m := newFields _ _) (wpAny_newObj_type ?_ (by size_fits))
    have hsz : (s.heap.push { cls := .type "tuple", data := .seq (ps.map fun q : Nat => rawInt q).toArray }).objs.size = s.heap.objs.size + 1 := Heap.size_push ..
    have hq := h2 hb ps d hp
    rw [← hsz] at hq
    exact wpAny_pure ⟨_, rfl, "set_iterator", _, ⟨_, Heap.get?_push_size _ rfl, rfl⟩, slot_setit_next.lookup, hq⟩
end
-- part PS6
section
variable {prog : Program} {w : World} {K : Type} [DecidableEq K] (knd : KeyKind prog w K)
/-- values, by their keys -/
inductive KeyL : List Value → List K → Prop
  | nil : KeyL [] []
  | cons {k : K} {v : Value} {vs : List Value} {l : List K} : knd.is k v = true → v.scannable = true → KeyL vs l → KeyL (v :: vs) (k :: l)
variable {knd}
theorem ElK.keyL {es : List (Int × Value)} {l : List K} (h : ElK knd es l) : KeyL knd (es.map (·.2)) l := by
  induction h with
  | nil => exact .nil
  | cons a b _ ih => exact .cons a b ih
theorem KeyL.perm {vs vs' : List Value} (p : vs'.Perm vs) : ∀ {l : List K}, KeyL knd vs l → ∃ l', l'.Perm l ∧ KeyL knd vs' l' := by
  induction p with
  | nil => intro l h; exact ⟨l, .refl _, h⟩
  | cons x _ ih =>
    intro l h
    cases h with
    | cons h1 h2 h3 =>
      obtain ⟨l', p', h'⟩ := ih h3
      exact ⟨_, p'.cons _, .cons h1 h2 h'⟩
  | swap x y l₀ =>
    intro l h
    cases h with
    | cons h1 h2 h3 =>
      cases h3 with
      | cons h4 h5 h6 => exact ⟨_, .swap _ _ _, .cons h4 h5 (.cons h1 h2 h6)⟩
  | trans _ _ ih1 ih2 =>
    intro l h
    obtain ⟨l1, p1, h1⟩ := ih2 h
    obtain ⟨l2, p2, h2⟩ := ih1 h1
    exact ⟨l2, p2.trans p1, h2⟩
theorem KeyL.length {vs : List Value} {l : List K} (h : KeyL knd vs l) : vs.length = l.length := by
  induction h with
  | nil => rfl
  | cons _ _ _ ih => simp [ih]

theorem rise_small {t : SetTable} {n : Nat} (hg : TG t) (hf : t.fits n = true) (hd : (!t.plain && decide (n > 1)) = false) : Rise t.place := by
  have hfit : t.place.size = n := by
    have := hf
    unfold SetTable.fits at this
    simp only [Bool.and_eq_true, beq_iff_eq] at this
    exact this.1
  by_cases hp : t.plain = true
  · exact hg hp
  · have : t.plain = false := by simpa using hp
    rw [this] at hd
    have hn : n ≤ 1 := by simpa using hd
    unfold Rise
    have hl : t.place.toList.length ≤ 1 := by rw [Array.length_toList]; omega
    match h : t.place.toList, hl with
    | [], _ => exact .nil
    | [_], _ => exact List.pairwise_singleton _ _

theorem slot_setit_iter : PySem.Slot "set_iterator" "__iter__" "set_iterator.__iter__" :=
  .of (owner := "set_iterator") (n := "__iter__") (by rw [typeLookup_type, builtinLookup_eq_fast]; kernel_rfl) (by decide +kernel) (by decide +kernel) (by decide +kernel)
    (by first | exact .inl (by decide +kernel) | exact .inr (by decide +kernel)) (by rw [isSubtype_type]; kernel_rfl)
theorem entry_setit_iter : entryFor table "set_iterator.__iter__" = some Builtin.«dict_keyiterator.__iter__» :=
  entryFor_alias (id' := "dict_keyiterator.__iter__") (by kernel_rfl) rfl (by decide +kernel) (by kernel_rfl)
theorem args_setit_iter (a : Value) : argsOk "set_iterator.__iter__" ⟨[a], []⟩ := by unfold argsOk; kernel_rfl
theorem setit_self {A : Around} {E : Value → Shared → Prop} {s : Shared} {I : Addr} {o : Obj} {Q : Value → Shared → Prop} (ho : s.heap.get? I = some o) (hc : o.cls = .type "set_iterator") (h : Q (.ref I) s) : wpAny (model prog w) A (pyIter (.ref I)) Q E s := by
  have hT : s.TypeIs (.ref I) "set_iterator" := ⟨_, ho, hc⟩
  refine wpAny_pyIter_slot hT slot_setit_iter (wpAny_call_entry slot_setit_iter hT entry_setit_iter ?_ (args_setit_iter _))
  show wpAny _ _ (ret (.ref I)) _ _ s
  exact wpAny_pure ⟨_, rfl, "set_iterator", _, hT, slot_setit_next.lookup, h⟩

theorem walk_text {I a : Addr} (hne : a ≠ I) {es : Array (Int × Value)} {ep : Nat} {t : SetTable} (hf : t.fits es.size = true) (hb : w.params.followText "set-order" = true) (A : Around) (hh : A.handled = none) :
    Walks prog w A I [I, a] [I] es.size (fun i v => ((pickOrder (w.params.setOrder a ep) es).toList.map (·.2))[i]? = some v) (fun i h => h.get? I = some (setIt (.int 0 0) i a es.size ep) ∧ h.get? a = some (setObj es ep t)) where
  sub := fun b hb => by simp at hb; simp [hb]
  frame := fun _ _ _ st hk => ⟨hk I (by simp) _ st.1, hk a (by simp) _ st.2⟩
  item := fun i s Q E hi st hQ => by
    have hsz : (pickOrder (w.params.setOrder a ep) es).toList.length = es.size := by rw [(pickOrder_perm _ es).length_eq, Array.length_toList]
    have he : (pickOrder (w.params.setOrder a ep) es).toList[i]? = some ((pickOrder (w.params.setOrder a ep) es).toList[i]'(by omega)) := List.getElem?_eq_getElem (by omega)
    generalize (pickOrder (w.params.setOrder a ep) es).toList[i]'(by omega) = e at he
    refine setit_item (slot := 0) (nx := 0) (x := e.2) st.1 st.2 hf rfl (fun Q' E' A' h => next_text hb st.2 hf (by rw [← Array.getElem?_toList, he]; exact h)) fun h' o b => hQ _ h' s.toks (by rw [List.getElem?_map, he]; rfl) ⟨o, b.extBut a _ hne st.2⟩ fun c o' hc e' => b.extBut c o' (fun q => hc (by simp [q])) e'
  done := fun s Q E st hQ => by
    have hsz : (pickOrder (w.params.setOrder a ep) es).toList.length = es.size := by rw [(pickOrder_perm _ es).length_eq, Array.length_toList]
    refine setit_end (slot := 0) hh st.1 st.2 hf rfl (fun Q' E' A' h => next_text hb st.2 hf (by rw [← Array.getElem?_toList, List.getElem?_eq_none (by omega)]; exact h)) fun h' b => hQ h' s.toks fun c o' hc e' => b c o' (fun q => hc (by simp [q])) e'
  self := fun i s Q E st hQ => setit_self st.1 rfl hQ

theorem fits_place {t : SetTable} {n : Nat} (hf : t.fits n = true) : t.place.size = n := by
  unfold SetTable.fits at hf
  simp only [Bool.and_eq_true, beq_iff_eq] at hf
  exact hf.1
noncomputable def slotAt (t : SetTable) : Nat → Nat
  | 0 => 0
  | i + 1 => t.place.getD i 0 + 1
theorem below_slotAt {t : SetTable} (h : Rise t.place) {i : Nat} (hi : i ≤ t.place.size) : SetTable.below t.place (slotAt t i) = i := by
  cases i with
  | zero => exact below_zero h
  | succ i => exact below_next h hi
theorem walk_plain {I a : Addr} (hne : a ≠ I) {es : Array (Int × Value)} {ep : Nat} {t : SetTable} (hf : t.fits es.size = true) (hb : w.params.followText "set-order" = false) (hd : (!t.plain && decide (es.size > 1)) = false) (hl : t.led = true) (hr : Rise t.place) (A : Around) (hh : A.handled = none) :
    Walks prog w A I [I, a] [I] es.size (fun i v => (es.toList.map (·.2))[i]? = some v) (fun i h => h.get? I = some (setIt (.int (slotAt t i : Nat) 0) i a es.size ep) ∧ h.get? a = some (setObj es ep t)) where
  sub := fun b hb => by simp at hb; simp [hb]
  frame := fun _ _ _ st hk => ⟨hk I (by simp) _ st.1, hk a (by simp) _ st.2⟩
  item := fun i s Q E hi st hQ => by
    have hp := fits_place hf
    have hbl := below_slotAt hr (i := i) (by omega)
    refine setit_item (slot := slotAt t i) (nx := slotAt t (i + 1)) (x := es[i].2) st.1 st.2 hf rfl (fun Q' E' A' h => next_open hb hd hl st.2 hf (fun e j h1 h2 => ?_) fun h1 => ?_) fun h' o b => hQ _ h' s.toks (by simp [hi]) ⟨o, b.extBut a _ hne st.2⟩ fun c o' hc e' => b.extBut c o' (fun q => hc (by simp [q])) e'
    · rw [hbl] at h1 h2
      rw [Array.getElem?_eq_getElem hi] at h1
      (first | obtain ⟨_, rfl⟩ := h1.atom | exact (nsE h1).elim | exact (snE h1).elim | exact (ftE h1).elim | cases h1)
      have : t.place.getD i 0 = j := by
        rw [Array.getElem?_eq_getElem (by omega)] at h2
        (first | obtain ⟨_, rfl⟩ := h2.atom | exact (nsE h2).elim | exact (snE h2).elim | exact (ftE h2).elim | cases h2)
        simp [Array.getD, show i < t.place.size by omega]
      rw [← this]; exact h
    · rw [hbl, Array.getElem?_eq_getElem hi] at h1; (first | obtain ⟨_, rfl⟩ := h1.atom | exact (nsE h1).elim | exact (snE h1).elim | exact (ftE h1).elim | cases h1)
  done := fun s Q E st hQ => by
    have hp := fits_place hf
    have hbl := below_slotAt hr (i := es.size) (by omega)
    refine setit_end (slot := slotAt t es.size) hh st.1 st.2 hf rfl (fun Q' E' A' h => next_open hb hd hl st.2 hf (fun e j h1 h2 => ?_) fun h1 => h) fun h' b => hQ h' s.toks fun c o' hc e' => b c o' (fun q => hc (by simp [q])) e'
    rw [hbl, Array.getElem?_eq_none (Nat.le_refl _)] at h1; (first | obtain ⟨_, rfl⟩ := h1.atom | exact (nsE h1).elim | exact (snE h1).elim | exact (ftE h1).elim | cases h1)
  self := fun i s Q E st hQ => setit_self st.1 rfl hQ
theorem walk_drawn {I a T : Addr} (hne : a ≠ I) (hT : T ≠ I) {es : Array (Int × Value)} {ep : Nat} {t : SetTable} {ps : List Nat} (hf : t.fits es.size = true) (hps : ps.Perm (List.range es.size)) (A : Around) (hh : A.handled = none) :
    Walks prog w A I [I, a, T] [I] es.size (fun i v => (ps.filterMap fun p => (es[p]?).map (·.2))[i]? = some v) (fun i h => h.get? I = some (setIt (.ref T) i a es.size ep) ∧ h.get? a = some (setObj es ep t) ∧ h.get? T = some { cls := .type "tuple", data := .seq (ps.map fun q : Nat => rawInt q).toArray }) where
  sub := fun b hb => by simp at hb; simp [hb]
  frame := fun _ _ _ st hk => ⟨hk I (by simp) _ st.1, hk a (by simp) _ st.2.1, hk T (by simp) _ st.2.2⟩
  item := fun i s Q E hi st hQ => by
    have hl : ps.length = es.size := by rw [hps.length_eq, List.length_range]
    have hp : ps[i]? = some (ps[i]'(by omega)) := List.getElem?_eq_getElem (by omega)
    have hm : ps[i]'(by omega) < es.size := List.mem_range.mp (hps.mem_iff.mp (List.getElem_mem (by omega)))
    generalize ps[i]'(by omega) = p at hp hm
    have hmap : (ps.filterMap fun p => (es[p]?).map (·.2)) = ps.map fun p => (es.getD p (0, .none)).2 := by
      have : ∀ l : List Nat, (∀ q ∈ l, q < es.size) → (l.filterMap fun p => (es[p]?).map (·.2)) = l.map fun p => (es.getD p (0, .none)).2 := fun l => by
        induction l with
        | nil => intro _; rfl
        | cons q l ih =>
          intro hq
          have := hq q (.head _)
          rw [List.filterMap_cons, Array.getElem?_eq_getElem this, List.map_cons, ih fun x hx => hq x (.tail _ hx)]
          simp [Array.getD, this]
      exact this ps fun q hq => List.mem_range.mp (hps.mem_iff.mp hq)
    refine setit_itemD (e := es[p]) st.1 st.2.1 hf rfl st.2.2 hp (Array.getElem?_eq_getElem hm) fun h' o b => hQ _ h' s.toks ?_ ⟨o, b.extBut a _ hne st.2.1, b.extBut T _ hT st.2.2⟩ fun c o' hc e' => b.extBut c o' (fun q => hc (by simp [q])) e'
    rw [hmap, List.getElem?_map, hp]
    simp [Array.getD, hm]
  done := fun s Q E st hQ => by
    have hl : ps.length = es.size := by rw [hps.length_eq, List.length_range]
    refine setit_endD hh st.1 st.2.1 hf rfl st.2.2 (by rw [List.getElem?_eq_none (by omega)]) fun h' b => hQ h' s.toks fun c o' hc e' => b c o' (fun q => hc (by simp [q])) e'
  self := fun i s Q E st hQ => setit_self st.1 rfl hQ

/-- iterating over a set: all its keys, in some order -/
theorem iter_set {A : Around} {E : Value → Shared → Prop} {s : Shared} {a : Addr} {l : List K} {Q : Value → Shared → Prop} (hS : SetG knd s.heap a l)
    (k : ∀ I fp St h' d vs ls, (∀ b o, s.heap.get? b = some o → h'.get? b = some o) → s.heap.get? I = none → (∀ b ∈ fp, b = a ∨ s.heap.get? b = none) → KeyL knd vs ls → ls.Perm l → (∀ A' : Around, A'.handled = none → Walks prog w A' I fp [I] l.length (fun i v => vs[i]? = some v) St) → St 0 h' → (h'.get? I).isSome = true →
      Q (.ref I) { s with heap := h', drawn := d }) : wpAny (model prog w) A (pyIter (.ref a)) Q E s := by
  obtain ⟨es, ep, t, l', ho, hf, hg, hled, hel, hp, hn, hb⟩ := hS
  have hlen : es.size = l.length := by rw [← Array.length_toList, hel.length, hp.length_eq]
  rw [← hlen] at k
  have hne : a ≠ s.heap.objs.size := Nat.ne_of_lt (Heap.lt_size ho)
  have hsz : sizeLine = 16777216 := by decide
  have hsc := scan4
  have hn1 : s.heap.get? s.heap.objs.size = none := get_size _ (Nat.le_refl _)
  refine iter_open ho hf (by omega) (fun hb1 => ?_) fun hb1 ps d hps => ?_
  · cases hbt : w.params.followText "set-order" with
    | true =>
      obtain ⟨ls, p2, hk⟩ := KeyL.perm ((pickOrder_perm (w.params.setOrder a ep) es).map (·.2)) hel.keyL
      refine k s.heap.objs.size [s.heap.objs.size, a] _ _ s.drawn _ ls (fun b o e => Heap.get?_push_of_some _ e) hn1 (fun b hb => ?_) hk (p2.trans hp) (fun A' hh => walk_text hne hf hbt A' hh) ⟨Heap.get?_push_size _ rfl, Heap.get?_push_of_some _ ho⟩ (by rw [Heap.get?_push_size _ rfl]; rfl)
      rcases List.mem_cons.mp hb with e | e
      · exact .inr (e ▸ hn1)
      · exact .inl (List.mem_singleton.mp e)
    | false =>
      rw [hbt] at hb1 hled
      have hd : (!t.plain && decide (es.size > 1)) = false := by simpa using hb1
      have hl : t.led = true := hled.elim id fun q => by (first | obtain ⟨_, rfl⟩ := q.atom | exact (nsE q).elim | exact (snE q).elim | exact (ftE q).elim | cases q)
      refine k s.heap.objs.size [s.heap.objs.size, a] _ _ s.drawn _ l' (fun b o e => Heap.get?_push_of_some _ e) hn1 (fun b hb => ?_) hel.keyL hp (fun A' hh => walk_plain hne hf hbt hd hl (rise_small hg hf hd) A' hh) ⟨Heap.get?_push_size _ rfl, Heap.get?_push_of_some _ ho⟩ (by rw [Heap.get?_push_size _ rfl]; rfl)
      rcases List.mem_cons.mp hb with e | e
      · exact .inr (e ▸ hn1)
      · exact .inl (List.mem_singleton.mp e)
  · have hn2 : s.heap.get? (s.heap.objs.size + 1) = none := get_size _ (Nat.le_succ _)
    have hpv : (ps.filterMap fun p => (es[p]?).map (·.2)).Perm (es.toList.map (·.2)) := by
      have h1 := hps.filterMap fun p => (es[p]?).map (·.2)
      refine h1.trans ?_
      have h2 := filterMap_getElem?_range es
      rw [← h2, List.map_filterMap]
    obtain ⟨ls, p2, hk⟩ := KeyL.perm hpv hel.keyL
    have hsz1 : (s.heap.push { cls := .type "tuple", data := .seq (ps.map fun q : Nat => rawInt q).toArray }).objs.size = s.heap.objs.size + 1 := Heap.size_push ..
    have hI : ((s.heap.push { cls := .type "tuple", data := .seq (ps.map fun q : Nat => rawInt q).toArray }).push (setIt (.ref s.heap.objs.size) 0 a es.size ep)).get? (s.heap.objs.size + 1) = some (setIt (.ref s.heap.objs.size) 0 a es.size ep) := by
      rw [← hsz1]; exact Heap.get?_push_size _ rfl
    refine k (s.heap.objs.size + 1) [s.heap.objs.size + 1, a, s.heap.objs.size] _ _ d _ ls (fun b o e => Heap.get?_push_of_some _ (Heap.get?_push_of_some _ e)) hn2 (fun b hb => ?_) hk (p2.trans hp) (fun A' hh => walk_drawn (Nat.ne_of_lt (Nat.lt_succ_of_lt (Heap.lt_size ho))) (Nat.ne_of_lt (Nat.lt_succ_self _)) hf hps A' hh)
      ⟨hI, Heap.get?_push_of_some _ (Heap.get?_push_of_some _ ho), Heap.get?_push_of_some _ (Heap.get?_push_size _ rfl)⟩ (by rw [hI]; rfl)
    rcases List.mem_cons.mp hb with e | e
    · exact .inr (e ▸ hn2)
    · rcases List.mem_cons.mp e with e | e
      · exact .inl e
      · exact .inr (by rw [List.mem_singleton.mp e]; exact hn1)
end
-- part PS7
section
variable {prog : Program} {w : World} {K : Type} [DecidableEq K] {knd : KeyKind prog w K} {A : Around} {E : Value → Shared → Prop} {s : Shared}
theorem hint_set {a : Addr} {Q : Bool → Shared → Prop} (hT : s.TypeIs (.ref a) "set") (h : Q false s) : wpAny (model prog w) A (Builtin.List.listLengthHint (.ref a)) Q E s := by
  unfold Builtin.List.listLengthHint
  refine wpAny_bind (wpAny_specialOf hT PySem.F.slot_set_len.lookup ?_)
  generalize hid : ("set.__len__" : String) = id0
  wp_delta
  rw [show splitId id0 = some ("set", "__len__") from by subst hid; decide +kernel]
  subst hid
  refine wpAny_bind (wpAny_isInstance (T := "set") (b := true) hT (by rw [isSubtype_type]; kernel_rfl) ?_)
  refine wpAny_ite_split (fun hab => absurd hab (by decide)) (fun _ => ?_)
  refine wpAny_ite_split (fun _ => ?_) (fun hab => absurd (by decide +kernel) hab)
  refine wpAny_bind (wpAny_typeOf hT ?_)
  exact wpAny_pure h

theorem SetG.keep {h h' : Heap} {a : Addr} {l : List K} (x : SetG knd h a l) (k : ∀ o, h.get? a = some o → h'.get? a = some o) : SetG knd h' a l := let ⟨es, ep, t, l', ho, r⟩ := x; ⟨es, ep, t, l', k _ ho, r⟩

theorem extend_set {R : Result → Shared → Prop} {a S : Addr} {l : List K} {res : Value} {c₀ : Nat} (hh : A.handled = none) (hG : SetG knd s.heap a l) (hSa : S ≠ a) (hS : s.heap.get? S = some { cls := .type "list", data := .seq #[] c₀ })
    (hR : ∀ h' tk d vs ls c', (∀ b o, b ≠ S → s.heap.get? b = some o → h'.get? b = some o) → h'.get? S = some { cls := .type "list", data := .seq vs.toArray c' } → KeyL knd vs ls → ls.Perm l → R (.ok (.ret res)) { s with heap := h', toks := tk, drawn := d }) :
    wpAny (model prog w) A.in1 (Builtin.List.listExtendWith (.ref S) (.ref a) res)
      (fun fin s' => match fin with | .done f => R (.ok f) s' | .again c' => c'.quiet = true ∧ codeAny (model prog w) A c' R s') (fun e s' => R (.error e) s') s := by
  have hTy : s.TypeIs (.ref a) "set" := let ⟨es, ep, t, l', ho, _⟩ := hG; ⟨_, ho, rfl⟩
  have hlb : l.length ≤ sizeLine := by
    obtain ⟨_, _, _, _, _, _, _, _, _, _, _, hb⟩ := hG
    have := scan4
    have : sizeLine = 16777216 := by decide
    omega
  unfold Builtin.List.listExtendWith
  refine wpAny_bind (wpAny_typeOf (T := "set") hTy ?_)
  have h1 : Builtin.List.listSameRef (.ref S) (.ref a) = false := by simp [Builtin.List.listSameRef, hSa]
  simp only [h1, show (Value.type "set" == Value.type "list") = false by decide, show (Value.type "set" == Value.type "tuple") = false by decide, Bool.or_false, Bool.false_eq_true, if_false]
  refine wpAny_bind (iter_set hG fun I fp St h1 d vs ls hk hI hfp hkl hp hW hst hIl => ?_)
  have hS1 := hk _ _ hS
  have hSfp : S ∉ fp := fun m => (hfp S m).elim (fun e => hSa e) fun e => by rw [hS] at e; (first | obtain ⟨_, rfl⟩ := e.atom | exact (nsE e).elim | exact (snE e).elim | exact (ftE e).elim | cases e)
  have W := hW A.in1 hh
  have key : ∀ (h : Heap) (c₁ : Nat), St 0 h → (∀ b o, b ≠ S → s.heap.get? b = some o → h.get? b = some o) → h.get? S = some { cls := .type "list", data := .seq #[] c₁ } →
      codeAny (model prog w) A (.builtin "list.extend.loop" ⟨[.ref S, .ref I, res], []⟩) R { s with heap := h, drawn := d } := fun h c₁ hst hk' hS₁ => by
    refine codeAny_extend_loopS W.toS hlb S hSfp res l.length 0 _ #[] c₁ rfl (Nat.zero_le _) hst hS₁ (ItemsOf.nil _) fun s' acc' c' hm hS' hacc => ?_
    rw [Moved.eq_with hm]
    have hvl : vs.length = l.length := by rw [hkl.length, hp.length_eq]
    have hacc2 : acc'.toList = vs := by
      apply List.ext_getElem?
      intro j
      rw [Array.getElem?_toList]
      rcases Nat.lt_or_ge j acc'.size with q | q
      · rw [Array.getElem?_eq_getElem q]
        exact (hacc.2 j _ (Array.getElem?_eq_getElem q)).symm
      · rw [Array.getElem?_eq_none q, List.getElem?_eq_none (by rw [hvl, ← hacc.1]; exact q)]
    refine hR s'.heap s'.toks d vs ls c' (fun b o hb e => hm.heap b o (fun hmem => ?_) (hk' b o hb e)) ?_ hkl hp
    · rcases List.mem_cons.mp hmem with e' | hmem
      · exact hb e'
      · rw [List.mem_singleton.mp hmem, hI] at e; (first | obtain ⟨_, rfl⟩ := e.atom | exact (nsE e).elim | exact (snE e).elim | exact (ftE e).elim | cases e)
    · rw [hS', ← hacc2]
  refine wpAny_bind (wpAny_holding (hint_set (s := { s with heap := h1, drawn := d }) (let ⟨es, ep, t, l', ho, _⟩ := hG; ⟨_, hk _ _ ho, rfl⟩) ?_))
  refine wpAny_ite_split (fun _ => ?_) (fun _ => wpAny_pure ⟨plainId_quiet PySem.F.plain_extend_loop _, key _ c₀ hst (fun b o _ e => hk b o e) hS1⟩)
  refine wpAny_bind (wpAny_rule ?_)
  refine wpAny_bind ?_
  show wpAny _ _ (updateSeq S (·.push .none) >>= fun _ => updateSeq S (·.pop)) _ _ _
  refine wpAny_bind (wpAny_updateSeq hS1 rfl ?_)
  have hS₂ := Heap.get?_update_self (Obj.mapSeq (·.push Value.none)) hS1 rfl
  refine wpAny_updateSeq (hz := by seq_fits) hS₂ rfl ?_
  have hS₃ := Heap.get?_update_self (Obj.mapSeq (·.pop)) hS₂ rfl
  have oth : ∀ b o, b ≠ S → h1.get? b = some o → ((h1.update S (Obj.mapSeq (·.push Value.none))).update S (Obj.mapSeq (·.pop))).get? b = some o := fun b o hb e =>
    (Heap.get?_update_other _ _ (Ne.symm hb)).trans ((Heap.get?_update_other _ _ (Ne.symm hb)).trans e)
  exact wpAny_pure ⟨plainId_quiet PySem.F.plain_extend_loop _, key _ _ (W.frame 0 _ _ hst fun b hb o e => oth b o (fun q => hSfp (q ▸ hb)) e) (fun b o hb e => oth b o hb (hk b o e)) hS₃⟩

theorem collect_set {a : Addr} {l : List K} {R : List Value → Shared → Prop} (hh : A.handled = none) (hG : SetG knd s.heap a l)
    (h : ∀ h' tk d vs ls, (∀ b o, s.heap.get? b = some o → h'.get? b = some o) → KeyL knd vs ls → ls.Perm l → R vs { s with heap := h', toks := tk, drawn := d }) : wpAny (model prog w) A (collect (.ref a)) R E s := by
  have ha : a < s.heap.objs.size := let ⟨es, ep, t, l', ho, _⟩ := hG; Heap.lt_size ho
  unfold collect
  refine wpAny_bind (wpAny_runValue (codeAny_builtin entry_proto_collect' ?_))
  rw [Around.under_plainId PySem.F.plain_proto_collect _]
  show wpAny _ A.in1 (newList [] >>= fun l => again (.builtin "list.__iadd__" ⟨[l, .ref a], []⟩)) _ _ s
  refine wpAny_bind (wpAny_newObj_type ?_)
  refine wpAny_pure ⟨plainId_quiet PySem.F.plain_list_iadd _, codeAny_builtin entry_list_iadd' ?_⟩
  rw [Around.under_plainId PySem.F.plain_list_iadd _]
  have hS₁ : (s.heap.push { cls := .type "list", data := .seq ([] : List Value).toArray }).get? s.heap.objs.size = some { cls := .type "list", data := .seq #[] } := Heap.get?_push_size _ rfl
  show wpAny _ A.in1 (Builtin.List.listExtendWith (.ref s.heap.objs.size) (.ref a) (.ref s.heap.objs.size)) _ _ _
  have key := extend_set (A := A) (s := { s with heap := s.heap.push { cls := .type "list", data := .seq ([] : List Value).toArray } })
    (R := fun (q : Result) (s' : Shared) => ∃ h' tk d vs ls c', q = .ok (.ret (.ref s.heap.objs.size)) ∧ s' = { s with heap := h', toks := tk, drawn := d } ∧ (∀ b o, s.heap.get? b = some o → h'.get? b = some o) ∧
      h'.get? s.heap.objs.size = some { cls := .type "list", data := .seq vs.toArray c' } ∧ KeyL knd vs ls ∧ ls.Perm l)
    (res := .ref s.heap.objs.size) hh (hG.keep fun o e => Heap.get?_push_of_some _ e) (Nat.ne_of_gt ha) hS₁
    (fun h' tk d vs ls c' hk hS' hkl hp => ⟨h', tk, d, vs, ls, c', rfl, rfl, fun b o e => hk b o (Nat.ne_of_lt (Heap.lt_size e)) (Heap.get?_push_of_some _ e), hS', hkl, hp⟩)
  refine wpAny_mono key (fun fin s' x => ?_) fun e s' x => ?_
  · cases fin with
    | done f =>
      obtain ⟨h', tk, d, vs, ls, c', e, rfl, hk, hS', hkl, hp⟩ := x
      (first | obtain ⟨_, rfl⟩ := e.atom | exact (nsE e).elim | exact (snE e).elim | exact (ftE e).elim | cases e)
      show wpAny _ A (load s.heap.objs.size >>= _) _ _ _
      refine wpAny_bind (wpAny_load hS' ?_)
      exact wpAny_pure (h h' tk d vs ls hk hkl hp)
    | again c₁ =>
      refine ⟨x.1, codeAny_mono x.2 fun q s₂ y => ?_⟩
      obtain ⟨h', tk, d, vs, ls, c', rfl, rfl, hk, hS', hkl, hp⟩ := y
      show wpAny _ A (load s.heap.objs.size >>= _) _ _ _
      refine wpAny_bind (wpAny_load hS' ?_)
      exact wpAny_pure (h h' tk d vs ls hk hkl hp)
  · obtain ⟨_, _, _, _, _, _, e', _⟩ := x
    (first | obtain ⟨_, rfl⟩ := e'.atom | exact (nsE e').elim | exact (snE e').elim | exact (ftE e').elim | cases e')

theorem KeyL.ints {vs : List Value} {ls : List Int} (h : KeyL (intKind prog w) vs ls) : IntsAre vs ls := by
  induction h with
  | nil => exact .nil
  | cons a _ _ ih =>
    obtain ⟨t, rfl⟩ := Value.isInt_shape a
    exact .cons _ _ ih

theorem sorted_set {a : Addr} {l : List Int} {Q : Value → Shared → Prop} (hh : A.handled = none) (hG : SetG (intKind prog w) s.heap a l) (h64 : l.length < 64)
    (h : ∀ h' tk d S vs ns, (∀ b o, s.heap.get? b = some o → h'.get? b = some o) → s.heap.get? S = none → h'.PlainList S vs.toArray → IntsAre vs ns → ns.Perm l → ns.Pairwise (· ≤ ·) → Q (.ref S) { s with heap := h', toks := tk, drawn := d }) :
    wpAny (model prog w) A (call (.builtin "sorted") [.ref a]) Q E s := by
  refine Calls.call_function_entry kind_sorted plain_sorted entry_sorted (args_sorted1 _) ?_
  unfold Builtin.«sorted»
  refine wpAny_bind (m := checkCount "sorted" 1 1 _) (wpAny_pure ?_)
  refine wpAny_bind (collect_set (A := A.in1) hh hG fun h1 tk d vs ls hk hkl hp => ?_)
  have hlen : vs.length = l.length := by rw [hkl.length, hp.length_eq]
  have hsz : sizeLine = 16777216 := by decide
  refine wpAny_bind (wpAny_newList ?_ (by omega))
  have hoL : (h1.push (seqObj "list" vs.toArray 0)).get? h1.objs.size = some (seqObj "list" vs.toArray 0) := Heap.get?_push_size _ rfl
  refine wpAny_bind (wpAny_holding (wpAny_call_entry slot_list_sort ⟨_, hoL, rfl⟩ entry_list_sort (list_sort_tree (s := { s with heap := h1.push (seqObj "list" vs.toArray 0), toks := tk, drawn := d }) hoL hkl.ints (by omega) fun out ns' a1 a2 a3 => ⟨_, rfl, ?_⟩) (args_list_sort _)))
  obtain ⟨e, he⟩ := sortedHeap_at (out := out) hoL
  refine wpAny_pure ⟨_, rfl, h _ tk d h1.objs.size out.toList ns' (fun b o q => ?_) ?_ ⟨e, by simpa using he⟩ a1 (a2.trans hp) a3⟩
  · have hb := Heap.lt_size (hk b o q)
    show (sortedHeap (h1.push (seqObj "list" vs.toArray 0)) h1.objs.size vs out).get? b = some o
    rw [sortedHeap_old (Nat.ne_of_lt hb) (by rw [Heap.size_push]; exact Nat.lt_succ_of_lt hb)]
    exact Heap.get?_push_of_some _ (hk b o q)
  · cases q : s.heap.get? h1.objs.size with
    | none => rfl
    | some o => exact absurd (Heap.lt_size (hk _ _ q)) (Nat.lt_irrefl _)
end
-- part PL29
section
variable {Γ : Ctx}
theorem spliced_argsP {s : Shared} {p q : Pos} {f : Value} {es : List Expr} {P : List Value → Heap → Prop} {Q : Value → Shared → Prop} (C : Γ.At s.heap) (hc : Callable Γ.K f) (h : Tr Γ (spliced (backTo q (starEach es Γ.env))) P s) (hp : es.all plainE = true)
    (k : ∀ vs s₁, Kp s s₁ → P vs s₁.heap → wpAny (model Γ.prog Γ.w) Γ.A (call f vs) Q (fun _ _ => False) s₁) :
    wpAny (model Γ.prog Γ.w) Γ.A (callWith p f [] (backTo q (starEach es Γ.env)) []) Q (fun _ _ => False) s :=
  callWith_of (P := fun h => Γ.K.In h) (by rw [backTo_plain, any_plain hp]; rfl) (fun h X => keeper_of hc h X)
    (evalArgs_any (by rw [backTo_plain, any_plain hp]) (h.then' fun vs s₁ k₁ r₁ => ⟨(C.go k₁).wd.glh.inn, k vs s₁ k₁ r₁⟩))
/-- set(x), of ints -/
theorem tr_set {x : Expr} {p2 p3 : Pos} {ns : List Int} (h2 : Ev Γ (.Name "set" p2) (.raw (.type "set"))) (hx : Ev Γ x (.list (ns.map .int))) (hz : ns.length < 64) (he : plainE x = true) (s : Shared) (C : Γ.At s.heap) :
    Tr Γ (eval (.Call (.Name "set" p2) [x] [] p3) Γ.env) (fun v h => ∃ a, v = .ref a ∧ SetG (intKind Γ.prog Γ.w) h a (dd ns)) s := by
  refine wpAny_Call_Name_kw ((h2.run s C).then' fun v s₁ k₁ r₁ => ?_)
  (first | obtain ⟨_, rfl⟩ := r₁.atom | exact (nsE r₁).elim | exact (snE r₁).elim | exact (ftE r₁).elim | cases r₁)
  show wpAny _ _ (callWith p3 (.type "set") [] (backTo p3 (starEach [x] Γ.env)) []) _ _ _
  refine spliced_args (C.go k₁) trivial (evs_cons hx evs_nil he) (any_plain (by rw [List.all_cons, he]; rfl)) fun vs s₂ k₂ r₂ => ?_
  obtain ⟨v, rfl, r⟩ := r₂.one
  obtain ⟨l, vs, rfl, _, hl, rs⟩ := r.list_inv
  have hlen := rs.length
  rw [List.length_map] at hlen
  have hsc := scan4
  refine call_setL (knd := intKind Γ.prog Γ.w) (items := vs.toArray) (ks := ns) C.room.1 hl.isList (by simp [hlen]) (fun i v hv => ?_) (by simp; omega) fun h' tk hS hk => ⟨(k₁.trans k₂).trans (Kp.both s₂ h' tk hk), _, rfl, hS⟩
  have hi := rs.ints.int_at i v (by simpa using hv)
  obtain ⟨t, rfl⟩ := hi
  have hlt : i < ns.length := by
    have := (Array.getElem?_eq_some_iff.mp hv).1
    simp at this; omega
  exact ⟨ns.getD i 0, by rw [List.getElem?_eq_getElem hlt]; simp [hlt], intKind_is _ _ _ _, rfl⟩
/-- sorted(set(x)), of ints -/
theorem ev_sortset {x : Expr} {p1 p2 p3 p4 : Pos} {ns out : List Int} (h1 : Ev Γ (.Name "sorted" p1) (.raw (.builtin "sorted"))) (h2 : Ev Γ (.Name "set" p2) (.raw (.type "set"))) (hx : Ev Γ x (.list (ns.map .int))) (hz : ns.length < 64)
    (ho : ∀ ns', ns'.Perm (dd ns) → ns'.Pairwise (· ≤ ·) → ns' = out) (he : plainE x = true := by rfl) : Ev Γ (.Call (.Name "sorted" p1) [.Call (.Name "set" p2) [x] [] p3] [] p4) (.list (out.map .int)) := .mk fun s C => by
  refine wpAny_Call_Name_kw ((h1.run s C).then' fun v s₁ k₁ r₁ => ?_)
  (first | obtain ⟨_, rfl⟩ := r₁.atom | exact (nsE r₁).elim | exact (snE r₁).elim | exact (ftE r₁).elim | cases r₁)
  show wpAny _ _ (callWith p4 (.builtin "sorted") [] (backTo p4 (starEach [.Call (.Name "set" p2) [x] [] p3] Γ.env)) []) _ _ _
  refine spliced_argsP (P := fun vs h => ∃ a, vs = [.ref a] ∧ SetG (intKind Γ.prog Γ.w) h a (dd ns)) (C.go k₁) trivial (wpAny_items_cons ((tr_set h2 hx hz he s₁ (C.go k₁)).then' fun v s₂ k₂ r₂ => wpAny_items_nil ?_) (starEach_plain rfl)) rfl fun vs s₂ k₂ r₂ => ?_
  · obtain ⟨a, rfl, hG⟩ := r₂
    exact ⟨k₂, a, rfl, hG⟩
  · obtain ⟨a, rfl, hG⟩ := r₂
    refine sorted_set C.room.1 hG (Nat.lt_of_le_of_lt (dd_len ns) hz) fun h' tk d S vs ns' hk hn hl hI hp hs => ?_
    have := ho ns' hp hs
    subst this
    refine ⟨(k₁.trans k₂).trans (Kp.all s₂ h' tk d hk), .list (not_held ((C.go k₁).go k₂).wd.held hn) hl (.of_ints hI)⟩

/-- a comparison as a value -/
theorem ev_cmpB {l r : Expr} {op : CmpOp} {p : Pos} {d1 d2 : D} {b : Bool} (h1 : Ev Γ l d1) (h2 : Ev Γ r d2) (ho : Op2 Γ (compareOp op) d1 d2 (.bool b)) (hm : behindInMarks op r = false := by with_unfolding_all rfl) : Ev Γ (.Compare l [op] [r] p) (.bool b) := ev_cmp h1 h2 ho hm
/-- two clauses -/
theorem ev_lc2 {τ σ : Type} {xs : List τ} {inj : τ → D} {ys : τ → List σ} {inj2 : τ → σ → D} {p : τ → σ → Bool} {g : τ → σ → D} {d2 : τ → D} {scope : Scope} {d : D} {iter elt iter2 : Expr} {ifs2 : List Expr} {x y : Str} {px py pos : Pos}
    (hi : Ev Γ iter d) (hit : Iterable d (xs.map inj)) (hsz : (flatOut ys (fun _ _ => true) g xs).length ≤ sizeLine) (hi2 : ∀ t ∈ xs, ∀ Da C own wr, Ev (Γ.cx scope [(x, inj t)] Da C own wr) iter2 (d2 t)) (hit2 : ∀ t ∈ xs, Iterable (d2 t) ((ys t).map (inj2 t)))
    (ht : ∀ t ∈ xs, ∀ u ∈ ys t, ∀ Da C own wr wr2, TestsOk (((Γ.cx scope [(x, inj t)] Da C own wr).plus wr2).setAll [(y, inj2 t u)]) ifs2 (p t u))
    (he : ∀ t ∈ xs, ∀ u ∈ ys t, p t u = true → ∀ Da C own wr wr2, Ev (((Γ.cx scope [(x, inj t)] Da C own wr).plus wr2).setAll [(y, inj2 t u)]) elt (g t u))
    (hxy : x ≠ y := by decide) (hz : scopeB Γ scope [x, y] = true := by rfl) (hs : ∀ x, foldedSetIterable iter Γ.env x = pure x := by intro _; rfl) (hs2 : ∀ env x, foldedSetIterable iter2 env x = pure x := by intro _ _; rfl) :
    EvNL Γ (.ListComp elt [⟨.Name x px, iter, [], 0⟩, ⟨.Name y py, iter2, ifs2, 0⟩] scope pos) (flatOut ys p g xs) := .mk fun s hC =>
  (ev_listcomp2 (bs := fun t => [(x, inj t)]) (bs2 := fun t u => [(y, inj2 t u)]) (tg := [x, y]) hi hit (scopeOk_at hC hz) hsz (fun t _ => .name) (fun t _ b hb => by simp at hb; simp [hb]) hi2 hit2 (fun t _ u _ => .name) (fun t _ u _ b hb => by simp at hb; simp [hb]; exact hxy) ht he hs hs2).run s hC
end
section
variable {K : Frag} {prog : Program} {w : World} {n : Nat}
end
-- part G14
/-- a fact that no heap changes -/
theorem fact_ok (J : Prop) : OwnOk (fun _ _ => J) [] := ⟨fun _ _ _ p _ _ => p, fun _ _ _ p _ _ => p, fun _ _ _ _ h => nomatch h⟩

noncomputable def fcx (w : World) (prog : Program) (A : Around) (n : Nat) (base : Heap) (env : Env) (S : Addr → Prop) (l : List (Str × D)) : Ctx := { K := Kf w, prog := prog, w := w, A := A, n := n, base := base, env := env, S := S, ρ := look l }
/-- what is known of the owned objects, told in other words -/
theorem Fm.reown {L : Lev} {Γ : Ctx} {os : List Addr} {P P' : (Addr → Prop) → Heap → Prop} {s : Shared} (F : Fm L Γ os P s) (ok : OwnOk P' os) (h : P' Γ.S s.heap) : Fm L Γ os P' s := { F with own := h, pok := ok }
theorem ex_cut {Γ Γ' : Ctx} {rest : List Stmt} {Q : Flow → Shared → Prop} {s : Shared} (e1 : Γ'.prog = Γ.prog) (e2 : Γ'.w = Γ.w) (e3 : Γ'.A = Γ.A) (e4 : Γ'.env = Γ.env) (h : Ex Γ' (execs rest Γ'.env) Q s) : Ex Γ (execs rest Γ.env) Q s := by
  obtain ⟨_, _, _, _, _, _, _, _, _⟩ := Γ
  obtain ⟨_, _, _, _, _, _, _, _, _⟩ := Γ'
  dsimp only at e1 e2 e3 e4
  subst e1 e2 e3 e4
  exact .mk h.run
theorem ex_with {L : Lev} {Γ Γ' : Ctx} {os : List Addr} {P : (Addr → Prop) → Heap → Prop} {rest : List Stmt} {Q : Flow → Shared → Prop} {s : Shared} (F : Fm L Γ' os P s) (e1 : Γ'.prog = Γ.prog) (e2 : Γ'.w = Γ.w) (e3 : Γ'.A = Γ.A) (e4 : Γ'.env = Γ.env) (k : Fm L Γ' os P s → Ex Γ' (execs rest Γ'.env) Q s) : Ex Γ (execs rest Γ.env) Q s :=
  ex_cut e1 e2 e3 e4 (k F)
section
variable {Γ : Ctx}
/-- an object's attribute -/
theorem ev_attrI {o : Expr} {nm : Str} {pos : Pos} {C fI : Addr} {ds : List D} (Y : ClsOk Γ.K C fI nm) (ho : Ev Γ o (.inst C nm (.list ds)))
    (he : eval (.Attribute o nm pos) Γ.env = (do
      let x ← eval o Γ.env
      standAt pos.atName
      let r ← holding [x] (getAttr x nm true)
      letTemporaryGo o x r
      pure r) := by with_unfolding_all rfl) : Ev Γ (.Attribute o nm pos) (.list ds) := .mk fun s C => by
  refine Attribute_any_ ((ho.run s C).then' fun v s₁ k₁ r₁ => ?_) he
  obtain ⟨x, dx, hs, t, u, n, rfl, h1, h2, o1, o2, ru⟩ := r₁.inst_inv
  have X1 := (C.go k₁).wd.glh.inn
  obtain ⟨l, vs, rfl, _, _, _⟩ := ru.list_inv
  exact get_value X1 ⟨o1, rfl, rfl, o2⟩ Y.ga (Y.obj _ _ _ _) rfl ⟨k₁.trans (Kp.toks s₁ _), ru⟩
end

/-- compare, as a law -/
noncomputable def cmpK : List (Nat × Int) → List Int → List Int → Int
  | [], _, _ => 0
  | p :: r, L, R => if L.getD p.1 0 < R.getD p.1 0 then -p.2 else if R.getD p.1 0 < L.getD p.1 0 then p.2 else cmpK r L R
noncomputable def dKeys (keys : List (Nat × Int)) : List D := keys.map fun p => .tuple [.int (p.1 : Int), .int p.2]

section
variable {w : World} {prog : Program} {n : Nat}
theorem cls38 : ClsOk (Kf w) 38 28 "comp_select_list" where
  makes := id rfl
  init := id rfl
  fn := id rfl
  set_ := id rfl
  over := id rfl
  taker := id rfl
  dict := id rfl
  ga := id rfl
  gt := id rfl
  obj := fun _ _ _ _ => id rfl

theorem fn_judge {ds : List D} : Fn (Kf w) prog w (n + 2) (.ref 38) [.list ds] (.inst 38 "comp_select_list" (.list ds)) :=
  fn_make (fI := 28) (p0 := "self") (p1 := "comp_select_list") cls38 ok28 rfl (by decide) (by decide) (by decide)

set_option maxHeartbeats 1000000 in
theorem fn_compare {keys : List (Nat × Int)} {X Y : List Int} (hk : ∀ p ∈ keys, p.1 < X.length ∧ p.1 < Y.length) (hX : X.length ≤ 1000) : Fn (Kf w) prog w (n + 1) (.ref 35) [.inst 38 "comp_select_list" (.list (dKeys keys)), .tuple (X.map .int), .tuple (Y.map .int)] (.int (cmpK keys X Y)) :=
  fn_of_body ok35 rfl fun A base S s₀ L s₁ F => by
    let J : Nat → Prop := fun k => cmpK (keys.drop k) X Y = cmpK keys X Y
    have F := F.reown (P' := fun _ _ => J 0) (fact_ok _) rfl
    refine x_for (d := .list (dKeys keys)) (ds := dKeys keys) (fun k => [("left", .tuple (X.map .int)), ("right", .tuple (Y.map .int))]) (fun k _ _ => J k) F (fun k => fact_ok _) ((ev_attrI cls38 (ev_name rfl)).on F.at_) iterable_list ⟨rfl, rfl, trivial⟩ (fun k d' hd => ?_) fun s F => ?_
    · unfold dKeys at hd
      rw [List.getElem?_map] at hd
      cases hx : keys[k]? with
      | none => rw [hx] at hd; (first | obtain ⟨_, rfl⟩ := hd.atom | exact (nsE hd).elim | exact (snE hd).elim | exact (ftE hd).elim | cases hd)
      | some p =>
        rw [hx] at hd; (first | obtain ⟨_, rfl⟩ := hd.atom | exact (nsE hd).elim | exact (snE hd).elim | exact (ftE hd).elim | cases hd)
        refine ⟨_, .t2, rfl, fun L' wr s hW hs₀ F => ?_⟩
        obtain ⟨hp1, hp2⟩ := hk p (List.mem_of_getElem? hx)
        have gX : (X.map D.int)[((p.1 : Int)).toNat]? = some (.int (X.getD p.1 0)) := by simp [hp1]
        have gY : (Y.map D.int)[((p.1 : Int)).toNat]? = some (.int (Y.getD p.1 0)) := by simp [hp2]
        have hdrop : keys.drop k = p :: keys.drop (k + 1) := by
          obtain ⟨hlt, e⟩ := List.getElem?_eq_some_iff.mp hx
          rw [List.drop_eq_getElem_cons hlt, e]
        have hJ : J k := F.own
        have hJ' : (if X.getD p.1 0 < Y.getD p.1 0 then -p.2 else if Y.getD p.1 0 < X.getD p.1 0 then p.2 else cmpK (keys.drop (k + 1)) X Y) = cmpK keys X Y := by
          rw [← hJ, hdrop]; rfl
        refine x_assign F ((ev_sub (ev_name rfl) (ev_name rfl) (sub_tuple (by intro _ _; rfl) (by omega) (by omega) gX)).on F.at_) fun s F => ?_
        refine x_assign F ((ev_sub (ev_name rfl) (ev_name rfl) (sub_tuple (by intro _ _; rfl) (by omega) (by omega) gY)).on F.at_) fun s F => ?_
        refine x_if F ((evT_cmp (ev_name rfl) (ev_name rfl) op_lt).on F.at_) (fun hb s F => ?_) fun hb s F => ?_
        · refine x_ret F ((ev_unop (ev_name rfl) op_neg).on F.at_) fun v s F r => .inr ⟨⟨_, rfl⟩, v, rfl, F.done hW hs₀, ?_⟩
          (first | obtain ⟨_, rfl⟩ := r.atom | exact (nsE r).elim | exact (snE r).elim | exact (ftE r).elim | cases r)
          rw [if_pos (by simpa using hb)] at hJ'
          rw [← hJ']; exact .int _ _
        · refine ex_nil ?_
          rw [if_neg (by simpa using hb)] at hJ'
          refine x_if F ((evT_cmp (ev_name rfl) (ev_name rfl) op_gt).on F.at_) (fun hb s F => ?_) fun hb s F => ?_
          · refine x_ret F ((ev_name rfl).on F.at_) fun v s F r => .inr ⟨⟨_, rfl⟩, v, rfl, F.done hW hs₀, ?_⟩
            (first | obtain ⟨_, rfl⟩ := r.atom | exact (nsE r).elim | exact (snE r).elim | exact (ftE r).elim | cases r)
            rw [if_pos (by simpa using hb)] at hJ'
            rw [← hJ']; exact .int _ _
          · rw [if_neg (by simpa using hb)] at hJ'
            have F := F.reown (P' := fun _ _ => J (k + 1)) (fact_ok _) hJ'
            exact ex_nil (ex_nil (.inl ⟨.inl rfl, F.next rfl ⟨rfl, rfl, trivial⟩⟩))
    · refine x_ret F (ev_int.on F.at_) fun v s F r => ⟨v, rfl, F.done rfl rfl, ?_⟩
      (first | obtain ⟨_, rfl⟩ := r.atom | exact (nsE r).elim | exact (snE r).elim | exact (ftE r).elim | cases r)
      have h : J (dKeys keys).length := F.own
      have : cmpK keys X Y = 0 := by rw [← h]; unfold dKeys; rw [List.length_map, List.drop_length]; rfl
      rw [this]; exact .int _ _
end
-- part M1
/-- the longest beginning of w, no longer than k, that ends s -/
noncomputable def lonF (w s : List Int) : Nat → Nat
  | 0 => 0
  | k + 1 => if w.take (k + 1) <:+ s then k + 1 else lonF w s k
noncomputable def lon (w s : List Int) : Nat := lonF w s w.length
theorem lonF_le (w s : List Int) : ∀ k, lonF w s k ≤ k
  | 0 => Nat.le_refl _
  | k + 1 => by unfold lonF; split; exact Nat.le_refl _; exact Nat.le_succ_of_le (lonF_le w s k)
theorem lonF_suf (w s : List Int) : ∀ k, w.take (lonF w s k) <:+ s
  | 0 => by simp [lonF]
  | k + 1 => by unfold lonF; split; assumption; exact lonF_suf w s k
theorem lonF_max (w s : List Int) : ∀ k j, j ≤ k → w.take j <:+ s → j ≤ lonF w s k
  | 0, j, h, _ => by omega
  | k + 1, j, h, q => by
    unfold lonF
    split
    · exact h
    · rename_i hn
      rcases Nat.lt_or_ge j (k + 1) with z | z
      · exact lonF_max w s k j (by omega) q
      · exact absurd ((show j = k + 1 by omega) ▸ q) hn
section
variable {w s t : List Int}
theorem lon_le : lon w s ≤ w.length := lonF_le w s _
theorem lon_suf : w.take (lon w s) <:+ s := lonF_suf w s _
theorem lon_max {j : Nat} (h : j ≤ w.length) (q : w.take j <:+ s) : j ≤ lon w s := lonF_max w s _ j h q
theorem take_len {j : Nat} (h : j ≤ w.length) : (w.take j).length = j := by rw [List.length_take]; omega
theorem lon_le' : lon w s ≤ s.length := by
  have := lon_suf (w := w) (s := s) |>.length_le
  rwa [take_len lon_le] at this
/-- the same beginnings end both: the same longest one -/
theorem lon_eq {M : Nat} (h1 : M ≤ w.length) (h2 : w.take M <:+ s) (h3 : ∀ j, j ≤ w.length → w.take j <:+ s → j ≤ M) : lon w s = M := Nat.le_antisymm (h3 _ lon_le lon_suf) (lon_max h1 h2)
theorem lon_congr (h : ∀ j, j ≤ w.length → (w.take j <:+ s ↔ w.take j <:+ t)) : lon w s = lon w t := lon_eq lon_le ((h _ lon_le).mpr lon_suf) fun j hj q => lon_max hj ((h j hj).mp q)
theorem suf_lon {j : Nat} (hj : j ≤ w.length) : w.take j <:+ s ↔ w.take j <:+ w.take (lon w s) :=
  ⟨fun q => List.suffix_of_suffix_length_le q lon_suf (by rw [take_len hj, take_len lon_le]; exact lon_max hj q), fun q => q.trans lon_suf⟩
theorem take_snoc {j : Nat} (hj : j < w.length) : w.take (j + 1) = w.take j ++ [w.getD j 0] := by
  rw [List.take_add_one, List.getElem?_eq_getElem hj]; simp [hj]
theorem snoc_suf {j : Nat} {c : Int} (hj : j < w.length) : w.take (j + 1) <:+ s ++ [c] ↔ w.take j <:+ s ∧ w.getD j 0 = c := by
  rw [take_snoc hj, List.suffix_append_inj_of_length_eq (show [w.getD j 0].length = [c].length from rfl)]
  constructor
  · rintro ⟨a, b⟩; exact ⟨a, by simpa using b⟩
  · rintro ⟨a, b⟩; exact ⟨a, by rw [b]⟩
theorem snoc_iff {j : Nat} {c : Int} (hj : j ≤ w.length) : w.take j <:+ s ++ [c] ↔ j = 0 ∨ ∃ i, j = i + 1 ∧ w.take i <:+ s ∧ w.getD i 0 = c := by
  cases j with
  | zero => simp
  | succ i => rw [snoc_suf (by omega)]; simp
/-- a letter more: what was longest before tells what is longest now -/
theorem lon_snoc (c : Int) : lon w (s ++ [c]) = lon w (w.take (lon w s) ++ [c]) := lon_congr fun j hj => by
  rw [snoc_iff hj, snoc_iff hj]
  constructor
  · rintro (h | ⟨i, h1, h2, h3⟩)
    · exact .inl h
    · exact .inr ⟨i, h1, (suf_lon (by omega)).mp h2, h3⟩
  · rintro (h | ⟨i, h1, h2, h3⟩)
    · exact .inl h
    · exact .inr ⟨i, h1, (suf_lon (by omega)).mpr h2, h3⟩

/-- the longest proper beginning that ends the first m letters -/
noncomputable def bd (w : List Int) (m : Nat) : Nat := lon w ((w.take m).drop 1)
/-- the arrow -/
noncomputable def nx (w : List Int) (c : Int) (q : Nat) : Nat := lon w (w.take q ++ [c])
theorem bd_lt {m : Nat} (h : 1 ≤ m) (hm : m ≤ w.length) : bd w m < m := by
  have := lon_le' (w := w) (s := (w.take m).drop 1)
  rw [List.length_drop, take_len hm] at this
  unfold bd; omega
theorem bd_le {m : Nat} : bd w m ≤ m - 1 := by
  have := lon_le' (w := w) (s := (w.take m).drop 1)
  rw [List.length_drop, List.length_take] at this
  unfold bd; omega
theorem bd_suf {m : Nat} : w.take (bd w m) <:+ w.take m := lon_suf.trans (List.drop_suffix _ _)
theorem proper_suf {m j : Nat} (hm : m ≤ w.length) (hj : j < m) : w.take j <:+ (w.take m).drop 1 ↔ w.take j <:+ w.take m :=
  ⟨fun q => q.trans (List.drop_suffix _ _), fun q => List.suffix_of_suffix_length_le q (List.drop_suffix _ _) (by rw [List.length_drop, take_len hm, take_len (by omega)]; omega)⟩
theorem bd_max {m j : Nat} (hm : m ≤ w.length) (hj : j < m) (q : w.take j <:+ w.take m) : j ≤ bd w m := lon_max (by omega) ((proper_suf hm hj).mpr q)

theorem nx_step {c : Int} {q : Nat} (hq : q ≤ w.length) : nx w c q = if q < w.length ∧ w.getD q 0 = c then q + 1 else if q = 0 then 0 else nx w c (bd w q) := by
  split
  · rename_i h
    refine lon_eq h.1 ((snoc_suf h.1).mpr ⟨List.suffix_refl _, h.2⟩) fun j hj s => ?_
    have := s.length_le
    rw [take_len hj, List.length_append, take_len hq] at this
    simpa using this
  · rename_i h
    split
    · rename_i h0
      subst h0
      refine lon_eq (Nat.zero_le _) (by simp) fun j hj s => ?_
      rcases (snoc_iff hj).mp s with e | ⟨i, rfl, e1, e2⟩
      · omega
      · have := e1.length_le
        rw [take_len (by omega)] at this
        simp at this
        subst this
        exact absurd ⟨by omega, e2⟩ h
    · rename_i h0
      show lon w _ = lon w _
      rw [show bd w q = lon w ((w.take q).drop 1) from rfl, ← lon_snoc]
      refine lon_congr fun j hj => ?_
      rw [snoc_iff hj, snoc_iff hj]
      constructor
      · rintro (e | ⟨i, rfl, e1, e2⟩)
        · exact .inl e
        · have hi := e1.length_le
          rw [take_len (by omega), take_len hq] at hi
          have : i ≠ q := fun z => h ⟨by omega, by rw [← z]; exact e2⟩
          exact .inr ⟨i, rfl, (proper_suf hq (by omega)).mpr e1, e2⟩
      · rintro (e | ⟨i, rfl, e1, e2⟩)
        · exact .inl e
        · exact .inr ⟨i, rfl, e1.trans (List.drop_suffix _ _), e2⟩
theorem bd_succ {i : Nat} (h1 : 1 ≤ i) (hi : i < w.length) : bd w (i + 1) = nx w (w.getD i 0) (bd w i) := by
  show lon w _ = lon w _
  rw [show bd w i = lon w ((w.take i).drop 1) from rfl, ← lon_snoc, take_snoc hi, List.drop_append_of_le_length (by rw [take_len (by omega)]; exact h1)]
end
-- part N2
section
variable {w : List Int}
/-- the table -/
noncomputable def piW (w : List Int) (j : Nat) : Nat := bd w (j + 1)
theorem piW_le (j : Nat) : piW w j ≤ j := by have := bd_le (w := w) (m := j + 1); unfold piW; omega
theorem piW_pred {m : Nat} (h : 1 ≤ m) : piW w (m - 1) = bd w m := by unfold piW; rw [show m - 1 + 1 = m by omega]
theorem tabLaw (w : List Int) : TabLaw w (piW w) (fun i idx => nx w (w.getD i 0) idx) where
  le := piW_le
  step := fun i idx h1 h2 => by
    show nx w (w.getD i 0) idx = _
    rw [nx_step (by omega)]
    by_cases e : w.getD i 0 = w.getD idx 0
    · rw [if_pos e, if_pos ⟨by omega, e.symm⟩]
    · rw [if_neg e, if_neg fun z => e z.2.symm]
      split
      · rfl
      · rename_i h; rw [piW_pred (by omega)]
  out := fun i h1 h2 => by
    show bd w (i + 1) = nx w (w.getD i 0) (piW w (i - 1))
    rw [piW_pred h1, bd_succ h1 h2]
theorem tabAt_full (m : Nat) (pi : Nat → Nat) : tabAt m pi (m - 1) = (List.range m).map fun j : Nat => (pi j : Int) := by
  unfold tabAt
  apply List.map_congr_left
  intro j hj
  have : j < m := by simpa using hj
  rw [if_pos (by omega)]
theorem isMax_bd {m : Nat} (h1 : 1 ≤ m) (hm : m ≤ w.length) : IsMax (bd w m : Int) (((List.range m).filter fun k => decide ((w.drop (m - k)).take k = w.take k)).map fun k : Nat => (k : Int)) := by
  have key : ∀ k, k < m → ((w.drop (m - k)).take k = w.take k ↔ w.take k <:+ w.take m) := fun k hk => by
    rw [List.suffix_iff_eq_drop, take_len hm, take_len (by omega), List.drop_take, show m - (m - k) = k by omega]
    exact ⟨fun h => h.symm, fun h => h.symm⟩
  refine ⟨List.mem_map.mpr ⟨bd w m, List.mem_filter.mpr ⟨by simpa using bd_lt h1 hm, ?_⟩, rfl⟩, fun a ha => ?_⟩
  · rw [decide_eq_true_eq, key _ (bd_lt h1 hm)]; exact bd_suf
  · obtain ⟨k, hk, rfl⟩ := List.mem_map.mp ha
    obtain ⟨h2, h3⟩ := List.mem_filter.mp hk
    have hk' : k < m := by simpa using h2
    rw [decide_eq_true_eq, key _ hk'] at h3
    have := bd_max hm hk' h3
    omega

end
noncomputable def tabI (word : List Int) : List Int := (List.range word.length).map fun j : Nat => (piW word j : Int)
theorem tabI_len (word : List Int) : (tabI word).length = word.length := by unfold tabI; simp
section
variable {w : World} {prog : Program}
theorem fn_tab {n : Nat} {word : List Int} (h : word.length ≤ 1000) : FnL (Kf w) prog w (n + 1) (.ref 70) [.list (word.map .int)] ((tabI word).map .int) := by
  have := fn_table (w := w) (prog := prog) (n := n) (tabLaw word) h
  rw [tabAt_full] at this
  exact this
end
-- part G11
noncomputable def intsD (ns : List Int) : D := .list (ns.map .int)
noncomputable def tabsD (word : List Int) : List D := (List.range word.length).map fun i => intsD (tabI (word.drop i))
section
variable {w : World} {prog : Program} {n : Nat}
set_option maxHeartbeats 2000000 in
theorem fn_tables {word : List Int} (hm : word.length ≤ 100) : FnL (Kf w) prog w (n + 2) (.ref 80) [intsD word] (tabsD word) :=
  fnL_of_body ok80 rfl fun A base S s₀ L s₁ F => by
    have hsz : sizeLine = 16777216 := by decide
    refine x_own_list F (ev_list0.run _ F.at_) fun a s ha _ F => ?_
    have okP : ∀ ds : List D, OwnOk (fun S h => AccL prog w a ds S h ∧ noOwn S h) [a] := fun ds => (accL_ok.own).and noOwn_ok
    have hlen : ∀ ns : List Int, ns.length ≤ 100 → Fn (Kf w) prog w (n + 1) (.builtin "len") [intsD ns] (.int ns.length) := fun ns h => by
      have := fn_len_list (K := Kf w) (prog := prog) (w := w) (n := n + 1) (ds := ns.map .int) (by simp; omega)
      rw [List.length_map] at this; exact this
    refine x_forN (d := .range 0 (word.length : Int) 1) (n := word.length) (inj := fun j : Nat => D.int (j : Int)) (fun _ => [("word", intsD word), ("tables", .raw (.ref a))])
      (fun k S h => AccL prog w a ((List.range k).map fun i => intsD (tabI (word.drop i))) S h ∧ noOwn S h) F (fun _ => okP _)
      ((c_range rfl rfl (c_len rfl rfl (ev_name rfl) (hlen word hm))).on F.at_) ?_ ⟨rfl, rfl, trivial⟩ (fun k hk L' wr s hW hs₀ F => ?_) fun s F => ?_
    · have := iter_range (n := (word.length : Int)) (by omega) (by omega)
      rw [Int.toNat_natCast] at this; exact this
    · have hd : (word.drop k).length ≤ 100 := by rw [List.length_drop]; omega
      have htl := tabI_len (word.drop k)
      have sl : ∀ {Γ' : Ctx} {p1 p2 p3 q : Pos}, Γ'.ρ "word" = some (intsD word) → Γ'.ρ "i" = some (.int (k : Int)) → Ev Γ' (.Subscript (.Name "word" p1) (.Slice (some (.Name "i" p2)) none none q) p3) (intsD (word.drop k)) := fun h1 h2 =>
        (ev_slice (ev_name h1) (part_some (ev_name h2)) part_none (by simp; omega)).cast (congrArg D.list (by rw [cut_from _ (by omega), List.map_drop]; rfl))
      refine x_assign F (d := intsD (word.drop k)) ((sl rfl rfl).on F.at_) fun _ F => ?_
      refine x_assign F (d := intsD (tabI (word.drop k))) ((ev_callL (f := .ref 70) (ev_glob topOk rfl g70) ok70.callable (evs_cons (ev_name rfl) evs_nil) (fn_tab (n := n) (by omega))).ev.on F.at_) fun _ F => ?_
      refine x_skip F (EvT.on (EvT.cast (evT_boolop (evTs_or (evT_not (evT_of (c_isi_list rfl rfl rfl (ev_name rfl) fn_isi_list_list) truth_bool)) fun _ => evTs_or (evT_cmp (c_len rfl rfl (ev_name rfl) (hlen (tabI (word.drop k)) (by omega))) (ev_binop (c_len rfl rfl (ev_name rfl) (hlen word hm)) (ev_name rfl) op_sub) op_ne) fun _ =>
        evTs_or (evT_cmp (ev_name rfl) (sl rfl rfl) (op_neD (EqD.ints 0 (word.drop k) (word.drop k)) (by decide))) fun _ => evTs_or_nil)) ?_) F.at_) fun _ F => ?_
      · rw [htl, List.length_drop]
        have : ((word.length - k : Nat) : Int) = (word.length : Int) - k := by omega
        simp [this]
      refine x_skip F (EvT.on (b := false) ?_ F.at_) fun _ F => ?_
      · refine (evT_cmp (d1 := .list (([] : List Int).map .int)) (Ev.cast (ev_lcf (xs := tabI (word.drop k)) (inj := fun i : Int => D.int i) (p := fun _ => false) (g := fun i : Int => D.int i) (ev_name rfl) iter_ints (by omega) (fun j hj Da C own wr => ?_) fun _ _ h => nomatch h).ev (by simp [pickOut])) (ev_list evs_nil (by decide)) ((op_neD (EqD.ints 0 [] []) (by decide)).cast rfl))
        exact EvT.cast (evT_boolop (evTs_or (evT_of (c_isi_bool rfl rfl rfl (ev_name rfl) fn_isi_int_bool) truth_bool) fun _ => evTs_or (evT_not (evT_of (c_isi_int rfl rfl rfl (ev_name rfl) fn_isi_int_int) truth_bool)) fun _ => evTs_or_nil)) rfl
      refine x_append F (d := intsD (tabI (word.drop k))) (.head _) (.inr (hs₀ ▸ ha)) (okP _) (fun _ _ _ _ _ _ => trivial) (ev_name rfl) (ev_name rfl) (by simp; omega) fun _ F => ?_
      rw [show ((List.range k).map fun i => intsD (tabI (word.drop i))) ++ [intsD (tabI (word.drop k))] = (List.range (k + 1)).map fun i => intsD (tabI (word.drop i)) by rw [List.range_succ, List.map_append]; rfl] at F
      exact ex_nil (.inl ⟨.inl rfl, F.next rfl ⟨rfl, rfl, trivial⟩⟩)
    · refine x_ret F (d := .raw (.ref a)) ((ev_name rfl).on F.at_) fun v s F r => ⟨v, rfl, F.done rfl rfl, ?_⟩
      obtain ⟨_, rfl⟩ := r.atom
      obtain ⟨⟨hS, vs, hl, rs⟩, _⟩ := F.own
      exact ⟨a, vs, rfl, ha, hl, rs.less fun b q => q.elim (fun z => .inl (.inl z)) fun e => .inr (by rw [e]; exact .head _)⟩
end
-- part PL30
/-- a text from its letters -/
noncomputable def Sx (l : List Nat) : Str := ⟨l.toArray⟩
theorem Sx_len (l : List Nat) : (Sx l).length = l.length := rfl
theorem Sx_inj {l l' : List Nat} : Sx l = Sx l' ↔ l = l' := by
  unfold Sx
  rw [Str.mk.injEq]
  exact ⟨fun e => congrArg Array.toList e, fun e => by rw [e]⟩
section
variable {K : Frag} {prog : Program} {w : World} {n : Nat}
theorem fn_chr {i : Nat} (h : i ≤ 1000) : Fn K prog w n (.builtin "chr") [.int (i : Int)] (.str (Sx [i])) := .mk fun A base S s vals hr hw r => by
  obtain ⟨v, rfl, r₁⟩ := r.one
  obtain ⟨t, rfl⟩ := r₁.atom
  refine P.chr_of_int (by have h1 : ¬ ((i : Int) < 0) := by omega
                          have h2 : ¬ ((i : Int) > 0x10FFFF) := by omega
                          simp [h1, h2]) ⟨Kp.toks s _, ?_⟩
  rw [Int.toNat_natCast]; exact .str _ _
theorem fn_len_str {l : List Nat} (h : l.length ≤ 16384) : Fn K prog w n (.builtin "len") [.str (Sx l)] (.int l.length) := .mk fun A base S s vals hr hw r => by
  obtain ⟨v, rfl, r₁⟩ := r.one
  obtain ⟨t, rfl⟩ := r₁.atom
  exact P.len_str (by rw [Sx_len]; omega) ⟨Kp.toks s _, .int _ _⟩
theorem strs_are {S : Addr → Prop} {h : Heap} : ∀ {vs : List Value} {ys : List Str}, RepAll prog w S h vs (ys.map .str) → StrsAre vs ys
  | [], [], _ => .nil
  | [], _ :: _, r => nomatch r
  | _ :: _, [], r => nomatch r
  | _ :: _, _ :: _, .cons a r => by obtain ⟨t, rfl⟩ := a.atom; exact .cons _ t (strs_are r)
theorem join_ones' (l : List Nat) : Txt.join (Sx []) (l.map fun c => Sx [c]) = Sx l := by
  rw [Txt.join, StrLaws.glued_eq_join]
  induction l with
  | nil => rfl
  | cons c l ih =>
    cases l with
    | nil => rfl
    | cons d l =>
      show Sx [c] ++ Sx [] ++ Str.join (Sx []) ((d :: l).map fun c => Sx [c]) = _
      rw [ih]
      show Str.append (Str.append _ _) _ = _
      simp [Str.append, Sx]
theorem sum_ones (l : List Nat) : ((l.map fun c => Sx [c]).map Str.length).sum = l.length := by
  induction l with
  | nil => rfl
  | cons _ l ih => rw [List.map_cons, List.map_cons, List.sum_cons, ih, List.length_cons, Nat.add_comm]; rfl
theorem fn_join {l : List Nat} (h : l.length ≤ 1000) : Fn K prog w n (.builtin "str.join") [.str (Sx []), .list ((l.map fun c => Sx [c]).map .str)] (.str (Sx l)) := .mk fun A base S s vals hr hw r => by
  obtain ⟨v, u, rfl, r₁, r₂⟩ := r.two
  obtain ⟨t, rfl⟩ := r₁.atom
  obtain ⟨a, vs, rfl, _, hl, rs⟩ := r₂.list_inv
  refine join_listW hl.isList (strs_are rs) (by decide) (by rw [sum_ones, List.length_map]; omega) fun t' k => ⟨Kp.toks s _, ?_⟩
  rw [join_ones']; exact .str _ _
/-- tuple(x) -/
theorem fn_tuple {ds : List D} (hz : ds.length ≤ 16384) : Fn K prog w n (.type "tuple") [.list ds] (.tuple ds) := .mk fun A base S s vals hr hw r => by
  obtain ⟨v, rfl, r₁⟩ := r.one
  obtain ⟨l, vs, rfl, _, hl, rs⟩ := r₁.list_inv
  have e := rs.length
  have hsz : sizeLine = 16777216 := by decide
  refine call_tuple_list hl.isList (fun h' hk => ⟨(Kp.heap s h' hk).trans (Kp.push { s with heap := h' } _), ?_⟩) (by simp; omega)
  exact Rep.new_tuple (fun a ha => some_keep (hw.held a ha) hk) (rs.keep hk)
end
section
variable {Γ : Ctx}
theorem ev_join {o arg : Expr} {apos pos : Pos} {l : List Nat} (ho : Ev Γ o (.str (Sx []))) (ha : Ev Γ arg (.list ((l.map fun c => Sx [c]).map .str))) (h : l.length ≤ 1000) (hbase : attributeBase o "join" Γ.env (eval o Γ.env) = eval o Γ.env := by rfl) (hline : (apos.endLine == pos.line) = true := by rfl) (hp : plainE arg = true := by rfl)
    (hfew : ((backTo pos (starEach [arg] Γ.env)).all (fun x => !x.1) && (backToKw pos (keywordEach [] Γ.env)).all (fun x => x.1.isSome)
      && decide ([arg].length + ([] : List Keyword).length + (if ([] : List Keyword).isEmpty then 0 else 1) < 30)) = true := by rfl) :
    Ev Γ (.Call (.Attribute o "join" apos) [arg] [] pos) (.str (Sx l)) :=
  ev_meth ho (evs_cons ha evs_nil hp) hasT_str F.plainAttrs_str F.slot_str_join F.type_str_join (fn_join h) hbase hfew hline (by rw [List.all_cons, hp]; rfl)
theorem slice_Sx {l : List Nat} {i j : Nat} (hij : i ≤ j) (hj : j ≤ l.length) : Txt.slice (Sx l) (some (i : Int)) (some (j : Int)) = Sx ((l.drop i).take (j - i)) := by
  have e := StrLaws.sliced_plain (Sx l) hij (by rw [Sx_len]; exact hj)
  unfold Txt.slice
  split
  · rename_i hc
    rw [StrLaws.strSliceIndices_plain hij (by rw [Sx_len]; exact hj)] at hc
    simp [Sx_len] at hc
    have h0 : i = 0 := by omega
    have h1 : j = l.length := by omega
    subst h0; subst h1
    simp
  · rw [e]; rfl
/-- text[i:j] -/
theorem ev_sliceS {value lo hi : Expr} {p q : Pos} {l : List Nat} {i j : Nat} (h1 : Ev Γ value (.str (Sx l))) (h2 : Ev Γ lo (.int (i : Int))) (h3 : Ev Γ hi (.int (j : Int))) (hij : i ≤ j) (hj : j ≤ l.length) (hz : l.length ≤ 16384)
    (ht : ∀ (x : Str) (t : Tok) r, letTemporaryGo value (.str x t) r = pure () := by intro _ _ _; with_unfolding_all rfl) :
    Ev Γ (.Subscript value (.Slice (some lo) (some hi) none q) p) (.str (Sx ((l.drop i).take (j - i)))) := .mk fun s C => by
  refine Subscript_ ((h1.run s C).then' fun a s₁ k₁ r₁ => wpAny_Slice (((part_some h2).run s₁ (C.go k₁)).then' fun vl s₂ k₂ pl => ((part_some h3).run s₂ ((C.go k₁).go k₂)).then' fun vu s₃ k₃ pu => ?_))
  rw [evalPart_none]
  refine wpAny_pure ?_
  obtain ⟨t, rfl⟩ := r₁.atom
  cases pl with
  | int _ tl => cases pu with
    | int _ tu =>
      have hsz : sizeLine = 16777216 := by decide
      refine tail_of_ItemOn (SBH.sliceItem_ss (P := fun h' => ∀ b o, s₃.heap.get? b = some o → h'.get? b = some o) (fun h ob k b o e => Heap.get?_push_of_some _ (k b o e)) (fun b o e => e) (fun h' t' k hk => ⟨((k₁.trans k₂).trans k₃).trans (Kp.both s₃ h' k hk), ?_⟩) (by rw [Sx_len]; omega)) (ops := [.ref s₃.heap.objs.size, .str _ t]) (by with_unfolding_all rfl) (ht _ _)
      rw [slice_Sx hij hj]; exact .str _ _
theorem op_addT {xs ys : List D} (hz : xs.length + ys.length ≤ sizeLine) : Op2 Γ (binaryOp .Add) (.tuple xs) (.tuple ys) (.tuple (xs ++ ys)) := .mk fun a b s C r₁ r₂ => by
  obtain ⟨t, vs, m, rfl, h1, hl, rs⟩ := r₁.tuple_inv
  obtain ⟨u, us, m', rfl, h2, hm, qs⟩ := r₂.tuple_inv
  have e1 := rs.length; have e2 := qs.length
  by_cases hx : vs = []
  · subst hx
    cases rs
    refine concat_meets ⟨_, hl, rfl⟩ ⟨_, hm, rfl⟩ noFill_tuple_add seq_tuple_add PySem.F.slot_tuple_add PySem.F.entry_tuple_add (PySem.F.args_tuple_add_2 _ _) (tuple_addW0 t u _ us.toArray m m' none none #[] #[] rfl) ⟨hl, hm, Kp.refl s, ?_⟩
    exact .tuple h2 hm qs
  · by_cases hy : us = []
    · subst hy
      cases qs
      refine concat_meets ⟨_, hl, rfl⟩ ⟨_, hm, rfl⟩ noFill_tuple_add seq_tuple_add PySem.F.slot_tuple_add PySem.F.entry_tuple_add (PySem.F.args_tuple_add_2 _ _) (tuple_addW1 t u vs.toArray _ m m' none none #[] #[] (by simpa using hx) rfl) ⟨hl, hm, Kp.refl s, ?_⟩
      rw [List.append_nil]; exact .tuple h1 hl rs
    · refine concat_meets ⟨_, hl, rfl⟩ ⟨_, hm, rfl⟩ noFill_tuple_add seq_tuple_add PySem.F.slot_tuple_add PySem.F.entry_tuple_add (PySem.F.args_tuple_add_2 _ _) (tuple_addW2 t u vs.toArray us.toArray m m' none none #[] #[] (by simpa using hx) (by simpa using hy) (by simpa [e1, e2] using hz)) ⟨hl, hm, Kp.push _ _, ?_⟩
      have := Rep.new_tuple C.wd.held (rs.append qs)
      simpa using this
end
-- part PL31
section
variable {prog : Program} {w : World} {A : Around} {E : Value → Shared → Prop} {s : Shared}
theorem sliceApplied_to {sl : Addr} {a n : Nat} {u : Tok} {Q : Int × Int × Nat → Shared → Prop} (hs : s.heap.IsSliceOf sl .none (.int a u) .none) (ha : a ≤ n) (h : Q (0, 1, a) s) :
    wpAny (model prog w) A (Builtin.Slice.sliceApplied (.ref sl) (pure (n : Int))) Q E s := by
  obtain ⟨os, hos, hcs, hds⟩ := id hs
  unfold Builtin.Slice.sliceApplied Builtin.Slice.sliceFields
  refine wpAny_bind (wpAny_bind (wpAny_field hos hds (x := .none) rfl (wpAny_bind (wpAny_field hos hds (x := .int a u) rfl (wpAny_bind (wpAny_field hos hds (x := .none) rfl (wpAny_pure ?_)))))))
  refine wpAny_bind (slicePart_none ?_)
  show wpAny _ _ (if ((1 : Int) == 0) = true then _ else _) _ _ s
  rw [if_neg (by decide)]
  refine wpAny_bind (slicePart_none (wpAny_bind (slicePart_int (wpAny_bind (wpAny_pure ?_)))))
  show wpAny _ _ (match Builtin.Slice.sliceAdjust none (some (a : Int)) 1 (n : Int) with | (lo, hi) => pure (lo, (1 : Int), Builtin.Slice.slicePlaces lo hi 1)) _ _ s
  have e1 : Builtin.Slice.sliceAdjust none (some (a : Int)) 1 (n : Int) = (0, (a : Int)) := by
    unfold Builtin.Slice.sliceAdjust
    have h1 : ¬ ((1 : Int) < 0) := by omega
    have h2 : ¬ ((a : Int) < 0) := by omega
    simp only [h1, h2, if_false]
    congr 1
    omega
  rw [e1]
  have e2 : Builtin.Slice.slicePlaces 0 (a : Int) 1 = a := by
    unfold Builtin.Slice.slicePlaces
    have h1 : (1 : Int) > 0 := by omega
    simp only [h1, if_true, Int.ediv_one]
    split <;> omega
  show wpAny _ _ (pure ((0 : Int), (1 : Int), Builtin.Slice.slicePlaces 0 (a : Int) 1)) _ _ s
  rw [e2]
  exact wpAny_pure h
theorem pick_to (xs : Array Value) (a : Nat) (ha : a ≤ xs.size) : ((List.range a).filterMap fun (k : Nat) => xs[((0 : Int) + (k : Int) * 1).toNat]?).toArray = (xs.toList.take a).toArray := by
  have := pick_run xs 0 a
  rw [List.filterMap_map] at this
  have e2 : ((fun x => xs[x]?) ∘ fun x => 0 + x) = fun (k : Nat) => xs[((0 : Int) + (k : Int) * 1).toNat]? := by
    funext k
    show xs[0 + k]? = _
    rw [show ((0 : Int) + (k : Int) * 1).toNat = 0 + k by omega]
  rw [e2] at this
  rw [this, List.drop_zero]
theorem getItem_tuple_to {t sl : Addr} {items : Array Value} {a : Nat} {u : Tok} {Q : Value → Shared → Prop} (ht : IsTup s.heap t items) (hs : s.heap.IsSliceOf sl .none (.int a u) .none) (ha : a < items.size)
    (h : Q (.ref s.heap.objs.size) { s with heap := s.heap.push { cls := .type "tuple", data := .seq (items.toList.take a).toArray } })
    (hsz : items.size ≤ sizeLine) : wpAny (model prog w) A (getItem (.ref t) (.ref sl)) Q E s := by
  have hdrop : sizeOk (.seq (items.toList.take a).toArray) := by
    show (items.toList.take a).toArray.size ≤ sizeLine
    rw [List.size_toArray, List.length_take, Array.length_toList]
    omega
  obtain ⟨os, hos, hcs, hds⟩ := id hs
  have hTs : s.TypeIs (.ref sl) "slice" := ⟨os, hos, hcs⟩
  unfold getItem
  try with_reducible refine wpAny_holding ?_
  first | refine wpAny_bind (wpAny_pure ?_) | skip
  refine wpAny_bind (wpAny_sequenceKey ht.typeIs (by decide) ?_)
  refine wpAny_bind (wpAny_callSpecial?_slot (name := Str.ofString "__getitem__") ht.typeIs slot_tuple_getitem
    (wpAny_call_entry slot_tuple_getitem ht.typeIs entry_tuple_getitem ?_ (args_tuple_getitem _ _)))
  show wpAny _ _ (Builtin.Tuple.tupleItemsOf (.ref t) >>= _) _ _ s
  refine wpAny_bind (tupleItemsOf_ ht ?_)
  refine wpAny_bind (wpAny_typeOf hTs ?_)
  rw [if_pos (by decide)]
  refine wpAny_bind (sliceApplied_to hs (Nat.le_of_lt ha) ?_)
  have hno : ¬ (((0 : Int) == 0 && (1 : Int) == 1 && a == items.size) = true) := by
    have : (a == items.size) = false := by rw [beq_eq_false_iff_ne]; omega
    rw [this]; simp
  show wpAny _ _ (if ((0 : Int) == 0 && (1 : Int) == 1 && a == items.size) = true then _ else _) _ _ s
  rw [if_neg hno, pick_to items a (Nat.le_of_lt ha)]
  first
    | exact wpAny_bind (m := Builtin.Tuple.tupleExact _) (wpAny_newObj_type (wpAny_pure ⟨_, rfl, wpAny_pure h⟩) hdrop)
    | exact wpAny_bind (m := Builtin.Tuple.tupleExact _) (wpAny_newObj_type (wpAny_bind (wpAny_pure (wpAny_pure ⟨_, rfl, wpAny_pure h⟩))) hdrop)
    | exact wpAny_bind (wpAny_bind (m := Builtin.Tuple.tupleExact _) (wpAny_newObj_type (wpAny_pure (wpAny_pure ⟨_, rfl, wpAny_pure h⟩)) hdrop))
    | exact wpAny_bind (wpAny_bind (m := Builtin.Tuple.tupleExact _) (wpAny_newObj_type (wpAny_pure ⟨_, rfl, wpAny_pure h⟩) hdrop))
end
section
variable {Γ : Ctx}
/-- x[:k], of a tuple -/
theorem ev_sliceT_to {value hi : Expr} {p q : Pos} {ds : List D} {k : Nat} (h1 : Ev Γ value (.tuple ds)) (h3 : Ev Γ hi (.int (k : Int))) (hk : k < ds.length) (hz : ds.length ≤ sizeLine) :
    Ev Γ (.Subscript value (.Slice none (some hi) none q) p) (.tuple (ds.take k)) := .mk fun s C => by
  refine Subscript_ ((h1.run s C).then' fun a s₁ k₁ r₁ => wpAny_Slice ?_)
  rw [evalPart_none]
  refine wpAny_pure (((part_some h3).run s₁ (C.go k₁)).then' fun vu s₃ k₃ pu => ?_)
  refine wpAny_pure ?_
  have C₃ := (C.go k₁).go k₃
  obtain ⟨t, vs, m, rfl, _, hl, rs⟩ := (r₁.keep k₃.k).tuple_inv
  have hn := rs.length
  have kp := Kp.push s₃ { cls := .type "slice", data := .fields #[.none, vu, .none] }
  have hl' := isTup (kp.k _ _ hl)
  cases pu with
  | int _ tu =>
    refine tail_any hl'.typeIs slot_tuple_getitem.lookup (getItem_tuple_to hl' (Heap.IsSliceOf.new _ _ _ _) (by simpa [hn] using hk) ⟨((k₁.trans k₃).trans kp).trans (Kp.push _ _), ?_⟩ (by simpa [hn] using hz)) (ops := [_, _]) rfl
    exact Rep.new_tuple (C₃.go kp).wd.held ((rs.keep kp.k).take _)
/-- x[k:], of a tuple -/
theorem ev_sliceT_from {value lo : Expr} {p q : Pos} {ds : List D} {k : Nat} (h1 : Ev Γ value (.tuple ds)) (h3 : Ev Γ lo (.int ((k + 1 : Nat) : Int))) (hk : k + 1 ≤ ds.length) (hz : ds.length ≤ sizeLine) :
    Ev Γ (.Subscript value (.Slice (some lo) none none q) p) (.tuple (ds.drop (k + 1))) := .mk fun s C => by
  refine Subscript_ ((h1.run s C).then' fun a s₁ k₁ r₁ => wpAny_Slice (((part_some h3).run s₁ (C.go k₁)).then' fun vu s₃ k₃ pu => ?_))
  rw [evalPart_none]
  refine wpAny_pure (wpAny_pure ?_)
  have C₃ := (C.go k₁).go k₃
  obtain ⟨t, vs, m, rfl, _, hl, rs⟩ := (r₁.keep k₃.k).tuple_inv
  have hn := rs.length
  have kp := Kp.push s₃ { cls := .type "slice", data := .fields #[vu, .none, .none] }
  have hl' := isTup (kp.k _ _ hl)
  cases pu with
  | int _ tu =>
    refine tail_any hl'.typeIs slot_tuple_getitem.lookup (getItem_tuple_from hl' (Heap.IsSliceOf.new _ _ _ _) (by omega) (by simpa [hn] using hk) ⟨((k₁.trans k₃).trans kp).trans (Kp.push _ _), ?_⟩ (by simpa [hn] using hz)) (ops := [_, _]) rfl
    exact Rep.new_tuple (C₃.go kp).wd.held ((rs.keep kp.k).drop _)
end
-- part PL32
section
variable {prog : Program} {w : World}
/-- equal at this world -/
noncomputable def EqW (prog : Program) (w : World) (A : Around) (s : Shared) (v y : Value) : Prop := ∀ (E : Value → Shared → Prop) (Q : Bool → Shared → Prop), Q true s → wpAny (model prog w) A (eqBool v y) Q E s
/-- how a built-in's body ends -/
noncomputable def BodyW (prog : Program) (w : World) (A : Around) (t : Sem Fin) (R : Result → Shared → Prop) (s : Shared) : Prop :=
  wpAny (model prog w) A.in1 t (fun fin s' => match fin with | .done f => R (.ok f) s' | .again c' => c'.quiet = true ∧ codeAny (model prog w) A c' R s') (fun e s' => R (.error e) s') s
open PySem.MeetsSeq PySem.MeetsSeq2 PySem.MeetsSeq3 PySem.SeqAt PySem.AutoSeq1 in
theorem ne_loopW {l b : Addr} {items items2 : Array Value} {n n2 : Nat} {dd dd2 : Option Addr} {sl sl2 : Array (Option Value)} {s : Shared} {A : Around} {R : Result → Shared → Prop} (hsz : items.size = items2.size)
    (hl : s.heap.get? l = some { cls := .type "list", dict := dd, data := .seq items n, slots := sl }) (hb : s.heap.get? b = some { cls := .type "list", dict := dd2, data := .seq items2 n2, slots := sl2 })
    (he : ∀ j (h1 : j < items.size) (h2 : j < items2.size), EqW prog w A.in1 s items[j] items2[j]) (h : R (.ok (.ret (.bool false))) s) (k : Nat) :
    ∀ i : Nat, items.size - i = k → BodyW prog w A (Builtin.«list.__eq__.loop» ⟨[.ref l, .ref b, rawInt i, rawInt 3], []⟩) R s := by
  obtain ⟨hp, g, d, tk, os⟩ := s
  unfold BodyW
  induction k with
  | zero =>
    intro i hk
    wp_walk using wpAny_loadPart' hl, wpAny_loadPart' hb
    have hi1 : items[((i : Nat) : Int).toNat]? = none := by simp; omega
    have hi2 : items2[((i : Nat) : Int).toNat]? = none := by simp; omega
    rw [hi1, hi2]
    wp_walk using wpAny_loadPart' hl, wpAny_loadPart' hb
    show R (.ok (.ret (.bool (items.size != items2.size)))) _
    rw [hsz]
    simpa using h
  | succ k ih =>
    intro i hk
    wp_walk using wpAny_loadPart' hl, wpAny_loadPart' hb
    have hlt : i < items.size := by omega
    have hlt2 : i < items2.size := by omega
    have hi1 : items[((i : Nat) : Int).toNat]? = some items[i] := by simp [hlt]
    have hi2 : items2[((i : Nat) : Int).toNat]? = some items2[i] := by simp [hlt2]
    have hc : ((i : Int) + 1) = ((i + 1 : Nat) : Int) := by push_cast; rfl
    rw [hi1, hi2]
    refine wpAny_bind (he i hlt hlt2 _ _ ?_)
    wp_walk
    rw [hc]
    exact ⟨plainId_quiet plain_eq_loop _, codeAny_builtin entry_eq_loop (by
      rw [Around.under_plainId plain_eq_loop _]
      exact ih (i + 1) (by omega))⟩
open PySem.MeetsSeq PySem.MeetsSeq2 PySem.MeetsSeq3 PySem.SeqAt PySem.AutoSeq1 in
theorem list_neW {l b : Addr} {items items2 : Array Value} {n n2 : Nat} {dd dd2 : Option Addr} {sl sl2 : Array (Option Value)} {s : Shared} {A : Around} {R : Result → Shared → Prop} (hsz : items.size = items2.size)
    (hl : s.heap.get? l = some { cls := .type "list", dict := dd, data := .seq items n, slots := sl }) (hb : s.heap.get? b = some { cls := .type "list", dict := dd2, data := .seq items2 n2, slots := sl2 })
    (he : ∀ j (h1 : j < items.size) (h2 : j < items2.size), EqW prog w A.in1 s items[j] items2[j]) (h : R (.ok (.ret (.bool false))) s) : BodyW prog w A (Builtin.«list.__ne__» ⟨[.ref l, .ref b], []⟩) R s := by
  have key := ne_loopW (prog := prog) (w := w) hsz hl hb he h _ 0 rfl
  obtain ⟨hp, g, d, tk, os⟩ := s
  have f3 := AutoSeq1.sub_list_list
  have hne : ¬ (items.size != items2.size) = true := by simp [hsz]
  unfold BodyW
  wp_walk using wpAny_loadPart' hl, wpAny_loadPart' hb
  exact ⟨plainId_quiet plain_eq_loop _, codeAny_builtin entry_eq_loop (by
    rw [Around.under_plainId plain_eq_loop _]
    exact key)⟩
open PySem.MeetsSeq PySem.MeetsSeq2 PySem.MeetsSeq3 PySem.SeqAt PySem.AutoSeq1 in
theorem tuple_neW {l b : Addr} {items items2 : Array Value} {n n2 : Nat} {dd dd2 : Option Addr} {sl sl2 : Array (Option Value)} {s : Shared} {A : Around} {R : Result → Shared → Prop} (hsz : items.size = items2.size)
    (hl : s.heap.get? l = some { cls := .type "tuple", dict := dd, data := .seq items n, slots := sl }) (hb : s.heap.get? b = some { cls := .type "tuple", dict := dd2, data := .seq items2 n2, slots := sl2 })
    (he : ∀ j (h1 : j < items.size) (h2 : j < items2.size), EqW prog w A.in1 s items[j] items2[j]) (h : R (.ok (.ret (.bool false))) s) : BodyW prog w A (Builtin.«tuple.__ne__» ⟨[.ref l, .ref b], []⟩) R s := by
  obtain ⟨hp, g, d, tk, os⟩ := s
  have f2 := AutoSeq1.sub_tuple_tuple
  unfold BodyW
  refine wpAny_mono (Q := fun fin s' => ∃ f, fin = .done f ∧ R (.ok f) s') ?_ (fun fin s' x => by obtain ⟨f, rfl, x⟩ := x; exact x) fun _ _ x => x
  wp_walk using wpAny_loadPart' hl, wpAny_loadPart' hb, wpAny_forIn_list _ (fun rest b s' => b.1 = none ∧ s' = ⟨hp, g, d, tk, os⟩ ∧ ∃ i, rest = (items.toList.zip items2.toList).drop i) _
  case turn =>
    rintro ⟨y, x⟩ rest b s' ⟨hb', rfl, i, hz⟩
    have hlt : i < (items.toList.zip items2.toList).length := by
      rcases Nat.lt_or_ge i (items.toList.zip items2.toList).length with h' | h'
      · exact h'
      · rw [List.drop_of_length_le h'] at hz; cases hz
    have h1 : i < items.size := by simp at hlt; omega
    have h2 : i < items2.size := by omega
    rw [List.drop_eq_getElem_cons hlt] at hz
    injection hz with hyx hrest
    have hy : y = items[i] := by have := congrArg Prod.fst hyx; simpa using this
    have hx : x = items2[i] := by have := congrArg Prod.snd hyx; simpa using this
    subst hy hx
    refine wpAny_bind (he i h1 h2 _ _ ?_)
    wp_walk
    exact ⟨rfl, rfl, i + 1, hrest⟩
  case fin =>
    rintro ⟨b1, b2⟩ s' ⟨hb', rfl, i, hz⟩
    simp only at hb'
    subst hb'
    wp_walk
    exact ⟨_, rfl, by simpa [Builtin.Tuple.tupleCompareSizes, bne, hsz] using h⟩
  case h =>
    exact ⟨rfl, rfl, 0, rfl⟩
theorem call_bodyW {T : String} {name : Str} {id : String} {B : Builtin} {self : Value} {rest : List Value} {A : Around} {E Q : Value → Shared → Prop} {s : Shared} (slot : PySem.Slot T name id) (hT : s.TypeIs self T)
    (entry : entryFor table id = some B) (args : argsOk id ⟨self :: rest, []⟩) (h : BodyW prog w A (B ⟨self :: rest, []⟩) (wants Q E) s) : wpAny (model prog w) A (call (.builtin id) (self :: rest)) Q E s :=
  wpAny_call (codeAny_call_builtin slot.plain entry (slot.check _ _ _ _ _ _ _ _ hT args h))
/-- data that are equal at this world, of whatever kinds -/
structure SameD (prog : Program) (w : World) (n : Nat) (d e : D) : Prop where
  at_ : ∀ {S : Addr → Prop} {s : Shared} {v y : Value} {A : Around}, Rep prog w S s.heap v d → Rep prog w S s.heap y e → A.units + n < cLine → EqW prog w A s v y
theorem sameD_of {n : Nat} {d e : D} (q : EqD n d e true) : SameD prog w n d e := ⟨fun r1 r2 hu E Q h => eqd_at q r1 r2 hu prog w E Q h⟩
theorem sameD_int (n : Nat) (i : Int) : SameD prog w n (.int i) (.int i) := sameD_of (by have := EqD.int n i i; rwa [beq_self_eq_true] at this)
theorem sameD_dict {KK : Type} [DecidableEq KK] (κ : KD KK) {n : Nat} {k1 k2 : List (KK × Int)} (h : eqKV k1 k2 = true) : SameD prog w n (κ.con k1) (κ.con k2) := ⟨fun {S} {s} {v} {y} {A} r1 r2 hu E Q hq => by
  obtain ⟨a, us, rfl, _, m1, d1, q1⟩ := κ.inv _ _ _ _ _ _ r1
  obtain ⟨b, us', rfl, _, m2, d2, q2⟩ := κ.inv _ _ _ _ _ _ r2
  by_cases e : a = b
  · subst e; exact PySem.SeqAt.EqAt.same _ prog w E Q hq
  · unfold eqBool
    refine wpAny_holding ?_
    refine wpAny_ite_split (fun hab => absurd (ref_inj (eq_of_beq hab)) e) (fun _ => ?_)
    refine wpAny_bind (rc_dict (prog := prog) (w := w) m1 m2 d1 d2 q1 q2 (by omega) (wpAny_truthy_bool ?_))
    rw [h]; exact hq⟩
end
section
variable {Γ : Ctx}
theorem items_sameD {prog : Program} {w : World} {n : Nat} {ds es : List D} (q : ∀ (j : Nat) (d e : D), ds[j]? = some d → es[j]? = some e → SameD prog w n d e) {S : Addr → Prop} {s : Shared} {A : Around} {vs vs' : List Value} (rs : RepAll prog w S s.heap vs ds) (rs' : RepAll prog w S s.heap vs' es) (hu : A.units + (n + 1) < cLine)
    (j : Nat) (g1 : j < vs.toArray.size) (g2 : j < vs'.toArray.size) : EqW prog w A.in1 s vs.toArray[j] vs'.toArray[j] := by
  obtain ⟨d, hd, rd⟩ := rs.get' (List.getElem?_eq_getElem (i := j) (by simpa using g1))
  obtain ⟨e, he, re⟩ := rs'.get' (List.getElem?_eq_getElem (i := j) (by simpa using g2))
  exact (q j d e hd he).at_ (A := A.in1) rd re (by show A.units + 1 + n < _; omega)
/-- two lists, two tuples whose items are equal -/
theorem op_neSameL {n : Nat} {ds es : List D} (hlen : ds.length = es.length) (q : ∀ (j : Nat) (d e : D), ds[j]? = some d → es[j]? = some e → SameD Γ.prog Γ.w n d e) (hn : n ≤ 50) : Op2 Γ (compareOp .NotEq) (.list ds) (.list es) (.bool false) := .mk fun v y s C r1 r2 => by
  have hu := units_ok C
  obtain ⟨a, vs, rfl, _, ⟨c, h1⟩, rs⟩ := r1.list_inv
  obtain ⟨b, vs', rfl, _, ⟨c', h2⟩, rs'⟩ := r2.list_inv
  have e2 : vs.toArray.size = vs'.toArray.size := rs.length.trans (hlen.trans rs'.length.symm)
  refine wpAny_richCompare_same_room (op := .NotEq) ⟨_, h1, rfl⟩ ⟨_, h2, rfl⟩ F.slot_list_ne (call_bodyW F.slot_list_ne ⟨_, h1, rfl⟩ F.entry_list_ne (F.args_list_ne_2 _ _) (list_neW e2 h1 h2 (items_sameD q rs rs' (by omega)) ?_)) (by omega)
  exact show Value.bool false ≠ Value.notImplemented ∧ Kp s s ∧ Rep Γ.prog Γ.w Γ.S s.heap (.bool false) (.bool false) from ⟨(fun x => nomatch x), Kp.refl s, .bool _⟩
theorem op_neSameT {n : Nat} {ds es : List D} (hlen : ds.length = es.length) (q : ∀ (j : Nat) (d e : D), ds[j]? = some d → es[j]? = some e → SameD Γ.prog Γ.w n d e) (hn : n ≤ 50) : Op2 Γ (compareOp .NotEq) (.tuple ds) (.tuple es) (.bool false) := .mk fun v y s C r1 r2 => by
  have hu := units_ok C
  obtain ⟨a, vs, c, rfl, _, h1, rs⟩ := r1.tuple_inv
  obtain ⟨b, vs', c', rfl, _, h2, rs'⟩ := r2.tuple_inv
  have e2 : vs.toArray.size = vs'.toArray.size := rs.length.trans (hlen.trans rs'.length.symm)
  refine wpAny_richCompare_same_room (op := .NotEq) ⟨_, h1, rfl⟩ ⟨_, h2, rfl⟩ F.slot_tuple_ne (call_bodyW F.slot_tuple_ne ⟨_, h1, rfl⟩ F.entry_tuple_ne (F.args_tuple_ne_2 _ _) (tuple_neW e2 h1 h2 (items_sameD q rs rs' (by omega)) ?_)) (by omega)
  exact show Value.bool false ≠ Value.notImplemented ∧ Kp s s ∧ Rep Γ.prog Γ.w Γ.S s.heap (.bool false) (.bool false) from ⟨(fun x => nomatch x), Kp.refl s, .bool _⟩
end
-- part G8
section
variable {w : World} {prog : Program} {n : Nat}
/-- an entry's tuple -/
noncomputable def tup5 (a b c d : Int) (ta tb tc td : Tok) (e : Addr) (m : Nat) : Obj := { cls := .type "tuple", data := .seq [Value.int a ta, .int b tb, .int c tc, .int d td, .ref e].toArray m }
theorem tup5_rep {KK : Type} [DecidableEq KK] (κ : KD KK) {S : Addr → Prop} {h : Heap} {t e : Addr} {a b c d : Int} {ta tb tc td : Tok} {m : Nat} {kvs : List (KK × Int)} {as : List Addr} (ht : t ∈ as) (he : e ∈ as) (o : StandsAt t (tup5 a b c d ta tb tc td e m) S h) (q : AccD prog w (κ.knd prog w) e kvs S h) :
    Rep prog w (fun b => S b ∧ b ∉ as) h (.ref t) (stats a b c d (κ.con kvs)) :=
  .tuple (fun z => z.2 ht) o.2 (.cons (.int _ _) (.cons (.int _ _) (.cons (.int _ _) (.cons (.int _ _) (.cons (q.rep κ he) .nil)))))
theorem tup5_raw {S : Addr → Prop} {h : Heap} {t e : Addr} {a b c d : Int} {ta tb tc td : Tok} {m : Nat} {as : List Addr} (ht : t ∈ as) (o : StandsAt t (tup5 a b c d ta tb tc td e m) S h) :
    Rep prog w (fun b => S b ∧ b ∉ as) h (.ref t) (.tuple [.int a, .int b, .int c, .int d, .raw (.ref e)]) :=
  .tuple (fun z => z.2 ht) o.2 (.cons (.int _ _) (.cons (.int _ _) (.cons (.int _ _) (.cons (.int _ _) (.cons (.raw _) .nil)))))

end
/-- data in which no tuple, no dict has a part -/
inductive FlatV : D → Prop
  | int (i : Int) : FlatV (.int i)
  | str (x : Str) : FlatV (.str x)
  | raw (v : Value) : FlatV (.raw v)
  | nums (ns : List Int) : FlatV (.list (ns.map .int))
theorem FlatV.avoid {prog : Program} {w : World} {S S' : Addr → Prop} {h : Heap} {v : Value} {d : D} (f : FlatV d) (r : Rep prog w S h v d) (x : ∀ b, S' b → S b ∨ ∃ o, h.get? b = some o ∧ o.cls ≠ .type "list") : Rep prog w S' h v d := by
  cases f with
  | int i => obtain ⟨_, rfl⟩ := r.atom; exact .int _ _
  | str i => obtain ⟨_, rfl⟩ := r.atom; exact .str _ _
  | raw i => obtain ⟨_, rfl⟩ := r.atom; exact .raw _
  | nums ns =>
    obtain ⟨l, vs, rfl, hS, ⟨c, hl⟩, rs⟩ := r.list_inv
    refine .list (fun q => (x l q).elim hS fun ⟨o, ho, hc⟩ => ?_) ⟨c, hl⟩ (.of_ints rs.ints)
    rw [hl] at ho
    obtain rfl := Option.some.inj ho
    exact hc rfl
section
variable {L : Lev} {Γ : Ctx} {os : List Addr} {P : (Addr → Prop) → Heap → Prop} {s s' : Shared}
theorem none_old {h₀ : Heap} {b : Addr} (q : ¬ isOld h₀ b) : h₀.get? b = none := by
  cases z : h₀.get? b with
  | none => rfl
  | some o => exact absurd (by unfold isOld; rw [z]; rfl) q
/-- a tuple of four numbers and a dict -/
inductive StatRep {KK : Type} [DecidableEq KK] (κ : KD KK) (prog : Program) (w : World) (S : Addr → Prop) (h : Heap) (v : Value) (a b c d : Int) (kvs : List (KK × Int)) : Prop
  | mk (t e : Addr) (ta tb tc td : Tok) (m : Nat) (hv : v = .ref t) (ht : ¬ S t) (he : ¬ S e) (ho : h.get? t = some (tup5 a b c d ta tb tc td e m)) (hm : (e == sysModules) = false) (us : List (KK × Value)) (hd : h.DictOf (κ.knd prog w) e us) (hk : KV us kvs) : StatRep κ prog w S h v a b c d kvs
theorem stat_rep {KK : Type} [DecidableEq KK] (κ : KD KK) {prog : Program} {w : World} {S : Addr → Prop} {h : Heap} {v : Value} {a b c d : Int} {kvs : List (KK × Int)} (r : Rep prog w S h v (stats a b c d (κ.con kvs))) : StatRep κ prog w S h v a b c d kvs := by
  obtain ⟨t, vs, m, rfl, hS, ho, rs⟩ := Rep.tuple_inv r
  cases rs with
  | cons r1 rs => cases rs with
    | cons r2 rs => cases rs with
      | cons r3 rs => cases rs with
        | cons r4 rs => cases rs with
          | cons r5 rs =>
            cases rs
            obtain ⟨ta, rfl⟩ := r1.atom; obtain ⟨tb, rfl⟩ := r2.atom; obtain ⟨tc, rfl⟩ := r3.atom; obtain ⟨td, rfl⟩ := r4.atom
            obtain ⟨e, us, rfl, he, hm, hd, hk⟩ := κ.inv _ _ _ _ _ _ r5
            exact ⟨t, e, ta, tb, tc, td, m, rfl, hS, he, ho, hm, us, hd, hk⟩
theorem dict_obj {KK : Type} [DecidableEq KK] {prog : Program} {w : World} {knd : KeyKind prog w KK} {h : Heap} {e : Addr} {us : List (KK × Value)} (q : h.DictOf knd e us) : ∃ o, h.get? e = some o ∧ o.cls = .type "dict" :=
  let ⟨o, _, _, ho, hx, _⟩ := q; ⟨o, ho, hx.1⟩
/-- new data becomes the function's own -/
theorem Fm.acquire {KK : Type} [DecidableEq KK] (κ : KD KK) {v : Value} {a b c d : Int} {kvs : List (KK × Int)} {Q : Prop}
    (F : Fm L Γ [] (RepN Γ.prog Γ.w L.s₀.heap v (stats a b c d (κ.con kvs))) s) (hf : ∀ x d, Γ.ρ x = some d → FlatV d) (hb : ∀ b o, Γ.base.get? b = some o → L.s₀.heap.get? b = some o) (hkz : KeepZ L)
    (k : ∀ t e ta tb tc td m, v = .ref t → t ≠ e → L.s₀.heap.get? t = none → L.s₀.heap.get? e = none → Fm L (Γ.plus [t, e]) [t, e] (fun S h => StandsAt t (tup5 a b c d ta tb tc td e m) S h ∧ AccD Γ.prog Γ.w (κ.knd Γ.prog Γ.w) e kvs S h) s → Q) : Q := by
  obtain ⟨t, e, ta, tb, tc, td, m, rfl, ht, he, ho, hm, us, hd, hk⟩ := stat_rep κ F.own
  obtain ⟨o', ho', hc'⟩ := dict_obj hd
  have t0 := none_old fun q => ht (.inr q)
  have e0 := none_old fun q => he (.inr q)
  have hne : t ≠ e := fun q => by
    subst q
    rw [ho] at ho'
    obtain rfl := Option.some.inj ho'
    have : Value.type "tuple" = Value.type "dict" := hc'
    injection this with this
    exact absurd this (by decide)
  have hbn : ∀ y, L.s₀.heap.get? y = none → Γ.base.get? y = none := fun y h => by
    cases z : Γ.base.get? y with
    | none => rfl
    | some o => exact nomatch (hb y o z).symm.trans h
  have mem : ∀ {y : Addr}, y ∈ [t, e] → ¬ Γ.S y ∧ L.s₀.heap.get? y = none ∧ ∃ o, s.heap.get? y = some o ∧ o.cls ≠ .type "list" := fun {y} q => by
    rcases List.mem_cons.mp q with rfl | q
    · exact ⟨fun z => ht (.inl z), t0, _, ho, fun z => by
        have : Value.type "tuple" = Value.type "list" := z
        injection this with this; exact absurd this (by decide)⟩
    · rw [List.mem_singleton.mp q]
      exact ⟨fun z => he (.inl z), e0, _, ho', fun z => by rw [hc'] at z; injection z with z; exact absurd z (by decide)⟩
  have C := F.at_
  refine k t e ta tb tc td m rfl hne t0 e0 ⟨F.same, F.ext, ⟨⟨C.wd.gl, C.wd.up, fun y q => q.elim (C.wd.off y) fun q => hbn y (mem q).2.1, fun y q => q.elim (C.wd.held y) fun q => by
      obtain ⟨_, _, o, z, _⟩ := mem q; rw [z]; rfl⟩, C.kind, C.globals, C.builtins, C.room, C.sep, C.cin, fun x dd z => ?_⟩, F.ns, ⟨.inl F.lS.1, F.lS.2⟩, fun x c z => let ⟨p, q, r⟩ := F.cS x c z; ⟨p, .inl q, r⟩,
    ⟨fun q => (mem q).1 F.lS.1, F.ol.2⟩, fun x c z => ⟨fun q => (mem q).1 (F.cS x c z).2.1, (F.oc x c z).2⟩, ⟨⟨.inr (.head _), ho⟩, .inr (.tail _ (.head _)), hm, us, hd, hk⟩, hkz _ _ _ _ F.rest (fun _ q => .inl q) (fun _ _ _ q => q), fun y q z => (mem q).1 (F.zok.has _ _ F.rest y z), F.zok, (standsAt_ok (a := t)).and (accD_ok (Da := e)).own, F.base⟩
  obtain ⟨v, hv, r⟩ := C.vars x dd z
  exact ⟨v, hv, (hf x dd z).avoid r fun y q => q.imp id fun q => (mem q).2.2⟩
theorem At.lessS {S' : Addr → Prop} {ρ' : Str → Option D} {h : Heap} (C : Ctx.At { Γ with S := S', ρ := ρ' } h) (l : ∀ b, Γ.S b → S' b) : Ctx.At { Γ with ρ := ρ' } h :=
  ⟨C.wd.less l, C.kind, C.globals, C.builtins, C.room, C.sep, C.cin, fun x d e => let ⟨v, hv, r⟩ := C.vars x d e; ⟨v, hv, r.less l⟩⟩
/-- what the function owned is given up -/
theorem Fm.dropAll {os' : List Addr} {S' : Addr → Prop} {P0 P1 : (Addr → Prop) → Heap → Prop} {ρ' : Str → Option D} (F0 : Fm L Γ os P0 s') (F : Fm L { Γ with S := S', ρ := ρ' } os' P1 s) (hS : ∀ b, Γ.S b → S' b) (hos : ∀ b ∈ os, b ∈ os') (pok : OwnOk P os) (hP : P1 S' s.heap → P S' s.heap) : Fm L { Γ with ρ := ρ' } os P s :=
  ⟨F.same, F.ext, At.lessS F.at_ hS, F.ns, ⟨F0.lS.1, F.lS.2⟩, fun x c e => let ⟨p, _, r⟩ := F.cS x c e; ⟨p, (F0.cS x c e).2.1, r⟩, ⟨fun m => F.ol.1 (hos _ m), F.ol.2⟩, fun x c e => ⟨fun m => (F.oc x c e).1 (hos _ m), (F.oc x c e).2⟩,
    pok.move _ _ _ (hP F.own) (fun b q => .inl (hS b q)) (F0.pok.has _ _ F0.own), F.zok.move _ _ _ F.rest (fun b q => .inl (hS b q)) (F0.zok.has _ _ F0.rest), fun b m => F.oz b (hos _ m), F.zok, pok, F.base⟩
end
-- part G12
noncomputable def natL (l : List Nat) : D := .list (l.map fun x : Nat => D.int (x : Int))
noncomputable def toldD (n : Nat) (T : Nat → Nat → Int) : D := .list ((List.range n).map fun i => intsD ((List.range n).map fun j => T i j))
noncomputable def insN (T : Nat → Nat → Int) (O : List Nat) (i : Nat) : List Nat :=
  (O.filter fun j => decide (T j i < 0)) ++ [i] ++ O.filter fun j => !((O.filter fun j => decide (T j i < 0)).any fun t => decide (t = j))
noncomputable def ordF (T : Nat → Nat → Int) : Nat → List Nat
  | 0 => []
  | i + 1 => insN T (ordF T i) i
theorem insN_mem {T : Nat → Nat → Int} {O : List Nat} {i j : Nat} : j ∈ insN T O i ↔ j ∈ O ∨ j = i := by
  unfold insN
  simp only [List.mem_append, List.mem_filter, List.mem_singleton, Bool.not_eq_true', List.any_eq_false, decide_eq_true_eq, decide_eq_false_iff_not]
  constructor
  · rintro ((⟨h, _⟩ | h) | ⟨h, _⟩)
    · exact .inl h
    · exact .inr h
    · exact .inl h
  · rintro (h | h)
    · by_cases q : T j i < 0
      · exact .inl (.inl ⟨h, q⟩)
      · exact .inr ⟨h, fun t ht e => q (by subst e; exact ht.2)⟩
    · exact .inl (.inr h)
theorem ordF_mem {T : Nat → Nat → Int} {n j : Nat} : j ∈ ordF T n ↔ j < n := by
  induction n with
  | zero => simp [ordF]
  | succ n ih => rw [ordF, insN_mem, ih]; omega
theorem insN_len {T : Nat → Nat → Int} {O : List Nat} {i : Nat} : (insN T O i).length ≤ 2 * O.length + 1 := by
  unfold insN
  have h1 := List.length_filter_le (fun j => decide (T j i < 0)) O
  have h2 := List.length_filter_le (fun j => !((O.filter fun j => decide (T j i < 0)).any fun t => decide (t = j))) O
  simp only [List.length_append, List.length_singleton]
  omega
theorem ordF_lenB {T : Nat → Nat → Int} (n : Nat) : (ordF T n).length + 1 ≤ 2 ^ n := by
  induction n with
  | zero => exact Nat.le_refl _
  | succ n ih =>
    have := insN_len (T := T) (O := ordF T n) (i := n)
    rw [Nat.pow_succ]
    show (insN T (ordF T n) n).length + 1 ≤ _
    omega
section
variable {Γ : Ctx}
theorem op_notin_nats {ahead : List Nat} {j : Nat} : Op2 Γ (compareOp .NotIn) (.int (j : Int)) (natL ahead) (.bool (!(ahead.any fun t => decide (t = j)))) := by
  have := op_notin_list (Γ := Γ) (n := 1) (dx := .int (j : Int)) (ds := ahead.map fun x : Nat => D.int (x : Int)) (fun d => match d with | .int i => i == (j : Int) | _ => false) (fun d hd => by
    obtain ⟨t, ht, rfl⟩ := List.mem_map.mp hd
    exact EqD.int 1 _ _) (by decide)
  refine this.cast (congrArg D.bool (congrArg (!·) ?_))
  rw [List.any_map]
  congr 1
  funext t
  show ((t : Int) == (j : Int)) = _
  rw [Bool.eq_iff_iff, beq_iff_eq, decide_eq_true_eq]
  exact ⟨fun h => by omega, fun h => by omega⟩
theorem iter_nats {l : List Nat} : Iterable (natL l) (l.map fun x : Nat => D.int (x : Int)) := iterable_list
theorem ev_told {o x y : Expr} {p1 p2 : Pos} {n i j : Nat} {T : Nat → Nat → Int} (ho : Ev Γ o (toldD n T)) (hx : Ev Γ x (.int (i : Int))) (hy : Ev Γ y (.int (j : Int))) (hi : i < n) (hj : j < n) (hn : n ≤ 1000) (h1 : PlainSub x := by intro _ _; rfl) (h2 : PlainSub y := by intro _ _; rfl) :
    Ev Γ (.Subscript (.Subscript o x p1) y p2) (.int (T i j)) :=
  ev_sub (ev_sub ho hx (sub_list (d := intsD ((List.range n).map fun j => T i j)) h1 (by omega) (by omega) (by simp [hi]))) hy (sub_list h2 (by omega) (by omega) (by simp [hj]))
end
section
variable {w : World} {prog : Program} {n : Nat}
theorem fn_len_nats {K : Frag} {l : List Nat} (h : l.length ≤ 16384) : Fn K prog w n (.builtin "len") [natL l] (.int l.length) := by
  have := fn_len_list (K := K) (prog := prog) (w := w) (n := n) (ds := l.map fun x : Nat => D.int (x : Int)) (by simpa using h)
  rw [List.length_map] at this; exact this
set_option maxHeartbeats 2000000 in
theorem fn_order {m : Nat} {T : Nat → Nat → Int} (hm : m ≤ 10) : Fn (Kf w) prog w (n + 1) (.ref 85) [toldD m T] (natL (ordF T m)) :=
  fn_of_body ok85 rfl fun A base S s₀ L s₁ F => by
    have hsz : sizeLine = 16777216 := by decide
    have htl : Fn (Kf w) prog w n (.builtin "len") [toldD m T] (.int (m : Int)) := by
      have := fn_len_list (K := Kf w) (prog := prog) (w := w) (n := n) (ds := (List.range m).map fun i => intsD ((List.range m).map fun j => T i j)) (by simp; omega)
      simp only [List.length_map, List.length_range] at this; exact this
    refine x_assign F (d := natL (ordF T 0)) ((ev_list evs_nil (by decide)).on F.at_) fun _ F => ?_
    refine x_forN (d := .range 0 (m : Int) 1) (n := m) (inj := fun j : Nat => D.int (j : Int)) (fun k => [("told", toldD m T), ("order", natL (ordF T k))]) (fun _ => noOwn) F (fun _ => noOwn_ok)
      ((c_range rfl rfl (c_len rfl rfl (ev_name rfl) htl)).on F.at_) ?_ ⟨rfl, rfl, trivial⟩ (fun k hk L' wr s hW hs₀ F => ?_) fun s F => ?_
    · have := iter_range (n := (m : Int)) (by omega) (by omega)
      rw [Int.toNat_natCast] at this; exact this
    · have hO : ∀ j ∈ ordF T k, j < m := fun j hj => by have := ordF_mem.mp hj; omega
      have hOl := ordF_lenB (T := T) k
      have hp : 2 ^ k ≤ 2 ^ 10 := Nat.pow_le_pow_right (by decide) (by omega)
      have hOl' : (ordF T k).length ≤ 1024 := by omega
      have hnext : ordF T (k + 1) = insN T (ordF T k) k := rfl
      generalize ordF T k = O at F hO hOl' hnext
      have hfl : (O.filter fun j => decide (T j k < 0)).length ≤ O.length := List.length_filter_le ..
      refine x_assign F (d := natL (O.filter fun j => decide (T j k < 0))) (Ev.on ?_ F.at_) fun _ F => ?_
      · exact (ev_lcf (xs := O) (inj := fun x : Nat => D.int (x : Int)) (p := fun j => decide (T j k < 0)) (g := fun x : Nat => D.int (x : Int)) (ev_name rfl) iter_nats (by omega) (fun j hj Da C own wr => evT_cmp (ev_told (ev_name rfl) (ev_name rfl) (ev_name rfl) (hO j hj) hk (by omega)) ev_int op_lt) fun j hj _ Da C own wr => ev_name rfl).ev
      refine x_assign F (d := natL (insN T O k)) (Ev.on ?_ F.at_) fun _ F => ?_
      · unfold insN natL
        rw [List.map_append, List.map_append]
        refine ev_binop (ev_binop (ev_name rfl) (ev_list (evs_cons (ev_name rfl) evs_nil) (by show 1 ≤ sizeLine; omega)) (op_addL (by simp; omega))) (ev_lcf (xs := O) (inj := fun x : Nat => D.int (x : Int)) (g := fun x : Nat => D.int (x : Int)) (ev_name rfl) iter_nats (by omega) (fun j hj Da C own wr => evT_cmp (ev_name rfl) (ev_name rfl) op_notin_nats) fun j hj _ Da C own wr => ev_name rfl).ev (op_addL ?_)
        have := List.length_filter_le (fun j => !((O.filter fun j => decide (T j k < 0)).any fun t => decide (t = j))) O
        simp only [List.length_append, List.length_map, List.length_singleton, List.length_cons, List.length_nil]
        omega
      rw [hnext]
      exact ex_nil (.inl ⟨.inl rfl, F.next rfl ⟨rfl, rfl, trivial⟩⟩)
    · refine x_ret F ((ev_name rfl).on F.at_) fun v s F r => ⟨v, rfl, F.done rfl rfl, r.less fun b q => .inl q⟩
end
-- part G9
theorem iterR0 {n : Nat} (h1 : (n : Int) < 2 ^ 62) : IterR (.range 0 n 1) ((List.range n).map fun i : Nat => D.int (i : Int)) := by
  have := iterR_range (a := 0) (b := n) (c := 1) (small_one (by omega) (by omega) (by omega) h1) (by rw [rangeSize_one]; split <;> omega)
  have e : rangeD 0 1 (Builtin.Range.rangeSize 0 (n : Int) 1).toNat = (List.range n).map fun i : Nat => D.int (i : Int) := by
    have : (Builtin.Range.rangeSize 0 (n : Int) 1).toNat = n := by rw [rangeSize_one]; split <;> omega
    rw [this]; simp [rangeD]
  rw [e] at this; exact this

/-- how often each beginning of the tail stands up to its end -/
noncomputable def nmAt (cs : List Nat) (i : Nat) : List (Str × Int) := (List.range (cs.length - i)).map fun m => (Sx ((cs.drop i).take (m + 1)), ((i + 1 + m : Nat) : Int))
structure Prof where
  a : Int
  b : Int
  c : Int
  d : Int
  kv : List (Str × Int)
noncomputable def profAt (cs : List Nat) (T : List Nat) : Nat → Prof
  | 0 => ⟨0, 0, 0, 0, []⟩
  | i + 1 => let p := profAt cs T i; ⟨((cs.length : Int) - i - T.getD i 0) + p.a, ((cs.length : Int) - i) + p.b, (i : Int) + p.c, (T.getD i 0 : Nat) + p.d, addAll p.kv (nmAt cs i)⟩
noncomputable def Prof.D (p : Prof) : D := stats p.a p.b p.c p.d (.sdict p.kv)
noncomputable def natD (T : List Nat) : D := .list ((T.map fun x : Nat => (x : Int)).map .int)
theorem nmAt_nodup (cs : List Nat) (i : Nat) : ((nmAt cs i).map (·.1)).Nodup := by
  unfold nmAt
  rw [List.map_map]
  refine List.pairwise_map.mpr (List.pairwise_lt_range.imp_of_mem fun {x y} hx hy hxy e => ?_)
  have e : Sx ((cs.drop i).take (x + 1)) = Sx ((cs.drop i).take (y + 1)) := e
  rw [Sx_inj] at e
  have := congrArg List.length e
  simp at this hx hy
  omega
theorem nmAt_len (cs : List Nat) (i : Nat) : (nmAt cs i).length = cs.length - i := by unfold nmAt; simp

noncomputable abbrev env95 (w : World) (L : Addr) : Env := callEnvC (fn95 w).1 L 95
noncomputable def bodyFor : Stmt → List Stmt
  | .For _ _ b _ _ => b
  | _ => []
noncomputable abbrev turn95 (w : World) : List Stmt := bodyFor ((bodyOf (fn95 w).1).getD 2 (.Pass default))
section
variable {w : World} {prog : Program} {A : Around} {base : Heap} {Lc : Addr} {S : Addr → Prop} {Lv : Lev} {s : Shared} {Q : Flow → Shared → Prop} {m : Nat}
noncomputable def varsP (cs T : List Nat) (v : Value) : List (Str × D) := [("text", .str (Sx cs)), ("tops", natD T), ("n", .int (cs.length : Int)), ("whole", .raw v)]
set_option maxHeartbeats 2000000 in
theorem prof_turn {cs T : List Nat} {k : Nat} {v : Value} (hn : cs.length ≤ 100) (hT : T.length = cs.length) (hk : k < cs.length) (hlen : (profAt cs T k).kv.length ≤ 10000) (hnd : ((profAt cs T k).kv.map (·.1)).Nodup)
    (F : Fm Lv (fcx w prog A (m + 3) base (env95 w Lc) S (("i", .int (k : Int)) :: varsP cs T v)) [] (RepN prog w Lv.s₀.heap v (profAt cs T k).D) s)
    (hb : ∀ b o, base.get? b = some o → Lv.s₀.heap.get? b = some o) (hkz : KeepZ Lv)
    (kk : ∀ v' s', Fm Lv (fcx w prog A (m + 3) base (env95 w Lc) S (varsP cs T v')) [] (RepN prog w Lv.s₀.heap v' (profAt cs T (k + 1)).D) s' → Q .next s') :
    Ex (fcx w prog A (m + 3) base (env95 w Lc) S (("i", .int (k : Int)) :: varsP cs T v)) (execs (turn95 w) (env95 w Lc)) Q s := by
  have hsz : sizeLine = 16777216 := by decide
  generalize hp : profAt cs T k = p at F hlen hnd
  have F0 := F
  refine Fm.acquire kdS (a := p.a) (b := p.b) (c := p.c) (d := p.d) (kvs := p.kv) F (fun x d e => ?_) hb hkz fun t e ta tb tc td mm hv hte t0 e0 F => ?_
  · have e : look (("i", .int (k : Int)) :: varsP cs T v) x = some d := e
    rcases List.mem_cons.mp (mem_of_lookup e) with q | q
    · injection q with _ q; subst q; exact .int _
    · rcases List.mem_cons.mp q with q | q
      · injection q with _ q; subst q; exact .str _
      · rcases List.mem_cons.mp q with q | q
        · injection q with _ q; subst q; exact .nums _
        · rcases List.mem_cons.mp q with q | q
          · injection q with _ q; subst q; exact .int _
          · rcases List.mem_cons.mp q with q | q
            · injection q with _ q; subst q; exact .raw _
            · cases q
  subst hv
  have F : Fm Lv (fcx w prog A (m + 3) base (env95 w Lc) (fun b => S b ∨ b ∈ [t, e]) (("i", .int (k : Int)) :: varsP cs T (.ref t))) [t, e] (fun S h => StandsAt t (tup5 p.a p.b p.c p.d ta tb tc td e mm) S h ∧ AccD prog w (kdS.knd prog w) e p.kv S h) s := F
  refine ex_with F rfl rfl rfl rfl fun F => ?_
  have it : Iterable (.range ((k : Int) + 1) ((cs.length : Int) + 1) 1) ((List.range (cs.length - k)).map fun i : Nat => D.int ((k : Int) + 1 + (i : Int))) := by
    have := iter_range2 (a := (k : Int) + 1) (b := (cs.length : Int) + 1) (by omega) (by omega) (by omega) (by omega)
    rw [show ((cs.length : Int) + 1 - ((k : Int) + 1)).toNat = cs.length - k by omega] at this
    exact this
  have hnm : nmAt cs k = ((List.range (cs.length - k)).filter fun _ => true).map fun m : Nat => (Sx ((cs.drop k).take (m + 1)), ((k + 1 + m : Nat) : Int)) := by rw [List.filter_eq_self.mpr fun _ _ => rfl]; rfl
  refine x_own_usedD kdS (kvs := nmAt cs k) F ?_ fun a s' ha0 ha haS F => ?_
  · rw [hnm]
    refine evU_dc kdS (inj := fun i : Nat => D.int ((k : Int) + 1 + (i : Int))) (gk := fun m : Nat => Sx ((cs.drop k).take (m + 1))) (gv := fun m : Nat => ((k + 1 + m : Nat) : Int)) (c_range2 rfl rfl (ev_binop (ev_name rfl) ev_int op_add) (ev_binop (ev_name rfl) ev_int op_add)) it (by simp; omega) (fun _ _ _ _ _ _ => tests_nil) (fun x hx _ Da C own wr => ?_) (fun x hx _ Da C own wr => (ev_name rfl).cast (congrArg D.int (by omega))) ?_
    · have hx' : x < cs.length - k := by simpa using hx
      exact (ev_sliceS (l := cs) (i := k) (j := k + 1 + x) (ev_name rfl) (ev_name rfl) ((ev_name rfl).cast (congrArg D.int (by omega))) (by omega) (by omega) (by omega)).cast (congrArg (fun z => D.str (Sx (List.take z (cs.drop k)))) (by omega))
    · have := nmAt_nodup cs k
      rw [hnm, List.map_map] at this
      exact this
  have hnl := nmAt_len cs k
  have hTk : k < T.length := by omega
  have view : ∀ {Γ : Ctx} {s' : Shared} {L : Lev} {P1 : (Addr → Prop) → Heap → Prop}, Γ.prog = prog → Γ.w = w → Fm L Γ [a, t, e] P1 s' → (∀ S h, P1 S h → AccD prog w (kdS.knd prog w) a (nmAt cs k) S h ∧ StandsAt t (tup5 p.a p.b p.c p.d ta tb tc td e mm) S h ∧ AccD prog w (kdS.knd prog w) e p.kv S h) → Γ.ρ "whole" = some (.raw (.ref t)) → Γ.ρ "names" = some (.raw (.ref a)) →
      (Γ.view [a, t, e] [("whole", p.D), ("names", .sdict (nmAt cs k))]).At s'.heap := fun {Γ} {s'} {L} {P1} hp hw F hP e1 e2 => At.view F.at_ fun y dd ee => by
    obtain ⟨q1, q2, q3⟩ := hP _ _ F.own
    rw [hp, hw]
    rcases look2 ee with ⟨rfl, rfl⟩ | ⟨rfl, rfl⟩
    · exact ⟨t, e1, tup5_rep kdS (.tail _ (.head _)) (.tail _ (.tail _ (.head _))) q2 q3⟩
    · exact ⟨a, e2, q1.rep kdS (.head _)⟩
  have sub4 : ∀ {Γ : Ctx} {p1 p2 p3 : Pos} {kk : Nat} {x : Str} {a b c d : Int} {e : D}, Γ.ρ x = some (stats a b c d e) → (x == ("__debug__" : Str)) = false → Ev Γ (.Subscript (.Name x p1) (.Constant (.int 4) kk p2) p3) e := fun h hdb => ev_sub (ev_name h hdb) ev_int (sub_tuple (by intro _ _; rfl) (by decide) (by decide) rfl)
  refine x_assign F (d := .list [.sdict p.kv, .sdict (nmAt cs k)]) (tr_view_new (as := [a, t, e]) (l := [("whole", p.D), ("names", .sdict (nmAt cs k))])
    (new_list (newS_cons (EvND.new (κ := kdS) (ev_callD (κ := kdS) (f := .type "dict") (ev_blt topOk rfl g_dict b_dict) trivial (evs_cons (sub4 rfl (by decide)) evs_nil) (fn_dict kdS (by omega))))
      (newS_cons (EvND.new (κ := kdS) (ev_callD (κ := kdS) (f := .type "dict") (ev_blt topOk rfl g_dict b_dict) trivial (evs_cons (ev_name rfl) evs_nil) (fn_dict kdS (by omega)))) newS_nil)) (by show 2 ≤ sizeLine; omega)) (view rfl rfl F (fun _ _ p => p) rfl rfl) F.at_.wd.held) fun _ F => ?_
  have gT : ((T.map fun x : Nat => (x : Int)).map D.int)[((k : Int)).toNat]? = some (.int ((T.getD k 0 : Nat) : Int)) := by simp [hTk]
  refine x_bindN F (d := stats ((cs.length : Int) - k - (T.getD k 0 : Nat) + p.a) ((cs.length : Int) - k + p.b) ((k : Int) + p.c) (((T.getD k 0 : Nat) : Int) + p.d) (.sdict (addAll p.kv (nmAt cs k)))) (tr_view_old (as := [a, t, e]) (l := [("whole", p.D), ("names", .sdict (nmAt cs k))])
    (new_call (f := .ref 49) (ev_glob topOk rfl g49) ok49.callable (evs_cons (ev_name rfl) (evs_cons (ev_tuple (evs_cons (ev_binop (ev_binop (ev_name rfl) (ev_name rfl) op_sub) (ev_sub (ev_name rfl) (ev_name rfl) (sub_list (by intro _ _; rfl) (by omega) (by omega) gT)) op_sub) (evs_cons (ev_binop (ev_name rfl) (ev_name rfl) op_sub) (evs_cons (ev_name rfl) (evs_cons (ev_sub (ev_name rfl) (ev_name rfl) (sub_list (by intro _ _; rfl) (by omega) (by omega) gT)) (evs_cons (ev_name rfl) evs_nil))))) (by show 5 ≤ sizeLine; omega)) evs_nil)) (fn_stats kdS (by omega))) (view rfl rfl F (fun _ _ p => p) rfl rfl)) fun v _ F => ?_
  have sd : ∀ (j : Nat) (x y : D), [D.sdict p.kv, .sdict (nmAt cs k)][j]? = some x → [D.sdict p.kv, .sdict (nmAt cs k)][j]? = some y → SameD prog w 1 x y := fun j x y hx hy => by
    obtain rfl := Option.some.inj (hx.symm.trans hy)
    match j, hx with
    | 0, hx => obtain rfl := Option.some.inj hx; exact sameD_dict kdS (eqKV_self hnd)
    | 1, hx => obtain rfl := Option.some.inj hx; exact sameD_dict kdS (eqKV_self (nmAt_nodup cs k))
  refine x_skip F (tr_view_T (as := [a, t, e]) (l := [("whole", p.D), ("names", .sdict (nmAt cs k))]) (evT_cmp (ev_list (evs_cons (sub4 rfl (by decide)) (evs_cons (ev_name rfl) evs_nil)) (by show 2 ≤ sizeLine; omega)) (ev_name (d := .list [.sdict p.kv, .sdict (nmAt cs k)]) rfl)
    (op_neSameL (n := 1) rfl sd (by decide))) (view rfl rfl F (fun _ _ p => p.2) rfl rfl)) fun _ F => ?_
  have acc2 : ∀ (h h' : Heap) (S : Addr → Prop) (x y : Addr) (kv : List (Str × Int)), Heap.SameBut x h h' → S x → y ≠ x → AccD prog w (kdS.knd prog w) y kv S h → AccD prog w (kdS.knd prog w) y kv S h' := fun h h' S x y kv hs hS hne p => accD_ok.ext _ _ _ p (Ext.sameBut hs hS) fun o e => hs.extBut y o hne e
  have st2 : ∀ (h h' : Heap) (S : Addr → Prop) (x y : Addr) (o : Obj), Heap.SameBut x h h' → y ≠ x → StandsAt y o S h → StandsAt y o S h' := fun h h' S x y o hs hne p => ⟨p.1, hs.extBut y _ hne p.2⟩
  have nae : a ≠ e := fun q => ha (q ▸ .tail _ (.head _))
  have nat : t ≠ a := fun q => ha (q ▸ .head _)
  generalize hout : stats ((cs.length : Int) - k - (T.getD k 0 : Nat) + p.a) ((cs.length : Int) - k + p.b) ((k : Int) + p.c) (((T.getD k 0 : Nat) : Int) + p.d) (.sdict (addAll p.kv (nmAt cs k))) = out at F
  let P : List (Str × Int) → List (Str × Int) → (Addr → Prop) → Heap → Prop := fun k1 k2 S h => AccD prog w (kdS.knd prog w) a k1 S h ∧ StandsAt t (tup5 p.a p.b p.c p.d ta tb tc td e mm) S h ∧ AccD prog w (kdS.knd prog w) e k2 S h
  have okR : ∀ k1 k2, OwnOk (fun S h => RepN prog w Lv.s₀.heap v out S h ∧ P k1 k2 S h) [a, t, e] := fun k1 k2 => repN_ok.and ((accD_ok (Da := a)).own.and ((standsAt_ok (a := t)).and (accD_ok (Da := e)).own))
  have raw4 : ∀ {Γ : Ctx} {s' : Shared} {L : Lev} {P1 : (Addr → Prop) → Heap → Prop} {x : Str} {y ee : Addr} {a' b c d : Int} {ta tb tc td : Tok} {m : Nat} {p1 p2 p3 : Pos} {kk : Nat}, Γ.prog = prog → Γ.w = w → Fm L Γ [a, t, e] P1 s' → (∀ S h, P1 S h → StandsAt y (tup5 a' b c d ta tb tc td ee m) S h) → y ∈ [a, t, e] → Γ.ρ x = some (.raw (.ref y)) → (x == ("__debug__" : Str)) = false →
      Tr Γ (eval (.Subscript (.Name x p1) (.Constant (.int 4) kk p2) p3) Γ.env) (fun v _ => v = .ref ee) s' := fun {Γ} {s'} {L} {P1} {x} {y} {ee} {a'} {b} {c} {d} {ta} {tb} {tc} {td} {m} {p1} {p2} {p3} {kk} hp hw F hP hy hx hdb => by
    have C : (Γ.view [a, t, e] [(x, .tuple [.int a', .int b, .int c, .int d, .raw (.ref ee)])]).At s'.heap := At.view F.at_ fun z dd q => by
      obtain ⟨rfl, rfl⟩ := look1 q
      rw [hp, hw]
      exact ⟨y, hx, tup5_raw hy (hP _ _ F.own)⟩
    have hev : Ev (Γ.view [a, t, e] [(x, .tuple [.int a', .int b, .int c, .int d, .raw (.ref ee)])]) (.Subscript (.Name x p1) (.Constant (.int 4) kk p2) p3) (.raw (.ref ee)) :=
      ev_sub (d1 := .tuple [.int a', .int b, .int c, .int d, .raw (.ref ee)]) (ev_name (by show (match List.lookup x [(x, _)] with | some d => some d | none => Γ.ρ x) = _; rw [List.lookup_cons, beq_self_eq_true]) hdb) ev_int (sub_tuple (by intro _ _; rfl) (by decide) (by decide) rfl)
    have := hev.on C
    show Tr (Γ.view [a, t, e] [(x, .tuple [.int a', .int b, .int c, .int d, .raw (.ref ee)])]) (eval (.Subscript (.Name x p1) (.Constant (.int 4) kk p2) p3) (Γ.view [a, t, e] [(x, .tuple [.int a', .int b, .int c, .int d, .raw (.ref ee)])]).env) (fun v _ => v = .ref ee) s'
    exact this.mono fun v _ r => by obtain ⟨_, rfl⟩ := r.atom; rfl
  refine x_clear kdS (kvs := p.kv) (P' := fun S h => RepN prog w Lv.s₀.heap v out S h ∧ P (nmAt cs k) [] S h) F (a := e) (.tail _ (.tail _ (.head _))) (.inr e0) (okR _ _) (fun S h p => p.2.2.2)
    (fun S h h' hs hS p q => ⟨repN_ok.ext _ _ _ p.1 (Ext.sameBut hs hS) (fun _ m => nomatch m), acc2 _ _ _ _ _ _ hs hS nae p.2.1, st2 _ _ _ _ _ _ hs hte p.2.2.1, q⟩) (raw4 rfl rfl F (fun S h p => p.2.2.1) (.tail _ (.head _)) rfl (by decide)) (by omega) fun _ F => ?_
  refine x_clear kdS (kvs := nmAt cs k) (P' := fun S h => RepN prog w Lv.s₀.heap v out S h ∧ P [] [] S h) F (a := a) (.head _) (.inr ha0) (okR _ _) (fun S h p => p.2.1)
    (fun S h h' hs hS p q => ⟨repN_ok.ext _ _ _ p.1 (Ext.sameBut hs hS) (fun _ m => nomatch m), q, st2 _ _ _ _ _ _ hs nat p.2.2.1, acc2 _ _ _ _ _ _ hs hS (Ne.symm nae) p.2.2.2⟩)
    (((ev_name (d := .raw (.ref a)) rfl).on F.at_).mono fun v _ r => by obtain ⟨_, rfl⟩ := r.atom; rfl) (by omega) fun _ F => ?_
  refine x_assign F (d := .raw v) ((ev_name rfl).on F.at_) fun _ F => ex_nil ?_
  subst hout
  refine kk v _ (Fm.next (Γ' := fcx w prog A (m + 3) base (env95 w Lc) S (varsP cs T v)) (Fm.dropAll (os := []) F0 F (fun b q => .inl (.inl q)) (fun _ q => nomatch q) repN_ok fun p => ?_) rfl ⟨rfl, rfl, rfl, rfl, trivial⟩)
  show RepN prog w Lv.s₀.heap v (profAt cs T (k + 1)).D _ _
  have := p.1
  unfold profAt
  rw [hp]
  exact this
end
-- part G13
theorem natD_eq (T : List Nat) : natD T = natL T := by unfold natD natL; rw [List.map_map]; rfl
theorem kms_hi_nat (j n : Nat) : kms_hi (some (j : Int)) n = min j n := by
  show (if (j : Int) < 0 then (n - (-(j : Int)).toNat) else min (j : Int).toNat n) = _
  rw [if_neg (Int.not_lt.mpr (Int.natCast_nonneg j)), Int.toNat_natCast]
theorem kms_lo_nat (j n : Nat) : kms_lo (some (j : Int)) n = min j n := by
  show (if (j : Int) < 0 then (n - (-(j : Int)).toNat) else min (j : Int).toNat n) = _
  rw [if_neg (Int.not_lt.mpr (Int.natCast_nonneg j)), Int.toNat_natCast]
theorem cut_mid' {α : Type} (xs : List α) {i j : Nat} : cut xs (some (i : Int)) (some (j : Int)) = (xs.drop i).take (j - i) := by
  unfold cut
  rw [kms_hi_nat, kms_lo_nat]
  rcases Nat.le_total i xs.length with q | q
  · rw [Nat.min_eq_left q]
    rcases Nat.le_total j xs.length with z | z
    · rw [Nat.min_eq_left z]
    · rw [Nat.min_eq_right z, List.take_of_length_le (by simp), List.take_of_length_le (by simp; omega)]
  · rw [Nat.min_eq_right q, List.drop_eq_nil_of_le q, List.drop_eq_nil_of_le (Nat.le_refl _)]; simp
noncomputable def absI (x : Int) : Int := if x < 0 then -x else x
/-- the neighbours of the place -/
noncomputable def sidesAt (O : List Nat) (at_ : Nat) : List Nat := (O.drop (at_ - 1)).take (at_ - (at_ - 1)) ++ (O.drop (at_ + 1)).take 1
/-- what the tails taken out one by one must show -/
structure TakenLaw (n : Nat) (T : Nat → Nat → Int) (tops : List Nat) (O : Nat → List Nat) (at_ : Nat → Nat) : Prop where
  len : tops.length ≤ n
  sz : ∀ i, (O i).length ≤ 1000
  mem : ∀ i, ∀ j ∈ O i, j < n
  get : ∀ i, i < tops.length → (O i)[at_ i]? = some i
  fst : ∀ i, i < tops.length → ∀ k, k < at_ i → (O i)[k]? ≠ some i
  top : ∀ i, i < tops.length → IsMax (tops.getD i 0 : Nat) ((sidesAt (O i) (at_ i)).map (fun j => absI (T i j) - 1) ++ [0])
  two : ∀ i, i < tops.length → ∀ a b, sidesAt (O i) (at_ i) = [a, b] → ∃ m, IsMin m ((sidesAt (O i) (at_ i)).map (fun j => absI (T i j) - 1)) ∧ T a b = -1 - m
  next : ∀ i, i < tops.length → O (i + 1) = (O i).take (at_ i) ++ (O i).drop (at_ i + 1)
section
variable {w : World} {prog : Program} {n : Nat}
set_option maxHeartbeats 2000000 in
theorem fn_taken {m : Nat} {T : Nat → Nat → Int} {tops : List Nat} {O : Nat → List Nat} {at_ : Nat → Nat} (H : TakenLaw m T tops O at_) (hm : m ≤ 100) : Fn (Kf w) prog w (n + 1) (.ref 90) [toldD m T, natL (O 0), natL tops] (.bool true) :=
  fn_of_body ok90 rfl fun A base S s₀ L s₁ F => by
    have hsz : sizeLine = 16777216 := by decide
    have hl := H.len
    refine x_forN (d := .range 0 (tops.length : Int) 1) (n := tops.length) (inj := fun j : Nat => D.int (j : Int)) (fun k => [("told", toldD m T), ("order", natL (O k)), ("tops", natL tops)]) (fun _ => noOwn) F (fun _ => noOwn_ok)
      ((c_range rfl rfl (c_len rfl rfl (ev_name rfl) (fn_len_nats (by omega)))).on F.at_) ?_ ⟨rfl, rfl, rfl, trivial⟩ (fun k hk L' wr s hW hs₀ F => ?_) fun s F => ?_
    · have := iter_range (n := (tops.length : Int)) (by omega) (by omega)
      rw [Int.toNat_natCast] at this; exact this
    · have hz := H.sz k
      have hmem := H.mem k
      have hget := H.get k hk
      have hfst := H.fst k hk
      have htop := H.top k hk
      have htwo := H.two k hk
      have hnext := H.next k hk
      have hkm : k < m := by omega
      generalize O k = X at F hz hmem hget hfst htop htwo hnext
      generalize at_ k = a at hget hfst htop htwo hnext
      have haX : a < X.length := (List.getElem?_eq_some_iff.mp hget).1
      refine x_assign F (d := .int (a : Int)) (Ev.on ?_ F.at_) fun _ F => ?_
      · have hX : natL X = .list ((X.map fun x : Nat => (x : Int)).map .int) := (natD_eq X).symm
        exact ev_meth ((ev_name rfl).cast hX) (evs_cons (ev_name rfl) evs_nil) hasT_list PySem.F.plainAttrs_list PySem.F.slot_list_index PySem.F.type_list_index (fn_index (j := a) (by rw [List.getElem?_map, hget]; rfl) (fun j hj e => by
          rw [List.getElem?_map] at e
          obtain ⟨y, hy, e⟩ := Option.map_eq_some_iff.mp e
          exact hfst j hj (by rw [hy]; congr 1; omega)) (by simp; omega))
      refine x_assign F (d := natL (sidesAt X a)) (Ev.on ?_ F.at_) fun _ F => ?_
      · unfold sidesAt natL
        rw [List.map_append]
        refine ev_binop ((ev_slice (ev_name rfl) (part_some ((c_max2 rfl rfl (ev_binop (ev_name rfl) ev_int op_sub) ev_int fn_max2).cast (d' := .int ((a - 1 : Nat) : Int)) (congrArg D.int (by split <;> omega)))) (part_some (ev_name rfl)) (by simp; omega)).cast (congrArg D.list (by rw [cut_mid', List.map_take, List.map_drop])))
          ((ev_slice (ev_name rfl) (part_some ((ev_binop (ev_name rfl) ev_int op_add).cast (d' := .int ((a + 1 : Nat) : Int)) (congrArg D.int (by omega)))) (part_some ((ev_binop (ev_name rfl) ev_int op_add).cast (d' := .int ((a + 2 : Nat) : Int)) (congrArg D.int (by omega)))) (by simp; omega)).cast (congrArg D.list (by rw [cut_mid', show a + 2 - (a + 1) = 1 by omega, List.map_take, List.map_drop]))) (op_addL (by simp; omega))
      have hsd : ∀ j ∈ sidesAt X a, j < m := fun j hj => by
        unfold sidesAt at hj
        rcases List.mem_append.mp hj with q | q
        · exact hmem j (List.mem_of_mem_drop (List.mem_of_mem_take q))
        · exact hmem j (List.mem_of_mem_drop (List.mem_of_mem_take q))
      have hsl : (sidesAt X a).length ≤ 2 := by unfold sidesAt; simp; omega
      generalize sidesAt X a = sd at F hsd hsl htop htwo
      have hnr : (sd.map fun j => D.int (absI (T k j) - 1)) = (sd.map fun j => absI (T k j) - 1).map D.int := by rw [List.map_map]; rfl
      refine x_used_list F (ds := (sd.map fun j => absI (T k j) - 1).map .int) ?_ fun _ F => ?_
      · rw [← hnr]
        exact evU_lcm (xs := sd) (inj := fun x : Nat => D.int (x : Int)) (ev_name rfl) iter_nats (by omega) fun j hj Da C own wr => ev_binop (c_abs rfl rfl (ev_told (ev_name rfl) (ev_name rfl) (ev_name rfl) hkm (hsd j hj) (by omega)) fn_abs) ev_int op_sub
      have hnl : (sd.map fun j => absI (T k j) - 1).length = sd.length := List.length_map ..
      have gT : (tops.map fun x : Nat => D.int (x : Int))[((k : Int)).toNat]? = some (.int ((tops.getD k 0 : Nat) : Int)) := by simp [hk]
      refine x_skip F (EvT.on (b := false) (EvT.cast (evT_cmp (c_max rfl rfl ((ev_binop (ev_name rfl) (ev_list (evs_cons ev_int evs_nil) (by show 1 ≤ sizeLine; omega)) (op_addL (by simp; omega))).cast (d' := .list (((sd.map fun j => absI (T k j) - 1) ++ [0]).map .int)) (by rw [List.map_append]; rfl)) (fn_max htop)) (ev_sub (ev_name rfl) (ev_name rfl) (sub_list (by intro _ _; rfl) (by omega) (by omega) gT)) op_ne) (by simp)) F.at_) fun _ F => ?_
      refine x_skip F (EvT.on (b := false) ?_ F.at_) fun _ F => ?_
      · by_cases h2 : sd.length = 2
        · obtain ⟨x, y, rfl⟩ := len2 h2
          obtain ⟨mn, hmn, hT2⟩ := htwo x y rfl
          have hx := hsd x (.head _)
          have hy := hsd y (.tail _ (.head _))
          have g0 : ([x, y].map fun x : Nat => D.int (x : Int))[((0 : Int)).toNat]? = some (.int (x : Int)) := rfl
          have g1 : ([x, y].map fun x : Nat => D.int (x : Int))[((1 : Int)).toNat]? = some (.int (y : Int)) := rfl
          exact EvT.cast (evT_boolop (evTs_and (b := false) (a := true) ((evT_cmp (c_len rfl rfl (ev_name rfl) (fn_len_list (by simp))) ev_int op_eq).cast rfl) fun _ => (evTs_and (b := true) (a := false) ((evT_cmp (ev_told (ev_name rfl) (ev_sub (ev_name rfl) ev_int (sub_list (by intro _ _; rfl) (by decide) (by decide) g0)) (ev_sub (ev_name rfl) ev_int (sub_list (by intro _ _; rfl) (by decide) (by decide) g1)) hx hy (by omega)) (ev_binop (ev_unop ev_int op_neg) (c_min rfl rfl (ev_name rfl) (fn_min hmn)) op_sub) op_ne).cast (by rw [hT2]; simp)) fun q => nomatch q))) rfl
        · exact EvT.cast (evT_boolop (evTs_and (b := true) (a := false) ((evT_cmp (c_len rfl rfl (ev_name rfl) (fn_len_list (by simp; omega))) ev_int op_eq).cast (by simp; omega)) fun q => nomatch q)) rfl
      refine x_assign F (d := natL (X.take a ++ X.drop (a + 1))) (Ev.on ?_ F.at_) fun _ F => ?_
      · unfold natL
        rw [List.map_append]
        refine ev_binop ((ev_slice (ev_name rfl) part_none (part_some (ev_name rfl)) (by simp; omega)).cast (congrArg D.list (by rw [cut_to _ (by omega), Int.toNat_natCast, List.map_take])))
          ((ev_slice (ev_name rfl) (part_some ((ev_binop (ev_name rfl) ev_int op_add).cast (d' := .int ((a + 1 : Nat) : Int)) (congrArg D.int (by omega)))) part_none (by simp; omega)).cast (congrArg D.list (by rw [cut_from _ (by omega), Int.toNat_natCast, List.map_drop]))) (op_addL (by simp; omega))
      rw [hnext]
      exact ex_nil (.inl ⟨.inl rfl, F.next rfl ⟨rfl, rfl, rfl, trivial⟩⟩)
    · refine x_ret F (ev_bool.on F.at_) fun v s F r => ⟨v, rfl, F.done rfl rfl, r.less fun b q => .inl q⟩
end
-- part G10
theorem put_nodup {K : Type} [DecidableEq K] {kvs : List (K × Int)} {k : K} {i : Int} (h : (kvs.map (·.1)).Nodup) : ((put kvs k i).map (·.1)).Nodup := by
  unfold put
  split
  · have : (kvs.map fun kv => if kv.1 = k then (kv.1, i) else kv).map (·.1) = kvs.map (·.1) := by
      rw [List.map_map]; apply List.map_congr_left; intro a _; show (if a.1 = k then (a.1, i) else a).1 = a.1; split <;> rfl
    rw [this]; exact h
  · rename_i q
    rw [List.map_append, List.nodup_append]
    refine ⟨h, by simp, fun a ha b hb e => ?_⟩
    simp at hb
    subst hb; subst e
    obtain ⟨p, hp, rfl⟩ := List.mem_map.mp ha
    exact q (List.any_eq_true.mpr ⟨p, hp, by simp⟩)
theorem addAll_nodup {K : Type} [DecidableEq K] (t s : List (K × Int)) : ((addAll t s).map (·.1)).Nodup := by
  have h1 : ∀ (l acc : List (K × Int)), (acc.map (·.1)).Nodup → ((l.foldl (fun acc p => put acc p.1 p.2) acc).map (·.1)).Nodup := fun l => by
    induction l with
    | nil => exact fun _ h => h
    | cons p l ih => exact fun acc h => ih _ (put_nodup h)
  have h2 : ∀ (l acc : List (K × Int)), (acc.map (·.1)).Nodup → ((l.foldl addKV acc).map (·.1)).Nodup := fun l => by
    induction l with
    | nil => exact fun _ h => h
    | cons p l ih => exact fun acc h => ih _ (put_nodup h)
  exact h2 _ _ (h1 _ _ List.nodup_nil)


theorem addAll_le {K : Type} [DecidableEq K] (t s : List (K × Int)) : (addAll t s).length ≤ t.length + s.length := by
  have h1 := addAll_len t s (putAll t)
  have h2 := putAll_len t
  unfold addAll
  omega
theorem prof_kv {cs T : List Nat} (k : Nat) : ((profAt cs T k).kv.map (·.1)).Nodup ∧ (profAt cs T k).kv.length ≤ k * cs.length := by
  induction k with
  | zero => exact ⟨List.nodup_nil, by show 0 ≤ _; omega⟩
  | succ k ih =>
    refine ⟨addAll_nodup _ _, ?_⟩
    show (addAll _ _).length ≤ _
    have h1 := addAll_le (profAt cs T k).kv (nmAt cs k)
    rw [nmAt_len] at h1
    have := ih.2
    rw [Nat.succ_mul]
    omega
section
variable {w : World} {prog : Program} {m : Nat}
set_option maxHeartbeats 1000000 in
theorem fn_profile {cs T : List Nat} (hn : cs.length ≤ 100) (hT : T.length = cs.length) : Fn (Kf w) prog w (m + 4) (.ref 95) [.str (Sx cs), natD T] ((profAt cs T cs.length).D) := .mk fun A base S s vals hr hw r => by
  refine fn_enter ok95 (n := m + 3) hr hw r rfl (W := fun _ => False) noOwn_ok trivial fun Lc s₁ F => ?_
  have hsz : sizeLine = 16777216 := by decide
  refine x_assign F (d := .int (cs.length : Int)) ((c_len rfl rfl (ev_name rfl) (fn_len_str (l := cs) (by omega))).on F.at_) fun _ F => ?_
  refine x_bindN F (d := (profAt cs T 0).D) ((new_tuple (newS_cons (new_int ev_int) (newS_cons (new_int ev_int) (newS_cons (new_int ev_int) (newS_cons (new_int ev_int) (newS_cons (EvND.new (κ := kdS) (ev_dict0 kdS)) newS_nil))))) (by show 5 ≤ sizeLine; omega)).run _ F.at_) fun v s₂ F => ?_
  have F := F.reown (P' := RepN prog w s.heap v (profAt cs T 0).D) repN_ok F.own.1
  refine x_forG (γ := Value) (d := .range 0 (cs.length : Int) 1) (ds := (List.range cs.length).map fun i : Nat => D.int (i : Int)) (fun _ v => varsP cs T v) (fun k v => RepN prog w s.heap v (profAt cs T k).D) v F (fun _ _ => repN_ok)
    ((c_range rfl rfl (ev_name rfl)).on F.at_) (iterR0 (by omega)) (fun _ _ _ _ _ _ _ => trivial) ⟨rfl, rfl, rfl, rfl, trivial⟩ (fun k v d' hd => ?_) fun v s' F => ?_
  · have hk : k < cs.length := by
      have := (List.getElem?_eq_some_iff.mp hd).1
      simpa using this
    obtain rfl : d' = .int (k : Int) := by
      rw [List.getElem?_map, List.getElem?_range hk] at hd
      exact (Option.some.inj hd).symm
    refine ⟨_, .name, rfl, fun L' wr s' hkz hW hs₀ F => ?_⟩
    have hq := prof_kv (cs := cs) (T := T) k
    have hkn : k * cs.length ≤ 100 * 100 := Nat.mul_le_mul (by omega) hn
    have F := F.next (Γ' := fcx w prog (A.deeper (env95 w Lc)) (m + 3) base (env95 w Lc) _ (("i", .int (k : Int)) :: varsP cs T v)) rfl ⟨rfl, rfl, rfl, rfl, rfl, trivial⟩
    refine ex_with F rfl rfl rfl rfl fun F => ?_
    have hs₀' : L'.s₀ = s := hs₀
    refine prof_turn hn hT hk (by omega) hq.1 (by rw [hs₀']; exact F) (fun b o e => by rw [hs₀']; exact hw.up b o e) hkz fun v' s'' F => .inl ⟨.inl rfl, v', ?_⟩
    rw [hs₀'] at F
    exact F.next rfl ⟨rfl, rfl, rfl, rfl, trivial⟩
  · have hl : ((List.range cs.length).map fun i : Nat => D.int (i : Int)).length = cs.length := by simp
    rw [hl] at F
    refine x_ret F (d := .raw v) ((ev_name rfl).on F.at_) fun u s'' F r => ⟨_, rfl, F.done rfl rfl, ?_⟩
    obtain ⟨_, rfl⟩ := r.atom
    exact Rep.less (S := fun b => _ ∨ isOld s.heap b) F.own fun b q => .inr (hw.held b q)
end
-- part G15
/-- the way of a place -/
noncomputable def wayI (code : Int) (k : Nat) : Int := if (code.fdiv (2 ^ k)).fmod 2 == 1 then (k : Int) + 1 else -((k : Int) + 1)
noncomputable def keysG (code : Int) (n : Nat) : List (Nat × Int) := (List.range n).map fun k => (n - 1 - k, wayI code k)
noncomputable def minI (W : List Int) : Int := W.foldr (fun a b => if a < b then a else b) 0
theorem minI_is (W : List Int) : IsMin (minI W) (W ++ [0]) := by
  induction W with
  | nil => exact ⟨.head _, fun a h => by rw [List.mem_singleton.mp h]; exact Int.le_refl _⟩
  | cons x W ih =>
    show IsMin (if x < minI W then x else minI W) (x :: (W ++ [0]))
    split
    · rename_i h
      exact ⟨.head _, fun a q => by
        rcases List.mem_cons.mp q with rfl | q
        · exact Int.le_refl _
        · have := ih.2 a q; omega⟩
    · rename_i h
      exact ⟨.tail _ ih.1, fun a q => by
        rcases List.mem_cons.mp q with rfl | q
        · omega
        · exact ih.2 a q⟩
noncomputable def lowI (W : List Int) : Int := minI W - 1
noncomputable def rowG (W : List Int) (i : Nat) : List Int := (List.range W.length).map fun k => if i ≤ k then W.getD (i + W.length - 1 - k) 0 else lowI W
noncomputable def tG (code : Int) (W : List Int) (i j : Nat) : Int := cmpK (keysG code W.length) (rowG W i) (rowG W j)
noncomputable def dTup (t : List Int) : D := .tuple (t.map .int)
noncomputable def dJudge (keys : List (Nat × Int)) : D := .inst 38 "comp_select_list" (.list (dKeys keys))
noncomputable def rowsD (W : List Int) : D := .list ((List.range W.length).map fun i => dTup (rowG W i))
theorem rowG_len (W : List Int) (i : Nat) : (rowG W i).length = W.length := by unfold rowG; simp
theorem keysG_lt {code : Int} {n : Nat} {p : Nat × Int} (h : p ∈ keysG code n) : p.1 < n := by
  obtain ⟨k, hk, rfl⟩ := List.mem_map.mp h
  have : k < n := by simpa using hk
  show n - 1 - k < n
  omega
noncomputable abbrev env100 (w : World) (L : Addr) : Env := callEnvC (fn100 w).1 L 100
noncomputable abbrev code100 (w : World) (k : Nat) : List Stmt := (bodyOf (fn100 w).1).drop k
section
variable {w : World}
theorem find35 : findIn (Kf w) (.ref 38) "compare" = some (some (.ref 35)) := id rfl
theorem type35 : typeIn (Kf w) (.ref 35) = some (.type "function") := id rfl
theorem shadow35 : ∀ hs t v n, shadowIn (some { cls := .type "dict", data := .dict #[⟨hs, .str "comp_select_list" t, v⟩] n }) "compare" = some false := fun _ _ _ _ => id rfl
theorem call38 {w : World} : Callable (Kf w) (.ref 38) := by show keepIn (Kf w) (.ref 38) = true; exact id rfl
/-- judge.compare(a, b) -/
theorem ev_judge {Γ : Ctx} {w : World} {m : Nat} {o x y : Expr} {apos pos : Pos} {keys : List (Nat × Int)} {a b : List Int} {pl : Sem Bool} (hK : Γ.K = Kf w) (hw : Γ.w = w) (hn : Γ.n = m + 1) (ho : Ev Γ o (dJudge keys)) (hx : Ev Γ x (dTup a)) (hy : Ev Γ y (dTup b)) (hk : ∀ p ∈ keys, p.1 < a.length ∧ p.1 < b.length) (ha : a.length ≤ 1000)
    (he : eval (.Call (.Attribute o "compare" apos) [x, y] [] pos) Γ.env = (do
      let ov ← eval o Γ.env
      standAt apos.atName
      let (f, first) ← holding [ov] (getMethod ov "compare" pl)
      callWith pos f first (backTo pos (starEach [x, y] Γ.env)) (backToKw pos (keywordEach [] Γ.env))) := by rfl) (hpx : plainE x = true := by rfl) (hpy : plainE y = true := by rfl) :
    Ev Γ (.Call (.Attribute o "compare" apos) [x, y] [] pos) (.int (cmpK keys a b)) :=
  ev_methI (C := 38) (fI := 28) (f := 35) (hK ▸ cls38) ho (evs_cons hx (evs_cons hy evs_nil hpy) hpx) (hK ▸ find35) (hK ▸ type35) shadow35 (hK ▸ ok35.callable) (by
    rw [hK, hn, hw]
    exact fn_compare (keys := keys) (X := a) (Y := b) hk ha) he (by rw [List.all_cons, List.all_cons, hpx, hpy]; rfl)
end
section
variable {w : World} {prog : Program} {A : Around} {base : Heap} {L : Addr} {S : Addr → Prop} {Lv : Lev} {s : Shared} {Q : Flow → Shared → Prop}
noncomputable def varsA (code : Int) (W : List Int) : List (Str × D) := [("word", intsD W), ("n", .int (W.length : Int)), ("tables", .list (tabsD W)), ("keys", .list (dKeys (keysG code W.length))), ("rows", rowsD W), ("judge", dJudge (keysG code W.length)), ("told", toldD W.length (tG code W))]
theorem pow_small {k : Nat} (h : k < 16) : (2 : Int) ^ k ≠ 0 ∧ ((2 : Int) ^ k).natAbs < 1073741824 := by
  have : ∀ k : Fin 16, (2 : Int) ^ k.val ≠ 0 ∧ ((2 : Int) ^ k.val).natAbs < 1073741824 := by decide
  exact this ⟨k, h⟩
theorem iterN {n : Nat} (h : n ≤ 1000) : Iterable (.range 0 (n : Int) 1) ((List.range n).map fun i : Nat => D.int (i : Int)) := by
  have := iter_range (n := (n : Int)) (by omega) (by omega)
  rw [Int.toNat_natCast] at this; exact this
set_option maxHeartbeats 4000000 in
theorem segA {code : Int} {W : List Int} (hz : W.length ≤ 9) (F : Fm Lv (fcx w prog A 18 base (env100 w L) S [("word", intsD W), ("code", .int code)]) [] noOwn s)
    (k : ∀ S' s', Fm Lv (fcx w prog A 18 base (env100 w L) S' (varsA code W)) [] noOwn s' → Ex (fcx w prog A 18 base (env100 w L) S' (varsA code W)) (execs (code100 w 7) (env100 w L)) Q s') :
    Ex (fcx w prog A 18 base (env100 w L) S [("word", intsD W), ("code", .int code)]) (execs (code100 w 0) (env100 w L)) Q s := by
  have hsz : sizeLine = 16777216 := by decide
  have hlen : Fn (Kf w) prog w 18 (.builtin "len") [intsD W] (.int W.length) := by
    have := fn_len_list (K := Kf w) (prog := prog) (w := w) (n := 18) (ds := W.map .int) (by simp; omega)
    rw [List.length_map] at this; exact this
  refine x_unpack F (d := .tuple [.int (W.length : Int), .int (lowI W)]) ((ev_tuple (evs_cons (c_len rfl rfl (ev_name rfl) hlen)
    (evs_cons (ev_binop (c_min rfl rfl ((ev_binop (ev_name rfl) (ev_list (evs_cons ev_int evs_nil) (by show 1 ≤ sizeLine; omega)) (op_addL (by simp; omega))).cast (d' := .list ((W ++ [0]).map .int)) (by rw [List.map_append]; rfl)) (fn_min (minI_is W))) ev_int op_sub) evs_nil)) (by show 2 ≤ sizeLine; omega)).on F.at_) .t2 fun _ F => ?_
  refine x_assign F (d := .list (tabsD W)) ((ev_callL (f := .ref 80) (ev_glob topOk rfl g80) ok80.callable (evs_cons (ev_name rfl) evs_nil) (fn_tables (n := 16) (by omega))).ev.on F.at_) fun _ F => ?_
  have htl : (tabsD W).length = W.length := by unfold tabsD; simp
  refine x_skip F (EvT.on ((evT_cmp (c_len rfl rfl (ev_name rfl) (fn_len_list (ds := tabsD W) (by omega))) (ev_name rfl) op_ne).cast (b' := false) (by rw [htl]; simp)) F.at_) fun _ F => ?_
  refine x_used_list F (ds := dKeys (keysG code W.length)) ?_ fun _ F => ?_
  · unfold dKeys keysG
    rw [List.map_map]
    refine evU_lcm (xs := List.range W.length) (inj := fun i : Nat => D.int (i : Int)) (c_range rfl rfl (ev_name rfl)) (iterN (by omega)) (by simp; omega) fun j hj Da C own wr => ?_
    have hj' : j < W.length := by simpa using hj
    have hp := pow_small (k := j) (by omega)
    refine ev_tuple (evs_cons ((ev_binop (ev_binop (ev_name rfl) ev_int op_sub) (ev_name rfl) op_sub).cast (congrArg D.int (by omega))) (evs_cons (ev_ifexp (evT_cmp (ev_binop (ev_binop (ev_name rfl) ((ev_binop ev_int (ev_name rfl) (op_pow (by omega) ?_)).cast (d' := .int ((2 : Int) ^ j)) (by rw [Int.toNat_natCast])) (op_fdiv hp.1 (PyProof.noPylong_small hp.2))) ev_int (op_mod (by decide))) ev_int op_eq)
      (fun h => (ev_binop (ev_name rfl) ev_int op_add).cast (d' := .int (wayI code j)) (by show _ = D.int (wayI code j); unfold wayI; rw [if_pos h])) fun h => (ev_unop (ev_binop (ev_name rfl) ev_int op_add) op_neg).cast (by show _ = D.int (wayI code j); unfold wayI; rw [if_neg (by rw [h]; decide)])) evs_nil)) (by show 2 ≤ sizeLine; omega)
    have : Builtin.Int.intBits 2 = 2 := by decide
    rw [this]; omega
  refine x_assign F (d := rowsD W) (Ev.on ?_ F.at_) fun _ F => ?_
  · refine (ev_lcm (xs := List.range W.length) (inj := fun i : Nat => D.int (i : Int)) (c_range rfl rfl (ev_name rfl)) (iterN (by omega)) (by simp; omega) fun i hi Da C own wr => ?_).ev
    have hi' : i < W.length := by simpa using hi
    unfold dTup rowG
    refine c_tuple rfl rfl ?_ (fn_tuple (by simp; omega))
    rw [List.map_map]
    refine (ev_lcm (xs := List.range W.length) (inj := fun i : Nat => D.int (i : Int)) (c_range rfl rfl (ev_name rfl)) (iterN (by omega)) (by simp; omega) fun j hj Da C own wr => ?_).ev
    have hj' : j < W.length := by simpa using hj
    refine ev_ifexp (b := decide (i ≤ j)) ((evT_cmp (ev_name rfl) (ev_name rfl) op_ge).cast (by rw [Bool.eq_iff_iff]; simp)) (fun h => ?_) fun h => ?_
    · have h : i ≤ j := by simpa using h
      have hlt : i + W.length - 1 - j < W.length := by omega
      exact (ev_sub (ev_name rfl) (ev_binop (ev_binop (ev_binop (ev_name rfl) (ev_name rfl) op_add) ev_int op_sub) (ev_name rfl) op_sub) (sub_list (d := .int (W.getD (i + W.length - 1 - j) 0)) (by intro _ _; rfl) (by omega) (by omega) (by rw [show ((i : Int) + (W.length : Int) - 1 - (j : Int)).toNat = i + W.length - 1 - j by omega]; simp [hlt]))).cast (by show _ = D.int (if i ≤ j then W.getD (i + W.length - 1 - j) 0 else lowI W); rw [if_pos h])
    · have h : ¬ i ≤ j := by simpa using h
      exact (ev_name rfl).cast (by show _ = D.int (if i ≤ j then W.getD (i + W.length - 1 - j) 0 else lowI W); rw [if_neg h])
  refine x_assign F (d := dJudge (keysG code W.length)) ((ev_call (f := .ref 38) (ev_glob topOk rfl g38) call38 (evs_cons (ev_name rfl) evs_nil) (fn_judge (n := 16))).on F.at_) fun _ F => ?_
  have itR : Iterable (rowsD W) ((List.range W.length).map fun i => dTup (rowG W i)) := iterable_list
  refine x_assign F (d := toldD W.length (tG code W)) (Ev.on ?_ F.at_) fun s' F => ?_
  · refine (ev_lcm (xs := List.range W.length) (inj := fun i => dTup (rowG W i)) (g := fun i => intsD ((List.range W.length).map fun j => tG code W i j)) (ev_name rfl) itR (by simp; omega) fun i hi Da C own wr => ?_).ev
    unfold intsD
    rw [List.map_map]
    refine (ev_lcm (xs := List.range W.length) (inj := fun i => dTup (rowG W i)) (ev_name rfl) itR (by simp; omega) fun j hj Da C own wr => ?_).ev
    exact ev_judge (m := 17) rfl rfl rfl (ev_name rfl) (ev_name rfl) (ev_name rfl) (fun p hp => by rw [rowG_len, rowG_len]; exact ⟨keysG_lt hp, keysG_lt hp⟩) (by rw [rowG_len]; omega)
  have F := F.next (Γ' := fcx w prog A 18 base (env100 w L) S (varsA code W)) rfl ⟨rfl, rfl, rfl, rfl, rfl, rfl, rfl, trivial⟩
  exact ex_with F rfl rfl rfl rfl fun F => k _ s' F
end
-- part G16
/-- a list that stays empty -/
theorem evT_none {Γ : Ctx} {e : Expr} {p1 p2 : Pos} (h : Ev Γ e (.list [])) : EvT Γ (.Compare e [.NotEq] [.List [] p1] p2) false :=
  evT_cmp (d1 := .list (([] : List Int).map .int)) h (ev_list evs_nil (by decide)) ((op_neD (EqD.ints 0 [] []) (by decide)).cast rfl)
theorem ev_lc2no {Γ : Ctx} {τ σ : Type} {xs : List τ} {inj : τ → D} {ys : τ → List σ} {inj2 : τ → σ → D} {d2 : τ → D} {scope : Scope} {d : D} {iter elt iter2 test : Expr} {x y : Str} {px py pos : Pos}
    (hi : Ev Γ iter d) (hit : Iterable d (xs.map inj)) (hsz : (flatOut ys (fun _ _ => true) (fun _ _ => D.none) xs).length ≤ sizeLine) (hi2 : ∀ t ∈ xs, ∀ Da C own wr, Ev (Γ.cx scope [(x, inj t)] Da C own wr) iter2 (d2 t)) (hit2 : ∀ t ∈ xs, Iterable (d2 t) ((ys t).map (inj2 t)))
    (ht : ∀ t ∈ xs, ∀ u ∈ ys t, ∀ Da C own wr wr2, EvT (((Γ.cx scope [(x, inj t)] Da C own wr).plus wr2).setAll [(y, inj2 t u)]) test false)
    (hxy : x ≠ y := by decide) (hz : scopeB Γ scope [x, y] = true := by rfl) (hs : ∀ x, foldedSetIterable iter Γ.env x = pure x := by intro _; rfl) (hs2 : ∀ env x, foldedSetIterable iter2 env x = pure x := by intro _ _; rfl) :
    Ev Γ (.ListComp elt [⟨.Name x px, iter, [], 0⟩, ⟨.Name y py, iter2, [test], 0⟩] scope pos) (.list []) :=
  Ev.cast (ev_lc2 (p := fun _ _ => false) (g := fun _ _ => D.none) hi hit hsz hi2 hit2 (fun t h u h' Da C own wr wr2 => tests_one (ht t h u h' Da C own wr wr2)) (fun _ _ _ _ h => by cases h) hxy hz hs hs2).ev (congrArg D.list (by
    unfold flatOut pickOut
    rw [List.flatMap_eq_nil_iff]
    intro x _
    rw [List.filter_eq_nil_iff.mpr (fun _ _ h => by cases h)]; rfl))
theorem flat_le {τ σ : Type} {ys : τ → List σ} {g : τ → σ → D} {M : Nat} : ∀ (l : List τ), (∀ x ∈ l, (ys x).length ≤ M) → (flatOut ys (fun _ _ => true) g l).length ≤ l.length * M
  | [], _ => by simp [flatOut]
  | x :: l, h => by
    have a := h x (.head _)
    have b := flat_le (g := g) l fun y hy => h y (.tail _ hy)
    unfold flatOut pickOut at b ⊢
    rw [List.flatMap_cons, List.length_append, List.length_cons, Nat.add_mul, Nat.one_mul, List.length_map]
    have := List.length_filter_le (fun _ => true) (ys x)
    omega
noncomputable def raiseI (R : List Int) (k : Nat) : List Int := R.take k ++ [R.getD k 0 + 1] ++ R.drop (k + 1)
section
variable {w : World} {prog : Program} {A : Around} {base : Heap} {L : Addr} {S : Addr → Prop} {Lv : Lev} {s : Shared} {Q : Flow → Shared → Prop}
set_option maxHeartbeats 4000000 in
theorem segB {code : Int} {W : List Int} (hz : W.length ≤ 9) (hanti : ∀ i j, i < W.length → j < W.length → tG code W i j = -tG code W j i)
    (hraise : ∀ p ∈ keysG code W.length, cmpK (keysG code W.length) (rowG W 0) (raiseI (rowG W 0) p.1) = -p.2)
    (F : Fm Lv (fcx w prog A 18 base (env100 w L) S (varsA code W)) [] noOwn s)
    (k : ∀ s', Fm Lv (fcx w prog A 18 base (env100 w L) S (varsA code W)) [] noOwn s' → Ex (fcx w prog A 18 base (env100 w L) S (varsA code W)) (execs (code100 w 10) (env100 w L)) Q s') :
    Ex (fcx w prog A 18 base (env100 w L) S (varsA code W)) (execs (code100 w 7) (env100 w L)) Q s := by
  have hsz : sizeLine = 16777216 := by decide
  refine x_skip F (EvT.on ?_ F.at_) fun _ F => ?_
  · refine evT_none (ev_lc2no (xs := List.range W.length) (inj := fun i => intsD ((List.range W.length).map fun j => tG code W i j)) (ys := fun i => (List.range W.length).map fun j => tG code W i j) (inj2 := fun _ x => D.int x) (d2 := fun i => intsD ((List.range W.length).map fun j => tG code W i j)) (ev_name rfl) iterable_list ?_ (fun i hi Da C own wr => ev_name rfl) (fun i _ => iter_ints) fun i hi u hu Da C own wr wr2 => ?_)
    · refine Nat.le_trans (flat_le (M := W.length) _ fun x _ => by simp) ?_
      rw [List.length_range]
      have := Nat.mul_le_mul hz hz
      omega
    · exact EvT.cast (evT_boolop (evTs_or (evT_of (c_isi_bool rfl rfl rfl (ev_name rfl) fn_isi_int_bool) truth_bool) fun _ => evTs_or (evT_not (evT_of (c_isi_int rfl rfl rfl (ev_name rfl) fn_isi_int_int) truth_bool)) fun _ => evTs_or_nil)) rfl
  refine x_skip F (EvT.on ?_ F.at_) fun _ F => ?_
  · refine evT_none (ev_lc2no (xs := List.range W.length) (inj := fun i : Nat => D.int (i : Int)) (ys := fun i => List.range (i + 1)) (inj2 := fun _ j : Nat => D.int (j : Int)) (d2 := fun i : Nat => .range 0 ((i : Int) + 1) 1) (c_range rfl rfl (ev_name rfl)) (iterN (by omega)) ?_ (fun i hi Da C own wr => c_range rfl rfl (ev_binop (ev_name rfl) ev_int op_add)) (fun i hi => ?_) fun i hi j hj Da C own wr wr2 => ?_)
    · refine Nat.le_trans (flat_le (M := W.length) _ fun x hx => ?_) ?_
      · have : x < W.length := by simpa using hx
        rw [List.length_range]; exact this
      · rw [List.length_range]
        have := Nat.mul_le_mul hz hz
        omega
    · have : i < W.length := by simpa using hi
      exact iterN (n := i + 1) (by omega)
    · have hi' : i < W.length := by simpa using hi
      have hj' : j < W.length := by have : j < i + 1 := by simpa using hj
                                    omega
      exact EvT.cast (evT_cmp (ev_told (ev_name rfl) (ev_name rfl) (ev_name rfl) hi' hj' (by omega)) (ev_unop (ev_told (ev_name rfl) (ev_name rfl) (ev_name rfl) hj' hi' (by omega)) op_neg) op_ne) (by rw [hanti i j hi' hj']; simp)
  refine x_skip F (EvT.on (b := false) ?_ F.at_) fun s' F => k s' F
  have hrl := rowG_len W 0
  have itK : Iterable (.list (dKeys (keysG code W.length))) ((keysG code W.length).map fun p : Nat × Int => D.tuple [.int (p.1 : Int), .int p.2]) := iterable_list
  have hkl : (keysG code W.length).length = W.length := by unfold keysG; simp
  refine EvT.cast (evT_cmp (d1 := .list (((keysG code W.length).map fun p => cmpK (keysG code W.length) (rowG W 0) (raiseI (rowG W 0) p.1)).map .int)) (d2 := .list (((keysG code W.length).map fun p => -p.2).map .int)) ?_ ?_ (op_neD (EqD.ints 0 _ _) (by decide))) ?_
  · rw [List.map_map, ← pickOut_all]
    refine (EvNL.mk fun s hC => (ev_listcomp (xs := keysG code W.length) (inj := fun p : Nat × Int => D.tuple [.int (p.1 : Int), .int p.2]) (bs := fun p => [("k", .int (p.1 : Int)), ("way", .int p.2)]) (tg := ["k", "way"]) (ev_name rfl) itK (scopeOk_at hC rfl) (by omega) (fun p _ => .t2) (fun p _ b hb => by simp at hb; rcases hb with rfl | rfl <;> simp) (fun _ _ _ _ _ _ => tests_nil) (fun p hp _ Da C own wr => ?_)).run s hC).ev
    have hp1 := keysG_lt hp
    have r0 : ∀ {Γ : Ctx} {p1 p2 p3 : Pos} {kk : Nat}, Γ.ρ "rows" = some (rowsD W) → Ev Γ (.Subscript (.Name "rows" p1) (.Constant (.int 0) kk p2) p3) (dTup (rowG W 0)) := fun h => ev_sub (ev_name h) ev_int (sub_list (by intro _ _; rfl) (by decide) (by decide) (by show ((List.range W.length).map fun i => dTup (rowG W i))[0]? = _; rw [List.getElem?_map, List.getElem?_range (by omega)]; rfl))
    refine ev_judge (m := 17) (a := rowG W 0) (b := raiseI (rowG W 0) p.1) rfl rfl rfl (ev_name rfl) (r0 rfl) ?_ (fun q hq => by
      have := keysG_lt hq
      refine ⟨by omega, ?_⟩
      unfold raiseI; simp; omega) (by omega)
    unfold dTup raiseI
    rw [List.map_append, List.map_append, List.map_take, List.map_drop]
    refine ev_binop (ev_binop (ev_sliceT_to (r0 rfl) (ev_name rfl) (by simp; omega) (by simp; omega)) (ev_tuple (ds := [.int ((rowG W 0).getD p.1 0 + 1)]) (evs_cons (ev_binop (ev_sub (r0 rfl) (ev_name rfl) (sub_tuple (by intro _ _; rfl) (by omega) (by omega) (by simp [show p.1 < (rowG W 0).length by omega]))) ev_int op_add) evs_nil) (by show 1 ≤ sizeLine; omega)) (op_addT (by simp; omega)))
      (ev_sliceT_from (r0 rfl) ((ev_binop (ev_name rfl) ev_int op_add).cast rfl) (by simp; omega) (by simp; omega)) (op_addT (by simp; omega))
  · rw [List.map_map, ← pickOut_all]
    exact (EvNL.mk fun s hC => (ev_listcomp (xs := keysG code W.length) (inj := fun p : Nat × Int => D.tuple [.int (p.1 : Int), .int p.2]) (bs := fun p => [("k", .int (p.1 : Int)), ("way", .int p.2)]) (tg := ["k", "way"]) (ev_name rfl) itK (scopeOk_at hC rfl) (by omega) (fun p _ => .t2) (fun p _ b hb => by simp at hb; rcases hb with rfl | rfl <;> simp) (fun _ _ _ _ _ _ => tests_nil) (fun p hp _ Da C own wr => ev_unop (ev_name rfl) op_neg)).run s hC).ev
  · rw [List.map_congr_left hraise]; simp
end
-- part N3
theorem dd_nodup {K : Type} [DecidableEq K] (ks : List K) : (dd ks).Nodup := by
  have : ∀ (l acc : List K), acc.Nodup → (l.foldl (fun acc k => if k ∈ acc then acc else acc ++ [k]) acc).Nodup := by
    intro l
    induction l with
    | nil => intro acc h; exact h
    | cons k l ih =>
      intro acc h
      rw [List.foldl_cons]
      refine ih _ ?_
      split
      · exact h
      · rename_i hk
        exact List.nodup_append.mpr ⟨h, by simp, fun a ha b hb e => by simp at hb; subst hb; subst e; exact hk ha⟩
  exact this ks [] List.nodup_nil
/-- the letters in order -/
noncomputable def lets (w : List Int) : List Int := (dd w).mergeSort fun a b => decide (a ≤ b)
theorem lets_perm (w : List Int) : (lets w).Perm (dd w) := List.mergeSort_perm _ _
theorem lets_sorted (w : List Int) : (lets w).Pairwise (· ≤ ·) := by
  have := List.pairwise_mergeSort (le := fun a b : Int => decide (a ≤ b)) (fun a b c h1 h2 => by simp at *; omega) (fun a b => by simp; omega) (dd w)
  exact this.imp fun h => by simpa using h
theorem lets_uniq (w : List Int) (ns : List Int) (p : ns.Perm (dd w)) (h : ns.Pairwise (· ≤ ·)) : ns = lets w :=
  List.Perm.eq_of_pairwise (fun a b _ _ h1 h2 => Int.le_antisymm h1 h2) h (lets_sorted w) (p.trans (lets_perm w).symm)
theorem lets_mem {w : List Int} {c : Int} : c ∈ lets w ↔ c ∈ w := by rw [(lets_perm w).mem_iff, dd_mem]
theorem lets_nodup (w : List Int) : (lets w).Nodup := (lets_perm w).nodup_iff.mpr (dd_nodup w)
theorem lets_len (w : List Int) : (lets w).length ≤ w.length := by rw [(lets_perm w).length_eq]; exact dd_len w
/-- the word as letters -/
noncomputable def csG (W : List Int) : List Nat := W.map fun c => 97 + (lets W).idxOf c
theorem csG_len (W : List Int) : (csG W).length = W.length := by unfold csG; simp
theorem csG_le {W : List Int} {c : Int} (h : c ∈ W) : (lets W).idxOf c < (lets W).length := List.idxOf_lt_length_of_mem (lets_mem.mpr h)
theorem idxOf_get {l : List Int} {c : Int} (h : c ∈ l) : l[l.idxOf c]? = some c := by
  rw [List.getElem?_eq_getElem (List.idxOf_lt_length_of_mem h), List.getElem_idxOf]
theorem nodup_get {α : Type} {l : List α} (h : l.Nodup) {i j : Nat} {a : α} (h1 : l[i]? = some a) (h2 : l[j]? = some a) : i = j := by
  have q1 := (List.getElem?_eq_some_iff.mp h1).1
  exact (List.getElem?_inj q1 h).mp (h1.trans h2.symm)
/-- every piece, as often as it stands -/
noncomputable def piecesL (cs : List Nat) : List Str := (List.range cs.length).flatMap fun i => (List.range (cs.length - i)).map fun m => Sx ((cs.drop i).take (m + 1))
theorem tri_small {n : Nat} (h : n ≤ 9) : ((List.range n).map fun i => n - i).sum ≤ 45 := by
  have : ∀ n : Fin 10, ((List.range n.val).map fun i => n.val - i).sum ≤ 45 := by decide
  exact this ⟨n, by omega⟩
theorem piecesL_len {cs : List Nat} (h : cs.length ≤ 9) : (piecesL cs).length ≤ 45 := by
  unfold piecesL
  rw [List.length_flatMap]
  simp only [List.length_map, List.length_range]
  exact tri_small h
theorem piecesL_mem {cs : List Nat} {x : Str} : x ∈ piecesL cs ↔ ∃ i m, i + m < cs.length ∧ x = Sx ((cs.drop i).take (m + 1)) := by
  unfold piecesL
  rw [List.mem_flatMap]
  constructor
  · rintro ⟨i, hi, h⟩
    obtain ⟨m, hm, rfl⟩ := List.mem_map.mp h
    have : i < cs.length := by simpa using hi
    have : m < cs.length - i := by simpa using hm
    exact ⟨i, m, by omega, rfl⟩
  · rintro ⟨i, m, h, rfl⟩
    exact ⟨i, by simp; omega, List.mem_map.mpr ⟨m, by simp; omega, rfl⟩⟩
theorem strSx (x : Str) : x = Sx x.cps.toList := by
  cases x; unfold Sx; simp
-- part PL33
section
variable {prog : Program} {w : World} {A : Around} {E : Value → Shared → Prop} {s : Shared}
theorem KeyL.strs {vs : List Value} {ls : List Str} (h : KeyL (PySem.strKind prog w) vs ls) : StrsAre vs ls := by
  induction h with
  | nil => exact .nil
  | cons a _ _ ih =>
    obtain ⟨t, rfl⟩ := Value.isStrOf_shape a
    exact .cons _ t ih
theorem of_strs {S : Addr → Prop} {h : Heap} {vs : List Value} {ls : List Str} (q : StrsAre vs ls) : RepAll prog w S h vs (ls.map .str) := by
  induction q with
  | nil => exact .nil
  | cons y t _ ih => exact .cons (.str y t) ih
theorem sorted_setS {a : Addr} {l : List Str} {Q : Value → Shared → Prop} (hh : A.handled = none) (hG : SetG (PySem.strKind prog w) s.heap a l) (h64 : l.length < 64)
    (h : ∀ h' tk d S vs ls, (∀ b o, s.heap.get? b = some o → h'.get? b = some o) → s.heap.get? S = none → h'.PlainList S vs.toArray → StrsAre vs ls → ls.Perm l → Q (.ref S) { s with heap := h', toks := tk, drawn := d }) :
    wpAny (model prog w) A (call (.builtin "sorted") [.ref a]) Q E s := by
  refine Calls.call_function_entry kind_sorted plain_sorted entry_sorted (args_sorted1 _) ?_
  unfold Builtin.«sorted»
  refine wpAny_bind (m := checkCount "sorted" 1 1 _) (wpAny_pure ?_)
  refine wpAny_bind (collect_set (A := A.in1) hh hG fun h1 tk d vs ls hk hkl hp => ?_)
  have hlen : vs.length = l.length := by rw [hkl.length, hp.length_eq]
  have hsz : sizeLine = 16777216 := by decide
  have hS := hkl.strs
  refine wpAny_bind (wpAny_newList ?_ (by omega))
  have hoL : (h1.push (seqObj "list" vs.toArray 0)).get? h1.objs.size = some (seqObj "list" vs.toArray 0) := Heap.get?_push_size _ rfl
  refine wpAny_bind (wpAny_holding (wpAny_call_entry slot_list_sort ⟨_, hoL, rfl⟩ entry_list_sort (list_sort_treeK strKind_oneLt (s := { s with heap := h1.push (seqObj "list" vs.toArray 0), toks := tk, drawn := d }) hoL hS.keysOf (fun v₁ v₂ rest e => keyKind_strs (by rw [← e]; exact hS)) (by omega) fun st' a1 a2 => ⟨_, rfl, ?_⟩) (args_list_sort _)))
  obtain ⟨ss', b1, b2, _⟩ := sorted_out_str hS a1 a2
  obtain ⟨e, he⟩ := sortedHeap_at (out := (arrOf st').map (·.2)) hoL
  refine wpAny_pure ⟨_, rfl, h _ tk d h1.objs.size ((arrOf st').map (·.2)).toList ss' (fun b o q => ?_) ?_ ⟨e, by rw [Array.toArray_toList]; exact he⟩ b1 (b2.trans hp)⟩
  · have hb := Heap.lt_size (hk b o q)
    show (sortedHeap (h1.push (seqObj "list" vs.toArray 0)) h1.objs.size vs _).get? b = some o
    rw [sortedHeap_old (Nat.ne_of_lt hb) (by rw [Heap.size_push]; exact Nat.lt_succ_of_lt hb)]
    exact Heap.get?_push_of_some _ (hk b o q)
  · cases q : s.heap.get? h1.objs.size with
    | none => rfl
    | some o => exact absurd (Heap.lt_size (hk _ _ q)) (Nat.lt_irrefl _)
end
section
variable {Γ : Ctx}
/-- set(x), of texts -/
theorem tr_setS {x : Expr} {p2 p3 : Pos} {ss : List Str} (h2 : Ev Γ (.Name "set" p2) (.raw (.type "set"))) (hx : Ev Γ x (.list (ss.map .str))) (hz : ss.length < 64) (he : plainE x = true) (s : Shared) (C : Γ.At s.heap) :
    Tr Γ (eval (.Call (.Name "set" p2) [x] [] p3) Γ.env) (fun v h => ∃ a, v = .ref a ∧ SetG (PySem.strKind Γ.prog Γ.w) h a (dd ss)) s := by
  refine wpAny_Call_Name_kw ((h2.run s C).then' fun v s₁ k₁ r₁ => ?_)
  obtain ⟨_, rfl⟩ := r₁.atom
  show wpAny _ _ (callWith p3 (.type "set") [] (backTo p3 (starEach [x] Γ.env)) []) _ _ _
  refine spliced_args (C.go k₁) trivial (evs_cons hx evs_nil he) (any_plain (by rw [List.all_cons, he]; rfl)) fun vs s₂ k₂ r₂ => ?_
  obtain ⟨v, rfl, r⟩ := r₂.one
  obtain ⟨l, vs, rfl, _, hl, rs⟩ := r.list_inv
  have hlen := rs.length
  rw [List.length_map] at hlen
  have hsc := scan4
  refine call_setL (knd := PySem.strKind Γ.prog Γ.w) (items := vs.toArray) (ks := ss) C.room.1 hl.isList (by simp [hlen]) (fun i v hv => ?_) (by simp; omega) fun h' tk hS hk => ⟨(k₁.trans k₂).trans (Kp.both s₂ h' tk hk), _, rfl, hS⟩
  obtain ⟨d, hd, rd⟩ := rs.get' (k := i) (v := v) (by simpa using hv)
  rw [List.getElem?_map] at hd
  obtain ⟨y, hy, rfl⟩ := Option.map_eq_some_iff.mp hd
  obtain ⟨t, rfl⟩ := rd.atom
  exact ⟨y, hy, strKind_is _ _ _ _, rfl⟩
/-- sorted(set(x)), of texts: all of them, once each -/
theorem tr_sortsetS {x : Expr} {p1 p2 p3 p4 : Pos} {ss : List Str} (h1 : Ev Γ (.Name "sorted" p1) (.raw (.builtin "sorted"))) (h2 : Ev Γ (.Name "set" p2) (.raw (.type "set"))) (hx : Ev Γ x (.list (ss.map .str))) (hz : ss.length < 64) (s : Shared) (C : Γ.At s.heap) (he : plainE x = true := by rfl) :
    Tr Γ (eval (.Call (.Name "sorted" p1) [.Call (.Name "set" p2) [x] [] p3] [] p4) Γ.env) (fun v h => ∃ out : List Str, out.Perm (dd ss) ∧ Γ.R h v (.list (out.map .str))) s := by
  refine wpAny_Call_Name_kw ((h1.run s C).then' fun v s₁ k₁ r₁ => ?_)
  obtain ⟨_, rfl⟩ := r₁.atom
  show wpAny _ _ (callWith p4 (.builtin "sorted") [] (backTo p4 (starEach [.Call (.Name "set" p2) [x] [] p3] Γ.env)) []) _ _ _
  refine spliced_argsP (P := fun vs h => ∃ a, vs = [.ref a] ∧ SetG (PySem.strKind Γ.prog Γ.w) h a (dd ss)) (C.go k₁) trivial (wpAny_items_cons ((tr_setS h2 hx hz he s₁ (C.go k₁)).then' fun v s₂ k₂ r₂ => wpAny_items_nil ?_) (starEach_plain rfl)) rfl fun vs s₂ k₂ r₂ => ?_
  · obtain ⟨a, rfl, hG⟩ := r₂
    exact ⟨k₂, a, rfl, hG⟩
  · obtain ⟨a, rfl, hG⟩ := r₂
    refine sorted_setS C.room.1 hG (Nat.lt_of_le_of_lt (dd_len ss) hz) fun h' tk d S vs ls hk hn hl hI hp => ?_
    exact ⟨(k₁.trans k₂).trans (Kp.all s₂ h' tk d hk), ls, hp, .list (not_held ((C.go k₁).go k₂).wd.held hn) hl (of_strs hI)⟩
/-- name = a value of which not all is known -/
theorem x_assignE {L : Lev} {os : List Addr} {P : (Addr → Prop) → Heap → Prop} {s : Shared} {τ : Type} {x : Str} {px pos : Pos} {value : Expr} {rest : List Stmt} {G : τ → Prop} {d : τ → D} {Q : Flow → Shared → Prop} (F : Fm L Γ os P s) (he : Tr Γ (eval value Γ.env) (fun v h => ∃ t, G t ∧ Γ.R h v (d t)) s)
    (k : ∀ t s', G t → Fm L (Γ.set x (d t)) os P s' → Ex (Γ.set x (d t)) (execs rest (Γ.set x (d t)).env) Q s')
    (ha : asg Γ x = true := by rfl) (hs : swapsWith value (some (.Name x px)) pos.line Γ.env = pure false := by rfl) : Ex Γ (execs (.Assign [.Name x px] value pos :: rest) Γ.env) Q s := by
  refine .mk <| wpAny_execs_cons (wpAny_Assign_Name (he.then' fun v s₁ k₁ r₁ => ?_) hs)
  obtain ⟨t, g, r⟩ := r₁
  exact store_rule (F.kp k₁).at_ ((F.kp k₁).slot ha) r fun s' w C => (k t s' g ((F.kp k₁).wr (bs := [(x, d t)]) w C)).run
end
-- part G17
section
variable {w : World} {prog : Program} {A : Around} {base : Heap} {L : Addr} {S : Addr → Prop} {Lv : Lev} {s : Shared} {Q : Flow → Shared → Prop}
noncomputable def strsD (l : List Str) : D := .list (l.map .str)
noncomputable def varsC (code : Int) (W : List Int) (T : List Nat) (out : List Str) : List (Str × D) := [("n", .int (W.length : Int)), ("told", toldD W.length (tG code W)), ("tops", natL T), ("text", .str (Sx (csG W))), ("pieces", strsD out)]
/-- the tables, told by the judge -/
noncomputable def TabOk (code : Int) (W : List Int) : Prop := ∀ i m, i + m < W.length → IsMax (piW (W.drop i) m : Int) ([0] ++ ((List.range m).filter fun q : Nat => decide (1 + (q : Int) < absI (tG code W i (i + m - q)))).map fun q : Nat => 1 + (q : Int))
set_option maxHeartbeats 4000000 in
theorem segC {code : Int} {W : List Int} {T : List Nat} (hz : W.length ≤ 9) (htab : TabOk code W) (hT : T.length = W.length) (htop : ∀ i, i < W.length → IsMax (T.getD i 0 : Nat) (tabI (W.drop i)))
    (F : Fm Lv (fcx w prog A 18 base (env100 w L) S (varsA code W)) [] noOwn s)
    (k : ∀ out S' s', out.Perm (dd (piecesL (csG W))) → Fm Lv (fcx w prog A 18 base (env100 w L) S' (varsC code W T out)) [] noOwn s' → Ex (fcx w prog A 18 base (env100 w L) S' (varsC code W T out)) (execs (code100 w 15) (env100 w L)) Q s') :
    Ex (fcx w prog A 18 base (env100 w L) S (varsA code W)) (execs (code100 w 10) (env100 w L)) Q s := by
  have hsz : sizeLine = 16777216 := by decide
  refine x_forN (d := .range 0 (W.length : Int) 1) (n := W.length) (inj := fun j : Nat => D.int (j : Int)) (fun _ => varsA code W) (fun _ => noOwn) F (fun _ => noOwn_ok) ((c_range rfl rfl (ev_name rfl)).on F.at_) (iterN (by omega)) ⟨rfl, rfl, rfl, rfl, rfl, rfl, rfl, trivial⟩ (fun i hi L' wr s hW hs₀ F => ?_) fun s F => ?_
  · refine x_skip F (EvT.on (b := false) ?_ F.at_) fun _ F => ex_nil (.inl ⟨.inl rfl, F.next rfl ⟨rfl, rfl, rfl, rfl, rfl, rfl, rfl, trivial⟩⟩)
    have hdl : (W.drop i).length = W.length - i := List.length_drop ..
    refine EvT.cast (evT_cmp (d1 := intsD (tabI (W.drop i))) (d2 := intsD (tabI (W.drop i))) (ev_sub (d1 := .list (tabsD W)) (ev_name rfl) (ev_name rfl) (sub_list (by intro _ _; rfl) (by omega) (by omega) (by unfold tabsD; rw [Int.toNat_natCast, List.getElem?_map, List.getElem?_range hi]; rfl))) ?_ (op_neD (EqD.ints 0 _ _) (by decide))) (by simp)
    have it1 := iter_range2 (a := 1) (b := (W.length : Int) - i + 1) (by omega) (by omega) (by omega) (by omega)
    rw [show ((W.length : Int) - i + 1 - 1).toNat = W.length - i by omega] at it1
    unfold intsD tabI
    rw [hdl, List.map_map]
    refine (ev_lcm (xs := List.range (W.length - i)) (inj := fun m : Nat => D.int (1 + (m : Int))) (c_range2 rfl rfl ev_int (ev_binop (ev_binop (ev_name rfl) (ev_name rfl) op_sub) ev_int op_add)) it1 (by simp; omega) fun m hm Da C own wr => ?_).ev
    have hm' : m < W.length - i := by simpa using hm
    have it2 := iter_range2 (a := 1) (b := 1 + (m : Int)) (by omega) (by omega) (by omega) (by omega)
    rw [show (1 + (m : Int) - 1).toNat = m by omega] at it2
    refine c_max rfl rfl ?_ (fn_max (htab i m (by omega)))
    rw [List.map_append, List.map_map]
    refine ev_binop (ev_list (ds := [.int 0]) (evs_cons ev_int evs_nil) (by show 1 ≤ sizeLine; omega)) (ev_lcf (xs := List.range m) (inj := fun q : Nat => D.int (1 + (q : Int))) (c_range2 rfl rfl ev_int (ev_name rfl)) it2 (by simp; omega) (fun q hq Da C own wr => ?_) fun q hq _ Da C own wr => ev_name rfl).ev (op_addL ?_)
    · have hq' : q < m := by simpa using hq
      exact (evT_cmp (c_abs rfl rfl (ev_told (i := i) (j := i + m - q) (ev_name rfl) (ev_name rfl) ((ev_binop (ev_binop (ev_name rfl) (ev_name rfl) op_add) (ev_name rfl) op_sub).cast (congrArg D.int (by omega))) hi (by omega) (by omega)) fn_abs) (ev_name rfl) op_gt).cast rfl
    · have := List.length_filter_le (fun q : Nat => decide (1 + (q : Int) < absI (tG code W i (i + m - q)))) (List.range m)
      rw [List.length_range] at this
      simp only [List.length_cons, List.length_nil, List.length_map]
      omega
  have F0 := F
  refine x_used_list F (ds := T.map fun x : Nat => D.int (x : Int)) ?_ fun _ F => ?_
  · have : (T.map fun x : Nat => D.int (x : Int)) = (List.range W.length).map fun i => D.int ((T.getD i 0 : Nat) : Int) := by
      rw [← hT]
      apply List.ext_getElem?
      intro j
      rw [List.getElem?_map, List.getElem?_map]
      rcases Nat.lt_or_ge j T.length with h | h
      · rw [List.getElem?_range h]; simp [h]
      · rw [List.getElem?_eq_none h, List.getElem?_eq_none (by simpa using h)]; rfl
    rw [this]
    have itT : Iterable (.list (tabsD W)) ((List.range W.length).map fun i => intsD (tabI (W.drop i))) := iterable_list
    refine evU_lcm (xs := List.range W.length) (inj := fun i => intsD (tabI (W.drop i))) (ev_name rfl) itT (by simp; omega) fun i hi Da C own wr => ?_
    exact c_max rfl rfl (ev_name rfl) (fn_max (htop i (by simpa using hi)))
  refine x_assign F (d := intsD (lets W)) ((ev_sortset (ev_blt topOk rfl g_sorted b_sorted) (ev_blt topOk rfl g_set b_set) (ev_name rfl) (by omega) (lets_uniq _)).on F.at_) fun _ F => ?_
  have hll := lets_len W
  refine x_assign F (d := .str (Sx (csG W))) (Ev.on (ev_join (l := csG W) (ev_str.cast rfl) ?_ (by rw [csG_len]; omega)) F.at_) fun _ F => ?_
  · unfold csG
    rw [List.map_map, List.map_map]
    refine (ev_lcm (xs := W) (inj := D.int) (ev_name rfl) iter_ints (by omega) fun c hc Da C own wr => ?_).ev
    have hc' : c ∈ lets W := lets_mem.mpr hc
    have hx := csG_le hc
    refine c_chr rfl rfl ((ev_binop ev_int (ev_meth (d := .int (((lets W).idxOf c : Nat) : Int)) (d0 := intsD (lets W)) (ev_name rfl) (evs_cons (ev_name rfl) evs_nil) hasT_list PySem.F.plainAttrs_list PySem.F.slot_list_index PySem.F.type_list_index (fn_index (j := (lets W).idxOf c) (idxOf_get hc') (fun j hj e => Nat.ne_of_lt hj (nodup_get (lets_nodup W) e (idxOf_get hc'))) (by omega))) op_add).cast (d' := .int ((97 + (lets W).idxOf c : Nat) : Int)) (congrArg D.int (by omega))) (fn_chr (by omega))
  have hpl := piecesL_len (cs := csG W) (by rw [csG_len]; omega)
  refine x_assignE (d := fun out : List Str => strsD out) F (tr_sortsetS (ss := piecesL (csG W)) (ev_blt topOk rfl g_sorted b_sorted) (ev_blt topOk rfl g_set b_set) ?_ (by omega) _ F.at_) fun out s' hout F => ?_
  · have e : (piecesL (csG W)).map D.str = flatOut (fun i => List.range (W.length - i)) (fun _ _ => true) (fun i m => D.str (Sx (((csG W).drop i).take (m + 1)))) (List.range W.length) := by
      unfold piecesL flatOut
      rw [List.map_flatMap, csG_len]
      congr 1
      funext i
      rw [List.map_map]
      unfold pickOut
      rw [List.filter_eq_self.mpr fun _ _ => rfl]; rfl
    rw [e]
    have hlen : (flatOut (fun i => List.range (W.length - i)) (fun _ _ => true) (fun i m => D.str (Sx (((csG W).drop i).take (m + 1)))) (List.range W.length)).length ≤ sizeLine := by
      rw [← e, List.length_map]; omega
    refine (ev_lc2 (xs := List.range W.length) (inj := fun i : Nat => D.int (i : Int)) (inj2 := fun i m : Nat => D.int ((i : Int) + 1 + (m : Int))) (c_range rfl rfl (ev_name rfl)) (iterN (by omega)) hlen (fun i hi Da C own wr => c_range2 rfl rfl (ev_binop (ev_name rfl) ev_int op_add) (ev_binop (ev_name rfl) ev_int op_add)) (fun i hi => ?_) (fun _ _ _ _ _ _ _ _ _ => tests_nil) fun i hi m hm _ Da C own wr wr2 => ?_).ev
    · have hi' : i < W.length := by simpa using hi
      have := iter_range2 (a := (i : Int) + 1) (b := (W.length : Int) + 1) (by omega) (by omega) (by omega) (by omega)
      rw [show ((W.length : Int) + 1 - ((i : Int) + 1)).toNat = W.length - i by omega] at this
      exact this
    · have hi' : i < W.length := by simpa using hi
      have hm' : m < W.length - i := by simpa using hm
      have hcl := csG_len W
      exact (ev_sliceS (l := csG W) (i := i) (j := i + 1 + m) (ev_name rfl) (ev_name rfl) ((ev_name rfl).cast (congrArg D.int (by omega))) (by omega) (by omega) (by omega)).cast (congrArg (fun z => D.str (Sx (List.take z ((csG W).drop i)))) (by omega))
  have F := F.next (Γ' := fcx w prog A 18 base (env100 w L) S (varsC code W T out)) rfl ⟨rfl, rfl, rfl, rfl, rfl, trivial⟩
  exact ex_with F rfl rfl rfl rfl fun F => k out _ s' hout F
end
-- part G18
open PySem PySem.W PyProof.Rows PySem.Builtin.Str
theorem indices_clip {i j n : Nat} : strSliceIndices (some (i : Int)) (some (j : Int)) 1 n = strSliceIndices (some (i : Int)) (some ((min j n : Nat) : Int)) 1 n := by
  have h2 : ¬ ((j : Int) < 0) := by omega
  have h3 : ¬ (((min j n : Nat) : Int) < 0) := by omega
  have e : max (0 : Int) (min (j : Int) (n : Int)) = max (0 : Int) (min ((min j n : Nat) : Int) (n : Int)) := by omega
  simp only [strSliceIndices, h2, h3, if_false, show ((1 : Int) > 0) = True from by simp, if_true, e]
theorem slice_Sx' {l : List Nat} {i j : Nat} (hij : i ≤ j) (hi : i ≤ l.length) : Txt.slice (Sx l) (some (i : Int)) (some (j : Int)) = Sx ((l.drop i).take (j - i)) := by
  have e : Txt.slice (Sx l) (some (i : Int)) (some (j : Int)) = Txt.slice (Sx l) (some (i : Int)) (some ((min j l.length : Nat) : Int)) := by
    unfold Txt.slice
    rw [show (Sx l).length = l.length from rfl, indices_clip]
  rw [e, slice_Sx (by omega) (Nat.min_le_right ..)]
  congr 1
  rcases Nat.le_total j l.length with q | q
  · rw [Nat.min_eq_left q]
  · rw [Nat.min_eq_right q, List.take_of_length_le (by simp), List.take_of_length_le (by simp; omega)]
section
variable {Γ : Ctx}
/-- text[i:j], past the end too -/
theorem ev_sliceS' {value lo hi : Expr} {p q : Pos} {l : List Nat} {i j : Nat} (h1 : Ev Γ value (.str (Sx l))) (h2 : Ev Γ lo (.int (i : Int))) (h3 : Ev Γ hi (.int (j : Int))) (hij : i ≤ j) (hi' : i ≤ l.length) (hz : l.length ≤ 16384)
    (ht : ∀ (x : Str) (t : Tok) r, letTemporaryGo value (.str x t) r = pure () := by intro _ _ _; with_unfolding_all rfl) :
    Ev Γ (.Subscript value (.Slice (some lo) (some hi) none q) p) (.str (Sx ((l.drop i).take (j - i)))) := .mk fun s C => by
  refine Subscript_ ((h1.run s C).then' fun a s₁ k₁ r₁ => wpAny_Slice (((part_some h2).run s₁ (C.go k₁)).then' fun vl s₂ k₂ pl => ((part_some h3).run s₂ ((C.go k₁).go k₂)).then' fun vu s₃ k₃ pu => ?_))
  rw [evalPart_none]
  refine wpAny_pure ?_
  obtain ⟨t, rfl⟩ := r₁.atom
  cases pl with
  | int _ tl => cases pu with
    | int _ tu =>
      have hsz : sizeLine = 16777216 := by decide
      refine tail_of_ItemOn (SBH.sliceItem_ss (P := fun h' => ∀ b o, s₃.heap.get? b = some o → h'.get? b = some o) (fun h ob k b o e => Heap.get?_push_of_some _ (k b o e)) (fun b o e => e) (fun h' t' k hk => ⟨((k₁.trans k₂).trans k₃).trans (Kp.both s₃ h' k hk), ?_⟩) (by rw [Sx_len]; omega)) (ops := [.ref s₃.heap.objs.size, .str _ t]) (by with_unfolding_all rfl) (ht _ _)
      rw [slice_Sx' hij hi']; exact .str _ _
end
theorem cut_last {α : Type} (xs : List α) : cut xs none (some (-1)) = xs.dropLast := by
  have e : kms_hi (some (-1)) xs.length = xs.length - 1 := rfl
  have e2 : kms_lo none xs.length = 0 := rfl
  unfold cut
  rw [e, e2, List.drop_zero, Nat.sub_zero, List.dropLast_eq_take]
section
variable {w : World} {prog : Program} {A : Around} {base : Heap} {L : Addr} {S : Addr → Prop} {Lv : Lev} {s : Shared} {Q : Flow → Shared → Prop}
noncomputable def sharedG (T : Nat → Nat → Int) (O : List Nat) (n : Nat) : List Int := (List.range (n - 1)).map fun k => -1 - T (O.getD k 0) (O.getD (k + 1) 0)
noncomputable def varsD (code : Int) (W : List Int) (T : List Nat) (out : List Str) : List (Str × D) := [("n", .int (W.length : Int)), ("tops", natL T), ("text", .str (Sx (csG W))), ("pieces", strsD out), ("shared", intsD (sharedG (tG code W) (ordF (tG code W) W.length) W.length))]
noncomputable def sortI (l : List Int) : List Int := l.mergeSort fun a b => decide (a ≤ b)
theorem sortI_uniq {l ns : List Int} (p : ns.Perm l) (h : ns.Pairwise (· ≤ ·)) : ns = sortI l := by
  have := List.pairwise_mergeSort (le := fun a b : Int => decide (a ≤ b)) (fun a b c h1 h2 => by simp at *; omega) (fun a b => by simp; omega) l
  exact List.Perm.eq_of_pairwise (fun a b _ _ h1 h2 => Int.le_antisymm h1 h2) h (this.imp fun h => by simpa using h) (p.trans (List.mergeSort_perm _ _).symm)
set_option maxHeartbeats 4000000 in
theorem segD {code : Int} {W : List Int} {T : List Nat} {out : List Str} {O : Nat → List Nat} {at_ : Nat → Nat} (hz : W.length ≤ 9) (hT : T.length = W.length) (hlen : ∀ x ∈ out, x.length ≤ 9) (hol : out.length ≤ 45)
    (hroom : ∀ m, m < W.length → ((out.filter fun x => x.length == m + 1).length : Int) = (W.length : Int) + 1 - (1 + (m : Int)) - ((T.filter fun t => decide (m + 1 ≤ t)).length : Int))
    (hol2 : (ordF (tG code W) W.length).length = W.length) (hsh : (sharedG (tG code W) (ordF (tG code W) W.length) W.length).Perm (T.dropLast.map fun x : Nat => (x : Int)))
    (H : TakenLaw W.length (tG code W) T O at_) (hO : O 0 = ordF (tG code W) W.length)
    (F : Fm Lv (fcx w prog A 18 base (env100 w L) S (varsC code W T out)) [] noOwn s)
    (k : ∀ S' s', Fm Lv (fcx w prog A 18 base (env100 w L) S' (varsD code W T out)) [] noOwn s' → Ex (fcx w prog A 18 base (env100 w L) S' (varsD code W T out)) (execs (code100 w 19) (env100 w L)) Q s') :
    Ex (fcx w prog A 18 base (env100 w L) S (varsC code W T out)) (execs (code100 w 15) (env100 w L)) Q s := by
  have hsz : sizeLine = 16777216 := by decide
  have it1 := iter_range2 (a := 1) (b := (W.length : Int) + 1) (by omega) (by omega) (by omega) (by omega)
  rw [show ((W.length : Int) + 1 - 1).toNat = W.length by omega] at it1
  have itS : Iterable (strsD out) (out.map D.str) := iterable_list
  refine x_forN (d := .range 1 ((W.length : Int) + 1) 1) (n := W.length) (inj := fun m : Nat => D.int (1 + (m : Int))) (fun _ => varsC code W T out) (fun _ => noOwn) F (fun _ => noOwn_ok) ((c_range2 rfl rfl ev_int (ev_binop (ev_name rfl) ev_int op_add)).on F.at_) it1 ⟨rfl, rfl, rfl, rfl, rfl, trivial⟩ (fun m hm L' wr s hW hs₀ F => ?_) fun s F => ?_
  · have hfl := List.length_filter_le (fun t => decide (m + 1 ≤ t)) T
    refine x_assign F (d := .int ((W.length : Int) + 1 - (1 + (m : Int)) - ((T.filter fun t => decide (m + 1 ≤ t)).length : Int))) (Ev.on ?_ F.at_) fun _ F => ?_
    · refine ev_binop (ev_binop (ev_binop (ev_name rfl) ev_int op_add) (ev_name rfl) op_sub) (c_len rfl rfl ?_ (fn_len_nats (l := T.filter fun t => decide (m + 1 ≤ t)) (by omega))) op_sub
      exact (ev_lcf (xs := T) (inj := fun x : Nat => D.int (x : Int)) (g := fun x : Nat => D.int (x : Int)) (ev_name rfl) iter_nats (by omega) (fun t ht Da C own wr => (evT_cmp (ev_name rfl) (ev_name rfl) op_ge).cast (by rw [Bool.eq_iff_iff]; simp; omega)) fun t ht _ Da C own wr => ev_name rfl).ev
    have hfo := List.length_filter_le (fun x : Str => x.length == m + 1) out
    refine x_skip F (EvT.on (b := false) ?_ F.at_) fun _ F => ex_nil (.inl ⟨.inl rfl, F.next rfl ⟨rfl, rfl, rfl, rfl, rfl, trivial⟩⟩)
    refine EvT.cast (evT_cmp (d1 := .int ((out.filter fun x : Str => x.length == m + 1).length : Int)) (c_len rfl rfl (d1 := .list ((out.filter fun x : Str => x.length == m + 1).map .str)) ?_ ?_) (ev_name rfl) op_ne) (by rw [hroom m hm]; simp)
    · refine (ev_lcf (xs := out) (inj := D.str) (g := D.str) (ev_name rfl) itS (by omega) (fun x hx Da C own wr => ?_) fun t ht _ Da C own wr => ev_name rfl).ev
      have hx9 := hlen x hx
      refine (evT_cmp (c_len rfl rfl (d1 := .str (Sx x.cps.toList)) ((ev_name rfl).cast (congrArg D.str (strSx x))) (fn_len_str (l := x.cps.toList) (Nat.le_trans hx9 (by decide)))) (ev_name rfl) op_eq).cast ?_
      rw [show x.cps.toList.length = x.length from rfl, Bool.eq_iff_iff, beq_iff_eq, beq_iff_eq]; omega
    · have := fn_len_list (K := Kf w) (prog := prog) (w := w) (n := 18) (ds := (out.filter fun x : Str => x.length == m + 1).map .str) (by simp; omega)
      rw [List.length_map] at this; exact this
  refine x_assign F (d := natL (ordF (tG code W) W.length)) ((ev_call (f := .ref 85) (ev_glob topOk rfl g85) ok85.callable (evs_cons (ev_name rfl) evs_nil) (fn_order (n := 17) (by omega))).on F.at_) fun _ F => ?_
  have hmem : ∀ j ∈ ordF (tG code W) W.length, j < W.length := fun j h => ordF_mem.mp h
  generalize hOe : ordF (tG code W) W.length = ord at *
  have gO : ∀ j, j < W.length → (ord.map fun x : Nat => D.int (x : Int))[j]? = some (.int ((ord.getD j 0 : Nat) : Int)) := fun j hj => by
    simp [show j < ord.length by omega]
  have mO : ∀ j, j < W.length → ord.getD j 0 < W.length := fun j hj => hmem _ (by simp [show j < ord.length by omega])
  have it2 := iter_range2 (a := 0) (b := (W.length : Int) - 1) (by omega) (by omega) (by omega) (by omega)
  rw [show ((W.length : Int) - 1 - 0).toNat = W.length - 1 by omega] at it2
  refine x_used_list F (ds := (sharedG (tG code W) ord W.length).map .int) ?_ fun _ F => ?_
  · unfold sharedG
    rw [List.map_map]
    refine evU_lcm (xs := List.range (W.length - 1)) (inj := fun i : Nat => D.int (0 + (i : Int))) (c_range rfl rfl (ev_binop (ev_name rfl) ev_int op_sub)) it2 (by simp; omega) fun j hj Da C own wr => ?_
    have hj' : j + 1 < W.length := by have : j < W.length - 1 := by simpa using hj
                                      omega
    refine ev_binop (ev_unop ev_int op_neg) (ev_told (ev_name rfl) (ev_sub (d1 := natL ord) (ev_name rfl) (ev_name rfl) (sub_list (by intro _ _; rfl) (by omega) (by omega) (by rw [show (0 + (j : Int)).toNat = j by omega]; exact gO j (by omega))))
      (ev_sub (d1 := natL ord) (ev_name rfl) (ev_binop (ev_name rfl) ev_int op_add) (sub_list (by intro _ _; rfl) (by omega) (by omega) (by rw [show (0 + (j : Int) + 1).toNat = j + 1 by omega]; exact gO (j + 1) hj'))) (mO j (by omega)) (mO (j + 1) hj') (by omega)) op_sub
  have hsl : (sharedG (tG code W) ord W.length).length = W.length - 1 := by unfold sharedG; simp
  refine x_skip F (EvT.on (b := false) ?_ F.at_) fun s' F => ?_
  · refine EvT.cast (evT_boolop (evTs_or (evT_cmp (d1 := intsD (sortI (T.dropLast.map fun x : Nat => (x : Int)))) (d2 := intsD (sortI (T.dropLast.map fun x : Nat => (x : Int)))) (c_sorted rfl rfl (ev_name rfl) (fn_sorted_list (by omega) fun ns' p h => sortI_uniq (p.trans hsh) h))
      (c_sorted rfl rfl ((ev_slice (ds := T.map fun x : Nat => D.int (x : Int)) (ev_name rfl) part_none (part_some (ev_unop ev_int op_neg)) (by simp; omega)).cast (d' := .list ((T.dropLast.map fun x : Nat => (x : Int)).map .int)) (congrArg D.list (by rw [cut_last, List.map_map, List.map_dropLast]; rfl))) (fn_sorted_list (by simp; omega) fun ns' p h => sortI_uniq p h)) (op_neD (EqD.ints 0 _ _) (by decide))) fun _ =>
      evTs_or (evT_not (evT_of (ev_call (f := .ref 90) (ev_glob topOk rfl g90) ok90.callable (evs_cons (ev_name rfl) (evs_cons (ev_name rfl) (evs_cons (ev_name rfl) evs_nil))) ((hO ▸ fn_taken (n := 17) H (by omega) : Fn (Kf w) prog w 18 (.ref 90) [toldD W.length (tG code W), natL ord, natL T] (.bool true)))) truth_bool)) fun _ => evTs_or_nil)) (by simp)
  have F := F.next (Γ' := fcx w prog A 18 base (env100 w L) S (varsD code W T out)) rfl ⟨rfl, rfl, rfl, rfl, by rw [hOe]; rfl, trivial⟩
  exact ex_with F rfl rfl rfl rfl fun F => k _ s' F
end
-- part G19
/-- where a piece stands, summed -/
noncomputable def dueV (cs : List Nat) (x : Str) : Int := (((List.range cs.length).filter fun i => Sx ((cs.drop i).take x.length) == x).map fun i : Nat => (i : Int) + (x.length : Int)).sum
noncomputable def dueKV (cs : List Nat) (out : List Str) : List (Str × Int) := out.map fun x => (x, dueV cs x)
theorem mul_small {a b : Int} (h1 : -(2 ^ 64) < a) (h2 : a < 2 ^ 64) : IntMulOk a b := IntMulOk.of_left (intBits_le_64 h1 h2)
theorem sq_le {a b m k : Nat} (h1 : a ≤ m) (h2 : b ≤ k) : (a : Int) * b ≤ (m * k : Nat) := by
  have := Nat.mul_le_mul h1 h2
  exact_mod_cast this
section
variable {w : World} {prog : Program} {A : Around} {base : Heap} {L : Addr} {S : Addr → Prop} {Lv : Lev} {s : Shared} {Q : Flow → Shared → Prop}
/-- what the profile must tell -/
structure ProfOk (cs : List Nat) (P : Prof) (out : List Str) (sh : Int) : Prop where
  a : P.a = (out.length : Int)
  b : P.b = ((cs.length : Int) * ((cs.length : Int) + 1)).fdiv 2
  c : P.c = ((cs.length : Int) * ((cs.length : Int) - 1)).fdiv 2
  d : P.d = sh
  kv : eqKV P.kv (dueKV cs out) = true
  sum : (P.kv.map (·.2)).sum = ((cs.length : Int) * ((cs.length : Int) + 1) * (2 * (cs.length : Int) + 1)).fdiv 6
set_option maxHeartbeats 4000000 in
theorem segE {code : Int} {W : List Int} {T : List Nat} {out : List Str} (hz : W.length ≤ 9) (hT : T.length = W.length) (hlen : ∀ x ∈ out, x.length ≤ 9) (hol : out.length ≤ 45) (hnd : out.Nodup)
    (H : ProfOk (csG W) (profAt (csG W) T (csG W).length) out (sharedG (tG code W) (ordF (tG code W) W.length) W.length).sum)
    (F : Fm Lv (fcx w prog A 18 base (env100 w L) S (varsD code W T out)) [] noOwn s)
    (k : ∀ Γ' s', Fm Lv Γ' [] noOwn s' → Q (.ret (.bool true)) s') :
    Ex (fcx w prog A 18 base (env100 w L) S (varsD code W T out)) (execs (code100 w 19) (env100 w L)) Q s := by
  have hsz : sizeLine = 16777216 := by decide
  have hcl := csG_len W
  have itS : Iterable (strsD out) (out.map D.str) := iterable_list
  have lenP : ∀ {Γ : Ctx} {x : Str} {p1 p2 p3 : Pos}, x ∈ out → Γ.K = Kf w → Γ.env.kindOf "len" = some .globalImplicit → Γ.ρ "piece" = some (.str x) → Ev Γ (.Call (.Name "len" p1) [.Name "piece" p2] [] p3) (.int (x.length : Int)) := fun {Γ x p1 p2 p3} hx h1 h2 h3 =>
    c_len h1 h2 (d1 := .str (Sx x.cps.toList)) ((ev_name h3).cast (congrArg D.str (strSx x))) (fn_len_str (l := x.cps.toList) (Nat.le_trans (hlen x hx) (by decide)))
  have hkv : dueKV (csG W) out = (out.filter fun _ => true).map fun x => (x, dueV (csG W) x) := by rw [List.filter_eq_self.mpr fun _ _ => rfl]; rfl
  refine x_used_sdict F (kvs := dueKV (csG W) out) ?_ fun _ F => ?_
  · rw [hkv]
    refine evU_dc kdS (xs := out) (inj := D.str) (gk := fun x : Str => x) (gv := fun x => dueV (csG W) x) (ev_name rfl) itS (by omega) (fun _ _ _ _ _ _ => tests_nil) (fun x hx _ Da C own wr => ev_name rfl) (fun x hx _ Da C own wr => ?_) ?_
    · have hx9 := hlen x hx
      unfold dueV
      refine c_sum rfl rfl ?_ fn_sum
      rw [List.map_map, hcl]
      refine (ev_lcf (xs := List.range W.length) (inj := fun i : Nat => D.int (i : Int)) (c_range rfl rfl (ev_name rfl)) (iterN (by omega)) (by simp; omega) (fun i hi Da C own wr => ?_) fun i hi _ Da C own wr => ev_binop (ev_name rfl) (lenP hx rfl rfl rfl) op_add).ev
      have hi' : i < W.length := by simpa using hi
      refine (evT_cmp (ev_sliceS' (l := csG W) (i := i) (j := i + x.length) (ev_name rfl) (ev_name rfl) ((ev_binop (ev_name rfl) (lenP hx rfl rfl rfl) op_add).cast (congrArg D.int (by omega))) (by omega) (by omega) (by omega)) (ev_name rfl) (op_eqD (EqD.str 0 _ _) (by decide))).cast ?_
      rw [Nat.add_sub_cancel_left]
    · rw [List.filter_eq_self.mpr fun _ _ => rfl, List.map_id']; exact hnd
  refine x_assign F (d := (profAt (csG W) T (csG W).length).D) ((ev_call (f := .ref 95) (ev_glob topOk rfl g95) ok95.callable (evs_cons (ev_name rfl) (evs_cons ((ev_name rfl).cast (natD_eq T).symm) evs_nil)) (fn_profile (m := 14) (by omega) (by omega))).on F.at_) fun _ F => ?_
  generalize profAt (csG W) T (csG W).length = P at F H
  have h2 : (W.length : Int) * ((W.length : Int) + 1) < 2 ^ 64 := by
    have := sq_le (a := W.length) (b := W.length + 1) hz (show W.length + 1 ≤ 10 by omega)
    omega
  have h0 : 0 ≤ (W.length : Int) * ((W.length : Int) + 1) := Int.mul_nonneg (by omega) (by omega)
  refine x_skip F (EvT.on (b := false) ?_ F.at_) fun s' F => ?_
  · refine evT_cmp (ev_name rfl) (ev_tuple (evs_cons (c_len rfl rfl (ev_name rfl) (d := .int (out.length : Int)) (by
        have := fn_len_list (K := Kf w) (prog := prog) (w := w) (n := 18) (ds := out.map .str) (by simp; omega)
        rw [List.length_map] at this; exact this)) (evs_cons (ev_binop (ev_binop (ev_name rfl) (ev_binop (ev_name rfl) ev_int op_add) (op_mul (mul_small (by omega) (by omega)))) ev_int (op_fdiv (by decide) (PyProof.noPylong_small (by decide)))) (evs_cons (ev_binop (ev_binop (ev_name rfl) (ev_binop (ev_name rfl) ev_int op_sub) (op_mul (mul_small (by omega) (by omega)))) ev_int (op_fdiv (by decide) (PyProof.noPylong_small (by decide)))) (evs_cons (c_sum rfl rfl (ev_name rfl) fn_sum) (evs_cons (ev_name rfl) evs_nil))))) (by show 5 ≤ sizeLine; omega)) (op_neSameT (n := 1) rfl (fun j d e hd he => ?_) (by decide))
    rw [← hcl] at he
    match j with
    | 0 => obtain rfl := Option.some.inj hd; obtain rfl := Option.some.inj he; rw [H.a]; exact sameD_int _ _
    | 1 => obtain rfl := Option.some.inj hd; obtain rfl := Option.some.inj he; rw [H.b]; exact sameD_int _ _
    | 2 => obtain rfl := Option.some.inj hd; obtain rfl := Option.some.inj he; rw [H.c]; exact sameD_int _ _
    | 3 => obtain rfl := Option.some.inj hd; obtain rfl := Option.some.inj he; rw [H.d, hcl]; exact sameD_int _ _
    | 4 => obtain rfl := Option.some.inj hd; obtain rfl := Option.some.inj he; exact sameD_dict kdS H.kv
    | j + 5 => exact nomatch hd
  refine x_ret F (d := .bool true) (Ev.on ?_ F.at_) fun v s' F r => ?_
  · refine (ev_cmpB (ev_call (f := .ref 63) (ev_glob topOk rfl g63) ok63.callable (evs_cons (ev_sub (ev_name rfl) ev_int (sub_tuple (d := .sdict P.kv) (by intro _ _; rfl) (by decide) (by decide) rfl)) evs_nil) (fn_count_calls (n := 17) kdS))
      (ev_binop (ev_binop (ev_binop (ev_name rfl) (ev_binop (ev_name rfl) ev_int op_add) (op_mul (mul_small (by omega) (by omega)))) (ev_binop (ev_binop ev_int (ev_name rfl) (op_mul (mul_small (by decide) (by decide)))) ev_int op_add) (op_mul (mul_small (by omega) (by omega)))) ev_int (op_fdiv (by decide) (PyProof.noPylong_small (by decide)))) op_eq).cast ?_
    rw [H.sum, hcl]; simp
  · obtain ⟨_, rfl⟩ := r.atom
    exact k _ _ F
end
-- part G20
/-- what a word must show -/
structure GoodLaw (code : Int) (W : List Int) (T : List Nat) (O : Nat → List Nat) (at_ : Nat → Nat) : Prop where
  anti : ∀ i j, i < W.length → j < W.length → tG code W i j = -tG code W j i
  raise : ∀ p ∈ keysG code W.length, cmpK (keysG code W.length) (rowG W 0) (raiseI (rowG W 0) p.1) = -p.2
  tab : TabOk code W
  tl : T.length = W.length
  top : ∀ i, i < W.length → IsMax (T.getD i 0 : Nat) (tabI (W.drop i))
  ol : (ordF (tG code W) W.length).length = W.length
  sh : (sharedG (tG code W) (ordF (tG code W) W.length) W.length).Perm (T.dropLast.map fun x : Nat => (x : Int))
  tk : TakenLaw W.length (tG code W) T O at_
  o0 : O 0 = ordF (tG code W) W.length
  room : ∀ out : List Str, out.Perm (dd (piecesL (csG W))) → ∀ m, m < W.length → ((out.filter fun x => x.length == m + 1).length : Int) = (W.length : Int) + 1 - (1 + (m : Int)) - ((T.filter fun t => decide (m + 1 ≤ t)).length : Int)
  prof : ∀ out : List Str, out.Perm (dd (piecesL (csG W))) → ProfOk (csG W) (profAt (csG W) T (csG W).length) out (sharedG (tG code W) (ordF (tG code W) W.length) W.length).sum
section
variable {w : World} {prog : Program}
set_option maxHeartbeats 2000000 in
theorem fn_good {code : Int} {W : List Int} {T : List Nat} {O : Nat → List Nat} {at_ : Nat → Nat} (hz : W.length ≤ 9) (H : GoodLaw code W T O at_) : Fn (Kf w) prog w 19 (.ref 100) [intsD W, .int code] (.bool true) :=
  fn_of_body ok100 rfl fun A base S s₀ L s₁ F => by
    have hcl := csG_len W
    have F := F.next (Γ' := fcx w prog _ 18 base (env100 w L) _ [("word", intsD W), ("code", .int code)]) rfl ⟨rfl, rfl, trivial⟩
    refine ex_with F rfl rfl rfl rfl fun F => ?_
    refine segA hz F fun S s F => ?_
    refine segB hz H.anti H.raise F fun s F => ?_
    refine segC hz H.tab H.tl H.top F fun out S s hout F => ?_
    have hlen : ∀ x ∈ out, x.length ≤ 9 := fun x hx => by
      obtain ⟨i, m, h, rfl⟩ := piecesL_mem.mp ((dd_mem _ _).mp (hout.mem_iff.mp hx))
      rw [Sx_len, List.length_take, List.length_drop]
      omega
    have hol : out.length ≤ 45 := by
      rw [hout.length_eq]
      exact Nat.le_trans (dd_len _) (piecesL_len (by omega))
    refine segD hz H.tl hlen hol (H.room out hout) H.ol H.sh H.tk H.o0 F fun S s F => ?_
    refine segE hz H.tl hlen hol (hout.nodup_iff.mpr (dd_nodup _)) (H.prof out hout) F fun Γ s F => ⟨_, rfl, F.done rfl rfl, .bool _⟩
/-- the script's own list, cut -/
theorem ev_slice_raw {Γ : Ctx} {value : Expr} {upper : Option Expr} {p q : Pos} {l : Addr} {vs : List Value} {ns : List Int} {hi : Option Int} (hl : Γ.base.IsList l vs.toArray) (hI : IntsAre vs ns) (h1 : Ev Γ value (.raw (.ref l))) (h3 : EvPart Γ upper hi) (hz : ns.length ≤ sizeLine) :
    Ev Γ (.Subscript value (.Slice none upper none q) p) (.list ((cut ns none hi).map .int)) := .mk fun s C => by
  refine Subscript_ ((h1.run s C).then' fun a s₁ k₁ r₁ => wpAny_Slice ?_)
  rw [evalPart_none]
  refine wpAny_pure ((h3.run s₁ (C.go k₁)).then' fun vu s₃ k₃ pu => ?_)
  refine wpAny_pure ?_
  (first | obtain ⟨_, rfl⟩ := r₁.atom | exact (nsE r₁).elim | exact (snE r₁).elim | exact (ftE r₁).elim | cases r₁)
  have C₃ := (C.go k₁).go k₃
  have hl3 : s₃.heap.IsList l vs.toArray := let ⟨o, ho, r⟩ := hl; ⟨o, C₃.wd.up _ _ ho, r⟩
  have hl' : (s₃.heap.push { cls := .type "slice", data := .fields #[.none, vu, .none] }).IsList l vs.toArray := hl3.push _
  have kp := Kp.push s₃ { cls := .type "slice", data := .fields #[.none, vu, .none] }
  have hn : vs.length = ns.length := hI.length
  refine tail_any hl'.typeIs slot_list_getitem.lookup (wpAny_getItem_list_slice hl' (Heap.IsSliceOf.new _ _ _ _) .none pu .none (by intro e; (first | obtain ⟨_, rfl⟩ := e.atom | exact (nsE e).elim | exact (snE e).elim | exact (ftE e).elim | cases e)) ⟨((k₁.trans k₃).trans kp).trans (Kp.push _ _), ?_⟩ (by simpa [hn] using hz)) (ops := [_, _]) rfl
  rw [kms_pick_eq]
  refine Rep.new_list (C₃.go kp).wd.held ?_
  have hr : RepAll Γ.prog Γ.w Γ.S (s₃.heap.push { cls := .type "slice", data := .fields #[.none, vu, .none] }) vs (ns.map .int) := .of_ints hI
  have := (hr.drop (kms_lo none vs.length)).take (kms_hi hi vs.length - kms_lo none vs.length)
  rw [← cut_map]
  unfold kms_pick cut
  rw [List.length_map, ← hn]
  exact this
/-- the law's own call -/
noncomputable def LawRuns : Prop := ∀ (w : World) (prog : Program) (A : Around) (base : Heap) (s : Shared) (l : Addr) (vs : List Value) (ns : List Int), RoomA 20 A → Wd (Kf w) base (fun _ => False) s.heap → base.IsList l vs.toArray → IntsAre vs ns → ns.length ≤ 63 →
  wpAny (model prog w) A (call (.ref 107) [.ref l]) (fun v s' => Kp s s' ∧ v = .bool true) (fun _ _ => False) s
theorem word2_len (nums : List Int) : (word2 nums).length = 5 + nums.length % 5 := by
  unfold word2 word02 size2
  split <;> simp
noncomputable abbrev env107 (w : World) (L : Addr) : Env := callEnvC (fn107 w).1 L 107
set_option maxHeartbeats 2000000 in
theorem law_of (hG : ∀ code W, W.length ≤ 9 → ∃ T O at_, GoodLaw code W T O at_) : LawRuns := fun w prog A base s l vs ns hr hw hl hI h63 => by
  have hsz : sizeLine = 16777216 := by decide
  have htk : (ns.take 60).length ≤ 60 := by rw [List.length_take]; omega
  refine fn_enter (ds := [.raw (.ref l)]) ok107 (n := 19) hr hw (.cons (.raw _) .nil) rfl (W := fun _ => False) noOwn_ok trivial fun L s₁ F => ?_
  have F := F.next (Γ' := fcx w prog _ 19 base (env107 w L) _ [("script", .raw (.ref l))]) rfl ⟨rfl, trivial⟩
  refine ex_with F rfl rfl rfl rfl fun F => ?_
  refine x_assign F (d := intsD (ns.take 60)) (((ev_slice_raw (Γ := fcx w prog _ 19 base (env107 w L) _ [("script", .raw (.ref l))]) hl hI (ev_name rfl) (part_some ev_int) (by omega)).cast (by rw [cut_to _ (by decide)]; rfl)).on F.at_) fun _ F => ?_
  generalize ns.take 60 = nums at F htk
  have hlen := word2_len nums
  refine x_assign F (d := intsD (word2 nums)) ((ev_call (f := .ref 75) (ev_glob topOk rfl g75) ok75.callable (evs_cons (ev_name rfl) evs_nil) (fn_word (n := 18) (by omega))).on F.at_) fun _ F => ?_
  generalize word2 nums = W at F hlen
  refine x_assign F (d := .int (45 + nums.sum.fdiv 4)) ((ev_binop ev_int (ev_binop (c_sum rfl rfl (ev_name rfl) fn_sum) ev_int (op_fdiv (by decide) (PyProof.noPylong_small (by decide)))) op_add).on F.at_) fun _ F => ?_
  have good : ∀ {V : List Int}, V.length ≤ 9 → Fn (Kf w) prog w 19 (.ref 100) [intsD V, .int (45 + nums.sum.fdiv 4)] (.bool true) := fun hV => by
    obtain ⟨T, O, at_, H⟩ := hG (45 + nums.sum.fdiv 4) _ hV
    exact fn_good hV H
  have hm := fmod_range nums.sum (b := (W.length : Int)) (by omega)
  refine x_ret F (d := .bool true) (Ev.on ?_ F.at_) fun v s' F r => ?_
  · refine ev_and2 (a := true) (ev_call (f := .ref 100) (ev_glob topOk rfl g100) ok100.callable (evs_cons (ev_name rfl) (evs_cons (ev_name rfl) evs_nil)) (good (by omega))) (fun _ => ?_) fun h => by cases h
    refine ev_call (f := .ref 100) (ev_glob topOk rfl g100) ok100.callable (evs_cons ((ev_slice (ds := W.map .int) (ev_name rfl) part_none (part_some (ev_binop (c_sum rfl rfl (ev_name rfl) fn_sum) (c_len rfl rfl (ev_name rfl) (d := .int (W.length : Int)) ?_) (op_mod (by omega)))) (by simp; omega)).cast (d' := intsD (W.take (nums.sum.fmod W.length).toNat)) (congrArg D.list (by rw [cut_to _ hm.1, List.map_take]))) (evs_cons (ev_name rfl) evs_nil)) (good (by rw [List.length_take]; omega))
    have := fn_len_list (K := Kf w) (prog := prog) (w := w) (n := 19) (ds := W.map .int) (by simp; omega)
    rw [List.length_map] at this; exact this
  · obtain ⟨_, rfl⟩ := r.atom
    exact ⟨_, rfl, F.done rfl rfl, rfl⟩
end
-- part G21
theorem g_law {w : World} : globOf (Kf w) "law" = some (.ref 107) := id rfl
set_option maxHeartbeats 8000000 in
theorem top_of (hlaw : LawRuns) : PySem.Challenge.rw_rw0016_01.Holds := Hd.hd (by
  intro w s₀ s₁ mg mb G Y fa o pm cd doc dV kV ho hd hcd hD hmg hg args vals as hpre hlay hrd hwl hlo
  have KX := kIn_of (K := Hd.frag) (as := Hd.addrs) (e := Hd.addrs_ok) Y
  refine Ground.open G ?_
  intro T B D TE TW
  clear hD B D TE TW Y G ho hd hcd
  wrow_args hpre hlay hrd hwl hlo
  rename_i ns _ _ _ _ _ _ _ l vs _ hL _ _ _ hI _ hlen _
  have GL : Gl (Kf w) s₁.heap := ⟨KX, T.nolimit, ⟨mg, T.g⟩, ⟨mb, T.b, T.builtins⟩⟩
  have hfa : some (.ref fa) = globOf (Kf w) "law" := hmg.symm.trans (glob_is topOk GL T.g "law")
  rw [g_law] at hfa
  cases hfa
  refine wpAny_mono (hlaw w _ callerA s₁.heap s₁ l vs ns (by refine ⟨rfl, ?_, ?_⟩ <;> decide) ⟨GL, fun _ _ e => e, fun _ h => h.elim, fun _ h => h.elim⟩ hL hI (by omega)) (fun v s' q => ?_) fun _ _ x => x.elim
  obtain ⟨⟨⟨k1, k2⟩, k⟩, rfl⟩ := q
  refine ⟨.inl ⟨_, .bool true, [], rfl, fun _ => rfl, .bool _, by with_unfolding_all rfl, fun _ => ⟨List.nodup_nil, fun _ m => nomatch m⟩⟩, .of_keep k, k2, .of_eq (k1.trans hg)⟩)
-- part N4
/-- two rows of numbers, told apart at their first difference -/
noncomputable def LexAt (n : Nat) (X : Nat → Nat → Int) (T : Nat → Nat → Int) (i j : Nat) : Prop :=
  ((∀ p, p < n → X i p = X j p) ∧ T i j = 0) ∨ ∃ m, m < n ∧ (∀ p, p < m → X i p = X j p) ∧ X i m ≠ X j m ∧ T i j = if X i m < X j m then -((m : Int) + 1) else (m : Int) + 1
section
variable {n : Nat} {X T : Nat → Nat → Int} {i j k : Nat}
theorem lex_self (H : LexAt n X T i i) : T i i = 0 := by
  rcases H with ⟨_, h⟩ | ⟨m, _, _, h, _⟩
  · exact h
  · exact absurd rfl h
theorem lex_anti (H : LexAt n X T i j) (H' : LexAt n X T j i) : T i j = -T j i := by
  rcases H with ⟨h1, h2⟩ | ⟨m, hm, h1, h2, h3⟩
  · rcases H' with ⟨g1, g2⟩ | ⟨m', hm', g1, g2, g3⟩
    · rw [h2, g2]; rfl
    · exact absurd (h1 m' hm').symm g2
  · rcases H' with ⟨g1, g2⟩ | ⟨m', hm', g1, g2, g3⟩
    · exact absurd (g1 m hm).symm h2
    · obtain rfl : m = m' := by
        rcases Nat.lt_trichotomy m m' with q | q | q
        · exact absurd (g1 m q).symm h2
        · exact q
        · exact absurd (h1 m' q).symm g2
      rw [h3, g3]
      rcases Int.lt_trichotomy (X i m) (X j m) with q | q | q
      · rw [if_pos q, if_neg (by omega)]
      · exact absurd q h2
      · rw [if_neg (by omega), if_pos q, Int.neg_neg]
theorem lex_neg (H : LexAt n X T i j) (h : T i j < 0) : ∃ m, m < n ∧ (∀ p, p < m → X i p = X j p) ∧ X i m < X j m ∧ T i j = -((m : Int) + 1) := by
  rcases H with ⟨_, e⟩ | ⟨m, hm, h1, h2, h3⟩
  · omega
  · by_cases q : X i m < X j m
    · rw [if_pos q] at h3; exact ⟨m, hm, h1, q, h3⟩
    · rw [if_neg q] at h3; omega
theorem lex_is (H : LexAt n X T i j) {m : Nat} (hm : m < n) (h1 : ∀ p, p < m → X i p = X j p) (h2 : X i m < X j m) : T i j = -((m : Int) + 1) := by
  rcases H with ⟨h, _⟩ | ⟨m', hm', g1, g2, g3⟩
  · have := h m hm; omega
  · obtain rfl : m = m' := by
      rcases Nat.lt_trichotomy m m' with q | q | q
      · have := g1 m q; omega
      · exact q
      · exact absurd (h1 m' q) g2
    rw [g3, if_pos h2]
theorem lex_tri (H1 : LexAt n X T i j) (H2 : LexAt n X T j k) (H3 : LexAt n X T i k) (h1 : T i j < 0) (h2 : T j k < 0) : T i k = max (T i j) (T j k) := by
  obtain ⟨a, ha, a1, a2, a3⟩ := lex_neg H1 h1
  obtain ⟨b, hb, b1, b2, b3⟩ := lex_neg H2 h2
  rcases Nat.lt_trichotomy a b with q | q | q
  · rw [lex_is H3 ha (fun p hp => (a1 p hp).trans (b1 p (by omega))) (by rw [← b1 a q]; exact a2)]; omega
  · subst q
    rw [lex_is H3 ha (fun p hp => (a1 p hp).trans (b1 p hp)) (by omega)]; omega
  · rw [lex_is H3 hb (fun p hp => (a1 p (by omega)).trans (b1 p hp)) (by rw [a1 b q]; exact b2)]; omega
theorem lex_abs (H : LexAt n X T i j) (hne : T i j ≠ 0) (hk : k ≤ n) : (k : Int) < absI (T i j) ↔ ∀ p, p < k → X i p = X j p := by
  rcases H with ⟨_, e⟩ | ⟨m, hm, h1, h2, h3⟩
  · exact absurd e hne
  · have e : absI (T i j) = (m : Int) + 1 := by
      unfold absI
      rw [h3]
      split <;> split <;> omega
    rw [e]
    constructor
    · intro h p hp; exact h1 p (by omega)
    · intro h
      rcases Nat.lt_or_ge m k with q | q
      · exact absurd (h m q) h2
      · omega
end
/-- the judge, place by place -/
noncomputable def cmpF (way : Nat → Int) (f g : Nat → Int) : List Nat → Int
  | [] => 0
  | k :: r => if f k < g k then -way k else if g k < f k then way k else cmpF way f g r
theorem cmpK_map (way : Nat → Int) (c : Nat → Nat) (L R : List Int) : ∀ ks : List Nat, cmpK (ks.map fun k => (c k, way k)) L R = cmpF way (fun k => L.getD (c k) 0) (fun k => R.getD (c k) 0) ks
  | [] => rfl
  | k :: r => by
    have ih := cmpK_map way c L R r
    show (if L.getD (c k) 0 < R.getD (c k) 0 then -way k else if R.getD (c k) 0 < L.getD (c k) 0 then way k else cmpK (r.map fun k => (c k, way k)) L R) = _
    rw [ih]; rfl
theorem cmpF_spec {way f g : Nat → Int} : ∀ (n s : Nat), ((∀ p, s ≤ p → p < s + n → f p = g p) ∧ cmpF way f g (List.range' s n) = 0) ∨ ∃ m, s ≤ m ∧ m < s + n ∧ (∀ p, s ≤ p → p < m → f p = g p) ∧ f m ≠ g m ∧ cmpF way f g (List.range' s n) = if f m < g m then -way m else way m
  | 0, s => .inl ⟨fun p h1 h2 => by omega, rfl⟩
  | n + 1, s => by
    have e : cmpF way f g (List.range' s (n + 1)) = if f s < g s then -way s else if g s < f s then way s else cmpF way f g (List.range' (s + 1) n) := rfl
    rw [e]
    rcases Int.lt_trichotomy (f s) (g s) with q | q | q
    · exact .inr ⟨s, Nat.le_refl _, by omega, fun p h1 h2 => by omega, by omega, by rw [if_pos q, if_pos q]⟩
    · rw [if_neg (by omega), if_neg (by omega)]
      have same : ∀ p, s ≤ p → (s + 1 ≤ p → f p = g p) → f p = g p := fun p h1 h => by
        rcases Nat.eq_or_lt_of_le h1 with rfl | h1
        · exact q
        · exact h h1
      rcases cmpF_spec n (s + 1) with ⟨h1, h2⟩ | ⟨m, h1, h2, h3, h4, h5⟩
      · exact .inl ⟨fun p a b => same p a fun c => h1 p c (by omega), h2⟩
      · exact .inr ⟨m, by omega, by omega, fun p a b => same p a fun c => h3 p c b, h4, h5⟩
    · exact .inr ⟨s, Nat.le_refl _, by omega, fun p h1 h2 => by omega, by omega, by rw [if_neg (by omega), if_pos q, if_neg (by omega)]⟩
/-- the letter at a place, or less than every letter -/
noncomputable def eG (W : List Int) (p : Nat) : Int := if p < W.length then W.getD p 0 else lowI W
theorem row_get {W : List Int} {i m : Nat} (hm : m < W.length) : (rowG W i).getD (W.length - 1 - m) 0 = eG W (i + m) := by
  unfold rowG eG
  rw [List.getD_eq_getElem?_getD, List.getElem?_map, List.getElem?_range (by omega)]
  show (if i ≤ W.length - 1 - m then W.getD (i + W.length - 1 - (W.length - 1 - m)) 0 else lowI W) = _
  by_cases h : i + m < W.length
  · rw [if_pos (by omega), if_pos h]; congr 1; omega
  · rw [if_neg (by omega), if_neg h]
noncomputable def upG (code : Int) (m : Nat) : Bool := (code.fdiv (2 ^ m)).fmod 2 == 1
noncomputable def xG (code : Int) (W : List Int) (i m : Nat) : Int := if upG code m then eG W (i + m) else -eG W (i + m)
theorem cmpF_congr {way f g f' g' : Nat → Int} : ∀ (ks : List Nat), (∀ k ∈ ks, f k = f' k ∧ g k = g' k) → cmpF way f g ks = cmpF way f' g' ks
  | [], _ => rfl
  | k :: r, h => by
    have ih := cmpF_congr (way := way) r fun q hq => h q (.tail _ hq)
    obtain ⟨e1, e2⟩ := h k (.head _)
    unfold cmpF
    rw [e1, e2, ih]
theorem tG_lex (code : Int) (W : List Int) (i j : Nat) : LexAt W.length (xG code W) (tG code W) i j := by
  have e : tG code W i j = cmpF (wayI code) (fun m => eG W (i + m)) (fun m => eG W (j + m)) (List.range' 0 W.length) := by
    unfold tG keysG
    rw [cmpK_map (wayI code) (fun k => W.length - 1 - k), List.range_eq_range']
    refine cmpF_congr _ fun k hk => ?_
    have : k < W.length := by have := List.mem_range'_1.mp hk; omega
    exact ⟨row_get this, row_get this⟩
  have hx : ∀ p, xG code W i p = xG code W j p ↔ eG W (i + p) = eG W (j + p) := fun p => by
    unfold xG; split <;> omega
  unfold LexAt
  rw [e]
  rcases cmpF_spec (way := wayI code) (f := fun m => eG W (i + m)) (g := fun m => eG W (j + m)) W.length 0 with ⟨h1, h2⟩ | ⟨m, h1, h2, h3, h4, h5⟩
  · exact .inl ⟨fun p hp => (hx p).mpr (h1 p (by omega) (by omega)), h2⟩
  · refine .inr ⟨m, by omega, fun p hp => (hx p).mpr (h3 p (by omega) hp), fun q => h4 ((hx m).mp q), ?_⟩
    rw [h5]
    unfold xG wayI upG
    split <;> split <;> (try split) <;> omega
-- part N5
section
variable {code : Int} {W : List Int} {i j k m : Nat}
theorem xG_eq {p : Nat} : xG code W i p = xG code W j p ↔ eG W (i + p) = eG W (j + p) := by
  unfold xG; split <;> omega
theorem low_lt {p : Nat} (h : p < W.length) : lowI W < eG W p := by
  unfold eG lowI
  rw [if_pos h]
  have := (minI_is W).2 (W.getD p 0) (List.mem_append_left _ (by simp [h]))
  omega
theorem eG_out {p : Nat} (h : W.length ≤ p) : eG W p = lowI W := by unfold eG; rw [if_neg (by omega)]
theorem eG_in {p : Nat} (h : p < W.length) : eG W p = W.getD p 0 := by unfold eG; rw [if_pos h]
theorem x_end (hij : i < j) (hj : j < W.length) : xG code W i (W.length - j) ≠ xG code W j (W.length - j) := fun e => by
  have e := xG_eq.mp e
  have := low_lt (W := W) (p := i + (W.length - j)) (by omega)
  rw [e, eG_out (by omega)] at this
  omega
theorem tG_self : tG code W i i = 0 := lex_self (tG_lex code W i i)
theorem tG_anti : tG code W i j = -tG code W j i := lex_anti (tG_lex code W i j) (tG_lex code W j i)
theorem tG_ne' (hij : i < j) (hj : j < W.length) : tG code W i j ≠ 0 := fun e => by
  rcases tG_lex code W i j with ⟨h, _⟩ | ⟨m, hm, h1, h2, h3⟩
  · exact x_end hij hj (h _ (by omega))
  · rw [h3] at e; split at e <;> omega
theorem tG_ne (hij : i ≠ j) (hi : i < W.length) (hj : j < W.length) : tG code W i j ≠ 0 := by
  rcases Nat.lt_or_gt_of_ne hij with q | q
  · exact tG_ne' q hj
  · have := tG_ne' (code := code) q hi
    rw [tG_anti] at this
    omega
theorem tG_tri (h1 : tG code W i j < 0) (h2 : tG code W j k < 0) : tG code W i k = max (tG code W i j) (tG code W j k) := lex_tri (tG_lex ..) (tG_lex ..) (tG_lex ..) h1 h2
theorem absI_neg (x : Int) : absI (-x) = absI x := by unfold absI; split <;> split <;> omega
theorem absI_anti : absI (tG code W i j) = absI (tG code W j i) := by rw [tG_anti, absI_neg]
theorem tG_le (hij : i < j) (hj : j < W.length) : absI (tG code W i j) + (j : Int) ≤ (W.length : Int) + 1 := by
  have h := lex_abs (k := W.length - j + 1) (tG_lex code W i j) (tG_ne' hij hj) (by omega)
  rcases Int.lt_or_le ((W.length - j + 1 : Nat) : Int) (absI (tG code W i j)) with q | q
  · exact absurd (h.mp q (W.length - j) (by omega)) (x_end hij hj)
  · omega
theorem take_agr {xs : List Int} (h1 : i + k ≤ xs.length) (h2 : j + k ≤ xs.length) : (xs.drop i).take k = (xs.drop j).take k ↔ ∀ p, p < k → xs.getD (i + p) 0 = xs.getD (j + p) 0 := by
  constructor
  · intro e p hp
    have := congrArg (fun l => l[p]?) e
    simp only [List.getElem?_take, List.getElem?_drop, if_pos hp] at this
    rw [List.getD_eq_getElem?_getD, List.getD_eq_getElem?_getD, this]
  · intro h
    apply List.ext_getElem?
    intro p
    simp only [List.getElem?_take, List.getElem?_drop]
    by_cases hp : p < k
    · rw [if_pos hp, if_pos hp]
      have := h p hp
      rw [List.getD_eq_getElem?_getD, List.getD_eq_getElem?_getD, List.getElem?_eq_getElem (by omega), List.getElem?_eq_getElem (by omega)] at this
      rw [List.getElem?_eq_getElem (by omega), List.getElem?_eq_getElem (by omega)]
      exact congrArg some this
    · rw [if_neg hp, if_neg hp]
theorem tG_take (hij : i < j) (hj : j < W.length) (hk : j + k ≤ W.length) : (k : Int) < absI (tG code W i j) ↔ (W.drop i).take k = (W.drop j).take k := by
  rw [lex_abs (tG_lex code W i j) (tG_ne' hij hj) (by omega), take_agr (by omega) (by omega)]
  refine forall_congr' fun p => forall_congr' fun hp => ?_
  rw [xG_eq, eG_in (by omega), eG_in (by omega)]
theorem isMax_same {M : Int} {xs ys : List Int} (h : IsMax M xs) (q : ∀ a, a ∈ xs ↔ a ∈ ys) : IsMax M ys := ⟨(q M).mp h.1, fun a ha => h.2 a ((q a).mpr ha)⟩
theorem tab_ok (code : Int) (W : List Int) : TabOk code W := fun i m h => by
  have hl : (W.drop i).length = W.length - i := List.length_drop ..
  have key : ∀ k, 1 ≤ k → k ≤ m → (((W.drop i).drop (m + 1 - k)).take k = (W.drop i).take k ↔ (k : Int) < absI (tG code W i (i + m + 1 - k))) := fun k h1 h2 => by
    rw [tG_take (by omega) (by omega) (by omega), List.drop_drop, show i + (m + 1 - k) = i + m + 1 - k by omega]
    exact eq_comm
  refine isMax_same (isMax_bd (w := W.drop i) (m := m + 1) (by omega) (by omega)) fun a => ?_
  simp only [List.mem_map, List.mem_filter, List.mem_range, decide_eq_true_eq, List.mem_append, List.mem_singleton]
  constructor
  · rintro ⟨k, ⟨h1, h2⟩, rfl⟩
    rcases Nat.eq_zero_or_pos k with rfl | hk
    · exact .inl rfl
    · refine .inr ⟨k - 1, ⟨by omega, ?_⟩, by omega⟩
      have := (key k hk (by omega)).mp h2
      rw [show i + m - (k - 1) = i + m + 1 - k by omega]
      omega
  · rintro (rfl | ⟨q, ⟨h1, h2⟩, rfl⟩)
    · exact ⟨0, ⟨by omega, by simp⟩, rfl⟩
    · refine ⟨q + 1, ⟨by omega, (key (q + 1) (by omega) (by omega)).mpr ?_⟩, by omega⟩
      rw [show i + m + 1 - (q + 1) = i + m - q by omega]
      omega
/-- the longest beginning of a tail that begins a later one -/
noncomputable def topG (code : Int) (W : List Int) (i : Nat) : Nat := ((List.range W.length).map fun j => if i < j then (absI (tG code W i j)).toNat - 1 else 0).foldr max 0
theorem fold_le : ∀ {l : List Nat} {x : Nat}, x ∈ l → x ≤ l.foldr max 0
  | y :: l, x, h => by
    rw [List.foldr_cons]
    rcases List.mem_cons.mp h with rfl | h
    · exact Nat.le_max_left ..
    · exact Nat.le_trans (fold_le h) (Nat.le_max_right ..)
theorem fold_at : ∀ (l : List Nat), l.foldr max 0 = 0 ∨ l.foldr max 0 ∈ l
  | [] => .inl rfl
  | y :: l => by
    rw [List.foldr_cons]
    rcases Nat.le_total y (l.foldr max 0) with q | q
    · rw [Nat.max_eq_right q]
      exact (fold_at l).imp id fun h => .tail _ h
    · rw [Nat.max_eq_left q]; exact .inr (.head _)
theorem absI_nn (x : Int) : 0 ≤ absI x := by unfold absI; split <;> omega
theorem absI_pos {x : Int} (h : x ≠ 0) : 1 ≤ absI x := by unfold absI; split <;> omega
theorem topG_le (hij : i < j) (hj : j < W.length) : absI (tG code W i j) ≤ (topG code W i : Int) + 1 := by
  have := fold_le (x := (absI (tG code W i j)).toNat - 1) (l := (List.range W.length).map fun j => if i < j then (absI (tG code W i j)).toNat - 1 else 0) (List.mem_map.mpr ⟨j, by simpa using hj, if_pos hij⟩)
  have h1 := absI_nn (tG code W i j)
  show _ ≤ ((List.foldr max 0 _ : Nat) : Int) + 1
  omega
theorem topG_at (code : Int) (W : List Int) (i : Nat) : topG code W i = 0 ∨ ∃ j, i < j ∧ j < W.length ∧ absI (tG code W i j) = (topG code W i : Int) + 1 := by
  rcases fold_at ((List.range W.length).map fun j => if i < j then (absI (tG code W i j)).toNat - 1 else 0) with h | h
  · exact .inl h
  · obtain ⟨j, hj, e⟩ := List.mem_map.mp h
    have hj : j < W.length := by simpa using hj
    change _ = topG code W i at e
    by_cases q : i < j
    · rw [if_pos q] at e
      refine .inr ⟨j, q, hj, ?_⟩
      have := absI_pos (tG_ne' (code := code) q hj)
      omega
    · rw [if_neg q] at e; exact .inl e.symm
theorem topG_bound (hi : i < W.length) : topG code W i + i < W.length := by
  rcases topG_at code W i with h | ⟨j, h1, h2, h3⟩
  · omega
  · have := tG_le (code := code) h1 h2
    omega
theorem top_tab (hi : i < W.length) : IsMax (topG code W i : Int) (tabI (W.drop i)) := by
  have hl : (W.drop i).length = W.length - i := List.length_drop ..
  have hle : ∀ m, i + m < W.length → (piW (W.drop i) m : Int) ≤ topG code W i := fun m hm => by
    have h := (tab_ok code W i m hm).1
    rcases List.mem_append.mp h with h | h
    · rw [List.mem_singleton.mp h]; omega
    · obtain ⟨q, hq, e⟩ := List.mem_map.mp h
      obtain ⟨hq1, hq2⟩ := List.mem_filter.mp hq
      have hq1 : q < m := by simpa using hq1
      have hq2 : 1 + (q : Int) < absI (tG code W i (i + m - q)) := by simpa using hq2
      have := topG_le (code := code) (W := W) (i := i) (j := i + m - q) (by omega) (by omega)
      omega
  constructor
  · have at_ : ∀ m, i + m < W.length → (topG code W i : Int) ≤ piW (W.drop i) m → (topG code W i : Int) ∈ tabI (W.drop i) := fun m hm h => by
      unfold tabI
      exact List.mem_map.mpr ⟨m, by simp; omega, Int.le_antisymm (hle m hm) h⟩
    rcases topG_at code W i with h | ⟨j, h1, h2, h3⟩
    · exact at_ 0 (by omega) (by omega)
    · rcases Nat.eq_zero_or_pos (topG code W i) with h0 | h0
      · exact at_ 0 (by omega) (by omega)
      · have hb := tG_le (code := code) h1 h2
        refine at_ (j - i + topG code W i - 1) (by omega) ?_
        refine (tab_ok code W i _ (by omega)).2 _ (List.mem_append_right _ (List.mem_map.mpr ⟨topG code W i - 1, List.mem_filter.mpr ⟨by simp; omega, ?_⟩, by omega⟩))
        rw [decide_eq_true_eq, show i + (j - i + topG code W i - 1) - (topG code W i - 1) = j by omega, h3]
        omega
  · intro a ha
    unfold tabI at ha
    obtain ⟨m, hm, rfl⟩ := List.mem_map.mp ha
    have : m < W.length - i := by simpa [hl] using hm
    exact hle m (by omega)
theorem raise_ok {p : Nat × Int} (hp : p ∈ keysG code W.length) : cmpK (keysG code W.length) (rowG W 0) (raiseI (rowG W 0) p.1) = -p.2 := by
  obtain ⟨k, hk, rfl⟩ := List.mem_map.mp hp
  have hk : k < W.length := by simpa using hk
  have hrl := rowG_len W 0
  generalize rowG W 0 = R at hrl
  have hset : raiseI R (W.length - 1 - k) = R.set (W.length - 1 - k) (R.getD (W.length - 1 - k) 0 + 1) := by
    unfold raiseI
    rw [List.set_eq_take_append_cons_drop, if_pos (by omega)]; simp
  show cmpK (keysG code W.length) R (raiseI R (W.length - 1 - k)) = -wayI code k
  rw [hset]
  unfold keysG
  rw [cmpK_map (wayI code) (fun k => W.length - 1 - k), List.range_eq_range']
  have same : ∀ m, m < W.length → m ≠ k → R.getD (W.length - 1 - m) 0 = (R.set (W.length - 1 - k) (R.getD (W.length - 1 - k) 0 + 1)).getD (W.length - 1 - m) 0 := fun m hm hne => by
    rw [List.getD_eq_getElem?_getD, List.getD_eq_getElem?_getD, List.getElem?_set_ne (by omega)]
  have there : (R.set (W.length - 1 - k) (R.getD (W.length - 1 - k) 0 + 1)).getD (W.length - 1 - k) 0 = R.getD (W.length - 1 - k) 0 + 1 := by
    rw [List.getD_eq_getElem?_getD, List.getElem?_set_self (by omega)]; rfl
  rcases cmpF_spec (way := wayI code) (f := fun m => R.getD (W.length - 1 - m) 0) (g := fun m => (R.set (W.length - 1 - k) (R.getD (W.length - 1 - k) 0 + 1)).getD (W.length - 1 - m) 0) W.length 0 with ⟨h1, h2⟩ | ⟨m, h1, h2, h3, h4, h5⟩
  · have := h1 k (by omega) (by omega)
    simp only [there] at this
    omega
  · have e : m = k := Classical.byContradiction fun q => h4 (same m (by omega) q)
    subst e
    rw [h5]
    simp only [there]
    rw [if_pos (by omega)]
end
-- part N6
section
variable {code : Int} {W : List Int} {i j k m n : Nat}
theorem ord_pw : ∀ n, n ≤ W.length → (ordF (tG code W) n).Pairwise fun a b => tG code W a b < 0
  | 0, _ => .nil
  | i + 1, h => by
    have ih := ord_pw i (by omega)
    have hm : ∀ j ∈ ordF (tG code W) i, j < i := fun j hj => ordF_mem.mp hj
    show (insN (tG code W) (ordF (tG code W) i) i).Pairwise _
    generalize ordF (tG code W) i = O at ih hm
    unfold insN
    have h1 : ∀ a ∈ O.filter (fun j => decide (tG code W j i < 0)), tG code W a i < 0 := fun a ha => by simpa using (List.mem_filter.mp ha).2
    have h2 : ∀ b ∈ O.filter (fun j => !((O.filter fun j => decide (tG code W j i < 0)).any fun t => decide (t = j))), tG code W i b < 0 := fun b hb => by
      obtain ⟨q1, q2⟩ := List.mem_filter.mp hb
      have hne := tG_ne (code := code) (W := W) (i := b) (j := i) (Nat.ne_of_lt (hm b q1)) (by have := hm b q1; omega) (by omega)
      have : ¬ tG code W b i < 0 := fun z => by
        rw [Bool.not_eq_true', List.any_eq_false] at q2
        exact q2 b (List.mem_filter.mpr ⟨q1, by simpa using z⟩) (by simp)
      rw [tG_anti]; omega
    rw [List.pairwise_append, List.pairwise_append]
    refine ⟨⟨ih.filter _, List.pairwise_singleton _ _, fun a ha b hb => by rw [List.mem_singleton.mp hb]; exact h1 a ha⟩, ih.filter _, fun a ha b hb => ?_⟩
    rcases List.mem_append.mp ha with ha | ha
    · have e1 := h1 a ha
      have e2 := h2 b hb
      rw [tG_tri e1 e2]; omega
    · rw [List.mem_singleton.mp ha]; exact h2 b hb
theorem ord_nodup (h : n ≤ W.length) : (ordF (tG code W) n).Nodup := (ord_pw n h).imp fun {a b} h e => by subst e; rw [tG_self] at h; omega
theorem ord_perm (h : n ≤ W.length) : (ordF (tG code W) n).Perm (List.range n) :=
  (List.perm_ext_iff_of_nodup (ord_nodup h) List.nodup_range).mpr fun a => by rw [ordF_mem, List.mem_range]
/-- the tails that are left -/
noncomputable def left (code : Int) (W : List Int) (i : Nat) : List Nat := (ordF (tG code W) W.length).filter fun j => decide (i ≤ j)
noncomputable def placeG (code : Int) (W : List Int) (i : Nat) : Nat := (left code W i).idxOf i
theorem left_mem : j ∈ left code W i ↔ i ≤ j ∧ j < W.length := by
  unfold left
  rw [List.mem_filter, ordF_mem, decide_eq_true_eq, and_comm]
theorem left_pw : (left code W i).Pairwise fun a b => tG code W a b < 0 := (ord_pw _ (Nat.le_refl _)).filter _
theorem left_nodup : (left code W i).Nodup := (ord_nodup (Nat.le_refl _)).filter _
structure Dec (code : Int) (W : List Int) (i : Nat) (A B : List Nat) : Prop where
  is : left code W i = A ++ i :: B
  place : placeG code W i = A.length
  next : left code W (i + 1) = A ++ B
  a : ∀ a ∈ A, i < a ∧ a < W.length ∧ tG code W a i < 0
  b : ∀ b ∈ B, i < b ∧ b < W.length ∧ tG code W i b < 0
  all : ∀ j, i < j → j < W.length → j ∈ A ∨ j ∈ B
  pa : A.Pairwise fun a b => tG code W a b < 0
  pb : B.Pairwise fun a b => tG code W a b < 0
theorem dec_of (hi : i < W.length) : ∃ A B, Dec code W i A B := by
  obtain ⟨A, B, e⟩ := List.append_of_mem (left_mem.mpr ⟨Nat.le_refl i, hi⟩ : i ∈ left code W i)
  have pw := left_pw (code := code) (W := W) (i := i)
  have nd := left_nodup (code := code) (W := W) (i := i)
  have hm := fun j => left_mem (code := code) (W := W) (i := i) (j := j)
  have hp : (left code W i)[placeG code W i]? = some i := by
    unfold placeG
    have h := List.idxOf_lt_length_of_mem ((hm i).mpr ⟨Nat.le_refl i, hi⟩)
    rw [List.getElem?_eq_getElem h, List.getElem_idxOf]
  have hq : (left code W i)[A.length]? = some i := by rw [e]; simp
  have hpl := nodup_get nd hp hq
  have hsub : left code W (i + 1) = (left code W i).filter fun j => decide (i + 1 ≤ j) := by
    unfold left
    rw [List.filter_filter]
    apply List.filter_congr
    intro j _
    rw [Bool.eq_iff_iff]; simp; omega
  rw [e] at pw nd hm hsub
  rw [List.pairwise_append, List.pairwise_cons] at pw
  obtain ⟨pa, ⟨pb1, pb2⟩, pab⟩ := pw
  have na : ∀ a ∈ A, a ≠ i := fun a ha z => by
    have := pab a ha i (.head _)
    rw [z, tG_self] at this; omega
  have nb : ∀ b ∈ B, b ≠ i := fun b hb z => by
    have := pb1 b hb
    rw [z, tG_self] at this; omega
  have ga : ∀ a ∈ A, i < a ∧ a < W.length := fun a ha => by
    have := (hm a).mp (List.mem_append_left _ ha)
    have := na a ha
    omega
  have gb : ∀ b ∈ B, i < b ∧ b < W.length := fun b hb => by
    have := (hm b).mp (List.mem_append_right _ (.tail _ hb))
    have := nb b hb
    omega
  refine ⟨A, B, e, hpl, ?_, fun a ha => ⟨(ga a ha).1, (ga a ha).2, pab a ha i (.head _)⟩, fun b hb => ⟨(gb b hb).1, (gb b hb).2, pb1 b hb⟩, fun j h1 h2 => ?_, pa, pb2⟩
  · rw [hsub, List.filter_append, List.filter_cons_of_neg (by simp), List.filter_eq_self.mpr fun a ha => decide_eq_true (show i + 1 ≤ a from (ga a ha).1), List.filter_eq_self.mpr fun b hb => decide_eq_true (show i + 1 ≤ b from (gb b hb).1)]
  · have := (hm j).mpr ⟨by omega, h2⟩
    rcases List.mem_append.mp this with q | q
    · exact .inl q
    · rcases List.mem_cons.mp q with rfl | q
      · omega
      · exact .inr q
theorem sides_is (A B : List Nat) (i : Nat) : sidesAt (A ++ i :: B) A.length = A.drop (A.length - 1) ++ B.take 1 := by
  unfold sidesAt
  congr 1
  · rcases List.eq_nil_or_concat A with rfl | ⟨A', a, rfl⟩
    · simp
    · simp
  · rw [List.drop_append, List.drop_eq_nil_of_le (by omega : A.length ≤ A.length + 1)]; simp
theorem abs_of_neg {x : Int} (h : x < 0) : absI x = -x := by unfold absI; rw [if_pos h]
/-- the neighbours tell as much as all -/
theorem sides_all {A B : List Nat} (H : Dec code W i A B) (h1 : i < j) (h2 : j < W.length) : ∃ s ∈ A.drop (A.length - 1) ++ B.take 1, absI (tG code W i j) ≤ absI (tG code W i s) := by
  rcases H.all j h1 h2 with q | q
  · rcases List.eq_nil_or_concat A with rfl | ⟨A', a, rfl⟩
    · cases q
    · refine ⟨a, List.mem_append_left _ (by simp), ?_⟩
      have ha := (H.a a (by simp)).2.2
      rw [absI_anti, absI_anti (j := a)]
      have hp := H.pa
      rw [List.concat_eq_append] at q hp
      rcases List.mem_append.mp q with q | q
      · have := (List.pairwise_append.mp hp).2.2 j q a (.head _)
        have hj := tG_tri this ha
        rw [abs_of_neg (by omega), abs_of_neg ha]; omega
      · rw [List.mem_singleton.mp q]; exact Int.le_refl _
  · cases B with
    | nil => cases q
    | cons b B =>
      refine ⟨b, List.mem_append_right _ (.head _), ?_⟩
      have hb := (H.b b (.head _)).2.2
      rcases List.mem_cons.mp q with rfl | q
      · exact Int.le_refl _
      · have := (List.pairwise_cons.mp H.pb).1 j q
        have hj := tG_tri hb this
        rw [abs_of_neg (by omega), abs_of_neg hb]; omega
theorem sides_in {A B : List Nat} (H : Dec code W i A B) {s : Nat} (h : s ∈ A.drop (A.length - 1) ++ B.take 1) : i < s ∧ s < W.length := by
  rcases List.mem_append.mp h with q | q
  · have := H.a s (List.mem_of_mem_drop q); exact ⟨this.1, this.2.1⟩
  · have := H.b s (List.mem_of_mem_take q); exact ⟨this.1, this.2.1⟩
theorem top_sides {A B : List Nat} (H : Dec code W i A B) : IsMax (topG code W i : Nat) (((A.drop (A.length - 1) ++ B.take 1).map fun j => absI (tG code W i j) - 1) ++ [0]) := by
  have hs := fun j => sides_all (j := j) H
  have hin := fun s => sides_in (s := s) H
  generalize A.drop (A.length - 1) ++ B.take 1 = sd at hs hin
  have hle : ∀ s ∈ sd, absI (tG code W i s) ≤ (topG code W i : Int) + 1 := fun s h => topG_le (hin s h).1 (hin s h).2
  refine ⟨?_, fun a ha => ?_⟩
  · rcases topG_at code W i with h | ⟨j, h1, h2, h3⟩
    · rw [h]; exact List.mem_append_right _ (.head _)
    · obtain ⟨s, q1, q2⟩ := hs j h1 h2
      have := hle s q1
      exact List.mem_append_left _ (List.mem_map.mpr ⟨s, q1, by omega⟩)
  · rcases List.mem_append.mp ha with q | q
    · obtain ⟨s, q1, rfl⟩ := List.mem_map.mp q
      have := hle s q1
      omega
    · rw [List.mem_singleton.mp q]; omega
noncomputable def topsL (code : Int) (W : List Int) : List Nat := (List.range W.length).map (topG code W)
theorem topsL_len : (topsL code W).length = W.length := by unfold topsL; simp
theorem topsL_get (hi : i < W.length) : (topsL code W).getD i 0 = topG code W i := by
  unfold topsL; rw [List.getD_eq_getElem?_getD, List.getElem?_map, List.getElem?_range hi]; rfl
theorem left_zero : left code W 0 = ordF (tG code W) W.length := by unfold left; exact List.filter_eq_self.mpr fun _ _ => by simp
theorem left_len : (left code W i).length ≤ W.length := by
  unfold left
  refine Nat.le_trans (List.length_filter_le ..) ?_
  rw [(ord_perm (Nat.le_refl _)).length_eq, List.length_range]; exact Nat.le_refl _
theorem taken_ok (hz : W.length ≤ 9) : TakenLaw W.length (tG code W) (topsL code W) (left code W) (placeG code W) where
  len := by rw [topsL_len]; omega
  sz := fun i => by have := left_len (code := code) (W := W) (i := i); omega
  mem := fun i j h => (left_mem.mp h).2
  get := fun i hi => by
    rw [topsL_len] at hi
    obtain ⟨A, B, H⟩ := dec_of (code := code) hi
    rw [H.is, H.place]; simp
  fst := fun i hi k hk e => by
    rw [topsL_len] at hi
    obtain ⟨A, B, H⟩ := dec_of (code := code) hi
    have : (left code W i)[placeG code W i]? = some i := by rw [H.is, H.place]; simp
    exact Nat.ne_of_lt hk (nodup_get left_nodup e this)
  top := fun i hi => by
    rw [topsL_len] at hi
    obtain ⟨A, B, H⟩ := dec_of (code := code) hi
    rw [topsL_get hi, H.is, H.place, sides_is]
    exact top_sides H
  two := fun i hi x y e => by
    rw [topsL_len] at hi
    obtain ⟨A, B, H⟩ := dec_of (code := code) hi
    rw [H.is, H.place, sides_is] at e ⊢
    rcases List.eq_nil_or_concat A with rfl | ⟨A', a, rfl⟩
    · have := congrArg List.length e
      simp at this
      omega
    · cases B with
      | nil =>
        have := congrArg List.length e
        simp at this
      | cons b B =>
        have e' : (A'.concat a).drop ((A'.concat a).length - 1) ++ (b :: B).take 1 = [a, b] := by simp
        rw [e'] at e ⊢
        injection e with e1 e2
        injection e2 with e2
        subst e1 e2
        have ha := (H.a a (by simp)).2.2
        have hb := (H.b b (.head _)).2.2
        have hab := tG_tri ha hb
        have e1 : absI (tG code W i a) = -tG code W a i := by rw [absI_anti, abs_of_neg ha]
        have e2 : absI (tG code W i b) = -tG code W i b := abs_of_neg hb
        refine ⟨-1 - tG code W a b, ⟨?_, fun z hz => ?_⟩, by omega⟩
        · simp only [List.map_cons, List.map_nil, List.mem_cons, List.not_mem_nil, or_false, e1, e2]
          omega
        · simp only [List.map_cons, List.map_nil, List.mem_cons, List.not_mem_nil, or_false, e1, e2] at hz
          omega
  next := fun i hi => by
    rw [topsL_len] at hi
    obtain ⟨A, B, H⟩ := dec_of (code := code) hi
    rw [H.is, H.place, H.next]
    simp
end
-- part N7
/-- what neighbours share -/
noncomputable def adjI (T : Nat → Nat → Int) : List Nat → List Int
  | a :: b :: r => (-1 - T a b) :: adjI T (b :: r)
  | _ => []
theorem adj_is (T : Nat → Nat → Int) : ∀ (O : List Nat), (List.range (O.length - 1)).map (fun k => -1 - T (O.getD k 0) (O.getD (k + 1) 0)) = adjI T O
  | [] => rfl
  | [a] => rfl
  | a :: b :: r => by
    have ih := adj_is T (b :: r)
    show (List.range (r.length + 1)).map _ = (-1 - T a b) :: adjI T (b :: r)
    rw [List.range_succ_eq_map, List.map_cons, List.map_map, ← ih]
    rfl
theorem adj_app (T : Nat → Nat → Int) (a b : Nat) (R : List Nat) : ∀ (A : List Nat), adjI T (A ++ a :: b :: R) = adjI T (A ++ [a]) ++ (-1 - T a b) :: adjI T (b :: R)
  | [] => rfl
  | [x] => rfl
  | x :: y :: A => by
    have ih := adj_app T a b R (y :: A)
    show (-1 - T x y) :: adjI T (y :: A ++ a :: b :: R) = _
    rw [ih]; rfl
section
variable {code : Int} {W : List Int} {i j k m n : Nat}
theorem adj_dec {A B : List Nat} (H : Dec code W i A B) (hne : A ++ B ≠ []) : (adjI (tG code W) (A ++ i :: B)).Perm ((topG code W i : Int) :: adjI (tG code W) (A ++ B)) := by
  have ht := top_sides H
  rcases List.eq_nil_or_concat A with rfl | ⟨A', a, rfl⟩
  · cases B with
    | nil => exact absurd rfl hne
    | cons b B =>
      have hb := (H.b b (.head _)).2.2
      have e2 : absI (tG code W i b) = -tG code W i b := abs_of_neg hb
      have hM : (topG code W i : Int) = -1 - tG code W i b := by
        refine ht.uniq ⟨?_, fun z hz => ?_⟩
        · simp only [List.drop_nil, List.nil_append, List.take_succ_cons, List.take_zero, List.map_cons, List.map_nil, List.cons_append, List.mem_cons, e2]; omega
        · simp only [List.drop_nil, List.nil_append, List.take_succ_cons, List.take_zero, List.map_cons, List.map_nil, List.cons_append, List.mem_cons, List.not_mem_nil, or_false, e2] at hz; omega
      rw [hM]
      exact List.Perm.refl _
  · rw [List.concat_eq_append] at *
    have ha := (H.a a (by simp)).2.2
    have e1 : absI (tG code W i a) = -tG code W a i := by rw [absI_anti, abs_of_neg ha]
    have hd : (A' ++ [a]).drop ((A' ++ [a]).length - 1) = [a] := by simp
    rw [hd] at ht
    cases B with
    | nil =>
      have hM : (topG code W i : Int) = -1 - tG code W a i := by
        refine ht.uniq ⟨?_, fun z hz => ?_⟩
        · simp only [List.take_nil, List.append_nil, List.map_cons, List.map_nil, List.cons_append, List.nil_append, List.mem_cons, e1]; omega
        · simp only [List.take_nil, List.append_nil, List.map_cons, List.map_nil, List.cons_append, List.nil_append, List.mem_cons, List.not_mem_nil, or_false, e1] at hz; omega
      rw [hM, List.append_nil, List.append_assoc, List.singleton_append, adj_app]
      exact List.perm_append_comm
    | cons b B =>
      have hb := (H.b b (.head _)).2.2
      have hab := tG_tri ha hb
      have e2 : absI (tG code W i b) = -tG code W i b := abs_of_neg hb
      have hM : (topG code W i : Int) = max (-1 - tG code W a i) (-1 - tG code W i b) := by
        refine ht.uniq ⟨?_, fun z hz => ?_⟩
        · simp only [List.take_succ_cons, List.take_zero, List.map_cons, List.map_nil, List.cons_append, List.nil_append, List.mem_cons, e1, e2]; omega
        · simp only [List.take_succ_cons, List.take_zero, List.map_cons, List.map_nil, List.cons_append, List.nil_append, List.mem_cons, List.not_mem_nil, or_false, e1, e2] at hz; omega
      rw [List.append_assoc, List.append_assoc, List.singleton_append, List.singleton_append, adj_app, adj_app]
      show (adjI (tG code W) (A' ++ [a]) ++ (-1 - tG code W a i) :: (-1 - tG code W i b) :: adjI (tG code W) (b :: B)).Perm _
      have mid : ∀ (x y z : Int) (P R : List Int), (P ++ x :: y :: R).Perm (x :: (P ++ y :: R)) := fun x y z P R => List.perm_middle
      rcases Int.le_total (tG code W a i) (tG code W i b) with q | q
      · rw [show -1 - tG code W a b = -1 - tG code W i b by omega, hM, show max (-1 - tG code W a i) (-1 - tG code W i b) = -1 - tG code W a i by omega]
        exact List.perm_middle
      · rw [show -1 - tG code W a b = -1 - tG code W a i by omega, hM, show max (-1 - tG code W a i) (-1 - tG code W i b) = -1 - tG code W i b by omega]
        exact (List.Perm.append_left _ (List.Perm.swap _ _ _)).trans List.perm_middle
theorem adj_left : ∀ d i, i + d + 1 = W.length → (adjI (tG code W) (left code W i)).Perm ((List.range' i d).map fun j => (topG code W j : Int))
  | 0, i, h => by
    obtain ⟨A, B, H⟩ := dec_of (code := code) (W := W) (i := i) (by omega)
    have hA : A = [] := List.eq_nil_iff_forall_not_mem.mpr fun a ha => by have := H.a a ha; omega
    have hB : B = [] := List.eq_nil_iff_forall_not_mem.mpr fun b hb => by have := H.b b hb; omega
    rw [H.is, hA, hB]
    exact List.Perm.refl _
  | d + 1, i, h => by
    obtain ⟨A, B, H⟩ := dec_of (code := code) (W := W) (i := i) (by omega)
    have ih := adj_left d (i + 1) (by omega)
    rw [H.next] at ih
    rw [H.is]
    have hne : A ++ B ≠ [] := fun e => by
      have := left_mem (code := code) (W := W) (i := i + 1) (j := i + 1)
      rw [H.next, e] at this
      exact nomatch this.mpr ⟨Nat.le_refl _, by omega⟩
    refine (adj_dec H hne).trans ?_
    rw [List.range'_succ, List.map_cons]
    exact List.Perm.cons _ ih
theorem shared_ok : (sharedG (tG code W) (ordF (tG code W) W.length) W.length).Perm ((topsL code W).dropLast.map fun x : Nat => (x : Int)) := by
  have hl : (ordF (tG code W) W.length).length = W.length := by rw [(ord_perm (Nat.le_refl _)).length_eq, List.length_range]
  have e : sharedG (tG code W) (ordF (tG code W) W.length) W.length = adjI (tG code W) (left code W 0) := by
    rw [left_zero, ← adj_is, hl]; rfl
  rw [e]
  rcases Nat.eq_zero_or_pos W.length with h0 | h0
  · have h1 : left code W 0 = [] := by
      have := left_len (code := code) (W := W) (i := 0)
      exact List.eq_nil_of_length_eq_zero (by omega)
    have h2 : topsL code W = [] := List.eq_nil_of_length_eq_zero (by rw [topsL_len]; exact h0)
    rw [h1, h2]; exact List.Perm.refl _
  · have h := adj_left (code := code) (W := W) (W.length - 1) 0 (by omega)
    have e2 : (topsL code W).dropLast.map (fun x : Nat => (x : Int)) = (List.range' 0 (W.length - 1)).map fun j => (topG code W j : Int) := by
      unfold topsL
      obtain ⟨m, hm⟩ : ∃ m, W.length = m + 1 := ⟨W.length - 1, by omega⟩
      rw [hm, List.range_succ, List.map_append, List.map_cons, List.map_nil, List.dropLast_concat, List.map_map, Nat.add_sub_cancel, ← List.range_eq_range']
      rfl
    rw [e2]; exact h
theorem top_last (h : 0 < W.length) : topG code W (W.length - 1) = 0 := by
  have := topG_bound (code := code) (W := W) (i := W.length - 1) (by omega)
  omega
end
-- part N8
section
variable {K : Type} [DecidableEq K]
theorem putAll_nodup {kv : List (K × Int)} (h : (kv.map (·.1)).Nodup) : putAll kv = kv := by
  unfold putAll
  rw [foldl_put_new (fun p : K × Int => p.1) (fun p => p.2) kv [] (by simpa using h)]
  simp
theorem lookD_none {kv : List (K × Int)} {k : K} (h : k ∉ kv.map (·.1)) : lookD kv k = none := by
  unfold lookD
  rw [List.find?_eq_none.mpr fun p hp e => h (List.mem_map.mpr ⟨p, hp, by simpa using e⟩)]
  rfl
theorem lookD_cons (p : K × Int) (r : List (K × Int)) (x : K) : lookD (p :: r) x = if p.1 = x then some p.2 else lookD r x := by
  unfold lookD
  rw [List.find?_cons]
  by_cases h : p.1 = x
  · simp [h]
  · simp [h]
theorem lookD_memv {kv : List (K × Int)} (h : (kv.map (·.1)).Nodup) {k : K} {v : Int} (m : (k, v) ∈ kv) : lookD kv k = some v := by
  induction kv with
  | nil => cases m
  | cons p r ih =>
    rw [List.map_cons, List.nodup_cons] at h
    rw [lookD_cons]
    rcases List.mem_cons.mp m with rfl | m
    · rw [if_pos rfl]
    · rw [if_neg, ih h.2 m]
      intro e
      exact h.1 (List.mem_map.mpr ⟨(k, v), m, e.symm⟩)
theorem lookD_some {kv : List (K × Int)} {k : K} {v : Int} (e : lookD kv k = some v) : (k, v) ∈ kv := by
  induction kv with
  | nil => cases e
  | cons p r ih =>
    rw [lookD_cons] at e
    by_cases h : p.1 = k
    · rw [if_pos h] at e
      obtain rfl := Option.some.inj e
      subst h
      exact .head _
    · rw [if_neg h] at e
      exact .tail _ (ih e)
theorem lookD_iff {kv : List (K × Int)} {k : K} : k ∈ kv.map (·.1) ↔ (lookD kv k).isSome = true := by
  constructor
  · intro h
    cases e : lookD kv k with
    | some v => rfl
    | none =>
      obtain ⟨p, hp, rfl⟩ := List.mem_map.mp h
      unfold lookD at e
      rw [Option.map_eq_none_iff, List.find?_eq_none] at e
      exact absurd (by simp) (e p hp)
  · intro h
    obtain ⟨v, e⟩ := Option.isSome_iff_exists.mp h
    exact List.mem_map.mpr ⟨_, lookD_some e, rfl⟩
theorem lookD_app (kv : List (K × Int)) (k x : K) (i : Int) : lookD (kv ++ [(k, i)]) x = if (lookD kv x).isSome then lookD kv x else if k = x then some i else none := by
  induction kv with
  | nil => rw [List.nil_append, lookD_cons]; rfl
  | cons p r ih =>
    rw [List.cons_append, lookD_cons, lookD_cons, ih]
    by_cases h : p.1 = x
    · simp [h]
    · rw [if_neg h, if_neg h]
theorem lookD_upd (kv : List (K × Int)) (k x : K) (i : Int) : lookD (kv.map fun kv => if kv.1 = k then (kv.1, i) else kv) x = if x = k then (if (lookD kv x).isSome then some i else none) else lookD kv x := by
  induction kv with
  | nil => split <;> rfl
  | cons p r ih =>
    rw [List.map_cons, lookD_cons, lookD_cons, ih]
    by_cases h : p.1 = k
    · rw [if_pos h]
      show (if p.1 = x then some i else _) = _
      by_cases h2 : p.1 = x
      · have : x = k := h2 ▸ h
        simp [h2, this]
      · have : ¬ x = k := fun e => h2 (h.trans e.symm)
        simp [h2, this]
    · rw [if_neg h]
      by_cases h2 : p.1 = x
      · have : ¬ x = k := fun e => h (h2.trans e)
        simp [h2, this]
      · simp [h2]
theorem lookD_put (kv : List (K × Int)) (k x : K) (i : Int) : lookD (put kv k i) x = if x = k then some i else lookD kv x := by
  unfold put
  split
  · rename_i q
    rw [lookD_upd]
    by_cases e : x = k
    · obtain ⟨p, hp, hk⟩ := List.any_eq_true.mp q
      have : (lookD kv x).isSome = true := lookD_iff.mp (List.mem_map.mpr ⟨p, hp, by rw [e]; simpa using hk⟩)
      rw [if_pos e, if_pos e, if_pos this]
    · rw [if_neg e, if_neg e]
  · rename_i q
    rw [lookD_app]
    by_cases e : x = k
    · have : lookD kv x = none := lookD_none fun h => by
        obtain ⟨p, hp, hk⟩ := List.mem_map.mp h
        exact q (List.any_eq_true.mpr ⟨p, hp, by simpa using hk.trans e⟩)
      rw [if_pos e, this]; simp [e]
    · rw [if_neg e]
      cases lookD kv x with
      | none => exact if_neg fun z : k = x => e z.symm
      | some v => rfl
noncomputable def valD (kv : List (K × Int)) (x : K) : Int := (lookD kv x).getD 0
theorem lookD_addKV (acc : List (K × Int)) (p : K × Int) (x : K) : lookD (addKV acc p) x = if x = p.1 then some (valD acc x + p.2) else lookD acc x := by
  unfold addKV
  rw [lookD_put]
  by_cases e : x = p.1
  · rw [if_pos e, if_pos e, e]; rfl
  · rw [if_neg e, if_neg e]
theorem lookD_fold : ∀ (s acc : List (K × Int)), (s.map (·.1)).Nodup → ∀ x, lookD (s.foldl addKV acc) x = match lookD s x with | none => lookD acc x | some v => some (valD acc x + v)
  | [], acc, _, x => rfl
  | p :: r, acc, h, x => by
    rw [List.map_cons, List.nodup_cons] at h
    rw [List.foldl_cons, lookD_fold r _ h.2 x, lookD_cons]
    by_cases e : p.1 = x
    · have : lookD r x = none := lookD_none (e ▸ h.1)
      rw [this, if_pos e, lookD_addKV, if_pos e.symm]
    · rw [if_neg e]
      have h1 : lookD (addKV acc p) x = lookD acc x := by rw [lookD_addKV, if_neg fun z => e z.symm]
      have h2 : valD (addKV acc p) x = valD acc x := by unfold valD; rw [h1]
      rw [h1, h2]
theorem lookD_addAll {t s : List (K × Int)} (ht : (t.map (·.1)).Nodup) (hs : (s.map (·.1)).Nodup) (x : K) : lookD (addAll t s) x = match lookD s x with | none => lookD t x | some v => some (valD t x + v) := by
  unfold addAll
  rw [putAll_nodup ht, lookD_fold s t hs]
theorem sum_put {kv : List (K × Int)} (h : (kv.map (·.1)).Nodup) (k : K) (i : Int) : ((put kv k i).map (·.2)).sum = (kv.map (·.2)).sum - valD kv k + i := by
  have upd : ∀ (kv : List (K × Int)), (kv.map (·.1)).Nodup → k ∈ kv.map (·.1) → ((kv.map fun kv => if kv.1 = k then (kv.1, i) else kv).map (·.2)).sum = (kv.map (·.2)).sum - valD kv k + i := fun kv => by
    induction kv with
    | nil => intro _ m; cases m
    | cons p r ih =>
      intro h m
      rw [List.map_cons, List.nodup_cons] at h
      have hv : valD (p :: r) k = if p.1 = k then p.2 else valD r k := by
        unfold valD
        rw [lookD_cons]; split <;> rfl
      rw [hv]
      by_cases e : p.1 = k
      · have same : (r.map fun kv => if kv.1 = k then (kv.1, i) else kv) = r := by
          conv => rhs; rw [← List.map_id r]
          apply List.map_congr_left
          intro q hq
          have : q.1 ≠ k := fun z => h.1 (List.mem_map.mpr ⟨q, hq, z.trans e.symm⟩)
          rw [if_neg this]; rfl
        rw [List.map_cons, same, if_pos e, if_pos e]
        simp only [List.map_cons, List.sum_cons]
        omega
      · have hm : k ∈ r.map (·.1) := by
          rcases List.mem_cons.mp m with q | q
          · exact absurd q.symm e
          · exact q
        have := ih h.2 hm
        rw [List.map_cons, if_neg e, if_neg e]
        simp only [List.map_cons, List.sum_cons]
        omega
  unfold put
  split
  · rename_i q
    obtain ⟨p, hp, hk⟩ := List.any_eq_true.mp q
    exact upd kv h (List.mem_map.mpr ⟨p, hp, by simpa using hk⟩)
  · rename_i q
    have : lookD kv k = none := lookD_none fun h => by
      obtain ⟨p, hp, hk⟩ := List.mem_map.mp h
      exact q (List.any_eq_true.mpr ⟨p, hp, by simpa using hk⟩)
    unfold valD
    rw [this, List.map_append, List.sum_append]
    simp
theorem sum_fold : ∀ (s acc : List (K × Int)), (acc.map (·.1)).Nodup → ((s.foldl addKV acc).map (·.2)).sum = (acc.map (·.2)).sum + (s.map (·.2)).sum
  | [], acc, _ => by simp
  | p :: r, acc, h => by
    rw [List.foldl_cons, sum_fold r (addKV acc p) (put_nodup h)]
    have := sum_put h p.1 ((lookD acc p.1).getD 0 + p.2)
    change ((addKV acc p).map (·.2)).sum = _ at this
    rw [this, List.map_cons, List.sum_cons]
    unfold valD
    omega
theorem sum_addAll {t s : List (K × Int)} (ht : (t.map (·.1)).Nodup) : ((addAll t s).map (·.2)).sum = (t.map (·.2)).sum + (s.map (·.2)).sum := by
  unfold addAll
  rw [putAll_nodup ht, sum_fold s t ht]
end
-- part N9
section
variable {code : Int} {W : List Int} {i j k m n : Nat}
theorem map_inj_on {f : Int → Nat} : ∀ {l l' : List Int}, (∀ x ∈ l, ∀ y ∈ l', f x = f y → x = y) → l.map f = l'.map f → l = l'
  | [], [], _, _ => rfl
  | [], _ :: _, _, h => nomatch h
  | _ :: _, [], _, h => nomatch h
  | x :: l, y :: l', hf, h => by
    rw [List.map_cons, List.map_cons] at h
    injection h with h1 h2
    rw [hf x (.head _) y (.head _) h1, map_inj_on (fun a ha b hb => hf a (.tail _ ha) b (.tail _ hb)) h2]
theorem cs_take : ((csG W).drop i).take k = ((csG W).drop j).take k ↔ (W.drop i).take k = (W.drop j).take k := by
  have e : ∀ i, ((csG W).drop i).take k = ((W.drop i).take k).map fun c => 97 + (lets W).idxOf c := fun i => by
    unfold csG; rw [List.map_take, List.map_drop]
  rw [e, e]
  constructor
  · refine map_inj_on fun x hx y hy h => ?_
    have hx' : x ∈ lets W := lets_mem.mpr (List.mem_of_mem_drop (List.mem_of_mem_take hx))
    have hy' : y ∈ lets W := lets_mem.mpr (List.mem_of_mem_drop (List.mem_of_mem_take hy))
    have h : (lets W).idxOf x = (lets W).idxOf y := by omega
    have hx2 := idxOf_get hx'
    rw [h, idxOf_get hy'] at hx2
    exact (Option.some.inj hx2).symm
  · intro h; rw [h]
noncomputable def pieceG (W : List Int) (i k : Nat) : Str := Sx (((csG W).drop i).take k)
theorem piece_len (h : i + k ≤ W.length) : (pieceG W i k).length = k := by
  unfold pieceG
  rw [Sx_len, List.length_take, List.length_drop, csG_len]; omega
theorem piece_eq : pieceG W i k = pieceG W j k ↔ (W.drop i).take k = (W.drop j).take k := by
  unfold pieceG
  rw [Sx_inj, cs_take]
/-- each piece once: where it stands last -/
noncomputable def canonL (code : Int) (W : List Int) : List Str := (List.range W.length).flatMap fun i => (List.range (W.length - i - topG code W i)).map fun q => pieceG W i (topG code W i + 1 + q)
theorem canon_mem {x : Str} : x ∈ canonL code W ↔ ∃ i k, topG code W i < k ∧ i + k ≤ W.length ∧ x = pieceG W i k := by
  unfold canonL
  rw [List.mem_flatMap]
  constructor
  · rintro ⟨i, hi, h⟩
    obtain ⟨q, hq, rfl⟩ := List.mem_map.mp h
    have hq : q < W.length - i - topG code W i := by simpa using hq
    exact ⟨i, topG code W i + 1 + q, by omega, by omega, rfl⟩
  · rintro ⟨i, k, h1, h2, rfl⟩
    refine ⟨i, by simp; omega, List.mem_map.mpr ⟨k - topG code W i - 1, by simp; omega, ?_⟩⟩
    rw [show topG code W i + 1 + (k - topG code W i - 1) = k by omega]
theorem canon_last : ∀ d i k, W.length - i ≤ d → 1 ≤ k → i + k ≤ W.length → pieceG W i k ∈ canonL code W
  | 0, i, k, h, h1, h2 => by omega
  | d + 1, i, k, h, h1, h2 => by
    rcases Nat.lt_or_ge (topG code W i) k with q | q
    · exact canon_mem.mpr ⟨i, k, q, h2, rfl⟩
    · rcases topG_at code W i with e | ⟨j, j1, j2, j3⟩
      · omega
      · have hb := tG_le (code := code) j1 j2
        have := (tG_take (code := code) (k := k) j1 j2 (by omega)).mp (by omega)
        rw [piece_eq.mpr this]
        exact canon_last d j k (by omega) h1 (by omega)
theorem canon_pieces {x : Str} : x ∈ canonL code W ↔ x ∈ piecesL (csG W) := by
  rw [piecesL_mem, csG_len]
  constructor
  · intro h
    obtain ⟨i, k, h1, h2, rfl⟩ := canon_mem.mp h
    exact ⟨i, k - 1, by omega, by rw [show k - 1 + 1 = k by omega]; rfl⟩
  · rintro ⟨i, m, h, rfl⟩
    exact canon_last _ i (m + 1) (Nat.le_refl _) (by omega) (by omega)
theorem canon_nodup : (canonL code W).Nodup := by
  unfold canonL
  show List.Pairwise _ _
  rw [List.pairwise_flatMap]
  refine ⟨fun i hi => List.pairwise_map.mpr (List.pairwise_lt_range.imp_of_mem fun {a b} ha hb hab e => ?_), List.pairwise_lt_range.imp_of_mem fun {i j} hi hj hij x hx y hy e => ?_⟩
  · have ha : a < W.length - i - topG code W i := by simpa using ha
    have hb : b < W.length - i - topG code W i := by simpa using hb
    have := congrArg Str.length e
    rw [piece_len (by omega), piece_len (by omega)] at this
    omega
  · obtain ⟨a, ha, rfl⟩ := List.mem_map.mp hx
    obtain ⟨b, hb, rfl⟩ := List.mem_map.mp hy
    have ha : a < W.length - i - topG code W i := by simpa using ha
    have hb : b < W.length - j - topG code W j := by simpa using hb
    have hj : j < W.length := by simpa using hj
    have hl := congrArg Str.length e
    rw [piece_len (by omega), piece_len (by omega)] at hl
    rw [← hl] at e
    have := (tG_take (code := code) hij hj (by omega)).mpr (piece_eq.mp e)
    have := topG_le (code := code) hij hj
    omega
theorem out_perm {out : List Str} (h : out.Perm (dd (piecesL (csG W)))) : out.Perm (canonL code W) :=
  (List.perm_ext_iff_of_nodup (h.nodup_iff.mpr (dd_nodup _)) canon_nodup).mpr fun x => by rw [h.mem_iff, dd_mem, canon_pieces]
theorem sum_add3 {α : Type} {a b c : α → Nat} : ∀ (l : List α), (∀ i ∈ l, a i + b i = c i) → (l.map a).sum + (l.map b).sum = (l.map c).sum
  | [], _ => rfl
  | x :: l, h => by
    have ih := sum_add3 l fun y hy => h y (.tail _ hy)
    have := h x (.head _)
    rw [List.map_cons, List.map_cons, List.map_cons, List.sum_cons, List.sum_cons, List.sum_cons]
    omega
theorem filter_sum {α : Type} (p : α → Bool) : ∀ (l : List α), (l.filter p).length = (l.map fun x => if p x then 1 else 0).sum
  | [] => rfl
  | x :: l => by
    rw [List.map_cons, List.sum_cons, ← filter_sum p l, List.filter_cons]
    split
    · rw [List.length_cons, Nat.add_comm]
    · rw [Nat.zero_add]
theorem count_one (c d : Nat) : ∀ K, ((List.range K).filter fun q => c + q == d).length = if c ≤ d ∧ d < c + K then 1 else 0
  | 0 => by rw [if_neg (by omega)]; rfl
  | K + 1 => by
    rw [List.range_succ, List.filter_append, List.length_append, count_one c d K]
    by_cases e : c + K = d
    · rw [List.filter_cons_of_pos (by simpa using e), if_neg (by omega), if_pos (by omega)]; rfl
    · rw [List.filter_cons_of_neg (by simpa using e)]
      by_cases q : c ≤ d ∧ d < c + K
      · rw [if_pos q, if_pos (by omega)]; rfl
      · rw [if_neg q, if_neg (by omega)]; rfl
theorem room_count {n m : Nat} (hn : n ≤ 9) (hm : m < n) : ((List.range n).map fun i => if m < n - i then 1 else 0).sum = n - m := by
  have : ∀ n m : Fin 10, m < n → ((List.range n.val).map fun i => if m.val < n.val - i then 1 else 0).sum = n.val - m.val := by decide
  exact this ⟨n, by omega⟩ ⟨m, by omega⟩ hm
theorem room_ok (hz : W.length ≤ 9) {out : List Str} (h : out.Perm (dd (piecesL (csG W)))) (hm : m < W.length) : ((out.filter fun x => x.length == m + 1).length : Int) = (W.length : Int) + 1 - (1 + (m : Int)) - (((topsL code W).filter fun t => decide (m + 1 ≤ t)).length : Int) := by
  have e1 : (out.filter fun x => x.length == m + 1).length = ((List.range W.length).map fun i => if topG code W i ≤ m ∧ m < W.length - i then 1 else 0).sum := by
    rw [((out_perm (code := code) h).filter _).length_eq]
    unfold canonL
    rw [List.filter_flatMap, List.length_flatMap]
    congr 1
    apply List.map_congr_left
    intro i hi
    have hi : i < W.length := by simpa using hi
    rw [List.filter_map, List.length_map]
    have : (List.range (W.length - i - topG code W i)).filter ((fun x : Str => x.length == m + 1) ∘ fun q => pieceG W i (topG code W i + 1 + q)) = (List.range (W.length - i - topG code W i)).filter fun q => topG code W i + 1 + q == m + 1 := by
      apply List.filter_congr
      intro q hq
      have hq : q < W.length - i - topG code W i := by simpa using hq
      show ((pieceG W i (topG code W i + 1 + q)).length == m + 1) = _
      rw [piece_len (by omega)]
    rw [this, count_one]
    by_cases c : topG code W i ≤ m ∧ m < W.length - i
    · rw [if_pos c, if_pos (by omega)]
    · rw [if_neg c, if_neg (by omega)]
  have e2 : ((topsL code W).filter fun t => decide (m + 1 ≤ t)).length = ((List.range W.length).map fun i => if m + 1 ≤ topG code W i then 1 else 0).sum := by
    unfold topsL
    rw [filter_sum, List.map_map]
    congr 1
    apply List.map_congr_left
    intro i _
    show (if decide (m + 1 ≤ topG code W i) = true then 1 else 0) = _
    simp
  have e3 := sum_add3 (a := fun i => if topG code W i ≤ m ∧ m < W.length - i then 1 else 0) (b := fun i => if m + 1 ≤ topG code W i then 1 else 0) (c := fun i => if m < W.length - i then 1 else 0) (List.range W.length) fun i hi => by
    have hi : i < W.length := by simpa using hi
    have := topG_bound (code := code) hi
    show (if topG code W i ≤ m ∧ m < W.length - i then 1 else 0) + (if m + 1 ≤ topG code W i then 1 else 0) = if m < W.length - i then 1 else 0
    by_cases c1 : m + 1 ≤ topG code W i
    · rw [if_neg (by omega), if_pos c1, if_pos (by omega)]
    · by_cases c2 : m < W.length - i
      · rw [if_pos ⟨by omega, c2⟩, if_neg c1, if_pos c2]
      · rw [if_neg (by omega), if_neg c1, if_neg c2]
  rw [room_count hz hm] at e3
  omega
end
-- part N10
section
variable {code : Int} {W : List Int} {cs T : List Nat} {i j k m n : Nat}
theorem range_sum (f : Nat → Int) (k : Nat) : ((List.range (k + 1)).map f).sum = ((List.range k).map f).sum + f k := by
  rw [List.range_succ, List.map_append, List.sum_append]; simp
theorem prof_a (k : Nat) : (profAt cs T k).a = ((List.range k).map fun i : Nat => (cs.length : Int) - i - (T.getD i 0 : Nat)).sum := by
  induction k with
  | zero => rfl
  | succ k ih => rw [range_sum, ← ih]; show ((cs.length : Int) - k - T.getD k 0) + (profAt cs T k).a = _; omega
theorem prof_b (k : Nat) : (profAt cs T k).b = ((List.range k).map fun i : Nat => (cs.length : Int) - i).sum := by
  induction k with
  | zero => rfl
  | succ k ih => rw [range_sum, ← ih]; show ((cs.length : Int) - k) + (profAt cs T k).b = _; omega
theorem prof_c (k : Nat) : (profAt cs T k).c = ((List.range k).map fun i : Nat => (i : Int)).sum := by
  induction k with
  | zero => rfl
  | succ k ih => rw [range_sum, ← ih]; show (k : Int) + (profAt cs T k).c = _; omega
theorem prof_d (k : Nat) : (profAt cs T k).d = ((List.range k).map fun i : Nat => ((T.getD i 0 : Nat) : Int)).sum := by
  induction k with
  | zero => rfl
  | succ k ih => rw [range_sum, ← ih]; show ((T.getD k 0 : Nat) : Int) + (profAt cs T k).d = _; omega
/-- the piece stands there -/
noncomputable def occ (cs : List Nat) (x : Str) (i : Nat) : Bool := decide (1 ≤ x.length) && (Sx ((cs.drop i).take x.length) == x)
theorem occ_iff {x : Str} : occ cs x i = true ↔ 1 ≤ x.length ∧ Sx ((cs.drop i).take x.length) = x := by
  unfold occ; rw [Bool.and_eq_true, decide_eq_true_eq, beq_iff_eq]
theorem occ_le {x : Str} (h : occ cs x i = true) : i + x.length ≤ cs.length := by
  obtain ⟨h1, h2⟩ := occ_iff.mp h
  have := congrArg Str.length h2
  rw [Sx_len, List.length_take, List.length_drop] at this
  omega
theorem look_nm (x : Str) : lookD (nmAt cs i) x = if occ cs x i then some ((i : Int) + x.length) else none := by
  by_cases h : occ cs x i = true
  · rw [if_pos h]
    have hle := occ_le h
    obtain ⟨h1, h2⟩ := occ_iff.mp h
    refine lookD_memv (nmAt_nodup cs i) ?_
    unfold nmAt
    refine List.mem_map.mpr ⟨x.length - 1, by simp; omega, ?_⟩
    rw [show x.length - 1 + 1 = x.length by omega, h2]
    congr 1
    omega
  · rw [if_neg h]
    refine lookD_none fun q => h ?_
    obtain ⟨p, hp, rfl⟩ := List.mem_map.mp q
    unfold nmAt at hp
    obtain ⟨m, hm, rfl⟩ := List.mem_map.mp hp
    have hm : m < cs.length - i := by simpa using hm
    have hl : (Sx ((cs.drop i).take (m + 1))).length = m + 1 := by rw [Sx_len, List.length_take, List.length_drop]; omega
    rw [occ_iff]
    show 1 ≤ (Sx ((cs.drop i).take (m + 1))).length ∧ Sx ((cs.drop i).take (Sx ((cs.drop i).take (m + 1))).length) = Sx ((cs.drop i).take (m + 1))
    rw [hl]
    exact ⟨by omega, rfl⟩
theorem prof_look (x : Str) (k : Nat) : (lookD (profAt cs T k).kv x).isSome = ((List.range k).any (occ cs x)) ∧ valD (profAt cs T k).kv x = ((List.range k).map fun i : Nat => if occ cs x i then (i : Int) + x.length else 0).sum := by
  induction k with
  | zero => exact ⟨rfl, rfl⟩
  | succ k ih =>
    have e : lookD (profAt cs T (k + 1)).kv x = match lookD (nmAt cs k) x with | none => lookD (profAt cs T k).kv x | some v => some (valD (profAt cs T k).kv x + v) := lookD_addAll (prof_kv k).1 (nmAt_nodup cs k) x
    rw [look_nm] at e
    rw [range_sum, List.range_succ, List.any_append]
    unfold valD at ih ⊢
    rw [e]
    by_cases h : occ cs x k = true
    · rw [if_pos h, if_pos h]
      refine ⟨by simp [h], ?_⟩
      rw [← ih.2]; rfl
    · rw [if_neg h, if_neg h]
      refine ⟨?_, ?_⟩
      · show (lookD (profAt cs T k).kv x).isSome = _
        rw [ih.1]; simp [h]
      · rw [← ih.2, Int.add_zero]
theorem prof_sum (k : Nat) (hk : k ≤ cs.length) : ((profAt cs T k).kv.map (·.2)).sum = ((List.range k).map fun i : Nat => ((List.range (cs.length - i)).map fun m : Nat => ((i + 1 + m : Nat) : Int)).sum).sum := by
  induction k with
  | zero => rfl
  | succ k ih =>
    have e : ((profAt cs T (k + 1)).kv.map (·.2)).sum = ((profAt cs T k).kv.map (·.2)).sum + ((nmAt cs k).map (·.2)).sum := sum_addAll (prof_kv k).1
    rw [e, range_sum, ih (by omega)]
    congr 1
    unfold nmAt
    rw [List.map_map]
    rfl
theorem filter_map_sum {α : Type} (p : α → Bool) (f : α → Int) : ∀ (l : List α), ((l.filter p).map f).sum = (l.map fun x => if p x then f x else 0).sum
  | [] => rfl
  | x :: l => by
    rw [List.map_cons, List.sum_cons, ← filter_map_sum p f l, List.filter_cons]
    split
    · rw [List.map_cons, List.sum_cons]
    · omega
theorem due_sum {x : Str} (h : 1 ≤ x.length) : dueV cs x = ((List.range cs.length).map fun i : Nat => if occ cs x i then (i : Int) + x.length else 0).sum := by
  unfold dueV
  rw [filter_map_sum]
  congr 1
  apply List.map_congr_left
  intro i _
  have : occ cs x i = (Sx ((cs.drop i).take x.length) == x) := by unfold occ; rw [decide_eq_true h, Bool.true_and]
  rw [this]
theorem occ_pieces {x : Str} : x ∈ piecesL cs ↔ (List.range cs.length).any (occ cs x) = true := by
  rw [piecesL_mem, List.any_eq_true]
  constructor
  · rintro ⟨i, m, h, rfl⟩
    refine ⟨i, by simp; omega, occ_iff.mpr ?_⟩
    have hl : (Sx ((cs.drop i).take (m + 1))).length = m + 1 := by rw [Sx_len, List.length_take, List.length_drop]; omega
    rw [hl]
    exact ⟨by omega, rfl⟩
  · rintro ⟨i, hi, h⟩
    have hle := occ_le h
    obtain ⟨h1, h2⟩ := occ_iff.mp h
    exact ⟨i, x.length - 1, by omega, by rw [show x.length - 1 + 1 = x.length by omega, h2]⟩
theorem sums_small {n : Nat} (h : n ≤ 9) : ((List.range n).map fun i : Nat => (n : Int) - i).sum = ((n : Int) * ((n : Int) + 1)).fdiv 2 ∧ ((List.range n).map fun i : Nat => (i : Int)).sum = ((n : Int) * ((n : Int) - 1)).fdiv 2 ∧
    ((List.range n).map fun i : Nat => ((List.range (n - i)).map fun m : Nat => ((i + 1 + m : Nat) : Int)).sum).sum = ((n : Int) * ((n : Int) + 1) * (2 * (n : Int) + 1)).fdiv 6 := by
  have : ∀ n : Fin 10, ((List.range n.val).map fun i : Nat => (n.val : Int) - i).sum = ((n.val : Int) * ((n.val : Int) + 1)).fdiv 2 ∧ ((List.range n.val).map fun i : Nat => (i : Int)).sum = ((n.val : Int) * ((n.val : Int) - 1)).fdiv 2 ∧
    ((List.range n.val).map fun i : Nat => ((List.range (n.val - i)).map fun m : Nat => ((i + 1 + m : Nat) : Int)).sum).sum = ((n.val : Int) * ((n.val : Int) + 1) * (2 * (n.val : Int) + 1)).fdiv 6 := by decide
  exact this ⟨n, by omega⟩
theorem perm_sum {l l' : List Int} (p : l.Perm l') : l.sum = l'.sum := by
  induction p with
  | nil => rfl
  | cons x _ ih => rw [List.sum_cons, List.sum_cons, ih]
  | swap x y l => rw [List.sum_cons, List.sum_cons, List.sum_cons, List.sum_cons]; omega
  | trans _ _ h1 h2 => exact h1.trans h2
theorem sum_cast {α : Type} (f : α → Nat) (l : List α) : (((l.map f).sum : Nat) : Int) = (l.map fun x => (f x : Int)).sum := by
  induction l with
  | nil => rfl
  | cons x l ih => rw [List.map_cons, List.map_cons, List.sum_cons, List.sum_cons, ← ih]; omega
theorem prof_ok (hz : W.length ≤ 9) {out : List Str} (h : out.Perm (dd (piecesL (csG W)))) : ProfOk (csG W) (profAt (csG W) (topsL code W) (csG W).length) out (sharedG (tG code W) (ordF (tG code W) W.length) W.length).sum := by
  have hcl := csG_len W
  obtain ⟨s1, s2, s3⟩ := sums_small (n := (csG W).length) (by omega)
  have hnd : out.Nodup := h.nodup_iff.mpr (dd_nodup _)
  have hmem : ∀ x, x ∈ out ↔ (List.range (csG W).length).any (occ (csG W) x) = true := fun x => by rw [h.mem_iff, dd_mem, occ_pieces]
  have hkn := (prof_kv (cs := csG W) (T := topsL code W) (csG W).length).1
  have hlk := fun x => prof_look (cs := csG W) (T := topsL code W) x (csG W).length
  refine ⟨?_, by rw [prof_b, s1], by rw [prof_c, s2], ?_, ?_, by rw [prof_sum _ (Nat.le_refl _), s3]⟩
  · rw [prof_a, (out_perm (code := code) h).length_eq, hcl]
    unfold canonL
    rw [List.length_flatMap, sum_cast]
    congr 1
    apply List.map_congr_left
    intro i hi
    have hi : i < W.length := by simpa using hi
    have := topG_bound (code := code) hi
    rw [topsL_get hi, List.length_map, List.length_range]
    omega
  · rw [prof_d, hcl, perm_sum shared_ok]
    rcases Nat.eq_zero_or_pos W.length with h0 | h0
    · have h2 : topsL code W = [] := List.eq_nil_of_length_eq_zero (by rw [topsL_len]; exact h0)
      rw [h0, h2]; rfl
    · have e : (topsL code W).dropLast = (List.range (W.length - 1)).map (topG code W) := by
        unfold topsL
        obtain ⟨m, hm⟩ : ∃ m, W.length = m + 1 := ⟨W.length - 1, by omega⟩
        rw [hm, List.range_succ, List.map_append, List.map_cons, List.map_nil, List.dropLast_concat, Nat.add_sub_cancel]
      rw [e, List.map_map]
      have e2 : ((List.range W.length).map fun i : Nat => (((topsL code W).getD i 0 : Nat) : Int)) = (List.range W.length).map fun i : Nat => (topG code W i : Int) := List.map_congr_left fun i hi => by rw [topsL_get (by simpa using hi)]
      rw [e2]
      have e3 : W.length = W.length - 1 + 1 := by omega
      conv => lhs; rw [e3]
      rw [range_sum, top_last h0]
      show _ + ((0 : Nat) : Int) = _
      rw [Int.natCast_zero, Int.add_zero]; rfl
  · generalize hP : profAt (csG W) (topsL code W) (csG W).length = P at hkn hlk
    have hkeys : (P.kv.map (·.1)).Perm out := (List.perm_ext_iff_of_nodup hkn hnd).mpr fun x => by rw [lookD_iff, (hlk x).1, hmem]
    have hlen := hkeys.length_eq
    rw [List.length_map] at hlen
    unfold eqKV dueKV
    rw [Bool.and_eq_true, List.length_map, beq_iff_eq, List.all_eq_true]
    refine ⟨hlen, fun p hp => ?_⟩
    rw [beq_iff_eq]
    have hx : p.1 ∈ out := hkeys.mem_iff.mp (List.mem_map.mpr ⟨p, hp, rfl⟩)
    have h1 : 1 ≤ p.1.length := by
      obtain ⟨i, _, hi⟩ := List.any_eq_true.mp ((hmem _).mp hx)
      exact (occ_iff.mp hi).1
    have hv : p.2 = dueV (csG W) p.1 := by
      rw [due_sum h1, ← (hlk p.1).2]
      unfold valD
      rw [lookD_memv hkn (k := p.1) (v := p.2) hp]; rfl
    rw [hv]
    refine lookD_memv ?_ (List.mem_map.mpr ⟨p.1, hx, rfl⟩)
    rw [List.map_map]
    have : out.map ((fun p : Str × Int => p.1) ∘ fun x => (x, dueV (csG W) x)) = out := List.map_id' out
    rw [this]; exact hnd
theorem good_law (code : Int) (W : List Int) (hz : W.length ≤ 9) : GoodLaw code W (topsL code W) (left code W) (placeG code W) where
  anti := fun i j _ _ => tG_anti
  raise := fun p hp => raise_ok hp
  tab := tab_ok code W
  tl := topsL_len
  top := fun i hi => by rw [topsL_get hi]; exact top_tab hi
  ol := by rw [(ord_perm (Nat.le_refl _)).length_eq, List.length_range]
  sh := shared_ok
  tk := taken_ok hz
  o0 := left_zero
  room := fun out h m hm => room_ok hz h hm
  prof := fun out h => prof_ok hz h
end
theorem law_runs : LawRuns := law_of fun code W hz => ⟨_, _, _, good_law code W hz⟩
-- part TopL1

end Own16

theorem PySem.Challenge.cw_rw0016_01_holds : PySem.Challenge.rw_rw0016_01.Holds :=
  Own16.top_of Own16.law_runs
