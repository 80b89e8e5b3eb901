import PyProof.Rows.All
import Wide.All
import OpenK.AllK
import Wide.FinOn
import PySem.Challenge.RW_rw0016_02
open PySem PySem.W PyProof.Rows
set_option Elab.async false
set_option maxRecDepth 1000000
set_option maxHeartbeats 8000000
set_option linter.all false
namespace Own16
local macro_rules
  | `(tactic| omega) => `(tactic| first
    | with_reducible assumption
    | with_reducible exact Int.natCast_nonneg _
    | with_reducible exact Nat.zero_le _
    | with_reducible exact Nat.le_refl _
    | with_reducible exact Nat.lt_succ_self _
    | with_reducible exact Nat.lt_of_lt_of_le (by assumption) (by assumption)
    | with_reducible exact Nat.le_of_lt (by assumption)
    | with_reducible exact Nat.le_trans (by assumption) (by decide)
    | lia)
-- part PL1
/-- the data that the laws handle, as trees; `raw` is a value as it stands -/
inductive D where
  | none
  | bool (b : Bool)
  | int (i : Int)
  | str (x : Str)
  | list (ds : List D)
  | tuple (ds : List D)
  | idict (kvs : List (Int × Int))
  | sdict (kvs : List (Str × Int))
  | range (a b c : Int)
  | raw (v : Value)
  | box (T : String) (d : D)
  | inst (C : Addr) (nm : Str) (d : D)

/-- pairs of a key and an int value -/
inductive KV {K : Type} : List (K × Value) → List (K × Int) → Prop
  | nil : KV [] []
  | cons {k : K} {i : Int} {t : Tok} {r : List (K × Value)} {r' : List (K × Int)} : KV r r' → KV ((k, .int i t) :: r) ((k, i) :: r')

mutual
inductive Rep (prog : Program) (w : World) (S : Addr → Prop) (h : Heap) : Value → D → Prop
  | none : Rep prog w S h .none .none
  | bool (b : Bool) : Rep prog w S h (.bool b) (.bool b)
  | int (i : Int) (t : Tok) : Rep prog w S h (.int i t) (.int i)
  | str (x : Str) (t : Tok) : Rep prog w S h (.str x t) (.str x)
  | list {a : Addr} {vs : List Value} {ds : List D} : ¬ S a → h.PlainList a vs.toArray → RepAll prog w S h vs ds → Rep prog w S h (.ref a) (.list ds)
  | tuple {a : Addr} {vs : List Value} {ds : List D} {n : Nat} : ¬ S a → h.get? a = some { cls := .type "tuple", data := .seq vs.toArray n } → RepAll prog w S h vs ds → Rep prog w S h (.ref a) (.tuple ds)
  | idict {a : Addr} {kvs : List (Int × Value)} {es : List (Int × Int)} : ¬ S a → (a == sysModules) = false → h.DictOf (intKind prog w) a kvs → KV kvs es → Rep prog w S h (.ref a) (.idict es)
  | sdict {a : Addr} {kvs : List (Str × Value)} {es : List (Str × Int)} : ¬ S a → (a == sysModules) = false → h.DictOf (strKind prog w) a kvs → KV kvs es → Rep prog w S h (.ref a) (.sdict es)
  | range {r : Addr} {a b c : Int} {t u v : Tok} : ¬ S r → IsRange h r a b c t u v → Rep prog w S h (.ref r) (.range a b c)
  | raw (v : Value) : Rep prog w S h v (.raw v)
  | box {a : Addr} {T : String} {x : Value} {d : D} : ¬ S a → h.get? a = some { cls := .type T, data := .fields #[x] } → Rep prog w S h x d → Rep prog w S h (.ref a) (.box T d)
  | inst {x dx C : Addr} {nm : Str} {hs : Int} {t : Tok} {v : Value} {n : Nat} {d : D} : ¬ S x → ¬ S dx → h.get? x = some { cls := .ref C, dict := some dx, data := .plain } → h.get? dx = some { cls := .type "dict", data := .dict #[⟨hs, .str nm t, v⟩] n } → Rep prog w S h v d → Rep prog w S h (.ref x) (.inst C nm d)
inductive RepAll (prog : Program) (w : World) (S : Addr → Prop) (h : Heap) : List Value → List D → Prop
  | nil : RepAll prog w S h [] []
  | cons {v : Value} {vs : List Value} {d : D} {ds : List D} : Rep prog w S h v d → RepAll prog w S h vs ds → RepAll prog w S h (v :: vs) (d :: ds)
end

theorem nsE {α : Type} {a : α} (e : Option.none = some a) : False := nomatch e
theorem snE {α : Type} {a : α} (e : some a = Option.none) : False := nomatch e
theorem ftE (e : false = true) : False := nomatch e
/-- what a plain value is -/
noncomputable def Atom (v : Value) : D → Prop
  | .none => ∃ _ : Unit, v = .none
  | .bool b => ∃ _ : Unit, v = .bool b
  | .int i => ∃ t, v = .int i t
  | .str x => ∃ t, v = .str x t
  | .raw x => ∃ _ : Unit, x = v
  | _ => True → True
theorem Rep.atom {prog : Program} {w : World} {S : Addr → Prop} {h : Heap} {v : Value} {d : D} (r : Rep prog w S h v d) : Atom v d := by
  cases r with
  | none => exact ⟨(), rfl⟩
  | bool => exact ⟨(), rfl⟩
  | int _ t => exact ⟨t, rfl⟩
  | str _ t => exact ⟨t, rfl⟩
  | raw => exact ⟨(), rfl⟩
  | _ => exact id

/-- outside S all objects stay -/
noncomputable def Ext (S : Addr → Prop) (h h' : Heap) : Prop := ∀ b o, ¬ S b → h.get? b = some o → h'.get? b = some o
theorem Ext.trans {S : Addr → Prop} {h₁ h₂ h₃ : Heap} (x : Ext S h₁ h₂) (y : Ext S h₂ h₃) : Ext S h₁ h₃ := fun b o hb e => y b o hb (x b o hb e)
theorem Ext.of_keep {S : Addr → Prop} {h h' : Heap} (k : ∀ b o, h.get? b = some o → h'.get? b = some o) : Ext S h h' := fun b o _ e => k b o e
theorem Ext.sameBut {S : Addr → Prop} {a : Addr} {h h' : Heap} (x : Heap.SameBut a h h') (ha : S a) : Ext S h h' := fun b o hb e => x.extBut b o (fun q => hb (q ▸ ha)) e

theorem DictOf_at {K : Type} [DecidableEq K] {prog : Program} {w : World} {knd : KeyKind prog w K} {h h' : Heap} {a : Addr} {kvs : List (K × Value)} (x : h.DictOf knd a kvs)
    (k : ∀ o, h.get? a = some o → h'.get? a = some o) : h'.DictOf knd a kvs := let ⟨o, es, ep, ho, r⟩ := x; ⟨o, es, ep, k o ho, r⟩

section
variable {prog : Program} {w : World}
theorem Rep.move {S S' : Addr → Prop} {h h' : Heap} (x : ∀ b o, ¬ S b → h.get? b = some o → h'.get? b = some o ∧ ¬ S' b) {v : Value} {d : D} (r : Rep prog w S h v d) : Rep prog w S' h' v d :=
  Rep.rec (motive_1 := fun v d _ => Rep prog w S' h' v d) (motive_2 := fun vs ds _ => RepAll prog w S' h' vs ds)
    .none .bool .int .str
    (fun hs hl _ r => .list (let ⟨_, hl⟩ := hl; (x _ _ hs hl).2) (let ⟨n, hl⟩ := hl; ⟨n, (x _ _ hs hl).1⟩) r)
    (fun hs hl _ r => .tuple (x _ _ hs hl).2 (x _ _ hs hl).1 r)
    (fun hs hm hd hk => .idict (let ⟨_, _, _, ho, _⟩ := hd; (x _ _ hs ho).2) hm (DictOf_at hd fun _ e => (x _ _ hs e).1) hk)
    (fun hs hm hd hk => .sdict (let ⟨_, _, _, ho, _⟩ := hd; (x _ _ hs ho).2) hm (DictOf_at hd fun _ e => (x _ _ hs e).1) hk)
    (fun hs hr => .range (x _ _ hs hr).2 (x _ _ hs hr).1) .raw
    (fun hs hl _ r => .box (x _ _ hs hl).2 (x _ _ hs hl).1 r)
    (fun h1 h2 o1 o2 _ r => .inst (x _ _ h1 o1).2 (x _ _ h2 o2).2 (x _ _ h1 o1).1 (x _ _ h2 o2).1 r)
    .nil (fun _ _ a r => .cons a r) r
theorem RepAll.move {S S' : Addr → Prop} {h h' : Heap} (x : ∀ b o, ¬ S b → h.get? b = some o → h'.get? b = some o ∧ ¬ S' b) {vs : List Value} {ds : List D} (r : RepAll prog w S h vs ds) : RepAll prog w S' h' vs ds := by
  induction vs generalizing ds with
  | nil => cases r; exact .nil
  | cons v vs ih =>
    cases r with
    | cons a r => exact .cons (a.move x) (ih r)
end

section
variable {prog : Program} {w : World} {S S' : Addr → Prop} {h h' : Heap} {v : Value} {d : D} {vs us : List Value} {ds es : List D}
theorem Rep.ext (r : Rep prog w S h v d) (x : Ext S h h') : Rep prog w S h' v d := r.move fun b o hb e => ⟨x b o hb e, hb⟩
theorem RepAll.ext (r : RepAll prog w S h vs ds) (x : Ext S h h') : RepAll prog w S h' vs ds := r.move fun b o hb e => ⟨x b o hb e, hb⟩
theorem Rep.keep (r : Rep prog w S h v d) (k : ∀ b o, h.get? b = some o → h'.get? b = some o) : Rep prog w S h' v d := r.ext (Ext.of_keep k)
theorem RepAll.keep (r : RepAll prog w S h vs ds) (k : ∀ b o, h.get? b = some o → h'.get? b = some o) : RepAll prog w S h' vs ds := r.ext (Ext.of_keep k)
/-- more addresses to keep off, all of them unused -/
theorem Rep.avoid (r : Rep prog w S h v d) (x : ∀ b, S' b → S b ∨ h.get? b = Option.none) : Rep prog w S' h v d :=
  r.move fun b o hb e => ⟨e, fun q => (x b q).elim hb fun n => by rw [n] at e; (first | obtain ⟨_, rfl⟩ := e.atom | exact (nsE e).elim | exact (snE e).elim | exact (ftE e).elim | cases e)⟩
theorem RepAll.avoid (r : RepAll prog w S h vs ds) (x : ∀ b, S' b → S b ∨ h.get? b = Option.none) : RepAll prog w S' h vs ds :=
  r.move fun b o hb e => ⟨e, fun q => (x b q).elim hb fun n => by rw [n] at e; (first | obtain ⟨_, rfl⟩ := e.atom | exact (nsE e).elim | exact (snE e).elim | exact (ftE e).elim | cases e)⟩
theorem Rep.less (r : Rep prog w S h v d) (x : ∀ b, S' b → S b) : Rep prog w S' h v d := r.avoid fun b q => .inl (x b q)
theorem RepAll.less (r : RepAll prog w S h vs ds) (x : ∀ b, S' b → S b) : RepAll prog w S' h vs ds := r.avoid fun b q => .inl (x b q)
theorem RepAll.length (r : RepAll prog w S h vs ds) : vs.length = ds.length := by
  induction vs generalizing ds with
  | nil => (first | obtain ⟨_, rfl⟩ := r.atom | exact (nsE r).elim | exact (snE r).elim | exact (ftE r).elim | cases r); rfl
  | cons v vs ih =>
    cases r with
    | cons _ r => rw [List.length_cons, List.length_cons, ih r]
theorem RepAll.append (r : RepAll prog w S h vs ds) (q : RepAll prog w S h us es) : RepAll prog w S h (vs ++ us) (ds ++ es) := by
  induction vs generalizing ds with
  | nil => (first | obtain ⟨_, rfl⟩ := r.atom | exact (nsE r).elim | exact (snE r).elim | exact (ftE r).elim | cases r); exact q
  | cons v vs ih =>
    cases r with
    | cons a r => exact .cons a (ih r)
theorem RepAll.get (r : RepAll prog w S h vs ds) {k : Nat} {d : D} (hk : ds[k]? = some d) : ∃ v, vs[k]? = some v ∧ Rep prog w S h v d := by
  induction vs generalizing ds k with
  | nil => (first | obtain ⟨_, rfl⟩ := r.atom | exact (nsE r).elim | exact (snE r).elim | exact (ftE r).elim | cases r); simp at hk
  | cons v vs ih =>
    cases r with
    | cons a r =>
      cases k with
      | zero => simp at hk; subst hk; exact ⟨v, rfl, a⟩
      | succ k => simp at hk; simpa using ih r hk
theorem RepAll.get' (r : RepAll prog w S h vs ds) {k : Nat} {v : Value} (hk : vs[k]? = some v) : ∃ d, ds[k]? = some d ∧ Rep prog w S h v d := by
  induction vs generalizing ds k with
  | nil => simp at hk
  | cons u vs ih =>
    cases r with
    | cons a r =>
      cases k with
      | zero => simp at hk; subst hk; exact ⟨_, rfl, a⟩
      | succ k => simp at hk; simpa using ih r hk
theorem RepAll.take (r : RepAll prog w S h vs ds) (n : Nat) : RepAll prog w S h (vs.take n) (ds.take n) := by
  induction vs generalizing ds n with
  | nil => (first | obtain ⟨_, rfl⟩ := r.atom | exact (nsE r).elim | exact (snE r).elim | exact (ftE r).elim | cases r); simpa using RepAll.nil
  | cons v vs ih =>
    cases r with
    | cons a r =>
      cases n with
      | zero => exact .nil
      | succ n => exact .cons a (ih r n)
theorem RepAll.drop (r : RepAll prog w S h vs ds) (n : Nat) : RepAll prog w S h (vs.drop n) (ds.drop n) := by
  induction vs generalizing ds n with
  | nil => (first | obtain ⟨_, rfl⟩ := r.atom | exact (nsE r).elim | exact (snE r).elim | exact (ftE r).elim | cases r); simpa using RepAll.nil
  | cons v vs ih =>
    cases r with
    | cons a r =>
      cases n with
      | zero => exact .cons a r
      | succ n => exact ih r n
theorem RepAll.ints : ∀ {vs : List Value} {ns : List Int}, RepAll prog w S h vs (ns.map D.int) → IntsAre vs ns := by
  intro vs
  induction vs with
  | nil => intro ns r; cases ns with
    | nil => exact .nil
    | cons n ns => (first | obtain ⟨_, rfl⟩ := r.atom | exact (nsE r).elim | exact (snE r).elim | exact (ftE r).elim | cases r)
  | cons v vs ih =>
    intro ns r
    cases ns with
    | nil => (first | obtain ⟨_, rfl⟩ := r.atom | exact (nsE r).elim | exact (snE r).elim | exact (ftE r).elim | cases r)
    | cons n ns =>
      cases r with
      | cons a r => (first | obtain ⟨_, rfl⟩ := a.atom | exact (nsE a).elim | exact (snE a).elim | exact (ftE a).elim | cases a); exact .cons _ _ (ih r)
theorem RepAll.of_ints : ∀ {vs : List Value} {ns : List Int}, IntsAre vs ns → RepAll prog w S h vs (ns.map D.int) := by
  intro vs ns r
  induction r with
  | nil => exact .nil
  | cons _ _ _ ih => exact .cons (.int _ _) ih
theorem KV.length {K : Type} {a : List (K × Value)} {b : List (K × Int)} (r : KV a b) : a.length = b.length := by
  induction r with
  | nil => rfl
  | cons _ ih => rw [List.length_cons, List.length_cons, ih]
end

/-- what holds of the program's world at every heap of the call -/
structure Gl (K : Frag) (h : Heap) : Prop where
  inn : K.In h
  nolimit : h.NoLimit
  mg : ∃ mg, h.Ns mainGlobals mg
  mb : ∃ mb, h.Ns builtinsNs mb ∧ ∀ x : Str, x ≠ "__name__" → mb x = bootBuiltins x
theorem Gl.keeps {K : Frag} {h h' : Heap} (g : Gl K h) (k : ∀ b o, h.get? b = some o → h'.get? b = some o) : Gl K h' :=
  ⟨g.inn.keeps k, g.nolimit.keeps k, let ⟨m, x⟩ := g.mg; ⟨m, x.keeps k⟩, let ⟨m, x, y⟩ := g.mb; ⟨m, x.keeps k, y⟩⟩

/-- what the top's dict of names bears -/
noncomputable def globOf (K : Frag) (x : Str) : Option Value := match K.lookup mainGlobals with
  | some ⟨_, _, .dict es _, _⟩ => (es.toList.find? fun e => e.key.isStr x).map (·.val)
  | _ => none

theorem Gl.glob {K : Frag} {h : Heap} {x : Str} {r : Option Value} (g : Gl K h) {mg : Str → Option Value} (hm : h.Ns mainGlobals mg) (hd : (K.lookup mainGlobals).isSome = true) (e : globOf K x = r)
    (hdict : ∀ o, K.lookup mainGlobals = some o → ∃ es ep, o.data = .dict es ep) : mg x = r := by
  cases hK : K.lookup mainGlobals with
  | none => rw [hK] at hd; (first | obtain ⟨_, rfl⟩ := hd.atom | exact (nsE hd).elim | exact (snE hd).elim | exact (ftE hd).elim | cases hd)
  | some o =>
    obtain ⟨es, ep, ed⟩ := hdict o hK
    obtain ⟨c, dd, dt, sl⟩ := o
    subst ed
    obtain ⟨o', es', ep', ho', hd', _, hm'⟩ := hm
    have := g.inn _ _ hK
    rw [this] at ho'; (first | obtain ⟨_, rfl⟩ := ho'.atom | exact (nsE ho').elim | exact (snE ho').elim | exact (ftE ho').elim | cases ho')
    (first | obtain ⟨_, rfl⟩ := hd'.atom | exact (nsE hd').elim | exact (snE hd').elim | exact (ftE hd').elim | cases hd')
    rw [← hm' x, ← e]
    simp only [globOf, hK, nsFind, findBy]
    rw [Array.find?_toList]
-- part PL2
/-- the same but for the heap, the tokens and what was drawn -/
noncomputable def Sm (s s' : Shared) : Prop := s'.gens = s.gens ∧ s'.os = s.os
theorem Sm.trans {a b c : Shared} (x : Sm a b) (y : Sm b c) : Sm a c := ⟨y.1.trans x.1, y.2.trans x.2⟩
noncomputable def Kp (s s' : Shared) : Prop := Sm s s' ∧ ∀ b o, s.heap.get? b = some o → s'.heap.get? b = some o
theorem Kp.refl (s : Shared) : Kp s s := ⟨⟨rfl, rfl⟩, fun _ _ e => e⟩
theorem Kp.trans {a b c : Shared} (x : Kp a b) (y : Kp b c) : Kp a c := ⟨x.1.trans y.1, fun p o e => y.2 p o (x.2 p o e)⟩
theorem Kp.k {a b : Shared} (x : Kp a b) : ∀ p o, a.heap.get? p = some o → b.heap.get? p = some o := x.2
theorem Kp.toks (s : Shared) (t : Nat) : Kp s { s with toks := t } := ⟨⟨rfl, rfl⟩, fun _ _ e => e⟩
theorem Kp.heap (s : Shared) (h : Heap) (k : ∀ p o, s.heap.get? p = some o → h.get? p = some o) : Kp s { s with heap := h } := ⟨⟨rfl, rfl⟩, k⟩
theorem Kp.both (s : Shared) (h : Heap) (t : Nat) (k : ∀ p o, s.heap.get? p = some o → h.get? p = some o) : Kp s { s with heap := h, toks := t } := ⟨⟨rfl, rfl⟩, k⟩
theorem Kp.all (s : Shared) (h : Heap) (t : Nat) (d : Drawn) (k : ∀ p o, s.heap.get? p = some o → h.get? p = some o) : Kp s { s with heap := h, toks := t, drawn := d } := ⟨⟨rfl, rfl⟩, k⟩
theorem Kp.push (s : Shared) (o : Obj) : Kp s { s with heap := s.heap.push o } := Kp.heap s _ fun _ _ e => Heap.get?_push_of_some _ e

/-- the name bears the value there -/
noncomputable def Has (h : Heap) (env : Env) (x : Str) (v : Value) : Prop :=
  (env.kindOf x = some .local ∧ ∃ m, h.Ns env.locals m ∧ m x = some v) ∨
  ((env.kindOf x = some .cell ∨ (env.kindOf x = some .free ∧ (x == ("__classdict__" : Str)) = false)) ∧ ∃ c, env.cells.lookup x = some c ∧ h.IsCell c (some v))
theorem Has.keeps {h h' : Heap} {env : Env} {x : Str} {v : Value} (r : Has h env x v) (k : ∀ b o, h.get? b = some o → h'.get? b = some o) : Has h' env x v := by
  rcases r with ⟨a, m, n, e⟩ | ⟨a, c, l, n⟩
  · exact .inl ⟨a, m, n.keeps k, e⟩
  · exact .inr ⟨a, c, l, n.keeps k⟩

noncomputable def RoomA (n : Nat) (A : Around) : Prop := A.handled = none ∧ A.depth + n < 900 ∧ A.units + 4 * n + 200 < 9000

theorem held_keeps {S : Addr → Prop} {h h' : Heap} (x : ∀ a, S a → (h.get? a).isSome = true) (k : ∀ b o, h.get? b = some o → h'.get? b = some o) : ∀ a, S a → (h'.get? a).isSome = true := fun a ha => by
  have := x a ha
  cases e : h.get? a with
  | none => rw [e] at this; (first | obtain ⟨_, rfl⟩ := this.atom | exact (nsE this).elim | exact (snE this).elim | exact (ftE this).elim | cases this)
  | some o => rw [k a o e]; rfl
theorem some_keep {h h' : Heap} {a : Addr} (x : (h.get? a).isSome = true) (k : ∀ b o, h.get? b = some o → h'.get? b = some o) : (h'.get? a).isSome = true := by
  cases e : h.get? a with
  | none => rw [e] at x; (first | obtain ⟨_, rfl⟩ := x.atom | exact (nsE x).elim | exact (snE x).elim | exact (ftE x).elim | cases x)
  | some o => rw [k a o e]; rfl
/-- an unused address is none of those to keep off -/
theorem not_held {S : Addr → Prop} {h : Heap} (x : ∀ a, S a → (h.get? a).isSome = true) {a : Addr} (e : h.get? a = none) : ¬ S a := fun q => by
  have := x a q; rw [e] at this; (first | obtain ⟨_, rfl⟩ := this.atom | exact (nsE this).elim | exact (snE this).elim | exact (ftE this).elim | cases this)
theorem get_size (h : Heap) {a : Addr} (ha : h.objs.size ≤ a) : h.get? a = none := by
  cases e : h.get? a with
  | none => rfl
  | some o => exact absurd (Heap.lt_size e) (Nat.not_lt.mpr ha)

/-- the world: what stood at the law's call stands; S names addresses made since, that data keeps off -/
structure Wd (K : Frag) (base : Heap) (S : Addr → Prop) (h : Heap) : Prop where
  gl : Gl K base
  up : ∀ b o, base.get? b = some o → h.get? b = some o
  off : ∀ a, S a → base.get? a = none
  held : ∀ a, S a → (h.get? a).isSome = true
theorem Wd.glh {K : Frag} {base : Heap} {S : Addr → Prop} {h : Heap} (x : Wd K base S h) : Gl K h := x.gl.keeps x.up
theorem Wd.keeps {K : Frag} {base : Heap} {S : Addr → Prop} {h h' : Heap} (x : Wd K base S h) (k : ∀ b o, h.get? b = some o → h'.get? b = some o) : Wd K base S h' :=
  ⟨x.gl, fun b o e => k b o (x.up b o e), x.off, held_keeps x.held k⟩
theorem Wd.ext {K : Frag} {base : Heap} {S : Addr → Prop} {h h' : Heap} (x : Wd K base S h) (k : Ext S h h') (l : ∀ a, S a → (h'.get? a).isSome = true) : Wd K base S h' :=
  ⟨x.gl, fun b o e => k b o (fun q => by rw [x.off b q] at e; (first | obtain ⟨_, rfl⟩ := e.atom | exact (nsE e).elim | exact (snE e).elim | exact (ftE e).elim | cases e)) (x.up b o e), x.off, l⟩
theorem Wd.fresh {K : Frag} {base : Heap} {S : Addr → Prop} {h : Heap} (x : Wd K base S h) {a : Addr} (e : h.get? a = none) : base.get? a = none := by
  cases q : base.get? a with
  | none => rfl
  | some o => rw [x.up a o q] at e; (first | obtain ⟨_, rfl⟩ := e.atom | exact (nsE e).elim | exact (snE e).elim | exact (ftE e).elim | cases e)
theorem Wd.less {K : Frag} {base : Heap} {S S' : Addr → Prop} {h : Heap} (x : Wd K base S h) (l : ∀ a, S' a → S a) : Wd K base S' h := ⟨x.gl, x.up, fun a q => x.off a (l a q), fun a q => x.held a (l a q)⟩

/-- names stand apart -/
noncomputable def Sep (env : Env) : Prop := (∀ x y c, env.cells.lookup x = some c → env.cells.lookup y = some c → x = y) ∧ ∀ x c, env.cells.lookup x = some c → c ≠ env.locals

structure Ctx where
  K : Frag
  prog : Program
  w : World
  A : Around
  n : Nat
  base : Heap
  env : Env
  S : Addr → Prop
  ρ : Str → Option D

structure Ctx.At (Γ : Ctx) (h : Heap) : Prop where
  wd : Wd Γ.K Γ.base Γ.S h
  kind : Γ.env.scope.kind = .function
  globals : Γ.env.globals = mainGlobals
  builtins : Γ.env.builtins = builtinsNs
  room : RoomA Γ.n Γ.A
  sep : Sep Γ.env
  cin : ∀ x c, Γ.env.cells.lookup x = some c → (h.get? c).isSome = true
  vars : ∀ x d, Γ.ρ x = some d → ∃ v, Has h Γ.env x v ∧ Rep Γ.prog Γ.w Γ.S h v d

theorem Ctx.At.keeps {Γ : Ctx} {h h' : Heap} (x : Γ.At h) (k : ∀ b o, h.get? b = some o → h'.get? b = some o) : Γ.At h' :=
  ⟨x.wd.keeps k, x.kind, x.globals, x.builtins, x.room, x.sep, fun y c e => some_keep (x.cin y c e) k, fun y d e => let ⟨v, a, b⟩ := x.vars y d e; ⟨v, a.keeps k, b.keep k⟩⟩
theorem Ctx.At.go {Γ : Ctx} {s s' : Shared} (x : Γ.At s.heap) (k : Kp s s') : Γ.At s'.heap := x.keeps k.k

noncomputable abbrev Ctx.R (Γ : Ctx) (h : Heap) (v : Value) (d : D) : Prop := Rep Γ.prog Γ.w Γ.S h v d
noncomputable abbrev Ctx.Rs (Γ : Ctx) (h : Heap) (vs : List Value) (ds : List D) : Prop := RepAll Γ.prog Γ.w Γ.S h vs ds

/-- the tree ends without an exception, old objects stay, and what it hands on is as P says -/
noncomputable def Tr (Γ : Ctx) {α : Type} (t : Sem α) (P : α → Heap → Prop) (s : Shared) : Prop :=
  wpAny (model Γ.prog Γ.w) Γ.A t (fun a s' => Kp s s' ∧ P a s'.heap) (fun _ _ => False) s
structure Ev (Γ : Ctx) (e : Expr) (d : D) : Prop where
  run : ∀ s, Γ.At s.heap → Tr Γ (eval e Γ.env) (fun v h => Γ.R h v d) s
structure EvT (Γ : Ctx) (e : Expr) (b : Bool) : Prop where
  run : ∀ s, Γ.At s.heap → Tr Γ (isTrue e Γ.env (eval e Γ.env)) (fun t _ => t = b) s

section
variable {Γ : Ctx} {α β : Type} {s : Shared}
theorem Tr.pure {a : α} {P : α → Heap → Prop} (h : P a s.heap) : Tr Γ (pure a) P s := wpAny_pure ⟨Kp.refl s, h⟩
theorem Tr.mono {t : Sem α} {P P' : α → Heap → Prop} (h : Tr Γ t P s) (i : ∀ a h, P a h → P' a h) : Tr Γ t P' s := wpAny_mono h (fun _ _ q => ⟨q.1, i _ _ q.2⟩) fun _ _ x => x
/-- then a tree more, whose rule is as the library's are -/
theorem Tr.then' {t : Sem α} {P : α → Heap → Prop} {Q : α → Shared → Prop} {E : Value → Shared → Prop} (h : Tr Γ t P s) (k : ∀ a s', Kp s s' → P a s'.heap → Q a s') : wpAny (model Γ.prog Γ.w) Γ.A t Q E s :=
  wpAny_mono h (fun a s' q => k a s' q.1 q.2) fun _ _ x => x.elim
theorem Tr.from {t : Sem α} {P : α → Heap → Prop} {s₀ : Shared} (x : Kp s₀ s) (h : Tr Γ t P s) : wpAny (model Γ.prog Γ.w) Γ.A t (fun a s' => Kp s₀ s' ∧ P a s'.heap) (fun _ _ => False) s :=
  wpAny_mono h (fun _ _ q => ⟨x.trans q.1, q.2⟩) fun _ _ x => x

theorem ev_int {i : Int} {k : Nat} {p : Pos} : Ev Γ (.Constant (.int i) k p) (.int i) := .mk fun s _ => wpAny_Constant_int ⟨Kp.toks s _, .int _ _⟩
theorem ev_name {x : Str} {p : Pos} {d : D} (e : Γ.ρ x = some d) (hd : (x == ("__debug__" : Str)) = false := by decide) : Ev Γ (.Name x p) d := .mk fun s C => by
  obtain ⟨v, hv, r⟩ := C.vars x d e
  refine wpAny_Name ?_ hd
  rcases hv with ⟨a, m, n, e⟩ | ⟨a, c, l, n⟩
  · exact wpAny_loadName_local C.kind a n e ⟨Kp.refl s, r⟩
  · rcases a with a | ⟨a, b⟩
    · exact wpAny_loadName_cell C.kind a l n ⟨Kp.refl s, r⟩
    · exact wpAny_loadName_free C.kind a l n ⟨Kp.refl s, r⟩ b

/-- the fragment writes the top's names out -/
noncomputable def TopOk (K : Frag) : Prop := ∃ c d es ep sl, K.lookup mainGlobals = some ⟨c, d, .dict es ep, sl⟩
theorem glob_is {K : Frag} {h : Heap} (T : TopOk K) (g : Gl K h) {mg : Str → Option Value} (hm : h.Ns mainGlobals mg) (x : Str) : mg x = globOf K x := by
  obtain ⟨c, d, es, ep, sl, e⟩ := T
  refine g.glob hm (by rw [e]; rfl) rfl fun o q => ?_
  rw [e] at q; (first | obtain ⟨_, rfl⟩ := q.atom | exact (nsE q).elim | exact (snE q).elim | exact (ftE q).elim | cases q); exact ⟨es, ep, rfl⟩

theorem ev_glob {x : Str} {p : Pos} {v : Value} (T : TopOk Γ.K) (hk : Γ.env.kindOf x = some .globalImplicit) (e : globOf Γ.K x = some v) (hd : (x == ("__debug__" : Str)) = false := by decide) : Ev Γ (.Name x p) (.raw v) := .mk fun s C => by
  obtain ⟨mg, hm⟩ := C.wd.glh.mg
  exact Calls.Name_function_global C.kind hk (Calls.loadGlobal_global (by rw [C.globals]; exact hm) ((glob_is T C.wd.glh hm x).trans e) ⟨Kp.refl s, .raw _⟩) hd
theorem ev_blt {x : Str} {p : Pos} {v : Value} (T : TopOk Γ.K) (hk : Γ.env.kindOf x = some .globalImplicit) (e : globOf Γ.K x = none) (hb : bootBuiltins x = some v) (hn : x ≠ "__name__" := by decide) (hd : (x == ("__debug__" : Str)) = false := by decide) :
    Ev Γ (.Name x p) (.raw v) := .mk fun s C => by
  obtain ⟨mg, hm⟩ := C.wd.glh.mg
  obtain ⟨mb, hb', he⟩ := C.wd.glh.mb
  exact Calls.Name_function_global C.kind hk (Calls.loadGlobal_builtin (by rw [C.globals]; exact hm) ((glob_is T C.wd.glh hm x).trans e) (by rw [C.builtins]; exact hb') ((he x hn).trans hb) ⟨Kp.refl s, .raw _⟩) hd

/-- an operation on two values -/
structure Op2 (Γ : Ctx) (f : Value → Value → Sem Value) (d1 d2 d : D) : Prop where
  run : ∀ a b s, Γ.At s.heap → Γ.R s.heap a d1 → Γ.R s.heap b d2 → Tr Γ (f a b) (fun v h => Γ.R h v d) s
structure Op1 (Γ : Ctx) (f : Value → Sem Value) (d1 d : D) : Prop where
  run : ∀ a s, Γ.At s.heap → Γ.R s.heap a d1 → Tr Γ (f a) (fun v h => Γ.R h v d) s
structure TruthIs (Γ : Ctx) (d : D) (b : Bool) : Prop where
  run : ∀ v s, Γ.At s.heap → Γ.R s.heap v d → Tr Γ (truthy v) (fun t _ => t = b) s

theorem ev_binop {l r : Expr} {op : Operator} {p : Pos} {d1 d2 d : D} (h1 : Ev Γ l d1) (h2 : Ev Γ r d2) (ho : Op2 Γ (binaryOp op) d1 d2 d) : Ev Γ (.BinOp l op r p) d := .mk fun s C =>
  wpAny_BinOp ((h1.run s C).then' fun a s₁ k₁ r₁ => (h2.run s₁ (C.go k₁)).then' fun b s₂ k₂ r₂ => (ho.run a b s₂ ((C.go k₁).go k₂) (r₁.keep k₂.k) r₂).from (k₁.trans k₂))
theorem ev_unop {x : Expr} {op : UnaryOp} {p : Pos} {d1 d : D} (h1 : Ev Γ x d1) (ho : Op1 Γ (unaryOp op) d1 d) : Ev Γ (.UnaryOp op x p) d := .mk fun s C =>
  wpAny_UnaryOp ((h1.run s C).then' fun a s₁ k₁ r₁ => (ho.run a s₁ (C.go k₁) r₁).from k₁)
theorem ev_cmp {l r : Expr} {op : CmpOp} {p : Pos} {d1 d2 d : D} (h1 : Ev Γ l d1) (h2 : Ev Γ r d2) (ho : Op2 Γ (compareOp op) d1 d2 d) (hm : behindInMarks op r = false := by with_unfolding_all rfl) : Ev Γ (.Compare l [op] [r] p) d := .mk fun s C =>
  wpAny_Compare1 (hm := hm) ((h1.run s C).then' fun a s₁ k₁ r₁ => (h2.run s₁ (C.go k₁)).then' fun b s₂ k₂ r₂ => (ho.run a b s₂ ((C.go k₁).go k₂) (r₁.keep k₂.k) r₂).from (k₁.trans k₂))
theorem ev_ifexp {t x y : Expr} {p : Pos} {b : Bool} {d : D} (h : EvT Γ t b) (hx : b = true → Ev Γ x d) (hy : b = false → Ev Γ y d) : Ev Γ (.IfExp t x y p) d := .mk fun s C =>
  wpAny_IfExp ((h.run s C).then' fun a s₁ k₁ e => by
    subst e
    cases a with
    | true => exact ((hx rfl).run s₁ (C.go k₁)).from k₁
    | false => exact ((hy rfl).run s₁ (C.go k₁)).from k₁)

-- tests
theorem evT_cmp {l r : Expr} {op : CmpOp} {p : Pos} {d1 d2 : D} {b : Bool} (h1 : Ev Γ l d1) (h2 : Ev Γ r d2) (ho : Op2 Γ (compareOp op) d1 d2 (.bool b)) (hm : behindInMarks op r = false := by with_unfolding_all rfl) : EvT Γ (.Compare l [op] [r] p) b := .mk fun s C =>
  wpAny_isTrue_Compare1 (hm := hm) ((h1.run s C).then' fun a s₁ k₁ r₁ => (h2.run s₁ (C.go k₁)).then' fun c s₂ k₂ r₂ => (ho.run a c s₂ ((C.go k₁).go k₂) (r₁.keep k₂.k) r₂).then' fun v s₃ k₃ r₃ => by
    (first | obtain ⟨_, rfl⟩ := r₃.atom | exact (nsE r₃).elim | exact (snE r₃).elim | exact (ftE r₃).elim | cases r₃)
    exact wpAny_truthy_bool ⟨(k₁.trans k₂).trans k₃, rfl⟩)
theorem evT_not {x : Expr} {p : Pos} {b : Bool} (h : EvT Γ x b) : EvT Γ (.UnaryOp .Not x p) (!b) := .mk fun s C =>
  wpAny_isTrue_Not ((h.run s C).then' fun a s₁ k₁ e => ⟨k₁, by rw [e]⟩)
/-- a row of tests, under and | or -/
structure EvTs (Γ : Ctx) (op : BoolOp) (es : List Expr) (b : Bool) : Prop where
  run : ∀ s, Γ.At s.heap → Tr Γ (allTrue op es Γ.env) (fun t _ => t = b) s
theorem evT_boolop {op : BoolOp} {es : List Expr} {p : Pos} {b : Bool} (h : EvTs Γ op es b) : EvT Γ (.BoolOp op es p) b := .mk fun s C => wpAny_isTrue_BoolOp (h.run s C)
theorem evTs_and_nil : EvTs Γ .And [] true := .mk fun s _ => wpAny_allTrue_And_nil ⟨Kp.refl s, rfl⟩
theorem evTs_or_nil : EvTs Γ .Or [] false := .mk fun s _ => wpAny_allTrue_Or_nil ⟨Kp.refl s, rfl⟩
theorem evTs_and {x : Expr} {r : List Expr} {a b : Bool} (h1 : EvT Γ x a) (h2 : a = true → EvTs Γ .And r b) : EvTs Γ .And (x :: r) (a && b) := .mk fun s C =>
  wpAny_allTrue_And_cons ((h1.run s C).then' fun t s₁ k₁ e => by
    subst e
    cases t with
    | true => exact ((h2 rfl).run s₁ (C.go k₁)).from k₁
    | false => exact ⟨k₁, rfl⟩)
theorem evTs_or {x : Expr} {r : List Expr} {a b : Bool} (h1 : EvT Γ x a) (h2 : a = false → EvTs Γ .Or r b) : EvTs Γ .Or (x :: r) (a || b) := .mk fun s C =>
  wpAny_allTrue_Or_cons ((h1.run s C).then' fun t s₁ k₁ e => by
    subst e
    cases t with
    | true => exact ⟨k₁, rfl⟩
    | false => exact ((h2 rfl).run s₁ (C.go k₁)).from k₁)

theorem truth_bool {b : Bool} : TruthIs Γ (.bool b) b := .mk fun v s _ r => by (first | obtain ⟨_, rfl⟩ := r.atom | exact (nsE r).elim | exact (snE r).elim | exact (ftE r).elim | cases r); exact wpAny_truthy_bool ⟨Kp.refl s, rfl⟩
theorem truth_int {i : Int} : TruthIs Γ (.int i) (i != 0) := .mk fun v s _ r => by (first | obtain ⟨_, rfl⟩ := r.atom | exact (nsE r).elim | exact (snE r).elim | exact (ftE r).elim | cases r); exact truthy_int ⟨Kp.refl s, rfl⟩
/-- any other expression as a test: its value's truth -/
theorem evT_of {e : Expr} {d : D} {b : Bool} (h : Ev Γ e d) (ht : TruthIs Γ d b) (he : ∀ env whole, isTrue e env whole = (do let v ← whole; standAt e.pos; holding [v] (truthy v)) := by intro _ _; rfl) : EvT Γ e b := .mk fun s C =>
  wpAny_isTrue_value ((h.run s C).then' fun v s₁ k₁ r₁ => (ht.run v s₁ (C.go k₁) r₁).from k₁) (he _ _)
theorem ev_and2 {x y : Expr} {p : Pos} {a : Bool} {d : D} (h1 : Ev Γ x (.bool a)) (h2 : a = true → Ev Γ y d) (h3 : a = false → d = .bool false) : Ev Γ (.BoolOp .And [x, y] p) d := .mk fun s C =>
  wpAny_And2 ((h1.run s C).then' fun v s₁ k₁ r₁ => by
    (first | obtain ⟨_, rfl⟩ := r₁.atom | exact (nsE r₁).elim | exact (snE r₁).elim | exact (ftE r₁).elim | cases r₁)
    refine wpAny_truthy_bool ?_
    cases a with
    | true => exact ((h2 rfl).run s₁ (C.go k₁)).from k₁
    | false => rw [h3 rfl]; exact ⟨k₁, .bool _⟩)

-- ints
theorem op_add {a b : Int} : Op2 Γ (binaryOp .Add) (.int a) (.int b) (.int (a + b)) := .mk fun _ _ s _ r₁ r₂ => by (first | obtain ⟨_, rfl⟩ := r₁.atom | exact (nsE r₁).elim | exact (snE r₁).elim | exact (ftE r₁).elim | cases r₁); (first | obtain ⟨_, rfl⟩ := r₂.atom | exact (nsE r₂).elim | exact (snE r₂).elim | exact (ftE r₂).elim | cases r₂); exact add_int ⟨Kp.toks s _, .int _ _⟩
theorem op_sub {a b : Int} : Op2 Γ (binaryOp .Sub) (.int a) (.int b) (.int (a - b)) := .mk fun _ _ s _ r₁ r₂ => by (first | obtain ⟨_, rfl⟩ := r₁.atom | exact (nsE r₁).elim | exact (snE r₁).elim | exact (ftE r₁).elim | cases r₁); (first | obtain ⟨_, rfl⟩ := r₂.atom | exact (nsE r₂).elim | exact (snE r₂).elim | exact (ftE r₂).elim | cases r₂); exact sub_int ⟨Kp.toks s _, .int _ _⟩
theorem op_mul {a b : Int} (hm : IntMulOk a b) : Op2 Γ (binaryOp .Mult) (.int a) (.int b) (.int (a * b)) := .mk fun _ _ s _ r₁ r₂ => by (first | obtain ⟨_, rfl⟩ := r₁.atom | exact (nsE r₁).elim | exact (snE r₁).elim | exact (ftE r₁).elim | cases r₁); (first | obtain ⟨_, rfl⟩ := r₂.atom | exact (nsE r₂).elim | exact (snE r₂).elim | exact (ftE r₂).elim | cases r₂); exact mul_int ⟨Kp.toks s _, .int _ _⟩ hm
theorem op_mod {a b : Int} (hb : b ≠ 0) : Op2 Γ (binaryOp .Mod) (.int a) (.int b) (.int (a.fmod b)) := .mk fun _ _ s _ r₁ r₂ => by (first | obtain ⟨_, rfl⟩ := r₁.atom | exact (nsE r₁).elim | exact (snE r₁).elim | exact (ftE r₁).elim | cases r₁); (first | obtain ⟨_, rfl⟩ := r₂.atom | exact (nsE r₂).elim | exact (snE r₂).elim | exact (ftE r₂).elim | cases r₂); exact mod_int' hb ⟨Kp.toks s _, .int _ _⟩
theorem op_fdiv {a b : Int} (hb : b ≠ 0) (hp : Builtin.divisionGoesByPylong a b = false) : Op2 Γ (binaryOp .FloorDiv) (.int a) (.int b) (.int (a.fdiv b)) := .mk fun _ _ s _ r₁ r₂ => by
  (first | obtain ⟨_, rfl⟩ := r₁.atom | exact (nsE r₁).elim | exact (snE r₁).elim | exact (ftE r₁).elim | cases r₁); (first | obtain ⟨_, rfl⟩ := r₂.atom | exact (nsE r₂).elim | exact (snE r₂).elim | exact (ftE r₂).elim | cases r₂); exact floordiv_int hb ⟨Kp.toks s _, .int _ _⟩ (.inl hp)
theorem op_neg {a : Int} : Op1 Γ (unaryOp .USub) (.int a) (.int (-a)) := .mk fun _ s _ r => by (first | obtain ⟨_, rfl⟩ := r.atom | exact (nsE r).elim | exact (snE r).elim | exact (ftE r).elim | cases r); exact neg_int ⟨Kp.toks s _, .int _ _⟩
theorem op_iadd {a b : Int} : Op2 Γ (inplaceOp .Add) (.int a) (.int b) (.int (a + b)) := .mk fun _ _ s _ r₁ r₂ => by (first | obtain ⟨_, rfl⟩ := r₁.atom | exact (nsE r₁).elim | exact (snE r₁).elim | exact (ftE r₁).elim | cases r₁); (first | obtain ⟨_, rfl⟩ := r₂.atom | exact (nsE r₂).elim | exact (snE r₂).elim | exact (ftE r₂).elim | cases r₂); exact iadd_int ⟨Kp.toks s _, .int _ _⟩
theorem op_lt {a b : Int} : Op2 Γ (compareOp .Lt) (.int a) (.int b) (.bool (decide (a < b))) := .mk fun _ _ s _ r₁ r₂ => by (first | obtain ⟨_, rfl⟩ := r₁.atom | exact (nsE r₁).elim | exact (snE r₁).elim | exact (ftE r₁).elim | cases r₁); (first | obtain ⟨_, rfl⟩ := r₂.atom | exact (nsE r₂).elim | exact (snE r₂).elim | exact (ftE r₂).elim | cases r₂); exact lt_int ⟨Kp.refl s, .bool _⟩
theorem op_gt {a b : Int} : Op2 Γ (compareOp .Gt) (.int a) (.int b) (.bool (decide (b < a))) := .mk fun _ _ s _ r₁ r₂ => by (first | obtain ⟨_, rfl⟩ := r₁.atom | exact (nsE r₁).elim | exact (snE r₁).elim | exact (ftE r₁).elim | cases r₁); (first | obtain ⟨_, rfl⟩ := r₂.atom | exact (nsE r₂).elim | exact (snE r₂).elim | exact (ftE r₂).elim | cases r₂); exact gt_int ⟨Kp.refl s, .bool _⟩
theorem op_le {a b : Int} : Op2 Γ (compareOp .LtE) (.int a) (.int b) (.bool (decide (a ≤ b))) := .mk fun _ _ s _ r₁ r₂ => by (first | obtain ⟨_, rfl⟩ := r₁.atom | exact (nsE r₁).elim | exact (snE r₁).elim | exact (ftE r₁).elim | cases r₁); (first | obtain ⟨_, rfl⟩ := r₂.atom | exact (nsE r₂).elim | exact (snE r₂).elim | exact (ftE r₂).elim | cases r₂); exact le_int ⟨Kp.refl s, .bool _⟩
theorem op_ge {a b : Int} : Op2 Γ (compareOp .GtE) (.int a) (.int b) (.bool (decide (b ≤ a))) := .mk fun _ _ s _ r₁ r₂ => by (first | obtain ⟨_, rfl⟩ := r₁.atom | exact (nsE r₁).elim | exact (snE r₁).elim | exact (ftE r₁).elim | cases r₁); (first | obtain ⟨_, rfl⟩ := r₂.atom | exact (nsE r₂).elim | exact (snE r₂).elim | exact (ftE r₂).elim | cases r₂); exact ge_int ⟨Kp.refl s, .bool _⟩
theorem op_eq {a b : Int} : Op2 Γ (compareOp .Eq) (.int a) (.int b) (.bool (a == b)) := .mk fun _ _ s _ r₁ r₂ => by (first | obtain ⟨_, rfl⟩ := r₁.atom | exact (nsE r₁).elim | exact (snE r₁).elim | exact (ftE r₁).elim | cases r₁); (first | obtain ⟨_, rfl⟩ := r₂.atom | exact (nsE r₂).elim | exact (snE r₂).elim | exact (ftE r₂).elim | cases r₂); exact eq_int ⟨Kp.refl s, .bool _⟩
theorem op_ne {a b : Int} : Op2 Γ (compareOp .NotEq) (.int a) (.int b) (.bool (a != b)) := .mk fun _ _ s _ r₁ r₂ => by (first | obtain ⟨_, rfl⟩ := r₁.atom | exact (nsE r₁).elim | exact (snE r₁).elim | exact (ftE r₁).elim | cases r₁); (first | obtain ⟨_, rfl⟩ := r₂.atom | exact (nsE r₂).elim | exact (snE r₂).elim | exact (ftE r₂).elim | cases r₂); exact ne_int ⟨Kp.refl s, .bool _⟩
end
-- part PL3
section
variable {prog : Program} {w : World} {S : Addr → Prop} {h : Heap} {a : Addr} {ds : List D} {v : Value}
inductive ListRep (prog : Program) (w : World) (S : Addr → Prop) (h : Heap) (v : Value) (ds : List D) : Prop
  | mk (a : Addr) (vs : List Value) (e : v = .ref a) (hs : ¬ S a) (hl : h.PlainList a vs.toArray) (rs : RepAll prog w S h vs ds) : ListRep prog w S h v ds
inductive TupleRep (prog : Program) (w : World) (S : Addr → Prop) (h : Heap) (v : Value) (ds : List D) : Prop
  | mk (a : Addr) (vs : List Value) (n : Nat) (e : v = .ref a) (hs : ¬ S a) (hl : h.get? a = some { cls := .type "tuple", data := .seq vs.toArray n }) (rs : RepAll prog w S h vs ds) : TupleRep prog w S h v ds
theorem Rep.list_inv (r : Rep prog w S h v (.list ds)) : ListRep prog w S h v ds := by
  cases r with
  | list a b c => exact ⟨_, _, rfl, a, b, c⟩
theorem Rep.tuple_inv (r : Rep prog w S h v (.tuple ds)) : TupleRep prog w S h v ds := by
  cases r with
  | tuple a b c => exact ⟨_, _, _, rfl, a, b, c⟩
theorem isTup {vs : List Value} {n : Nat} (e : h.get? a = some { cls := .type "tuple", data := .seq vs.toArray n }) : IsTup h a vs.toArray := ⟨_, e, rfl, n, rfl⟩

/-- a new list, a new tuple -/
theorem Rep.new_list {vs : List Value} (hs : ∀ a, S a → (h.get? a).isSome = true) (r : RepAll prog w S h vs ds) : Rep prog w S (h.push { cls := .type "list", data := .seq vs.toArray }) (.ref h.objs.size) (.list ds) :=
  .list (not_held hs (get_size h (Nat.le_refl _))) ⟨0, Heap.get?_push_size _ rfl⟩ (r.keep fun _ _ e => Heap.get?_push_of_some _ e)
theorem Rep.new_tuple {vs : List Value} (hs : ∀ a, S a → (h.get? a).isSome = true) (r : RepAll prog w S h vs ds) : Rep prog w S (h.push { cls := .type "tuple", data := .seq vs.toArray }) (.ref h.objs.size) (.tuple ds) :=
  .tuple (not_held hs (get_size h (Nat.le_refl _))) (Heap.get?_push_size _ rfl) (r.keep fun _ _ e => Heap.get?_push_of_some _ e)
end

section
variable {Γ : Ctx} {s : Shared}

/-- items, one after the other -/
structure Evs (Γ : Ctx) (p : Pos) (es : List Expr) (ds : List D) : Prop where
  run : ∀ s, Γ.At s.heap → Tr Γ (spliced (backTo p (starEach es Γ.env))) (fun vs h => Γ.Rs h vs ds) s
theorem evs_nil {p : Pos} : Evs Γ p [] [] := .mk fun s _ => wpAny_items_nil ⟨Kp.refl s, .nil⟩
noncomputable def plainE : Expr → Bool
  | .Starred .. => false
  | _ => true
theorem starEach_plain {e : Expr} {r : List Expr} {env : Env} (h : plainE e = true) : starEach (e :: r) env = (false, eval e env) :: starEach r env := by
  (first | obtain ⟨_, rfl⟩ := e.atom | exact (nsE e).elim | exact (snE e).elim | exact (ftE e).elim | cases e) <;> first | rfl | (first | obtain ⟨_, rfl⟩ := h.atom | exact (nsE h).elim | exact (snE h).elim | exact (ftE h).elim | cases h)
theorem any_plain {env : Env} : ∀ {es : List Expr}, es.all plainE = true → (starEach es env).any (·.1) = false
  | [], _ => rfl
  | e :: r, h => by
    rw [List.all_cons, Bool.and_eq_true] at h
    rw [starEach_plain h.1, List.any_cons, any_plain h.2]; rfl
theorem evs_cons {p : Pos} {e : Expr} {r : List Expr} {d : D} {ds : List D} (h1 : Ev Γ e d) (h2 : Evs Γ p r ds) (he : plainE e = true := by rfl) : Evs Γ p (e :: r) (d :: ds) := .mk fun s C =>
  wpAny_items_cons ((h1.run s C).then' fun v s₁ k₁ r₁ => (h2.run s₁ (C.go k₁)).then' fun vs s₂ k₂ r₂ => ⟨k₁.trans k₂, .cons (r₁.keep k₂.k) r₂⟩) (starEach_plain he)

theorem ev_list {es : List Expr} {p : Pos} {ds : List D} (h : Evs Γ p es ds) (hz : ds.length ≤ sizeLine) : Ev Γ (.List es p) (.list ds) := .mk fun s C =>
  wpAny_List ((h.run s C).then' fun vs s₁ k₁ r₁ => ⟨by rw [r₁.length]; exact hz, k₁.trans (Kp.push s₁ _), Rep.new_list (C.go k₁).wd.held r₁⟩)
theorem ev_tuple {es : List Expr} {k : Nat} {p : Pos} {ds : List D} (h : Evs Γ p es ds) (hz : ds.length ≤ sizeLine) : Ev Γ (.Tuple es k p) (.tuple ds) := .mk fun s C =>
  wpAny_Tuple ((h.run s C).then' fun vs s₁ k₁ r₁ => ⟨by rw [r₁.length]; exact hz, k₁.trans (Kp.push s₁ _), Rep.new_tuple (C.go k₁).wd.held r₁⟩)

/-- an item: what stands between the two operands and the value -/
noncomputable def SubOn (Γ : Ctx) (value slice : Expr) (d1 d2 d : D) : Prop := Op2 Γ (subscriptTail value slice) d1 d2 d
theorem ev_sub {value slice : Expr} {p : Pos} {d1 d2 d : D} (h1 : Ev Γ value d1) (h2 : Ev Γ slice d2) (ho : SubOn Γ value slice d1 d2 d) : Ev Γ (.Subscript value slice p) d := .mk fun s C =>
  Subscript_ ((h1.run s C).then' fun a s₁ k₁ r₁ => (h2.run s₁ (C.go k₁)).then' fun b s₂ k₂ r₂ => (ho.run a b s₂ ((C.go k₁).go k₂) (r₁.keep k₂.k) r₂).from (k₁.trans k₂))

/-- the subscript is no slice -/
noncomputable def PlainSub (slice : Expr) : Prop := ∀ o i, subscripted slice false o i = operate [o, i] (getItem o i)

theorem sub_list {value slice : Expr} {ds : List D} {k : Int} {d : D} (hp : PlainSub slice) (h0 : 0 ≤ k) (hf : k < 2 ^ 63) (hd : ds[k.toNat]? = some d) : SubOn Γ value slice (.list ds) (.int k) d := by
  refine .mk fun a b s C r₁ r₂ => ?_
  obtain ⟨l, vs, rfl, _, hl, rs⟩ := r₁.list_inv
  (first | obtain ⟨_, rfl⟩ := r₂.atom | exact (nsE r₂).elim | exact (snE r₂).elim | exact (ftE r₂).elim | cases r₂)
  obtain ⟨x, hx, rx⟩ := rs.get hd
  exact tail_any hl.isList.typeIs slot_list_getitem.lookup (wpAny_getItem_list hl.isList h0 hf (by simpa using hx) ⟨Kp.refl s, rx⟩) (hp _ _)
theorem sub_list_neg {value slice : Expr} {ds : List D} {k : Int} {d : D} (hp : PlainSub slice) (h0 : k < 0) (h1 : -(ds.length : Int) ≤ k) (hf : -(2 ^ 63) ≤ k) (hd : ds[(k + ds.length).toNat]? = some d) : SubOn Γ value slice (.list ds) (.int k) d := by
  refine .mk fun a b s C r₁ r₂ => ?_
  obtain ⟨l, vs, rfl, _, hl, rs⟩ := r₁.list_inv
  (first | obtain ⟨_, rfl⟩ := r₂.atom | exact (nsE r₂).elim | exact (snE r₂).elim | exact (ftE r₂).elim | cases r₂)
  obtain ⟨x, hx, rx⟩ := rs.get hd
  have hn := rs.length
  exact tail_any hl.isList.typeIs slot_list_getitem.lookup (wpAny_getItem_list_neg hl.isList h0 (by simpa [hn] using h1) hf (by simpa [hn] using hx) ⟨Kp.refl s, rx⟩) (hp _ _)
theorem sub_tuple {value slice : Expr} {ds : List D} {k : Int} {d : D} (hp : PlainSub slice) (h0 : 0 ≤ k) (hf : k < 2 ^ 63) (hd : ds[k.toNat]? = some d) : SubOn Γ value slice (.tuple ds) (.int k) d := by
  refine .mk fun a b s C r₁ r₂ => ?_
  obtain ⟨l, vs, n, rfl, _, hl, rs⟩ := r₁.tuple_inv
  (first | obtain ⟨_, rfl⟩ := r₂.atom | exact (nsE r₂).elim | exact (snE r₂).elim | exact (ftE r₂).elim | cases r₂)
  obtain ⟨x, hx, rx⟩ := rs.get hd
  have hlt : k.toNat < vs.length := by
    rcases Nat.lt_or_ge k.toNat vs.length with q | q
    · exact q
    · rw [List.getElem?_eq_none q] at hx; (first | obtain ⟨_, rfl⟩ := hx.atom | exact (nsE hx).elim | exact (snE hx).elim | exact (ftE hx).elim | cases hx)
  have hj : seqIndex? k vs.length = some k.toNat := by
    unfold seqIndex?
    rw [if_neg (Int.not_lt.mpr h0)]
    have : (decide (0 ≤ k) && decide (k < (vs.length : Int))) = true := by simp; omega
    simp only [this, if_true]
  exact item_tupleT (isTup hl) (by omega) hf hj hx ⟨Kp.refl s, rx⟩ (hp _ _)

/-- parts of a slice -/
noncomputable def partD : Option Int → D
  | none => .none
  | some i => .int i
structure EvPart (Γ : Ctx) (x : Option Expr) (i : Option Int) : Prop where
  run : ∀ s, Γ.At s.heap → Tr Γ (evalPart x Γ.env) (fun v _ => IsPart v i) s
theorem part_none : EvPart Γ none none := .mk fun s _ => by rw [evalPart_none]; exact Tr.pure .none
theorem part_some {e : Expr} {i : Int} (h : Ev Γ e (.int i)) : EvPart Γ (some e) (some i) := .mk fun s C => by
  rw [evalPart_some]; exact (h.run s C).mono fun v _ r => by (first | obtain ⟨_, rfl⟩ := r.atom | exact (nsE r).elim | exact (snE r).elim | exact (ftE r).elim | cases r); exact .int _ _

theorem pick_rep {h : Heap} {vs : List Value} {ds : List D} (r : RepAll Γ.prog Γ.w Γ.S h vs ds) (rng : List Nat) :
    RepAll Γ.prog Γ.w Γ.S h (rng.filterMap fun i => vs[i]?) (rng.filterMap fun i => ds[i]?) := by
  induction rng with
  | nil => exact .nil
  | cons i t ih =>
    rw [List.filterMap_cons, List.filterMap_cons]
    cases hv : vs[i]? with
    | none =>
      have : ds[i]? = none := by
        cases hd : ds[i]? with
        | none => rfl
        | some d => obtain ⟨v, e, _⟩ := r.get hd; rw [hv] at e; (first | obtain ⟨_, rfl⟩ := e.atom | exact (nsE e).elim | exact (snE e).elim | exact (ftE e).elim | cases e)
      rw [this]; exact ih
    | some v =>
      obtain ⟨d, e, rd⟩ := r.get' hv
      rw [e]; exact .cons rd ih

/-- a slice without a step, a slice with one -/
noncomputable def cut {α : Type} (xs : List α) (lo hi : Option Int) : List α := (xs.drop (kms_lo lo xs.length)).take (kms_hi hi xs.length - kms_lo lo xs.length)
noncomputable def cutBy {α : Type} (xs : List α) (lo hi st : Option Int) : List α :=
  (sliceRange (sliceBounds lo hi st xs.length).1 (sliceBounds lo hi st xs.length).2.1 (sliceBounds lo hi st xs.length).2.2).filterMap fun i => xs[i]?

theorem ev_slice {value : Expr} {lower upper : Option Expr} {p q : Pos} {ds : List D} {lo hi : Option Int} (h1 : Ev Γ value (.list ds)) (h2 : EvPart Γ lower lo) (h3 : EvPart Γ upper hi) (hz : ds.length ≤ sizeLine) :
    Ev Γ (.Subscript value (.Slice lower upper none q) p) (.list (cut ds lo hi)) := .mk fun s C => by
  refine Subscript_ ((h1.run s C).then' fun a s₁ k₁ r₁ => wpAny_Slice ((h2.run s₁ (C.go k₁)).then' fun vl s₂ k₂ pl => (h3.run s₂ ((C.go k₁).go k₂)).then' fun vu s₃ k₃ pu => ?_))
  rw [evalPart_none]
  refine wpAny_pure ?_
  have C₃ := ((C.go k₁).go k₂).go k₃
  obtain ⟨l, vs, rfl, _, hl, rs⟩ := (r₁.keep (k₂.trans k₃).k).list_inv
  have hl' : (s₃.heap.push { cls := .type "slice", data := .fields #[vl, vu, .none] }).PlainList l vs.toArray := let ⟨n, e⟩ := hl; ⟨n, Heap.get?_push_of_some _ e⟩
  have kp := Kp.push s₃ { cls := .type "slice", data := .fields #[vl, vu, .none] }
  have hn := rs.length
  refine tail_any hl'.isList.typeIs slot_list_getitem.lookup (wpAny_getItem_list_slice hl'.isList (Heap.IsSliceOf.new _ _ _ _) pl pu .none (by intro e; (first | obtain ⟨_, rfl⟩ := e.atom | exact (nsE e).elim | exact (snE e).elim | exact (ftE e).elim | cases e)) ⟨(((k₁.trans k₂).trans k₃).trans kp).trans (Kp.push _ _), ?_⟩ (by simpa [hn] using hz)) (ops := [_, _]) rfl
  rw [kms_pick_eq]
  refine Rep.new_list (C₃.go kp).wd.held ?_
  unfold kms_pick cut
  rw [← hn]
  exact ((rs.keep kp.k).drop _).take _

theorem ev_sliceBy {value : Expr} {lower upper : Option Expr} {step : Expr} {p q : Pos} {ds : List D} {lo hi : Option Int} {st : Int} (h1 : Ev Γ value (.list ds)) (h2 : EvPart Γ lower lo) (h3 : EvPart Γ upper hi) (h4 : Ev Γ step (.int st)) (h0 : st ≠ 0) (hz : ds.length ≤ sizeLine) :
    Ev Γ (.Subscript value (.Slice lower upper (some step) q) p) (.list (cutBy ds lo hi (some st))) := .mk fun s C => by
  refine Subscript_ ((h1.run s C).then' fun a s₁ k₁ r₁ => wpAny_Slice ((h2.run s₁ (C.go k₁)).then' fun vl s₂ k₂ pl => (h3.run s₂ ((C.go k₁).go k₂)).then' fun vu s₃ k₃ pu => ((part_some h4).run s₃ (((C.go k₁).go k₂).go k₃)).then' fun vt s₄ k₄ pt => ?_))
  have C₄ := (((C.go k₁).go k₂).go k₃).go k₄
  obtain ⟨l, vs, rfl, _, hl, rs⟩ := (r₁.keep ((k₂.trans k₃).trans k₄).k).list_inv
  have hl' : (s₄.heap.push { cls := .type "slice", data := .fields #[vl, vu, vt] }).PlainList l vs.toArray := let ⟨n, e⟩ := hl; ⟨n, Heap.get?_push_of_some _ e⟩
  have kp := Kp.push s₄ { cls := .type "slice", data := .fields #[vl, vu, vt] }
  have hn := rs.length
  refine tail_any hl'.isList.typeIs slot_list_getitem.lookup (wpAny_getItem_list_slice hl'.isList (Heap.IsSliceOf.new _ _ _ _) pl pu pt (by intro e; (first | obtain ⟨_, rfl⟩ := e.atom | exact (nsE e).elim | exact (snE e).elim | exact (ftE e).elim | cases e); exact h0 rfl) ⟨((((k₁.trans k₂).trans k₃).trans k₄).trans kp).trans (Kp.push _ _), ?_⟩ (by simpa [hn] using hz)) (ops := [_, _]) rfl
  unfold slicePick
  refine Rep.new_list (C₄.go kp).wd.held ?_
  unfold cutBy
  rw [← hn]
  have := pick_rep (rs.keep kp.k) (sliceRange (sliceBounds lo hi (some st) vs.length).1 (sliceBounds lo hi (some st) vs.length).2.1 (sliceBounds lo hi (some st) vs.length).2.2)
  simpa using this

theorem op_addL {xs ys : List D} (hz : xs.length + ys.length ≤ sizeLine) : Op2 Γ (binaryOp .Add) (.list xs) (.list ys) (.list (xs ++ ys)) := by
  refine .mk fun a b s C r₁ r₂ => ?_
  obtain ⟨l, vs, rfl, _, ⟨n, hl⟩, rs⟩ := r₁.list_inv
  obtain ⟨m, us, rfl, _, ⟨n', hm⟩, qs⟩ := r₂.list_inv
  refine P.add_list hl hm ⟨Kp.push _ _, ?_⟩ (by simpa [rs.length, qs.length] using hz)
  have := Rep.new_list C.wd.held (rs.append qs)
  simpa using this
end
-- part PL4
/-- what a call of f with such arguments gives back, wherever it is made -/
structure Fn (K : Frag) (prog : Program) (w : World) (n : Nat) (f : Value) (ds : List D) (d : D) : Prop where
  run : ∀ (A : Around) (base : Heap) (S : Addr → Prop) (s : Shared) (vals : List Value), RoomA n A → Wd K base S s.heap → RepAll prog w S s.heap vals ds →
    wpAny (model prog w) A (call f vals) (fun v s' => Kp s s' ∧ Rep prog w S s'.heap v d) (fun _ _ => False) s

/-- what a call may be made of -/
noncomputable def Callable (K : Frag) (f : Value) : Prop := match f with
  | .builtin _ => True
  | .type _ => True
  | .ref a => keepIn K (.ref a) = true
  | _ => False

theorem RoomA.deeper {n : Nat} {A : Around} (r : RoomA (n + 1) A) (env : Env) : RoomA n (A.deeper env) := ⟨r.1, by have := r.2.1; simp only [Around.deeper]; omega, by have := r.2.2; simp only [Around.deeper]; omega⟩

theorem keeper_of {M : Model} {K : Frag} {f : Value} (c : Callable K f) (h : Heap) (X : K.In h) : ∃ k, (k = Keeper.frame ∨ k = Keeper.machine ∨ k = Keeper.boundFrame) ∧ Looks M h (keeperOf f) k := by
  cases f with
  | builtin id => exact ⟨.machine, .inr (.inl rfl), .of_pure rfl⟩
  | type T => exact ⟨.machine, .inr (.inl rfl), .of_pure rfl⟩
  | ref a => exact keeps_K c h X
  | _ => exact c.elim

section
variable {Γ : Ctx} {s : Shared}

theorem backTo_plain : ∀ (p : Pos) (l : List (Bool × Sem Value)), (backTo p l).any (·.1) = l.any (·.1) := by
  intro p l
  induction l with
  | nil => rfl
  | cons x l ih =>
    obtain ⟨b, t⟩ := x
    show (b || (backTo p l).any (·.1)) = (b || l.any (·.1))
    rw [ih]

theorem evalArgs_any {M : Model} {A : Around} {E : Value → Shared → Prop} {f : Value} {args : List (Bool × Sem Value)} {Q : Args → Shared → Prop} (hp : args.any (·.1) = false)
    (h : wpAny M A (spliced args) (fun vs s' => Q ⟨vs, []⟩ s') E s) : wpAny M A (evalArgs f true args []) Q E s := by
  cases args with
  | nil =>
    unfold evalArgs
    show wpAny M A (spliced [] >>= _) Q E s
    refine wpAny_bind (wpAny_mono h (fun vs s' h' => ?_) fun _ _ x => x)
    exact wpAny_bind (wpAny_pure (wpAny_holding (wpAny_bind (wpAny_pure (wpAny_bind (wpAny_pure (wpAny_pure h')))))))
  | cons x r =>
    obtain ⟨b, t⟩ := x
    cases b with
    | true => simp at hp
    | false => exact Calls.evalArgs_plain h

theorem spliced_args {p q : Pos} {f : Value} {first : List Value} {es : List Expr} {ds : List D} {Q : Value → Shared → Prop} (C : Γ.At s.heap) (hc : Callable Γ.K f) (h : Evs Γ q es ds) (hp : (starEach es Γ.env).any (·.1) = false)
    (k : ∀ vs s₁, Kp s s₁ → Γ.Rs s₁.heap vs ds → wpAny (model Γ.prog Γ.w) Γ.A (call f (first ++ vs)) Q (fun _ _ => False) s₁) :
    wpAny (model Γ.prog Γ.w) Γ.A (callWith p f first (backTo q (starEach es Γ.env)) []) Q (fun _ _ => False) s :=
  callWith_of (P := fun h => Γ.K.In h) (by rw [backTo_plain, hp]; rfl) (fun h X => keeper_of hc h X)
    (evalArgs_any (by rw [backTo_plain, hp]) ((h.run s C).then' fun vs s₁ k₁ r₁ => ⟨(C.go k₁).wd.glh.inn, k vs s₁ k₁ r₁⟩))

/-- a call of a name's value with plain arguments -/
theorem ev_call {x : Str} {px p : Pos} {es : List Expr} {ds : List D} {f : Value} {d : D} (hf : Ev Γ (.Name x px) (.raw f)) (hc : Callable Γ.K f) (h : Evs Γ p es ds) (F : Fn Γ.K Γ.prog Γ.w Γ.n f ds d)
    (hp : List.all es plainE = true := by rfl) : Ev Γ (.Call (.Name x px) es [] p) d := .mk fun s C => by
  refine wpAny_Call_Name_kw ((hf.run s C).then' fun v s₁ k₁ r₁ => ?_)
  (first | obtain ⟨_, rfl⟩ := r₁.atom | exact (nsE r₁).elim | exact (snE r₁).elim | exact (ftE r₁).elim | cases r₁)
  show wpAny _ _ (callWith p f [] (backTo p (starEach es Γ.env)) []) _ _ _
  exact spliced_args (C.go k₁) hc h (any_plain hp) fun vs s₂ k₂ r₂ => by
    have C₂ := (C.go k₁).go k₂
    exact wpAny_mono (F.run Γ.A Γ.base Γ.S s₂ vs C₂.room C₂.wd r₂) (fun _ _ q => ⟨(k₁.trans k₂).trans q.1, q.2⟩) fun _ _ x => x
end

section
variable {K : Frag} {prog : Program} {w : World} {n : Nat}

inductive OneRep (prog : Program) (w : World) (S : Addr → Prop) (h : Heap) (vs : List Value) (d : D) : Prop
  | mk (v : Value) (e : vs = [v]) (r : Rep prog w S h v d) : OneRep prog w S h vs d
inductive TwoRep (prog : Program) (w : World) (S : Addr → Prop) (h : Heap) (vs : List Value) (d e : D) : Prop
  | mk (v u : Value) (z : vs = [v, u]) (r : Rep prog w S h v d) (q : Rep prog w S h u e) : TwoRep prog w S h vs d e
theorem RepAll.one {S : Addr → Prop} {h : Heap} {vs : List Value} {d : D} (r : RepAll prog w S h vs [d]) : OneRep prog w S h vs d := by
  cases r with
  | cons a r => (first | obtain ⟨_, rfl⟩ := r.atom | exact (nsE r).elim | exact (snE r).elim | exact (ftE r).elim | cases r); exact ⟨_, rfl, a⟩
theorem RepAll.two {S : Addr → Prop} {h : Heap} {vs : List Value} {d e : D} (r : RepAll prog w S h vs [d, e]) : TwoRep prog w S h vs d e := by
  cases r with
  | cons a r =>
    cases r with
    | cons b r => (first | obtain ⟨_, rfl⟩ := r.atom | exact (nsE r).elim | exact (snE r).elim | exact (ftE r).elim | cases r); exact ⟨_, _, rfl, a, b⟩

theorem fn_len_list {ds : List D} (hz : ds.length ≤ 16384) : Fn K prog w n (.builtin "len") [.list ds] (.int ds.length) := .mk fun A base S s vals hr hw r => by
  obtain ⟨v, rfl, r₁⟩ := r.one
  obtain ⟨l, vs, rfl, _, hl, rs⟩ := r₁.list_inv
  have e := rs.length
  exact kun_lenL hl.isList (k := (ds.length : Int)) (by simp [e]) (by omega) ⟨Kp.toks s _, .int _ _⟩
theorem items_of {vs : List Value} {ns : List Int} (hi : IntsAre vs ns) : ∃ xs : Array (Int × Tok), vs.toArray = intItems xs ∧ ns = xs.toList.map (·.1) := by
  obtain ⟨xs, e⟩ := hi.allInts.items
  exact ⟨xs, e, by rw [← hi.numsOf, ← nums_intItems, ← e]⟩

theorem fn_sum {ns : List Int} : Fn K prog w n (.builtin "sum") [.list (ns.map .int)] (.int ns.sum) := .mk fun A base S s vals hr hw r => by
  obtain ⟨v, rfl, r₁⟩ := r.one
  obtain ⟨l, vs, rfl, _, hl, rs⟩ := r₁.list_inv
  obtain ⟨xs, e, e2⟩ := items_of rs.ints
  rw [e] at hl
  refine sum_intListG hr.1 hl.isList fun h' tk t' hk => ⟨Kp.both s h' tk hk, ?_⟩
  rw [preSum_eq, List.take_of_length_le (by simp), ← e2]
  exact .int _ _
/-- the greatest, the least -/
noncomputable def IsMax (M : Int) (ns : List Int) : Prop := M ∈ ns ∧ ∀ a ∈ ns, a ≤ M
noncomputable def IsMin (M : Int) (ns : List Int) : Prop := M ∈ ns ∧ ∀ a ∈ ns, M ≤ a
theorem IsMax.uniq {M M' : Int} {ns : List Int} (a : IsMax M ns) (b : IsMax M' ns) : M = M' := Int.le_antisymm (b.2 _ a.1) (a.2 _ b.1)
theorem fn_max {ns : List Int} {M : Int} (hM : IsMax M ns) : Fn K prog w n (.builtin "max") [.list (ns.map .int)] (.int M) := .mk fun A base S s vals hr hw r => by
  obtain ⟨v, rfl, r₁⟩ := r.one
  obtain ⟨l, vs, rfl, _, hl, rs⟩ := r₁.list_inv
  obtain ⟨xs, e, e2⟩ := items_of rs.ints
  rw [e] at hl
  have hsz : 0 < xs.size := by
    have : 0 < ns.length := List.length_pos_of_mem hM.1
    rw [e2, List.length_map, Array.length_toList] at this; exact this
  refine max_intList hr.1 hl.isList hsz fun v h' tk hv hk => ⟨Kp.both s h' tk hk, ?_⟩
  obtain ⟨t, rfl⟩ := intItems_at hv
  obtain ⟨h1, h2⟩ := argBest_gt (numAt xs) (xs.size - 1)
  have : IsMax (numAt xs (argBest (fun i j => decide (numAt xs i > numAt xs j)) (xs.size - 1))) ns := by
    refine ⟨?_, fun a ha => ?_⟩
    · rw [e2, numAt_eq]; exact getD_mem (by rw [List.length_map, Array.length_toList]; omega)
    · rw [e2] at ha
      obtain ⟨j, hj, rfl⟩ := mem_getD ha
      rw [List.length_map, Array.length_toList] at hj
      rw [← numAt_eq]; exact h2 j (by omega)
  rw [this.uniq hM]; exact .int _ _
theorem fn_abs {i : Int} : Fn K prog w n (.builtin "abs") [.int i] (.int (if i < 0 then -i else i)) := .mk fun A base S s vals hr hw r => by
  obtain ⟨v, rfl, r₁⟩ := r.one
  (first | obtain ⟨_, rfl⟩ := r₁.atom | exact (nsE r₁).elim | exact (snE r₁).elim | exact (ftE r₁).elim | cases r₁)
  exact call_abs_int fun u tk => ⟨Kp.toks s _, .int _ _⟩
theorem fn_isi_int_bool {i : Int} : Fn K prog w n (.builtin "isinstance") [.int i, .raw (.type "bool")] (.bool false) := .mk fun A base S s vals hr hw r => by
  obtain ⟨v, u, rfl, r₁, q⟩ := r.two
  (first | obtain ⟨_, rfl⟩ := r₁.atom | exact (nsE r₁).elim | exact (snE r₁).elim | exact (ftE r₁).elim | cases r₁); (first | obtain ⟨_, rfl⟩ := q.atom | exact (nsE q).elim | exact (snE q).elim | exact (ftE q).elim | cases q)
  exact IsiPair.int_bool ⟨Kp.toks s _, .bool _⟩
theorem fn_isi_int_int {i : Int} : Fn K prog w n (.builtin "isinstance") [.int i, .raw (.type "int")] (.bool true) := .mk fun A base S s vals hr hw r => by
  obtain ⟨v, u, rfl, r₁, q⟩ := r.two
  (first | obtain ⟨_, rfl⟩ := r₁.atom | exact (nsE r₁).elim | exact (snE r₁).elim | exact (ftE r₁).elim | cases r₁); (first | obtain ⟨_, rfl⟩ := q.atom | exact (nsE q).elim | exact (snE q).elim | exact (ftE q).elim | cases q)
  exact IsiPair.int_int ⟨Kp.refl s, .bool _⟩
theorem fn_isi_int_tuple {i : Int} : Fn K prog w n (.builtin "isinstance") [.int i, .raw (.type "tuple")] (.bool false) := .mk fun A base S s vals hr hw r => by
  obtain ⟨v, u, rfl, r₁, q⟩ := r.two
  (first | obtain ⟨_, rfl⟩ := r₁.atom | exact (nsE r₁).elim | exact (snE r₁).elim | exact (ftE r₁).elim | cases r₁); (first | obtain ⟨_, rfl⟩ := q.atom | exact (nsE q).elim | exact (snE q).elim | exact (ftE q).elim | cases q)
  exact IsiPair.int_tuple ⟨Kp.toks s _, .bool _⟩
theorem fn_isi_list_list {ds : List D} : Fn K prog w n (.builtin "isinstance") [.list ds, .raw (.type "list")] (.bool true) := .mk fun A base S s vals hr hw r => by
  obtain ⟨v, u, rfl, r₁, q⟩ := r.two
  (first | obtain ⟨_, rfl⟩ := q.atom | exact (nsE q).elim | exact (snE q).elim | exact (ftE q).elim | cases q)
  obtain ⟨l, vs, rfl, _, ⟨c, hl⟩, rs⟩ := r₁.list_inv
  exact IsiPair.list_list hl rfl ⟨Kp.refl s, .bool _⟩
end
-- part T1
/-- what a turn of a comprehension does behind the item: bind, test, go on -/
noncomputable def tests (ifs : List Expr) (env : Env) : Sem Bool :=
  forIn ifs true fun c r => if r = true then do let ok ← isTrue c env (eval c env); pure (ForInStep.yield ok) else pure (ForInStep.yield r)
noncomputable def turnBody (target : Expr) (ifs : List Expr) (env : Env) (kt fin : Sem Fin) (v : Value) : Sem Fin :=
  assign target env v >>= fun _ => tests ifs env >>= fun ok => if ok = true then kt else fin
noncomputable def turnAt (ip : Pos) (target : Expr) (ifs : List Expr) (env : Env) (kt fin : Sem Fin) (it : Value) : Sem Fin :=
  standAt ip >>= fun _ => pyNext it >>= fun r => match r with
      | none => pure (.done .next)
      | some v => letOwnedTupleGo target it v >>= fun _ => turnBody target ifs env kt fin v
noncomputable def emitL (elt : Expr) (acc : Value) (env : Env) : Sem Unit := do
  let x ← eval elt env
  let _ ← call (.builtin "list.append") [acc, x]
  pure ()
noncomputable def emitD (kx vx : Expr) (D : Addr) (env : Env) : Sem Unit := do
  let kv ← eval kx env
  let vv ← holding [kv] (eval vx env)
  standAt { kx.pos with endLine := vx.pos.endLine, endCol := vx.pos.endCol }
  holding [kv, vv] (dictSet D kv vv)
noncomputable def goIn (e : Expr) (depth : Nat) (iter : Expr) (acc : Value) (env : Env) (fin : Sem Fin) : Sem Fin := do
  let x ← eval iter env
  standAt iter.pos
  let x ← foldedSetIterable iter env x
  let it ← holding [x] (pyIter x)
  let _ ← runOwn (.compStart e depth it acc env) env
  fin

theorem turn_list1 (elt target iter : Expr) (ifs : List Expr) (scope : Scope) (pos : Pos) (it acc : Value) (env : Env) :
    compTurn (.ListComp elt [⟨target, iter, ifs, 0⟩] scope pos) 0 it acc env =
      turnAt iter.pos target ifs env (emitL elt acc env >>= fun _ => again (.compLoop (.ListComp elt [⟨target, iter, ifs, 0⟩] scope pos) 0 it acc env)) (again (.compLoop (.ListComp elt [⟨target, iter, ifs, 0⟩] scope pos) 0 it acc env)) it := by rfl
theorem turn_list2a (elt target iter target2 iter2 : Expr) (ifs ifs2 : List Expr) (scope : Scope) (pos : Pos) (it acc : Value) (env : Env) :
    compTurn (.ListComp elt [⟨target, iter, ifs, 0⟩, ⟨target2, iter2, ifs2, 0⟩] scope pos) 0 it acc env =
      turnAt iter.pos target ifs env (goIn (.ListComp elt [⟨target, iter, ifs, 0⟩, ⟨target2, iter2, ifs2, 0⟩] scope pos) 1 iter2 acc env (again (.compLoop (.ListComp elt [⟨target, iter, ifs, 0⟩, ⟨target2, iter2, ifs2, 0⟩] scope pos) 0 it acc env)))
        (again (.compLoop (.ListComp elt [⟨target, iter, ifs, 0⟩, ⟨target2, iter2, ifs2, 0⟩] scope pos) 0 it acc env)) it := by rfl
theorem turn_list2b (elt target iter target2 iter2 : Expr) (ifs ifs2 : List Expr) (scope : Scope) (pos : Pos) (it acc : Value) (env : Env) :
    compTurn (.ListComp elt [⟨target, iter, ifs, 0⟩, ⟨target2, iter2, ifs2, 0⟩] scope pos) 1 it acc env =
      turnAt iter2.pos target2 ifs2 env (emitL elt acc env >>= fun _ => again (.compLoop (.ListComp elt [⟨target, iter, ifs, 0⟩, ⟨target2, iter2, ifs2, 0⟩] scope pos) 1 it acc env))
        (again (.compLoop (.ListComp elt [⟨target, iter, ifs, 0⟩, ⟨target2, iter2, ifs2, 0⟩] scope pos) 1 it acc env)) it := by rfl
theorem turn_dict1 (kx vx target iter : Expr) (ifs : List Expr) (scope : Scope) (pos : Pos) (it : Value) (D : Addr) (env : Env) :
    compTurn (.DictComp kx vx [⟨target, iter, ifs, 0⟩] scope pos) 0 it (.ref D) env =
      turnAt iter.pos target ifs env (emitD kx vx D env >>= fun _ => again (.compLoop (.DictComp kx vx [⟨target, iter, ifs, 0⟩] scope pos) 0 it (.ref D) env)) (again (.compLoop (.DictComp kx vx [⟨target, iter, ifs, 0⟩] scope pos) 0 it (.ref D) env)) it := by rfl
-- part PL5
theorem ns_uniq {h : Heap} {a : Addr} {m m' : Str → Option Value} (x : h.Ns a m) (y : h.Ns a m') : ∀ n, m n = m' n := fun n => by
  obtain ⟨o, es, ep, ho, hd, _, hm⟩ := x
  obtain ⟨o', es', ep', ho', hd', _, hm'⟩ := y
  rw [ho] at ho'; (first | obtain ⟨_, rfl⟩ := ho'.atom | exact (nsE ho').elim | exact (snE ho').elim | exact (ftE ho').elim | cases ho')
  rw [hd] at hd'; (first | obtain ⟨_, rfl⟩ := hd'.atom | exact (nsE hd').elim | exact (snE hd').elim | exact (ftE hd').elim | cases hd')
  rw [← hm, ← hm']

noncomputable def Ctx.set (Γ : Ctx) (x : Str) (d : D) : Ctx := { Γ with ρ := fun y => if y = x then some d else Γ.ρ y }
noncomputable def Ctx.setAll (Γ : Ctx) : List (Str × D) → Ctx
  | [] => Γ
  | (x, d) :: r => (Γ.set x d).setAll r

/-- the name may be stored to -/
noncomputable def Slot (Γ : Ctx) (h : Heap) (x : Str) : Prop :=
  (Γ.env.kindOf x = some .local ∧ (∃ m, h.Ns Γ.env.locals m) ∧ Γ.S Γ.env.locals) ∨
  (Γ.env.kindOf x = some .cell ∧ ∃ c v, Γ.env.cells.lookup x = some c ∧ h.IsCell c v ∧ Γ.S c)

/-- the names tg at the most have been stored to -/
structure Wr (Γ : Ctx) (tg : List Str) (s s' : Shared) : Prop where
  same : Sm s s'
  off : ∀ b o, b ≠ Γ.env.locals → (∀ x ∈ tg, Γ.env.cells.lookup x ≠ some b) → s.heap.get? b = some o → s'.heap.get? b = some o
  slot : ∀ y, Slot Γ s.heap y → Slot Γ s'.heap y
  ext : Ext Γ.S s.heap s'.heap
  ns : (∃ m, s.heap.Ns Γ.env.locals m) → ∃ m, s'.heap.Ns Γ.env.locals m

theorem Wr.of_kp {Γ : Ctx} {tg : List Str} {s s' : Shared} (k : Kp s s') : Wr Γ tg s s' :=
  ⟨k.1, fun b o _ _ e => k.k b o e, fun y q => by
    rcases q with ⟨a, ⟨m, hm⟩, c⟩ | ⟨a, c, v, e, hc, d⟩
    · exact .inl ⟨a, ⟨m, hm.keeps k.k⟩, c⟩
    · exact .inr ⟨a, c, v, e, hc.keeps k.k, d⟩, Ext.of_keep k.k, fun ⟨m, q⟩ => ⟨m, q.keeps k.k⟩⟩
theorem Wr.trans {Γ : Ctx} {tg : List Str} {a b c : Shared} (x : Wr Γ tg a b) (y : Wr Γ tg b c) : Wr Γ tg a c :=
  ⟨x.same.trans y.same, fun b o h1 h2 e => y.off b o h1 h2 (x.off b o h1 h2 e), fun z q => y.slot z (x.slot z q), x.ext.trans y.ext, fun q => y.ns (x.ns q)⟩
theorem Wr.more {Γ : Ctx} {tg tg' : List Str} {a b : Shared} (x : Wr Γ tg a b) (l : ∀ y ∈ tg, y ∈ tg') : Wr Γ tg' a b := ⟨x.same, fun b o h1 h2 e => x.off b o h1 (fun y hy => h2 y (l y hy)) e, x.slot, x.ext, x.ns⟩

section
variable {Γ : Ctx} {s : Shared} {M : Model} {E : Value → Shared → Prop}

theorem store_rule {A : Around} {x : Str} {v : Value} {d : D} {Q : Unit → Shared → Prop} (C : Γ.At s.heap) (sl : Slot Γ s.heap x) (r : Γ.R s.heap v d)
    (k : ∀ s', Wr Γ [x] s s' → (Γ.set x d).At s'.heap → Q () s') : wpAny M A (storeName Γ.env x v) Q E s := by
  rcases sl with ⟨hk, ⟨m, hm⟩, hS⟩ | ⟨hk, c, v₀, hl, hc, hS⟩
  · refine wpAny_storeName_local hk hm (fun h' hn hs => k _ ⟨⟨rfl, rfl⟩, fun b o h1 _ e => hs.extBut b o h1 e, fun y q => ?_, Ext.sameBut hs hS, fun _ => ⟨_, hn⟩⟩ ?_) (by rw [C.kind]; rfl)
    · rcases q with ⟨a, _, c⟩ | ⟨a, c, v, e, hc, d⟩
      · exact .inl ⟨a, ⟨_, hn⟩, c⟩
      · exact .inr ⟨a, c, v, e, hc.sameBut hs (C.sep.2 y c e), d⟩
    · have he : Ext Γ.S s.heap h' := Ext.sameBut hs hS
      have hL : (h'.get? Γ.env.locals).isSome = true := let ⟨o, _, _, ho, _⟩ := hn; by rw [ho]; rfl
      refine ⟨C.wd.ext he fun a ha => ?_, C.kind, C.globals, C.builtins, C.room, C.sep, fun y c' e => ?_, fun y e q => ?_⟩
      · by_cases ea : a = Γ.env.locals
        · rw [ea]; exact hL
        · rw [hs.2 a ea]; exact C.wd.held a ha
      · have := C.cin y c' e; rw [hs.2 c' (C.sep.2 y c' e)]; exact this
      · show ∃ v, Has h' Γ.env y v ∧ Rep Γ.prog Γ.w Γ.S h' v e
        have q' : (if y = x then some d else Γ.ρ y) = some e := q
        by_cases hy : y = x
        · rw [if_pos hy] at q'; (first | obtain ⟨_, rfl⟩ := q'.atom | exact (nsE q').elim | exact (snE q').elim | exact (ftE q').elim | cases q')
          subst hy
          exact ⟨v, .inl ⟨hk, _, hn, by simp⟩, r.ext he⟩
        · rw [if_neg hy] at q'
          obtain ⟨v', hv', rv⟩ := C.vars y e q'
          refine ⟨v', ?_, rv.ext he⟩
          rcases hv' with ⟨a, m', n, em⟩ | ⟨a, c, l, n⟩
          · exact .inl ⟨a, _, hn, by simp only [hy, if_false]; rw [ns_uniq hm n y]; exact em⟩
          · exact .inr ⟨a, c, l, n.sameBut hs (C.sep.2 y c l)⟩
  · have hcl : c ≠ Γ.env.locals := C.sep.2 x c hl
    refine wpAny_storeName_cell C.kind hk hl hc fun h' hn hs => k _ ⟨⟨rfl, rfl⟩, fun b o _ h2 e => hs.extBut b o (fun q => h2 x (.head _) (q ▸ hl)) e, fun y q => ?_, Ext.sameBut hs hS, fun ⟨m, q⟩ => ⟨m, q.sameBut hs (Ne.symm hcl)⟩⟩ ?_
    · rcases q with ⟨a, ⟨m, hm⟩, c'⟩ | ⟨a, c', v', e, hc', d'⟩
      · exact .inl ⟨a, ⟨m, hm.sameBut hs (Ne.symm hcl)⟩, c'⟩
      · by_cases ec : c' = c
        · subst ec; exact .inr ⟨a, c', _, e, hn, d'⟩
        · exact .inr ⟨a, c', v', e, hc'.sameBut hs ec, d'⟩
    · have he : Ext Γ.S s.heap h' := Ext.sameBut hs hS
      have hL : (h'.get? c).isSome = true := let ⟨o, ho, _⟩ := hn; by rw [ho]; rfl
      refine ⟨C.wd.ext he fun a ha => ?_, C.kind, C.globals, C.builtins, C.room, C.sep, fun y c' e => ?_, fun y e q => ?_⟩
      · by_cases ea : a = c
        · rw [ea]; exact hL
        · rw [hs.2 a ea]; exact C.wd.held a ha
      · by_cases ec : c' = c
        · rw [ec]; exact hL
        · rw [hs.2 c' ec]; exact C.cin y c' e
      · show ∃ v, Has h' Γ.env y v ∧ Rep Γ.prog Γ.w Γ.S h' v e
        have q' : (if y = x then some d else Γ.ρ y) = some e := q
        by_cases hy : y = x
        · rw [if_pos hy] at q'; (first | obtain ⟨_, rfl⟩ := q'.atom | exact (nsE q').elim | exact (snE q').elim | exact (ftE q').elim | cases q')
          subst hy
          exact ⟨v, .inr ⟨.inl hk, c, hl, hn⟩, r.ext he⟩
        · rw [if_neg hy] at q'
          obtain ⟨v', hv', rv⟩ := C.vars y e q'
          refine ⟨v', ?_, rv.ext he⟩
          rcases hv' with ⟨a, m', n, em⟩ | ⟨a, c', l, n⟩
          · exact .inl ⟨a, m', n.sameBut hs (Ne.symm hcl), em⟩
          · exact .inr ⟨a, c', l, n.sameBut hs fun q => hy (C.sep.1 y x c (q ▸ l) hl)⟩
end

/-- what the names of a target are bound to -/
inductive Bnd : Expr → D → List (Str × D) → Prop
  | name {x : Str} {p : Pos} {d : D} : Bnd (.Name x p) d [(x, d)]
  | tuple {k : Nat} {p : Pos} {bs : List ((Str × Pos) × D)} : Bnd (.Tuple (bs.map fun b => .Name b.1.1 b.1.2) k p) (.tuple (bs.map (·.2))) (bs.map fun b => (b.1.1, b.2))

structure SameEnv (Γ' Γ : Ctx) : Prop where
  e1 : Γ'.env = Γ.env
  e2 : Γ'.S = Γ.S
  e3 : Γ'.prog = Γ.prog
  e4 : Γ'.w = Γ.w
  e5 : Γ'.A = Γ.A
  e6 : Γ'.K = Γ.K
  e7 : Γ'.n = Γ.n
  e8 : Γ'.base = Γ.base
theorem setAll_env : ∀ (bs : List (Str × D)) (Γ : Ctx), SameEnv (Γ.setAll bs) Γ
  | [], Γ => ⟨rfl, rfl, rfl, rfl, rfl, rfl, rfl, rfl⟩
  | (x, d) :: r, Γ => let y := setAll_env r (Γ.set x d); ⟨y.e1, y.e2, y.e3, y.e4, y.e5, y.e6, y.e7, y.e8⟩

theorem wr_set {Γ : Ctx} {x : Str} {d : D} {tg : List Str} {a b : Shared} (q : Wr (Γ.set x d) tg a b) : Wr Γ tg a b := ⟨q.same, q.off, q.slot, q.ext, q.ns⟩

section
variable {M : Model} {E : Value → Shared → Prop}
noncomputable def bindTo (env : Env) (b : (Str × Pos) × D) (v : Value) : Sem Unit := do standAt b.1.2; bindName env b.1.1 v
theorem assignEach_names : ∀ (bs : List ((Str × Pos) × D)) (env : Env), assignEach (bs.map fun b => Expr.Name b.1.1 b.1.2) env = bs.map fun b => (false, bindTo env b)
  | [], _ => rfl
  | b :: r, env => by
    show (false, assign (.Name b.1.1 b.1.2) env) :: assignEach (r.map fun b => Expr.Name b.1.1 b.1.2) env = _
    rw [assignEach_names r env]; rfl

theorem inOrder {prog : Program} {w : World} {A : Around} : ∀ (bs : List ((Str × Pos) × D)) (vs : List Value) {Γ : Ctx} {s : Shared} {Q : Unit → Shared → Prop}, Γ.prog = prog → Γ.w = w → Γ.At s.heap → (∀ b ∈ bs, Slot Γ s.heap b.1.1) → Γ.Rs s.heap vs (bs.map (·.2)) →
    (∀ s', Wr Γ (bs.map (·.1.1)) s s' → (Γ.setAll (bs.map fun b => (b.1.1, b.2))).At s'.heap → Q () s') →
    wpAny M A (assignInOrder (bs.map (bindTo Γ.env)) vs) Q E s
  | [], vs, Γ, s, Q, _, _, C, _, r, k => by
    (first | obtain ⟨_, rfl⟩ := r.atom | exact (nsE r).elim | exact (snE r).elim | exact (ftE r).elim | cases r)
    exact wpAny_pure (k s (Wr.of_kp (Kp.refl s)) C)
  | b :: bs, vs, Γ, s, Q, hp, hw, C, sl, r, k => by
    cases r with
    | cons a r =>
      rename_i v vs
      refine wpAny_bind (wpAny_holding (wpAny_bind (wpAny_standAt (wpAny_bindName (store_rule C (sl b (.head _)) a fun s₁ W C₁ => ?_)))))
      refine inOrder bs vs (Γ := Γ.set b.1.1 b.2) hp hw C₁ (fun x hx => W.slot _ (sl x (.tail _ hx))) (r.ext W.ext) fun s₂ W₂ C₂ => ?_
      exact k s₂ ((W.more (by simp)).trans ((wr_set W₂).more fun y hy => List.mem_cons_of_mem _ hy)) C₂

theorem assign_rule {prog : Program} {w : World} {A : Around} {Γ : Ctx} {s : Shared} {target : Expr} {v : Value} {d : D} {bs : List (Str × D)} {Q : Unit → Shared → Prop} (hh : A.handled = none) (C : Γ.At s.heap) (b : Bnd target d bs) (sl : ∀ x ∈ bs, Slot Γ s.heap x.1)
    (r : Γ.R s.heap v d) (k : ∀ s', Wr Γ (bs.map (·.1)) s s' → (Γ.setAll bs).At s'.heap → Q () s') : wpAny (model prog w) A (assign target Γ.env v) Q E s := by
  cases b with
  | name => exact wpAny_assign_Name (store_rule C (sl _ (.head _)) r fun s' W C' => k s' W C')
  | tuple =>
    rename_i kk p bs
    obtain ⟨a, vs, n, rfl, _, hl, rs⟩ := r.tuple_inv
    have e := rs.length
    refine wpAny_assign_Tuple hh (items := vs.toArray) ⟨_, hl, rfl, n, rfl⟩ (by rw [assignEach_names]; simpa using e.symm) (by rw [assignEach_names]; simp [List.findIdx?_eq_none_iff]) fun h' he => ?_
    have kp : Kp s { s with heap := h' } := Kp.heap s h' fun p o q => he p o (Nat.ne_of_lt (Heap.lt_size q)) q
    rw [assignEach_names]
    have em : (List.map (fun b : (Str × Pos) × D => ((false : Bool), bindTo Γ.env b)) bs).map (·.2) = bs.map (bindTo Γ.env) := by
      rw [List.map_map]; rfl
    rw [em]
    refine inOrder (prog := Γ.prog) (w := Γ.w) (A := A) bs vs rfl rfl (C.go kp) (fun x hx => (Wr.of_kp (tg := []) kp).slot _ (sl (x.1.1, x.2) (List.mem_map_of_mem hx))) (rs.keep kp.k) fun s₂ W₂ C₂ => ?_
    refine k s₂ (((Wr.of_kp kp).trans W₂).more ?_) C₂
    simp
end
-- part PL6
/-- an iterator over data: what the next item is, what it touches -/
structure It0 (prog : Program) (w : World) (A : Around) (S : Addr → Prop) (h₀ : Heap) (I : Addr) (fp wr : List Addr) (ds : List D) (St : Nat → Heap → Prop) : Prop where
  sub : ∀ b ∈ wr, b ∈ fp
  live : ∀ i h, St i h → ∀ b ∈ wr, (h.get? b).isSome = true
  frame : ∀ i h h', St i h → (∀ b ∈ fp, ∀ o, h.get? b = some o → h'.get? b = some o) → St i h'
  item : ∀ i d (s : Shared) (Q : Option Value → Shared → Prop) (E : Value → Shared → Prop), ds[i]? = some d → St i s.heap →
    (∀ v h' tk, Rep prog w S h₀ v d → St (i + 1) h' → (∀ b o, b ∉ wr → s.heap.get? b = some o → h'.get? b = some o) → Q (some v) { s with heap := h', toks := tk }) → wpAny (model prog w) A (pyNext (.ref I)) Q E s
  done : ∀ (s : Shared) (Q : Option Value → Shared → Prop) (E : Value → Shared → Prop), St ds.length s.heap →
    (∀ h' tk, (∀ b o, b ∉ wr → s.heap.get? b = some o → h'.get? b = some o) → Q none { s with heap := h', toks := tk }) → wpAny (model prog w) A (pyNext (.ref I)) Q E s
  self : ∀ i (s : Shared) (Q : Value → Shared → Prop) (E : Value → Shared → Prop), St i s.heap → Q (.ref I) s → wpAny (model prog w) A (pyIter (.ref I)) Q E s
  go : ∀ i target d bs v (s : Shared) (Q : Unit → Shared → Prop) (E : Value → Shared → Prop), Bnd target d bs → Rep prog w S h₀ v d → St i s.heap → Q () s → wpAny (model prog w) A (letOwnedTupleGo target (.ref I) v) Q E s

/-- an iterator, item and the place for it together -/
structure It (nt : Bool) (prog : Program) (w : World) (A : Around) (S : Addr → Prop) (h₀ : Heap) (I : Addr) (fp wr : List Addr) (ds : List D) (St : Nat → Heap → Prop) : Prop where
  sub : ∀ b ∈ wr, b ∈ fp
  live : ∀ i h, St i h → ∀ b ∈ wr, (h.get? b).isSome = true
  frame : ∀ i h h', St i h → (∀ b ∈ fp, ∀ o, h.get? b = some o → h'.get? b = some o) → St i h'
  done : ∀ (s : Shared) (Q : Option Value → Shared → Prop) (E : Value → Shared → Prop), St ds.length s.heap →
    (∀ h' tk, (∀ b o, b ∉ wr → s.heap.get? b = some o → h'.get? b = some o) → Q none { s with heap := h', toks := tk }) → wpAny (model prog w) A (pyNext (.ref I)) Q E s
  self : ∀ i (s : Shared) (Q : Value → Shared → Prop) (E : Value → Shared → Prop), St i s.heap → Q (.ref I) s → wpAny (model prog w) A (pyIter (.ref I)) Q E s
  step : ∀ i d target bs (s : Shared) (Q : Value → Shared → Prop), (nt = true → ∃ es k p, target = .Tuple es k p) → Bnd target d bs → ds[i]? = some d → St i s.heap →
    (∀ v h' tk, (∀ S' : Addr → Prop, (∀ b, S' b → S b ∨ h₀.get? b = none) → (∀ b, S' b → (s.heap.get? b).isSome = true) → Ext S h₀ h' → Rep prog w S' h' v d) → St (i + 1) h' →
      (∀ b o, b ∉ wr → s.heap.get? b = some o → h'.get? b = some o) → Q v { s with heap := h', toks := tk }) →
    wpAny (model prog w) A (pyNext (.ref I)) (fun r s₁ => ∃ v, r = some v ∧ wpAny (model prog w) A (letOwnedTupleGo target (.ref I) v) (fun _ s₂ => Q v s₂) (fun _ _ => False) s₁) (fun _ _ => False) s
theorem It0.it {prog : Program} {w : World} {A : Around} {S : Addr → Prop} {h₀ : Heap} {I : Addr} {fp wr : List Addr} {ds : List D} {St : Nat → Heap → Prop} (T : It0 prog w A S h₀ I fp wr ds St) : It false prog w A S h₀ I fp wr ds St :=
  ⟨T.sub, T.live, T.frame, T.done, T.self, fun i d target bs s Q _ b hd st k => T.item i d s _ _ hd st fun v h' tk hv st' hk => ⟨v, rfl, T.go (i + 1) target d bs v _ _ _ b hv st' (k v h' tk (fun S' x _ e =>
    hv.move fun b o hb e' => ⟨e b o hb e', fun q => (x b q).elim hb fun n => by rw [n] at e'; (first | obtain ⟨_, rfl⟩ := e'.atom | exact (nsE e').elim | exact (snE e').elim | exact (ftE e').elim | cases e')⟩) st' hk)⟩⟩

theorem It.next {prog : Program} {w : World} {A : Around} {S : Addr → Prop} {h₀ : Heap} {I : Addr} {fp wr : List Addr} {ds : List D} {St : Nat → Heap → Prop} (T : It false prog w A S h₀ I fp wr ds St) {β : Type} {kont : Option Value → Sem β} {f : Value → Sem β}
    {i : Nat} {d : D} {target : Expr} {bs : List (Str × D)} {s : Shared} {Q : β → Shared → Prop} {E : Value → Shared → Prop} (hk : ∀ v, kont (some v) = (letOwnedTupleGo target (.ref I) v >>= fun _ => f v)) (b : Bnd target d bs) (hd : ds[i]? = some d) (st : St i s.heap)
    (k : ∀ v h' tk, (∀ S' : Addr → Prop, (∀ b, S' b → S b ∨ h₀.get? b = none) → (∀ b, S' b → (s.heap.get? b).isSome = true) → Ext S h₀ h' → Rep prog w S' h' v d) → St (i + 1) h' →
      (∀ b o, b ∉ wr → s.heap.get? b = some o → h'.get? b = some o) → wpAny (model prog w) A (f v) Q E { s with heap := h', toks := tk }) :
    wpAny (model prog w) A (pyNext (.ref I)) (fun r s₁ => wpAny (model prog w) A (kont r) Q E s₁) E s :=
  wpAny_mono (T.step i d target bs s (fun v s' => wpAny (model prog w) A (f v) Q E s') (fun e => nomatch e) b hd st k) (fun r s₁ h₁ => by
    obtain ⟨v, rfl, h₁⟩ := h₁
    rw [hk]
    exact wpAny_bind (wpAny_mono h₁ (fun _ _ q => q) fun _ _ x => x.elim)) fun _ _ x => x.elim

/-- what iterating over it hands on -/
noncomputable def IterableN (nt : Bool) (d : D) (ds : List D) : Prop := ∀ (prog : Program) (w : World) (A : Around) (S : Addr → Prop) (s : Shared) (v : Value) (Q : Value → Shared → Prop) (E : Value → Shared → Prop), A.handled = none → Rep prog w S s.heap v d →
  (∀ I fp wr St s₂, Kp s s₂ → It nt prog w A S s.heap I fp wr ds St → St 0 s₂.heap → (∀ b ∈ fp, b < s₂.heap.objs.size) → (∀ b ∈ wr, s.heap.get? b = none) → (∀ b ∈ fp, b ∈ wr ∨ ((s.heap.get? b).isSome = true ∧ ¬ S b)) → Q (.ref I) s₂) → wpAny (model prog w) A (pyIter v) Q E s

noncomputable abbrev Iterable (d : D) (ds : List D) : Prop := IterableN false d ds

theorem bnd_target {target : Expr} {d : D} {bs : List (Str × D)} (b : Bnd target d bs) : (∃ x p, target = .Name x p) ∨ ∃ es k p, target = .Tuple es k p := by
  cases b with
  | name => exact .inl ⟨_, _, rfl⟩
  | tuple => exact .inr ⟨_, _, _, rfl⟩

theorem iterable_list {ds : List D} : Iterable (.list ds) ds := by
  intro prog w A S s v Q E hh r k
  obtain ⟨l, vs, rfl, hSl, hl, rs⟩ := r.list_inv
  have hlt : l < s.heap.objs.size := let ⟨_, e⟩ := hl; Heap.lt_size e
  have hne : l ≠ s.heap.objs.size := Nat.ne_of_lt hlt
  have en := rs.length
  refine wpAny_pyIter_list hl.isList (k s.heap.objs.size [s.heap.objs.size, l] [s.heap.objs.size] (fun i h => h.IsListIter s.heap.objs.size l i ∧ h.IsList l vs.toArray) _ (Kp.push s _) ?_ ⟨⟨_, Heap.get?_push_size _ rfl, rfl, rfl⟩, hl.isList.push _⟩ ?_ ?_ ?_)
  · have W := Walks.list (prog := prog) (w := w) (A := A) hh s.heap.objs.size l hne vs.toArray
    have en' : vs.toArray.size = ds.length := by simpa using en
    refine It0.it ⟨W.sub, fun i h st b hb => ?_, W.frame, fun i d s' Q' E' hd st k' => ?_, fun s' Q' E' st k' => W.done s' Q' E' (en' ▸ st) k', W.self, fun i target d bs v s' Q' E' b rv st q => ?_⟩
    · simp at hb; subst hb; obtain ⟨⟨o, ho, _⟩, _⟩ := st; rw [ho]; rfl
    · have hi : i < ds.length := by
        rcases Nat.lt_or_ge i ds.length with q | q
        · exact q
        · rw [List.getElem?_eq_none q] at hd; (first | obtain ⟨_, rfl⟩ := hd.atom | exact (nsE hd).elim | exact (snE hd).elim | exact (ftE hd).elim | cases hd)
      refine W.item i s' Q' E' (by omega) st fun v h' tk hv st' hk => k' v h' tk ?_ st' hk
      obtain ⟨d', e', rd⟩ := rs.get' (by simpa using hv)
      rw [e'] at hd; (first | obtain ⟨_, rfl⟩ := hd.atom | exact (nsE hd).elim | exact (snE hd).elim | exact (ftE hd).elim | cases hd); exact rd
    · rcases bnd_target b with ⟨x, p, rfl⟩ | ⟨es, k, p, rfl⟩
      · exact wpAny_pure q
      · cases v with
        | ref a => exact wpAny_letOwnedTupleGo_listiter st.1 q
        | _ => exact wpAny_pure q
  · intro b hb
    show b < (s.heap.push _).objs.size
    rw [Heap.size_push]
    rcases List.mem_cons.mp hb with rfl | hb
    · exact Nat.lt_succ_self _
    · rcases List.mem_cons.mp hb with rfl | hb
      · exact Nat.lt_succ_of_lt hlt
      · (first | obtain ⟨_, rfl⟩ := hb.atom | exact (nsE hb).elim | exact (snE hb).elim | exact (ftE hb).elim | cases hb)
  · intro b hb
    simp at hb; subst hb
    exact get_size _ (Nat.le_refl _)
  · intro b hb
    rcases List.mem_cons.mp hb with rfl | hb
    · exact .inl (.head _)
    · rcases List.mem_cons.mp hb with rfl | hb
      · exact .inr ⟨by obtain ⟨n, e⟩ := hl; rw [e]; rfl, hSl⟩
      · (first | obtain ⟨_, rfl⟩ := hb.atom | exact (nsE hb).elim | exact (snE hb).elim | exact (ftE hb).elim | cases hb)

noncomputable def rangeD (a : Int) (c : Int) (n : Nat) : List D := (List.range n).map fun (i : Nat) => D.int (a + (i : Int) * c)
theorem rangeD_length (a c : Int) (n : Nat) : (rangeD a c n).length = n := by simp [rangeD]
theorem iterable_range {a b c : Int} (hs : Builtin.Range.small a b c = true) (hn : 0 ≤ Builtin.Range.rangeSize a b c) : Iterable (.range a b c) (rangeD a c (Builtin.Range.rangeSize a b c).toNat) := by
  intro prog w A S s v Q E hh r k
  cases r with
  | range hS hr =>
    refine wpAny_pyIter_range hr hs (k s.heap.objs.size [s.heap.objs.size] [s.heap.objs.size] (fun i h => IsRangeIter h s.heap.objs.size (a + (i : Nat) * c) (((Builtin.Range.rangeSize a b c).toNat : Int) - (i : Nat)) c) _ (Kp.push s _) ?_ ?_ ?_ ?_ ?_)
    · have W := Walks.range (prog := prog) (w := w) (A := A) hh s.heap.objs.size a c (Builtin.Range.rangeSize a b c).toNat
      refine It0.it ⟨W.sub, fun i h st b hb => ?_, W.frame, fun i d s' Q' E' hd st k' => ?_, fun s' Q' E' st k' => W.done s' Q' E' (by rw [rangeD_length] at st; exact st) k', W.self, fun i target d bs v s' Q' E' b rv st q => ?_⟩
      · simp at hb; subst hb
        have st' : h.get? s.heap.objs.size = some _ := st
        rw [st']; rfl
      · have hi : i < (Builtin.Range.rangeSize a b c).toNat := by
          rcases Nat.lt_or_ge i (Builtin.Range.rangeSize a b c).toNat with q | q
          · exact q
          · rw [List.getElem?_eq_none (by rw [rangeD_length]; exact q)] at hd; (first | obtain ⟨_, rfl⟩ := hd.atom | exact (nsE hd).elim | exact (snE hd).elim | exact (ftE hd).elim | cases hd)
        refine W.item i s' Q' E' hi st fun v h' tk hv st' hk => k' v h' tk ?_ st' hk
        obtain ⟨t, rfl⟩ := hv
        have : d = .int (a + (i : Int) * c) := by simpa [rangeD, hi] using hd.symm
        rw [this]; exact .int _ _
      · rcases bnd_target b with ⟨x, p, rfl⟩ | ⟨es, k, p, rfl⟩
        · exact wpAny_pure q
        · cases b with
          | tuple =>
            obtain ⟨a', vs, n, rfl, _, _, _⟩ := rv.tuple_inv
            have st' : s'.heap.get? s.heap.objs.size = some _ := st
            unfold letOwnedTupleGo
            refine wpAny_bind (wpAny_load st' ?_)
            show wpAny _ A (if (["enumerate", "zip", "dict_itemiterator", "dict_reverseitemiterator", "odict_iterator", "itertools.zip_longest", "itertools.pairwise"].contains "range_iterator" && _) = true then _ else _) Q' E' s'
            rw [if_neg (by
              rw [show (["enumerate", "zip", "dict_itemiterator", "dict_reverseitemiterator", "odict_iterator", "itertools.zip_longest", "itertools.pairwise"].contains "range_iterator") = false from by decide, Bool.false_and]
              exact Bool.false_ne_true)]
            exact wpAny_pure q
    · show IsRangeIter _ _ _ _ _
      have : (((Builtin.Range.rangeSize a b c).toNat : Int) - ((0 : Nat) : Int)) = Builtin.Range.rangeSize a b c := by omega
      rw [this]
      have h0 : a + ((0 : Nat) : Int) * c = a := by simp
      rw [h0]
      exact Heap.get?_push_size _ rfl
    · intro b hb
      simp at hb; subst hb
      show _ < (s.heap.push _).objs.size
      rw [Heap.size_push]; exact Nat.lt_succ_self _
    · intro b hb
      simp at hb; subst hb
      exact get_size _ (Nat.le_refl _)
    · intro b hb
      simp at hb; subst hb
      exact .inl (.head _)
theorem iterable_range1 {a b : Int} (ha : -(2 ^ 62) ≤ a) (ha' : a < 2 ^ 62) (hb : -(2 ^ 62) ≤ b) (hb' : b < 2 ^ 62) : Iterable (.range a b 1) (rangeD a 1 (b - a).toNat) := by
  have := iterable_range (a := a) (b := b) (c := 1) (small_one ha ha' hb hb') (by rw [rangeSize_one]; split <;> omega)
  rw [rangeSize_one] at this
  have e : (if a < b then b - a else 0).toNat = (b - a).toNat := by split <;> omega
  rw [e] at this
  exact this
section
variable {K : Frag} {prog : Program} {w : World} {n : Nat}
theorem fn_range1 {b : Int} : Fn K prog w n (.type "range") [.int b] (.range 0 b 1) := .mk fun A base S s vals hr hw r => by
  obtain ⟨v, rfl, r₁⟩ := r.one
  (first | obtain ⟨_, rfl⟩ := r₁.atom | exact (nsE r₁).elim | exact (snE r₁).elim | exact (ftE r₁).elim | cases r₁)
  exact call_range_1 ⟨Kp.both s _ _ fun _ _ e => Heap.get?_push_of_some _ e, .range (not_held hw.held (get_size _ (Nat.le_refl _))) (IsRange.new _ _ _ _ _ _ _)⟩
theorem fn_range2 {a b : Int} : Fn K prog w n (.type "range") [.int a, .int b] (.range a b 1) := .mk fun A base S s vals hr hw r => by
  obtain ⟨v, u, rfl, r₁, r₂⟩ := r.two
  (first | obtain ⟨_, rfl⟩ := r₁.atom | exact (nsE r₁).elim | exact (snE r₁).elim | exact (ftE r₁).elim | cases r₁); (first | obtain ⟨_, rfl⟩ := r₂.atom | exact (nsE r₂).elim | exact (snE r₂).elim | exact (ftE r₂).elim | cases r₂)
  exact call_range_2 ⟨Kp.both s _ _ fun _ _ e => Heap.get?_push_of_some _ e, .range (not_held hw.held (get_size _ (Nat.le_refl _))) (IsRange.new _ _ _ _ _ _ _)⟩
end
-- part PL7
noncomputable def Ctx.plus (Γ : Ctx) (wr : List Addr) : Ctx := { Γ with S := fun b => Γ.S b ∨ b ∈ wr }

/-- what a loop gathers at the address Da -/
structure AccOk (P : (Addr → Prop) → Heap → Prop) (Da : Addr) : Prop where
  ext : ∀ S h h', P S h → Ext S h h' → (∀ o, h.get? Da = some o → h'.get? Da = some o) → P S h'
  move : ∀ S S' h, P S h → (∀ b, S' b → S b ∨ h.get? b = none) → S' Da → P S' h
  has : ∀ S h, P S h → S Da

structure Cst (Γ : Ctx) (tg : List Str) (Sr : Addr → Prop) (hr : Heap) (P : (Addr → Prop) → Heap → Prop) (s₁ s : Shared) : Prop where
  same : Sm s₁ s
  ext : Ext Sr hr s.heap
  at_ : Γ.At s.heap
  slots : ∀ x ∈ tg, Slot Γ s.heap x
  acc : P Γ.S s.heap
  ns : ∃ m, s.heap.Ns Γ.env.locals m

/-- the addresses that the loop writes to stand apart, and are new or given up -/
structure Lay (Γ : Ctx) (tg : List Str) (Da : Addr) (Sr : Addr → Prop) (hr : Heap) : Prop where
  dl : Da ≠ Γ.env.locals
  dc : ∀ x, Γ.env.cells.lookup x ≠ some Da
  fl : Sr Γ.env.locals ∨ hr.get? Γ.env.locals = none
  fc : ∀ x ∈ tg, ∀ c, Γ.env.cells.lookup x = some c → Sr c ∨ hr.get? c = none
  fd : Sr Da ∨ hr.get? Da = none

theorem Ext.more {Sr : Addr → Prop} {hr h h' : Heap} (x : Ext Sr hr h) (k : ∀ b o, (Sr b ∨ hr.get? b = none → False) → h.get? b = some o → h'.get? b = some o) : Ext Sr hr h' := fun b o hb e =>
  k b o (fun q => q.elim hb fun n => by rw [n] at e; (first | obtain ⟨_, rfl⟩ := e.atom | exact (nsE e).elim | exact (snE e).elim | exact (ftE e).elim | cases e)) (x b o hb e)

section
variable {Γ : Ctx} {tg : List Str} {Da : Addr} {Sr : Addr → Prop} {hr : Heap} {P : (Addr → Prop) → Heap → Prop} {s₁ s s' : Shared}
theorem Cst.kp (hP : AccOk P Da) (c : Cst Γ tg Sr hr P s₁ s) (k : Kp s s') : Cst Γ tg Sr hr P s₁ s' :=
  ⟨c.same.trans k.1, c.ext.trans (Ext.of_keep k.k), c.at_.go k, fun x hx => (Wr.of_kp (tg := []) k).slot x (c.slots x hx), hP.ext _ _ _ c.acc (Ext.of_keep k.k) fun o e => k.k Da o e, let ⟨m, q⟩ := c.ns; ⟨m, q.keeps k.k⟩⟩
theorem Lay.ext (L : Lay Γ tg Da Sr hr) {tg' : List Str} (hl : ∀ x ∈ tg', x ∈ tg) (w : Wr Γ tg' s s') (x : Ext Sr hr s.heap) : Ext Sr hr s'.heap :=
  x.more fun b o hb e => w.off b o (fun q => hb (q ▸ L.fl)) (fun y hy q => hb (L.fc y (hl y hy) b q)) e
theorem Lay.da (L : Lay Γ tg Da Sr hr) {tg' : List Str} (hl : ∀ x ∈ tg', x ∈ tg) (w : Wr Γ tg' s s') : ∀ o, s.heap.get? Da = some o → s'.heap.get? Da = some o := fun o e => w.off Da o L.dl (fun y _ => L.dc y) e

theorem setAll_rho : ∀ (bs : List (Str × D)) (Γ : Ctx) (y : Str), (∀ b ∈ bs, b.1 ≠ y) → (Γ.setAll bs).ρ y = Γ.ρ y
  | [], _, _, _ => rfl
  | (x, d) :: r, Γ, y, h => by
    rw [Ctx.setAll, setAll_rho r _ y fun b hb => h b (.tail _ hb)]
    show (if y = x then some d else Γ.ρ y) = Γ.ρ y
    rw [if_neg (fun e => h (x, d) (.head _) e.symm)]

theorem At.unset {bs : List (Str × D)} {h : Heap} (C : (Γ.setAll bs).At h) (hn : ∀ b ∈ bs, Γ.ρ b.1 = none) : Γ.At h := by
  obtain ⟨e1, e2, e3, e4, e5, e6, e7, e8⟩ := setAll_env bs Γ
  obtain ⟨a1, a2, a3, a4, a5, a6, a8, a7⟩ := C
  rw [e1] at a2 a3 a4 a6 a8
  rw [e2, e6, e8] at a1
  rw [e5, e7] at a5
  refine ⟨a1, a2, a3, a4, a5, a6, a8, fun y d q => ?_⟩
  have := a7 y d (by rw [setAll_rho bs Γ y fun b hb e => by rw [← e, hn b hb] at q; (first | obtain ⟨_, rfl⟩ := q.atom | exact (nsE q).elim | exact (snE q).elim | exact (ftE q).elim | cases q)]; exact q)
  rw [e1, e2, e3, e4] at this
  exact this

/-- changes to wr alone -/
theorem At.wr {wr : List Addr} {h h' : Heap} (C : Γ.At h) (e : ∀ b o, b ∉ wr → h.get? b = some o → h'.get? b = some o) (hS : ∀ b ∈ wr, Γ.S b) (hv : ∀ b ∈ wr, (h'.get? b).isSome = true) (hl : Γ.env.locals ∉ wr)
    (hc : ∀ x c, Γ.env.cells.lookup x = some c → c ∉ wr) : Γ.At h' := by
  have he : Ext Γ.S h h' := fun b o hb q => e b o (fun m => hb (hS b m)) q
  refine ⟨C.wd.ext he fun a ha => ?_, C.kind, C.globals, C.builtins, C.room, C.sep, fun x c q => ?_, fun x d q => ?_⟩
  · by_cases m : a ∈ wr
    · exact hv a m
    · have := C.wd.held a ha
      cases q : h.get? a with
      | none => rw [q] at this; (first | obtain ⟨_, rfl⟩ := this.atom | exact (nsE this).elim | exact (snE this).elim | exact (ftE this).elim | cases this)
      | some o => rw [e a o m q]; rfl
  · have := C.cin x c q
    cases r : h.get? c with
    | none => rw [r] at this; (first | obtain ⟨_, rfl⟩ := this.atom | exact (nsE this).elim | exact (snE this).elim | exact (ftE this).elim | cases this)
    | some o => rw [e c o (hc x c q) r]; rfl
  · obtain ⟨v, hv', r⟩ := C.vars x d q
    refine ⟨v, ?_, r.ext he⟩
    rcases hv' with ⟨a, m, n, em⟩ | ⟨a, c, l, n⟩
    · exact .inl ⟨a, m, n.at' fun o q => e _ o hl q, em⟩
    · obtain ⟨o, ho, hd⟩ := n
      exact .inr ⟨a, c, l, o, e _ _ (hc x c l) ho, hd⟩

theorem slot_wr {wr : List Addr} {h h' : Heap} {x : Str} (q : Slot Γ h x) (e : ∀ b o, b ∉ wr → h.get? b = some o → h'.get? b = some o) (hl : Γ.env.locals ∉ wr) (hc : ∀ c, Γ.env.cells.lookup x = some c → c ∉ wr) : Slot Γ h' x := by
  rcases q with ⟨a, ⟨m, hm⟩, c⟩ | ⟨a, c, v, l, ⟨o, ho, hd⟩, d⟩
  · exact .inl ⟨a, ⟨m, hm.at' fun o q => e _ o hl q⟩, c⟩
  · exact .inr ⟨a, c, v, l, ⟨o, e _ _ (hc c l) ho, hd⟩, d⟩
end

structure TestsOk (Γ : Ctx) (ifs : List Expr) (ok : Bool) : Prop where
  run : ∀ s, Γ.At s.heap → Tr Γ (tests ifs Γ.env) (fun b _ => b = ok) s
theorem tests_nil {Γ : Ctx} : TestsOk Γ [] true := .mk fun s _ => wpAny_pure ⟨Kp.refl s, rfl⟩
theorem tests_one {Γ : Ctx} {c : Expr} {b : Bool} (h : EvT Γ c b) : TestsOk Γ [c] b := .mk fun s C => wpAny_tests_one (h.run s C)

theorem loop_rule {τ : Type} {P : τ → (Addr → Prop) → Heap → Prop} {Da : Addr} (hP : ∀ t, AccOk (P t) Da) {Γ : Ctx} {tg : List Str} {Sr : Addr → Prop} {hr : Heap} (L : Lay Γ tg Da Sr hr) {code : Code} {ip : Pos} {target : Expr} {ifs : List Expr} {kt : Sem Fin}
    {I : Addr} {S₀ : Addr → Prop} {h₀ : Heap} {fp wr : List Addr} {ds : List D} {St : Nat → Heap → Prop} {s₁ s : Shared} {R : Result → Shared → Prop}
    (hq : code.quiet = true) (hden : (model Γ.prog Γ.w).den code = (turnAt ip target ifs Γ.env kt (again code) (.ref I)).onRaise (fun x => do noteFrame x Γ.env; theTreesLotGoes x)) (hun : Γ.A.under code = Γ.A)
    (T : It false Γ.prog Γ.w Γ.A S₀ h₀ I fp wr ds St) (hS₀ : ∀ b, (Γ.plus wr).S b → S₀ b ∨ h₀.get? b = none) (hSr : ∀ h, Ext Sr hr h → Ext S₀ h₀ h)
    (hfl : Γ.env.locals ∉ fp) (hfc : ∀ x ∈ tg, ∀ c, Γ.env.cells.lookup x = some c → c ∉ fp) (hfd : Da ∉ fp)
    (hwr : ∀ b ∈ wr, Sr b ∨ hr.get? b = none) (hwS : ∀ b ∈ wr, ¬ Γ.S b) (hcap : ∀ x c, Γ.env.cells.lookup x = some c → c ∉ wr)
    (t : Nat → τ)
    (turn : ∀ k d, ds[k]? = some d → ∃ bs ok, Bnd target d bs ∧ (∀ b ∈ bs, b.1 ∈ tg ∧ Γ.ρ b.1 = none) ∧ TestsOk ((Γ.plus wr).setAll bs) ifs ok ∧ (ok = false → t (k + 1) = t k) ∧
      (ok = true → ∀ s, Cst ((Γ.plus wr).setAll bs) tg Sr hr (P (t k)) s₁ s →
        wpAny (model Γ.prog Γ.w) Γ.A kt (fun fin s' => fin = .again code ∧ Cst ((Γ.plus wr).setAll bs) tg Sr hr (P (t (k + 1))) s₁ s' ∧ ∀ b ∈ fp, ∀ o, s.heap.get? b = some o → s'.heap.get? b = some o) (fun _ _ => False) s))
    (start : Cst (Γ.plus wr) tg Sr hr (P (t 0)) s₁ s) (hst : St 0 s.heap) (fin : ∀ s', Cst Γ tg Sr hr (P (t ds.length)) s₁ s' → R (.ok .next) s') :
    codeAny (model Γ.prog Γ.w) Γ.A code R s := by
  have hlw : Γ.env.locals ∉ wr := fun m => hfl (T.sub _ m)
  have hdw : Da ∉ wr := fun m => hfd (T.sub _ m)
  have hcw : ∀ x ∈ tg, ∀ c, Γ.env.cells.lookup x = some c → c ∉ wr := fun x hx c hc m => hfc x hx c hc (T.sub _ m)
  refine codeAny_loop hq (fun n s => ∃ k, k ≤ ds.length ∧ n = ds.length - k ∧ Cst (Γ.plus wr) tg Sr hr (P (t k)) s₁ s ∧ St k s.heap) ?_ _ ⟨0, Nat.zero_le _, rfl, start, hst⟩
  rintro n s ⟨k, hk, rfl, c, st⟩
  rw [hun, hden]
  refine wpAny_noted (wpAny_bind (wpAny_standAt (wpAny_bind ?_)))
  rcases Nat.lt_or_ge k ds.length with hlt | hge
  · have hd : ds[k]? = some ds[k] := List.getElem?_eq_getElem hlt
    obtain ⟨bs, ok, hb, hbs, htests, hf, htr⟩ := turn k _ hd
    refine T.next (target := target) (bs := bs) (f := fun v => turnBody target ifs Γ.env kt (again code) v) (fun v => rfl) hb hd st fun v h' tk hv st' he => ?_
    have rv : Rep Γ.prog Γ.w (Γ.plus wr).S h' v ds[k] := by
      have x1 : Ext S₀ h₀ h' := hSr h' (c.ext.more fun b o hb e => he b o (fun m => hb (hwr b m)) e)
      exact hv (Γ.plus wr).S hS₀ c.at_.wd.held x1
    have c' : Cst (Γ.plus wr) tg Sr hr (P (t k)) s₁ { s with heap := h', toks := tk } :=
      ⟨⟨c.same.1, c.same.2⟩, c.ext.more fun b o hb e => he b o (fun m => hb (hwr b m)) e,
        At.wr (wr := wr) c.at_ he (fun b m => .inr m) (T.live _ _ st') hlw hcap, fun x hx => slot_wr (c.slots x hx) he hlw (hcw x hx),
        (hP _).ext _ _ _ c.acc (fun b o hb e => he b o (fun m => hb (.inr m)) e) fun o e => he Da o hdw e, let ⟨m, q⟩ := c.ns; ⟨m, q.at' fun o e => he _ o hlw e⟩⟩
    refine wpAny_bind (assign_rule (Γ := Γ.plus wr) c.at_.room.1 c'.at_ hb (fun x hx => c'.slots _ (hbs x hx).1) rv fun s₂ W C₂ => ?_)
    have hsub : ∀ x ∈ bs.map (·.1), x ∈ tg := fun x hx => by obtain ⟨b, hb, rfl⟩ := List.mem_map.mp hx; exact (hbs b hb).1
    have L' : Lay (Γ.plus wr) tg Da Sr hr := ⟨L.dl, L.dc, L.fl, L.fc, L.fd⟩
    obtain ⟨e1, e2, e3, e4, e5, e6, e7, e8⟩ := setAll_env bs (Γ.plus wr)
    have c₂ : Cst ((Γ.plus wr).setAll bs) tg Sr hr (P (t k)) s₁ s₂ :=
      ⟨c'.same.trans W.same, L'.ext hsub W c'.ext, C₂, fun x hx => by
          have := W.slot x (c'.slots x hx)
          unfold Slot at this ⊢
          rw [e1, e2]; exact this,
        by rw [e2]; exact (hP _).ext _ _ _ c'.acc W.ext (L'.da hsub W), by rw [e1]; exact W.ns c'.ns⟩
    have st₂ : St (k + 1) s₂.heap := T.frame _ _ _ st' fun b hb o e => W.off b o (fun q => hfl (q ▸ hb)) (fun x hx q => hfc x (hsub x hx) b q hb) e
    have hte := htests.run s₂ c₂.at_
    have e1' : ((Γ.plus wr).setAll bs).env = Γ.env := e1
    unfold Tr at hte
    rw [e1', e3, e4, e5] at hte
    refine wpAny_bind (wpAny_mono hte (fun ok' s₃ h₃ => ?_) fun _ _ x => x.elim)
    obtain ⟨k₃, rfl⟩ := h₃
    have c₃ := c₂.kp (hP _) k₃
    have st₃ : St (k + 1) s₃.heap := T.frame _ _ _ st₂ fun b _ o e => k₃.k b o e
    cases ok' with
    | false =>
      refine wpAny_pure ⟨rfl, ds.length - (k + 1), by omega, k + 1, hlt, rfl, ?_, st₃⟩
      rw [hf rfl]
      refine ⟨c₃.same, c₃.ext, At.unset c₃.at_ fun b hb => (hbs b hb).2, fun x hx => ?_, by have := c₃.acc; rw [e2] at this; exact this, by have := c₃.ns; rw [e1] at this; exact this⟩
      have := c₃.slots x hx
      unfold Slot at this ⊢
      rw [e1, e2] at this; exact this
    | true =>
      refine wpAny_mono (htr rfl s₃ c₃) (fun fin s₄ h₄ => ?_) fun _ _ x => x.elim
      obtain ⟨rfl, c₄, hfp⟩ := h₄
      refine ⟨rfl, ds.length - (k + 1), by omega, k + 1, hlt, rfl, ⟨c₄.same, c₄.ext, At.unset c₄.at_ fun b hb => (hbs b hb).2, fun x hx => ?_, by have := c₄.acc; rw [e2] at this; exact this, by have := c₄.ns; rw [e1] at this; exact this⟩, T.frame _ _ _ st₃ hfp⟩
      have := c₄.slots x hx
      unfold Slot at this ⊢
      rw [e1, e2] at this; exact this
  · have hk' : k = ds.length := by omega
    subst hk'
    refine T.done _ _ _ st fun h' tk he => wpAny_pure (fin _ ?_)
    have hS : ∀ b, Γ.S b → b ∉ wr := fun b q m => hwS b m q
    have xe : Ext (Γ.plus wr).S s.heap h' := fun b o hb e => he b o (fun m => hb (.inr m)) e
    refine ⟨⟨c.same.1, c.same.2⟩, c.ext.more fun b o hb e => he b o (fun m => hb (hwr b m)) e, ⟨⟨c.at_.wd.gl, fun b o e => he b o (fun m => by
        have this : Γ.base.get? b = none := c.at_.wd.off b (.inr m); rw [this] at e; (first | obtain ⟨_, rfl⟩ := e.atom | exact (nsE e).elim | exact (snE e).elim | exact (ftE e).elim | cases e)) (c.at_.wd.up b o e), fun a q => c.at_.wd.off a (.inl q), fun a q => ?_⟩, c.at_.kind, c.at_.globals, c.at_.builtins, c.at_.room, c.at_.sep, fun x c' q => ?_, fun x d q => ?_⟩, fun x hx => ?_, ?_, let ⟨m, q⟩ := c.ns; ⟨m, q.at' fun o e => he _ o hlw e⟩⟩
    · have := c.at_.wd.held a (.inl q)
      cases r : s.heap.get? a with
      | none => rw [r] at this; (first | obtain ⟨_, rfl⟩ := this.atom | exact (nsE this).elim | exact (snE this).elim | exact (ftE this).elim | cases this)
      | some o => rw [he a o (hS a q) r]; rfl
    · have := c.at_.cin x c' q
      cases r : s.heap.get? c' with
      | none => rw [r] at this; (first | obtain ⟨_, rfl⟩ := this.atom | exact (nsE this).elim | exact (snE this).elim | exact (ftE this).elim | cases this)
      | some o => rw [he c' o (hcap x c' q) r]; rfl
    · obtain ⟨v, hv, r⟩ := c.at_.vars x d q
      refine ⟨v, ?_, (r.ext xe).less fun b q => .inl q⟩
      rcases hv with ⟨a, m, n, em⟩ | ⟨a, c', l, n⟩
      · exact .inl ⟨a, m, n.at' fun o q => he _ o hlw q, em⟩
      · obtain ⟨o, ho, hd⟩ := n
        exact .inr ⟨a, c', l, o, he _ _ (hcap x c' l) ho, hd⟩
    · rcases c.slots x hx with ⟨a, ⟨m, hm⟩, q⟩ | ⟨a, c', v, l, ⟨o, ho, hd⟩, q⟩
      · refine .inl ⟨a, ⟨m, hm.at' fun o q => he _ o hlw q⟩, ?_⟩
        exact q.elim id fun m => absurd m hlw
      · refine .inr ⟨a, c', v, l, ⟨o, he _ _ (hcw x hx c' l) ho, hd⟩, ?_⟩
        exact q.elim id fun m => absurd m (hcw x hx c' l)
    · have a1 := (hP _).ext _ _ _ c.acc xe fun o e => he Da o hdw e
      refine (hP _).move _ _ _ a1 (fun b q => .inl (.inl q)) ?_
      exact ((hP _).has _ _ c.acc).elim id fun m => absurd m hdw
-- part PL8
/-- a list that is gathered -/
noncomputable def AccL (prog : Program) (w : World) (Da : Addr) (outs : List D) (S : Addr → Prop) (h : Heap) : Prop := S Da ∧ ∃ vs, h.PlainList Da vs.toArray ∧ RepAll prog w S h vs outs
theorem accL_ok {prog : Program} {w : World} {Da : Addr} {outs : List D} : AccOk (AccL prog w Da outs) Da where
  ext := fun S h h' ⟨a, vs, b, r⟩ e k => ⟨a, vs, b.at k, r.ext e⟩
  move := fun S S' h ⟨a, vs, b, r⟩ x y => ⟨y, vs, b, r.avoid x⟩
  has := fun S h q => q.1
/-- a dict that is gathered -/
noncomputable def AccD {K : Type} [DecidableEq K] (prog : Program) (w : World) (knd : KeyKind prog w K) (Da : Addr) (kvs : List (K × Int)) (S : Addr → Prop) (h : Heap) : Prop := S Da ∧ (Da == sysModules) = false ∧ ∃ us, h.DictOf knd Da us ∧ KV us kvs
theorem accD_ok {K : Type} [DecidableEq K] {prog : Program} {w : World} {knd : KeyKind prog w K} {Da : Addr} {kvs : List (K × Int)} : AccOk (AccD prog w knd Da kvs) Da where
  ext := fun S h h' ⟨a, c, vs, b, r⟩ e k => ⟨a, c, vs, DictOf_at b k, r⟩
  move := fun S S' h ⟨a, c, vs, b, r⟩ x y => ⟨y, c, vs, b, r⟩
  has := fun S h q => q.1

/-- a key stored with an int -/
noncomputable def put {K : Type} [DecidableEq K] (kvs : List (K × Int)) (k : K) (i : Int) : List (K × Int) :=
  if kvs.any (fun kv => kv.1 = k) then kvs.map (fun kv => if kv.1 = k then (kv.1, i) else kv) else kvs ++ [(k, i)]
theorem kv_any {K : Type} [DecidableEq K] {us : List (K × Value)} {kvs : List (K × Int)} (r : KV us kvs) (k : K) : us.any (fun kv => kv.1 = k) = kvs.any (fun kv => kv.1 = k) := by
  induction r with
  | nil => rfl
  | cons _ ih => simp only [List.any_cons, ih]
theorem kv_map {K : Type} [DecidableEq K] {us : List (K × Value)} {kvs : List (K × Int)} (r : KV us kvs) (k : K) (i : Int) (t : Tok) : KV (us.map fun kv => if kv.1 = k then (kv.1, Value.int i t) else kv) (kvs.map fun kv => if kv.1 = k then (kv.1, i) else kv) := by
  induction r with
  | nil => exact .nil
  | cons _ ih =>
    rename_i k' i' t' _ _ _
    simp only [List.map_cons]
    by_cases e : k' = k
    · simp only [e, if_true]; exact .cons ih
    · simp only [e, if_false]; exact .cons ih
theorem kv_snoc {K : Type} {us : List (K × Value)} {kvs : List (K × Int)} (r : KV us kvs) (k : K) (i : Int) (t : Tok) : KV (us ++ [(k, Value.int i t)]) (kvs ++ [(k, i)]) := by
  induction r with
  | nil => exact .cons .nil
  | cons _ ih => exact .cons ih
theorem kv_put {K : Type} [DecidableEq K] {us : List (K × Value)} {kvs : List (K × Int)} (r : KV us kvs) (k : K) (i : Int) (t : Tok) : KV (stored us k (.int i t)) (put kvs k i) := by
  unfold stored put
  rw [kv_any r k]
  split
  · exact kv_map r k i t
  · exact kv_snoc r k i t

section
variable {Γ : Ctx} {tg : List Str} {Da : Addr} {Sr : Addr → Prop} {hr : Heap} {s₁ s : Shared}

theorem emitL_rule {elt : Expr} {outs : List D} {y : D} {fp : List Addr} {c : Code} (L : Lay Γ tg Da Sr hr) (hfd : Da ∉ fp) (hc : Cst Γ tg Sr hr (AccL Γ.prog Γ.w Da outs) s₁ s) (h : Ev Γ elt y) (hz : outs.length ≤ sizeLine) :
    wpAny (model Γ.prog Γ.w) Γ.A (emitL elt (.ref Da) Γ.env >>= fun _ => again c)
      (fun fin s' => fin = .again c ∧ Cst Γ tg Sr hr (AccL Γ.prog Γ.w Da (outs ++ [y])) s₁ s' ∧ ∀ b ∈ fp, ∀ o, s.heap.get? b = some o → s'.heap.get? b = some o) (fun _ _ => False) s := by
  refine wpAny_bind (wpAny_bind ((h.run s hc.at_).then' fun v s₂ k₂ r₂ => ?_))
  have c₂ := hc.kp accL_ok k₂
  obtain ⟨hS, vs, hl, rs⟩ := c₂.acc
  have e := rs.length
  refine wpAny_bind (wpAny_list_append_plain hl (fun h' hl' hs => wpAny_pure (wpAny_pure ⟨rfl, ?_, fun b hb o q => hs.extBut b o (fun z => hfd (z ▸ hb)) (k₂.k b o q)⟩)) (by simpa [e] using hz))
  have he : ∀ b o, b ∉ [Da] → s₂.heap.get? b = some o → h'.get? b = some o := fun b o m q => hs.extBut b o (fun z => m (by simp [z])) q
  have hx : Ext Γ.S s₂.heap h' := Ext.sameBut hs hS
  have hlive : ∀ b ∈ [Da], (h'.get? b).isSome = true := fun b hb => by
    simp at hb; subst hb
    obtain ⟨n, q⟩ := hl'; rw [q]; rfl
  have hlo : Γ.env.locals ∉ [Da] := fun m => L.dl (by simpa using (List.mem_singleton.mp m).symm)
  have hce : ∀ x c, Γ.env.cells.lookup x = some c → c ∉ [Da] := fun x c q m => L.dc x (by rw [q, List.mem_singleton.mp m])
  refine ⟨⟨c₂.same.1, c₂.same.2⟩, c₂.ext.more fun b o hb q => hs.extBut b o (fun z => hb (z ▸ L.fd)) q, At.wr (wr := [Da]) c₂.at_ he (fun b m => (List.mem_singleton.mp m) ▸ hS) hlive hlo hce, fun x hx => slot_wr (c₂.slots x hx) he hlo (hce x), ⟨hS, vs ++ [v], ?_, (rs.ext hx).append (.cons (r₂.ext hx) .nil)⟩, let ⟨m, q⟩ := c₂.ns; ⟨m, q.sameBut hs (fun z => L.dl z.symm)⟩⟩
  simpa using hl'

theorem emitD_rule {K : Type} [DecidableEq K] {knd : KeyKind Γ.prog Γ.w K} {kx vx : Expr} {kvs : List (K × Int)} {k : K} {dk : D} {i : Int} {fp : List Addr} {c : Code} (L : Lay Γ tg Da Sr hr) (hfd : Da ∉ fp) (hc : Cst Γ tg Sr hr (AccD Γ.prog Γ.w knd Da kvs) s₁ s)
    (h1 : Ev Γ kx dk) (h2 : Ev Γ vx (.int i)) (hk : ∀ S h v, Rep Γ.prog Γ.w S h v dk → knd.is k v = true) (hz : kvs.length ≤ sizeLine) :
    wpAny (model Γ.prog Γ.w) Γ.A (emitD kx vx Da Γ.env >>= fun _ => again c)
      (fun fin s' => fin = .again c ∧ Cst Γ tg Sr hr (AccD Γ.prog Γ.w knd Da (put kvs k i)) s₁ s' ∧ ∀ b ∈ fp, ∀ o, s.heap.get? b = some o → s'.heap.get? b = some o) (fun _ _ => False) s := by
  refine wpAny_bind (wpAny_bind ((h1.run s hc.at_).then' fun kv s₂ k₂ r₂ => ?_))
  have c₂ := hc.kp accD_ok k₂
  refine wpAny_bind (wpAny_holding ((h2.run s₂ c₂.at_).then' fun v s₃ k₃ r₃ => wpAny_bind (wpAny_standAt (wpAny_holding ?_))))
  have c₃ := c₂.kp accD_ok k₃
  obtain ⟨hS, hm, us, hd, hkv⟩ := c₃.acc
  have e := hkv.length
  cases r₃ with
  | int i t =>
  refine wpAny_dictSet_pairs (hk _ _ _ r₂) hd (fun h' hd' hs => wpAny_pure ⟨rfl, ?_, fun b hb o q => hs.extBut b o (fun z => hfd (z ▸ hb)) (k₃.k b o (k₂.k b o q))⟩) (by rw [e]; exact hz)
  have he : ∀ b o, b ∉ [Da] → s₃.heap.get? b = some o → h'.get? b = some o := fun b o m q => hs.extBut b o (fun z => m (by simp [z])) q
  have hlive : ∀ b ∈ [Da], (h'.get? b).isSome = true := fun b hb => by
    simp at hb; subst hb
    obtain ⟨o, _, _, q, _⟩ := hd'; rw [q]; rfl
  have hlo : Γ.env.locals ∉ [Da] := fun m => L.dl (by simpa using (List.mem_singleton.mp m).symm)
  have hce : ∀ x c, Γ.env.cells.lookup x = some c → c ∉ [Da] := fun x c q m => L.dc x (by rw [q, List.mem_singleton.mp m])
  exact ⟨⟨c₃.same.1, c₃.same.2⟩, c₃.ext.more fun b o hb q => hs.extBut b o (fun z => hb (z ▸ L.fd)) q, At.wr (wr := [Da]) c₃.at_ he (fun b m => (List.mem_singleton.mp m) ▸ hS) hlive hlo hce, fun x hx => slot_wr (c₃.slots x hx) he hlo (hce x), ⟨hS, hm, _, hd', kv_put hkv k i t⟩, let ⟨m, q⟩ := c₃.ns; ⟨m, q.sameBut hs (fun z => L.dl z.symm)⟩⟩
end

/-- the cells that a block's table takes over from around it -/
noncomputable def closL (cells : List (Str × Addr)) : List (Str × NameKind) → List (Str × Addr) → List (Str × Addr)
  | [], acc => acc
  | (n, k) :: r, acc => if k == .free then (match cells.lookup n with | some a => closL cells r ((n, a) :: acc) | none => closL cells r acc) else closL cells r acc
noncomputable def clos (scope : Scope) (env : Env) : List (Str × Addr) := closL env.cells scope.names []

theorem closure_go {env : Env} : ∀ (names : List (Str × NameKind)) (acc : List (Str × Addr)), (∀ p ∈ names, p.2 = .free → (env.cells.lookup p.1).isSome = true) →
    forIn (m := Sem) names acc (fun (x : Str × NameKind) r => match x with | (name, kind) => if (kind == NameKind.free) = true then do let a ← cellOf env name; pure (ForInStep.yield ((name, a) :: r)) else pure (ForInStep.yield r)) = pure (closL env.cells names acc)
  | [], acc, _ => rfl
  | (n, k) :: r, acc, h => by
    rw [List.forIn_cons]
    have ih := fun acc => closure_go r acc fun p hp => h p (.tail _ hp)
    cases hk : (k == NameKind.free) with
    | false =>
      simp only [hk, Bool.false_eq_true, if_false, pure_bind, closL]
      exact ih acc
    | true =>
      have hs := h (n, k) (.head _) (by simpa using hk)
      cases hl : env.cells.lookup n with
      | none => rw [hl] at hs; (first | obtain ⟨_, rfl⟩ := hs.atom | exact (nsE hs).elim | exact (snE hs).elim | exact (ftE hs).elim | cases hs)
      | some a =>
        simp only [hk, if_true, closL, cellOf, hl, pure_bind]
        exact ih _
theorem closure_is {scope : Scope} {env : Env} (h : ∀ p ∈ scope.names, p.2 = .free → (env.cells.lookup p.1).isSome = true) : closureFor scope env = pure (clos scope env) := by
  unfold closureFor clos
  have := closure_go (env := env) scope.names [] h
  exact congrArg (fun (z : Sem (List (Str × Addr))) => z >>= fun x => (pure x : Sem (List (Str × Addr)))) this
theorem closL_sub {cells : List (Str × Addr)} : ∀ (names : List (Str × NameKind)) (acc : List (Str × Addr)) (x : Str) (c : Addr), (closL cells names acc).lookup x = some c → acc.lookup x = some c ∨ cells.lookup x = some c
  | [], acc, x, c, e => .inl e
  | (n, k) :: r, acc, x, c, e => by
    unfold closL at e
    split at e
    · split at e
      · rename_i a hl
        rcases closL_sub r _ x c e with q | q
        · rw [List.lookup_cons] at q
          cases hx : (x == n) with
          | true => rw [hx] at q; (first | obtain ⟨_, rfl⟩ := q.atom | exact (nsE q).elim | exact (snE q).elim | exact (ftE q).elim | cases q); exact .inr (by rw [eq_of_beq hx]; exact hl)
          | false => rw [hx] at q; exact .inl q
        · exact .inr q
      · exact closL_sub r acc x c e
    · exact closL_sub r acc x c e
theorem closL_has {cells : List (Str × Addr)} : ∀ (names : List (Str × NameKind)) (acc : List (Str × Addr)) (x : Str) (c : Addr), (∀ c', acc.lookup x = some c' → c' = c) → cells.lookup x = some c → (acc.lookup x = some c ∨ (x, NameKind.free) ∈ names) → (closL cells names acc).lookup x = some c
  | [], acc, x, c, _, _, e => e.elim id fun q => nomatch q
  | (n, k) :: r, acc, x, c, ha, hc, e => by
    unfold closL
    split
    · rename_i hk
      split
      · rename_i a hl
        have key : ∀ c', List.lookup x ((n, a) :: acc) = some c' → c' = c := fun c' q => by
          rw [List.lookup_cons] at q
          cases hx : (x == n) with
          | true => rw [hx] at q; (first | obtain ⟨_, rfl⟩ := q.atom | exact (nsE q).elim | exact (snE q).elim | exact (ftE q).elim | cases q); rw [← eq_of_beq hx, hc] at hl; (first | obtain ⟨_, rfl⟩ := hl.atom | exact (nsE hl).elim | exact (snE hl).elim | exact (ftE hl).elim | cases hl); rfl
          | false => rw [hx] at q; exact ha c' q
        refine closL_has r _ x c key hc ?_
        cases hx : (x == n) with
        | true => left; rw [List.lookup_cons, hx]; rw [← eq_of_beq hx, hc] at hl; (first | obtain ⟨_, rfl⟩ := hl.atom | exact (nsE hl).elim | exact (snE hl).elim | exact (ftE hl).elim | cases hl); rfl
        | false =>
          rcases e with q | q
          · left; rw [List.lookup_cons, hx]; exact q
          · rcases List.mem_cons.mp q with q | q
            · (first | obtain ⟨_, rfl⟩ := q.atom | exact (nsE q).elim | exact (snE q).elim | exact (ftE q).elim | cases q); simp at hx
            · right; exact q
      · rename_i hl
        refine closL_has r acc x c ha hc ?_
        rcases e with q | q
        · exact .inl q
        · rcases List.mem_cons.mp q with q | q
          · (first | obtain ⟨_, rfl⟩ := q.atom | exact (nsE q).elim | exact (snE q).elim | exact (ftE q).elim | cases q); rw [hc] at hl; (first | obtain ⟨_, rfl⟩ := hl.atom | exact (nsE hl).elim | exact (snE hl).elim | exact (ftE hl).elim | cases hl)
          · exact .inr q
    · rename_i hk
      refine closL_has r acc x c ha hc ?_
      rcases e with q | q
      · exact .inl q
      · rcases List.mem_cons.mp q with q | q
        · (first | obtain ⟨_, rfl⟩ := q.atom | exact (nsE q).elim | exact (snE q).elim | exact (ftE q).elim | cases q); simp at hk
        · exact .inr q
theorem cellsFrom_append : ∀ (names : List (Str × NameKind)) (n : Nat) (acc : List (Str × Addr)), cellsFrom n names acc = cellsFrom n names [] ++ acc
  | [], _, _ => rfl
  | (x, k) :: r, n, acc => by
    unfold cellsFrom
    split
    · rw [cellsFrom_append r (n + 1) ((x, n) :: acc), cellsFrom_append r (n + 1) [(x, n)], List.append_assoc]; rfl
    · exact cellsFrom_append r n acc
theorem cellsFrom_has : ∀ (names : List (Str × NameKind)) (n : Nat) (acc : List (Str × Addr)) (x : Str), ((acc.lookup x).isSome = true ∨ (x, NameKind.cell) ∈ names) → ((cellsFrom n names acc).lookup x).isSome = true
  | [], _, _, _, e => e.elim id fun q => nomatch q
  | (y, k) :: r, n, acc, x, e => by
    unfold cellsFrom
    split
    · refine cellsFrom_has r (n + 1) _ x ?_
      cases hx : (x == y) with
      | true => left; rw [List.lookup_cons, hx]; rfl
      | false =>
        rcases e with q | q
        · left; rw [List.lookup_cons, hx]; exact q
        · rcases List.mem_cons.mp q with q | q
          · (first | obtain ⟨_, rfl⟩ := q.atom | exact (nsE q).elim | exact (snE q).elim | exact (ftE q).elim | cases q); simp at hx
          · right; exact q
    · rename_i hk
      refine cellsFrom_has r n acc x ?_
      rcases e with q | q
      · exact .inl q
      · rcases List.mem_cons.mp q with q | q
        · (first | obtain ⟨_, rfl⟩ := q.atom | exact (nsE q).elim | exact (snE q).elim | exact (ftE q).elim | cases q); simp at hk
        · exact .inr q
-- part PL9
theorem lookup_relabel {env : Env} : ∀ (names : List (Str × NameKind)) (x : Str),
    (names.map fun (n, k) => if (k == NameKind.free && env.scope.kind == .function && env.kindOf n == some .cell) then (n, NameKind.cell) else (n, k)).lookup x =
      (names.lookup x).map fun k => if (k == NameKind.free && env.scope.kind == .function && env.kindOf x == some .cell) then NameKind.cell else k
  | [], _ => rfl
  | (n, k) :: r, x => by
    have ih := lookup_relabel (env := env) r x
    show List.lookup x ((if (k == NameKind.free && env.scope.kind == .function && env.kindOf n == some .cell) = true then (n, NameKind.cell) else (n, k)) :: _) = _
    cases hx : x == n with
    | true =>
      have e := eq_of_beq hx
      subst e
      by_cases hc : (k == NameKind.free && env.scope.kind == .function && env.kindOf x == some .cell) = true
      · rw [if_pos hc]; simp only [List.lookup_cons, beq_self_eq_true, Option.map_some, hc, if_true]
      · rw [if_neg hc]; simp only [List.lookup_cons, beq_self_eq_true, Option.map_some, hc]; rfl
    | false =>
      by_cases hc : (k == NameKind.free && env.scope.kind == .function && env.kindOf n == some .cell) = true
      · rw [if_pos hc]; simp only [List.lookup_cons, hx]; exact ih
      · rw [if_neg hc]; simp only [List.lookup_cons, hx]; exact ih
theorem kind_relabel {env : Env} {scope : Scope} {cl : List (Str × Addr)} {C : Addr} (x : Str) :
    (compEnvC scope cl C env).kindOf x = (scope.names.lookup x).map fun k => if (k == NameKind.free && env.scope.kind == .function && env.kindOf x == some .cell) then NameKind.cell else k := lookup_relabel scope.names x

theorem own_cell : ∀ (names : List (Str × NameKind)) (n : Nat) (x : Str) (c : Addr), (x, c) ∈ cellsFrom n names [] → (x, NameKind.cell) ∈ names
  | [], _, _, _, h => nomatch h
  | (y, k) :: r, n, x, c, h => by
    unfold cellsFrom at h
    split at h
    · rename_i hk
      rw [cellsFrom_append] at h
      rcases List.mem_append.mp h with q | q
      · exact .tail _ (own_cell r _ x c q)
      · have := List.mem_singleton.mp q
        (first | obtain ⟨_, rfl⟩ := this.atom | exact (nsE this).elim | exact (snE this).elim | exact (ftE this).elim | cases this)
        have e : k = .cell := by simpa using hk
        subst e; exact .head _
    · exact .tail _ (own_cell r n x c h)

theorem nodup_kind {names : List (Str × NameKind)} (hn : (names.map (·.1)).Nodup) {x : Str} {k k' : NameKind} (h1 : (x, k) ∈ names) (h2 : (x, k') ∈ names) : k = k' := by
  induction names with
  | nil => (first | obtain ⟨_, rfl⟩ := h1.atom | exact (nsE h1).elim | exact (snE h1).elim | exact (ftE h1).elim | cases h1)
  | cons p r ih =>
    rw [List.map_cons, List.nodup_cons] at hn
    rcases List.mem_cons.mp h1 with e1 | e1 <;> rcases List.mem_cons.mp h2 with e2 | e2
    · rw [← e1] at e2; (first | obtain ⟨_, rfl⟩ := e2.atom | exact (nsE e2).elim | exact (snE e2).elim | exact (ftE e2).elim | cases e2); rfl
    · exact absurd (List.mem_map.mpr ⟨(x, k'), e2, by rw [← e1]⟩) hn.1
    · exact absurd (List.mem_map.mpr ⟨(x, k), e1, by rw [← e2]⟩) hn.1
    · exact ih hn.2 e1 e2

theorem wpAny_newFunctionEnv_comp {M : Model} {A : Around} {E : Value → Shared → Prop} {s : Shared} {scope : Scope} {globals : Addr} {cl : List (Str × Addr)} {qual : Str} {env : Env} {Q : Env → Shared → Prop}
    (hQ : Q (newEnv scope s.heap.objs.size globals (cellsFrom (s.heap.objs.size + 1) scope.names [] ++ cl) qual none .none (some env) builtinsNs)
      { s with heap := pushCells (s.heap.push { cls := .type "dict", data := .dict #[] }) scope.names }) :
    wpAny M A (newFunctionEnv scope globals cl [] qual none .none (some env)) Q E s := by
  simp only [newFunctionEnv, Option.isSome_some, if_true]
  refine wpAny_bind (wpAny_alloc ?_)
  refine wpAny_bind (wpAny_layCells _ (fun name kind cells => by cases hkc : kind == NameKind.cell <;> simp [hkc]) _ _ _ _ ?_)
  rw [List.forIn_nil]
  refine wpAny_bind (wpAny_pure (wpAny_pure ?_))
  rw [cellsFrom_append]
  rw [show ({ s with heap := s.heap.push { cls := .type "dict", data := .dict #[] } } : Shared).heap.objs.size = s.heap.objs.size + 1 from Heap.size_push ..]
  exact hQ

theorem closL_free {cells : List (Str × Addr)} : ∀ (names : List (Str × NameKind)) (acc : List (Str × Addr)) (x : Str) (c : Addr), (closL cells names acc).lookup x = some c → acc.lookup x = some c ∨ (x, NameKind.free) ∈ names
  | [], acc, x, c, e => .inl e
  | (n, k) :: r, acc, x, c, e => by
    unfold closL at e
    split at e
    · rename_i hk
      have ek : k = .free := by simpa using hk
      subst ek
      split at e
      · rcases closL_free r _ x c e with q | q
        · rw [List.lookup_cons] at q
          cases hx : (x == n) with
          | true => right; rw [eq_of_beq hx]; exact .head _
          | false => rw [hx] at q; exact .inl q
        · exact .inr (.tail _ q)
      · exact (closL_free r acc x c e).elim .inl fun q => .inr (.tail _ q)
    · exact (closL_free r acc x c e).elim .inl fun q => .inr (.tail _ q)

/-- the context within a comprehension -/
noncomputable def Ctx.comp (Γ : Ctx) (scope : Scope) (Da C : Addr) (own : List (Str × Addr)) : Ctx :=
  { Γ with env := compEnvC scope (own ++ clos scope Γ.env) C Γ.env, S := fun b => Γ.S b ∨ b = Da ∨ b = C ∨ ∃ x, (x, b) ∈ own, ρ := fun x => if scope.names.lookup x = some .free then Γ.ρ x else none }

/-- what must be seen of a comprehension's table of names -/
structure ScopeOk (Γ : Ctx) (scope : Scope) (tg : List Str) : Prop where
  kind : scope.kind = .function
  nodup : (scope.names.map (·.1)).Nodup
  free : ∀ p ∈ scope.names, p.2 = .free → (Γ.env.cells.lookup p.1).isSome = true ∧ Γ.env.kindOf p.1 ≠ some .local
  tg : ∀ x ∈ tg, scope.names.lookup x = some .local ∨ scope.names.lookup x = some .cell

theorem mem_lookup {α : Type} : ∀ {l : List (Str × α)} {x : Str} {k : α}, l.lookup x = some k → (x, k) ∈ l := mem_of_lookup
theorem lookup_mem {names : List (Str × NameKind)} (hn : (names.map (·.1)).Nodup) {x : Str} {k : NameKind} (h : (x, k) ∈ names) : names.lookup x = some k := by
  cases e : names.lookup x with
  | none =>
    exfalso
    have := List.lookup_eq_none_iff.mp e _ h
    simp at this
  | some k' => rw [nodup_kind hn (mem_lookup e) h]

theorem lookup_append {α : Type} (a b : List (Str × α)) (x : Str) : (a ++ b).lookup x = (a.lookup x).or (b.lookup x) := by
  induction a with
  | nil => rfl
  | cons p r ih =>
    obtain ⟨n, v⟩ := p
    rw [List.cons_append, List.lookup_cons, List.lookup_cons]
    cases x == n with
    | true => rfl
    | false => exact ih

section
variable {Γ : Ctx} {scope : Scope} {tg : List Str}
theorem comp_at (Z : ScopeOk Γ scope tg) {h₁ h : Heap} {wr : List Addr} {Da C : Addr} {own : List (Str × Addr)} (C1 : Γ.At h₁) (kp : ∀ b o, h₁.get? b = some o → h.get? b = some o)
    (hw : ∀ b ∈ wr, h₁.get? b = none ∧ (h.get? b).isSome = true) (hD : h₁.get? Da = none ∧ (h.get? Da).isSome = true) (hC : h₁.get? C = none) (hns : h.Ns C fun _ => none)
    (hown : ∀ x c, (x, c) ∈ own → h.IsCell c none ∧ h₁.get? c = none ∧ c ≠ C) (hap : own.Pairwise fun x y => x.2 ≠ y.2) (hoc : ∀ x c, (x, c) ∈ own → (x, NameKind.cell) ∈ scope.names) :
    ((Γ.comp scope Da C own).plus wr).At h := by
  have hCl : (h.get? C).isSome = true := let ⟨o, _, _, e, _⟩ := hns; by rw [e]; rfl
  have gone : ∀ {b : Addr}, h₁.get? b = none → (h₁.get? b).isSome = true → False := fun e q => by rw [e] at q; (first | obtain ⟨_, rfl⟩ := q.atom | exact (nsE q).elim | exact (snE q).elim | exact (ftE q).elim | cases q)
  have cls : ∀ x c, (clos scope Γ.env).lookup x = some c → Γ.env.cells.lookup x = some c := fun x c e => (closL_sub scope.names [] x c e).elim (fun q => nomatch q) id
  have both : ∀ x c, (own ++ clos scope Γ.env).lookup x = some c → (x, c) ∈ own ∨ ((clos scope Γ.env).lookup x = some c ∧ (h₁.get? c).isSome = true) := fun x c e => by
    rw [lookup_append] at e
    cases q : own.lookup x with
    | some c' => rw [q] at e; (first | obtain ⟨_, rfl⟩ := e.atom | exact (nsE e).elim | exact (snE e).elim | exact (ftE e).elim | cases e); exact .inl (mem_lookup q)
    | none => rw [q] at e; exact .inr ⟨e, C1.cin x c (cls x c e)⟩
  refine ⟨⟨C1.wd.gl, fun b o e => kp b o (C1.wd.up b o e), fun a q => ?_, fun a q => ?_⟩, Z.kind, C1.globals, C1.builtins, C1.room, ⟨fun x y c e f => ?_, fun x c e => ?_⟩, fun x c e => ?_, fun x d e => ?_⟩
  · rcases q with (q | q | q | ⟨x, q⟩) | q
    · exact C1.wd.off a q
    · subst q; exact C1.wd.fresh hD.1
    · subst q; exact C1.wd.fresh hC
    · exact C1.wd.fresh (hown x a q).2.1
    · exact C1.wd.fresh (hw a q).1
  · rcases q with (q | q | q | ⟨x, q⟩) | q
    · exact some_keep (C1.wd.held a q) kp
    · subst q; exact hD.2
    · subst q; exact hCl
    · obtain ⟨o, e, _⟩ := (hown x a q).1; rw [e]; rfl
    · exact (hw a q).2
  · rcases both x c e with a | ⟨a, a'⟩ <;> rcases both y c f with b | ⟨b, b'⟩
    · exact name_of_addr hap a b
    · exact (gone (hown x c a).2.1 b').elim
    · exact (gone (hown y c b).2.1 a').elim
    · exact C1.sep.1 x y c (cls x c a) (cls y c b)
  · rcases both x c e with a | ⟨a, a'⟩
    · exact (hown x c a).2.2
    · intro q
      have : c = C := q
      rw [this] at a'; exact gone hC a'
  · rcases both x c e with a | ⟨a, a'⟩
    · obtain ⟨o, e, _⟩ := (hown x c a).1; rw [e]; rfl
    · exact some_keep a' kp
  · have e' : (if scope.names.lookup x = some .free then Γ.ρ x else none) = some d := e
    by_cases hf : scope.names.lookup x = some .free
    · rw [if_pos hf] at e'
      obtain ⟨v, hv, r⟩ := C1.vars x d e'
      refine ⟨v, ?_, (r.avoid (S' := ((Γ.comp scope Da C own).plus wr).S) fun b q => ?_).keep kp⟩
      · have hfz := Z.free (x, .free) (mem_lookup hf) rfl
        rcases hv with ⟨a, _⟩ | ⟨a, c, l, n⟩
        · exact absurd a hfz.2
        · refine .inr ⟨?_, c, ?_, n.keeps kp⟩
          · show ((compEnvC scope (own ++ clos scope Γ.env) C Γ.env).kindOf x = some .cell ∨ _)
            rw [kind_relabel, hf]
            rcases a with a | ⟨a, b⟩
            · left; simp [C1.kind, a]
            · right; exact ⟨by rw [show ((Γ.comp scope Da C own).plus wr).env = compEnvC scope (own ++ clos scope Γ.env) C Γ.env from rfl, kind_relabel, hf]; simp [a], b⟩
          · show (own ++ clos scope Γ.env).lookup x = some c
            rw [lookup_append]
            have : own.lookup x = none := by
              cases q : own.lookup x with
              | none => rfl
              | some c' =>
                have := nodup_kind Z.nodup (hoc x c' (mem_lookup q)) (mem_lookup hf)
                (first | obtain ⟨_, rfl⟩ := this.atom | exact (nsE this).elim | exact (snE this).elim | exact (ftE this).elim | cases this)
            rw [this]
            exact closL_has scope.names [] x c (fun c' q => nomatch q) l (.inr (mem_lookup hf))
      · rcases q with (q | q | q | ⟨x, q⟩) | q
        · exact .inl q
        · subst q; exact .inr hD.1
        · subst q; exact .inr hC
        · exact .inr (hown x b q).2.1
        · exact .inr (hw b q).1
    · rw [if_neg hf] at e'; (first | obtain ⟨_, rfl⟩ := e'.atom | exact (nsE e').elim | exact (snE e').elim | exact (ftE e').elim | cases e')

theorem comp_slots (Z : ScopeOk Γ scope tg) {h : Heap} {wr : List Addr} {Da C : Addr} {n : Nat} (hns : h.Ns C fun _ => none) (hown : ∀ x c, (x, c) ∈ cellsFrom n scope.names [] → h.IsCell c none) :
    ∀ x ∈ tg, Slot ((Γ.comp scope Da C (cellsFrom n scope.names [])).plus wr) h x := fun x hx => by
  rcases Z.tg x hx with e | e
  · refine .inl ⟨?_, ⟨_, hns⟩, .inl (.inr (.inr (.inl rfl)))⟩
    show (compEnvC scope _ C Γ.env).kindOf x = _
    rw [kind_relabel, e]; rfl
  · have hs := cellsFrom_has scope.names n [] x (.inr (mem_lookup e))
    cases q : (cellsFrom n scope.names []).lookup x with
    | none => rw [q] at hs; (first | obtain ⟨_, rfl⟩ := hs.atom | exact (nsE hs).elim | exact (snE hs).elim | exact (ftE hs).elim | cases hs)
    | some c =>
      refine .inr ⟨?_, c, none, ?_, hown x c (mem_lookup q), .inl (.inr (.inr (.inr ⟨x, mem_lookup q⟩)))⟩
      · show (compEnvC scope _ C Γ.env).kindOf x = _
        rw [kind_relabel, e]; rfl
      · show (cellsFrom n scope.names [] ++ _).lookup x = _
        rw [lookup_append, q]; rfl
end
theorem size_big {Γ : Ctx} {h : Heap} (C : Γ.At h) : 3 < h.objs.size := by
  obtain ⟨mg, o, _, _, e, _⟩ := C.wd.glh.mg
  exact Heap.lt_size e

/-- the start of a comprehension: iterator, gathered object, block -/
theorem comp_core {τ : Type} {P : Addr → τ → (Addr → Prop) → Heap → Prop} (hP : ∀ Da t, AccOk (P Da t) Da) {newAcc : Sem Value} {ob : Obj} (hfree : ob.isFreed = false)
    (hnew : ∀ (M : Model) (A : Around) (s : Shared) (Q : Value → Shared → Prop) (E : Value → Shared → Prop), Q (.ref s.heap.objs.size) { s with heap := s.heap.push ob } → wpAny M A newAcc Q E s)
    (t : Nat → τ) (hP0 : ∀ Da S h, S Da → (Da == sysModules) = false → h.get? Da = some ob → P Da (t 0) S h)
    {Γ : Ctx} {scope : Scope} {tg : List Str} (Z : ScopeOk Γ scope tg) {s₁ : Shared} (C1 : Γ.At s₁.heap) {x : Value} {d : D} {ds : List D} (rx : Γ.R s₁.heap x d) (hit : Iterable d ds)
    {e : Expr} {ip : Pos} {target : Expr} {ifs : List Expr} {kt : Addr → Addr → Ctx → Sem Fin} {R : Value → Addr → Result → Shared → Prop} {E : Value → Shared → Prop}
    (hstart : ∀ {A : Around} {R : Result → Shared → Prop} {s : Shared} {it acc : Value} {env : Env}, codeAny (model Γ.prog Γ.w) A (.compLoop e 0 it acc env) R s → wpAny (model Γ.prog Γ.w) A (pyIter it) (fun it' s' => codeAny (model Γ.prog Γ.w) A (.compLoop e 0 it' acc env) R s') (notedBy (model Γ.prog Γ.w) A env fun x s' => R (.error x) s') s → codeAny (model Γ.prog Γ.w) A (.compStart e 0 it acc env) R s)
    (hq : ∀ it acc env, (Code.compLoop e 0 it acc env).quiet = true) (hun : ∀ (A : Around) it acc env, A.under (.compLoop e 0 it acc env) = A)
    (hden : ∀ I Da C own, (model Γ.prog Γ.w).den (.compLoop e 0 (.ref I) (.ref Da) (Γ.comp scope Da C own).env) =
      (turnAt ip target ifs (Γ.comp scope Da C own).env (kt I Da (Γ.comp scope Da C own)) (again (.compLoop e 0 (.ref I) (.ref Da) (Γ.comp scope Da C own).env)) (.ref I)).onRaise (fun x => do noteFrame x (Γ.comp scope Da C own).env; theTreesLotGoes x))
    (turn : ∀ (I Da C : Addr) (own : List (Str × Addr)) (fp wr : List Addr), Lay ((Γ.comp scope Da C own).plus wr) tg Da (fun _ => False) s₁.heap → Da ∉ fp → (∀ b ∈ wr, b ∈ fp) → (∀ x ∈ tg, ∀ c, (Γ.comp scope Da C own).env.cells.lookup x = some c → c ∉ fp) → C ∉ fp → (∀ x ∈ tg, ∀ c, (Γ.comp scope Da C own).env.cells.lookup x = some c → (Γ.comp scope Da C own).S c) → ∀ k d, ds[k]? = some d → ∃ bs ok, Bnd target d bs ∧ (∀ b ∈ bs, b.1 ∈ tg) ∧ TestsOk (((Γ.comp scope Da C own).plus wr).setAll bs) ifs ok ∧ (ok = false → t (k + 1) = t k) ∧
      (ok = true → ∀ s, Cst (((Γ.comp scope Da C own).plus wr).setAll bs) tg (fun _ => False) s₁.heap (P Da (t k)) s₁ s →
        wpAny (model Γ.prog Γ.w) Γ.A (kt I Da (Γ.comp scope Da C own)) (fun fin s' => fin = .again (.compLoop e 0 (.ref I) (.ref Da) (Γ.comp scope Da C own).env) ∧ Cst (((Γ.comp scope Da C own).plus wr).setAll bs) tg (fun _ => False) s₁.heap (P Da (t (k + 1))) s₁ s' ∧ ∀ b ∈ fp, ∀ o, s.heap.get? b = some o → s'.heap.get? b = some o) (fun _ _ => False) s))
    (fin : ∀ Da C own s', s₁.heap.get? C = none → s₁.heap.get? Da = none → Da ≠ C → Cst (Γ.comp scope Da C own) tg (fun _ => False) s₁.heap (P Da (t ds.length)) s₁ s' → R (.ref Da) C (.ok .next) s') :
    wpAny (model Γ.prog Γ.w) Γ.A (pyIter x) (fun it s₂ => wpAny (model Γ.prog Γ.w) Γ.A newAcc (fun acc s₃ => wpAny (model Γ.prog Γ.w) Γ.A (newFunctionEnv scope Γ.env.globals (clos scope Γ.env) [] Γ.env.qual none .none (some Γ.env)) (fun cenv s₄ =>
      codeAny (model Γ.prog Γ.w) Γ.A (.compStart e 0 it acc { cenv with scope := relabel scope Γ.env }) (R acc cenv.locals) s₄) E s₃) E s₂) E s₁ := by
  refine hit _ _ _ _ _ _ _ _ C1.room.1 rx fun I fp wr St s₂ k₂ T st hfp hwr _ => ?_
  have C2 := C1.go k₂
  refine hnew _ _ _ _ _ (wpAny_newFunctionEnv_comp ?_)
  have hz3 : ({ s₂ with heap := s₂.heap.push ob } : Shared).heap.objs.size = s₂.heap.objs.size + 1 := Heap.size_push ..
  rw [hz3]
  generalize hDa : s₂.heap.objs.size = Da
  generalize hCa : Da + 1 = C
  have hC : C = ({ s₂ with heap := s₂.heap.push ob } : Shared).heap.objs.size := by rw [hz3, hDa, hCa]
  have okc := cellsFrom_ok scope.names ((s₂.heap.push ob).push { cls := .type "dict", data := .dict #[] }) (C + 1) [] ⟨fun _ _ hm => (nomatch hm), List.Pairwise.nil⟩ (by rw [Heap.size_push, Heap.size_push, hDa]; omega)
  have hsz4 : ((s₂.heap.push ob).push { cls := .type "dict", data := .dict #[] }).objs.size = C + 1 := by rw [Heap.size_push, Heap.size_push, hDa]; omega
  rw [hsz4] at okc
  generalize hown : cellsFrom (C + 1) scope.names [] = own at okc
  generalize hH : pushCells ((s₂.heap.push ob).push { cls := .type "dict", data := .dict #[] }) scope.names = H at okc
  have kp23 : ∀ b o, s₂.heap.get? b = some o → H.get? b = some o := fun b o q => by rw [← hH]; exact pushCells_keeps _ _ _ _ (Heap.get?_push_of_some _ (Heap.get?_push_of_some _ q))
  have kp : ∀ b o, s₁.heap.get? b = some o → H.get? b = some o := fun b o q => kp23 b o (k₂.k b o q)
  have unused : ∀ b : Nat, s₂.heap.objs.size ≤ b → s₁.heap.get? b = none := fun b hb => by
    cases q : s₁.heap.get? b with
    | none => rfl
    | some o => exact absurd (Heap.lt_size (k₂.k b o q)) (Nat.not_lt.mpr hb)
  have hDob : H.get? Da = some ob := by rw [← hH]; exact pushCells_keeps _ _ _ _ (Heap.get?_push_of_some _ (by rw [← hDa]; exact Heap.get?_push_size _ hfree))
  have hns : H.Ns C fun _ => none := by
    rw [← hH, hC]
    exact (Heap.Ns.new _ _).keeps (pushCells_keeps _ _)
  have okc2 : ∀ (x : Str) (c : Nat), (x, c) ∈ own → C + 1 ≤ c := fun x c m => (okc.empty x c m).2
  have hfp' : ∀ b : Nat, b ∈ fp → b < s₂.heap.objs.size := hfp
  have hownf : ∀ (x : Str) (c : Nat), (x, c) ∈ own → H.IsCell c none ∧ s₁.heap.get? c = none ∧ c ≠ C := fun x c m => by
    have b := okc2 x c m
    exact ⟨(okc.empty x c m).1, unused c (by omega), by show (c : Nat) ≠ C; omega⟩
  have hDn : s₁.heap.get? Da = none := unused Da (by omega)
  have hCn : s₁.heap.get? C = none := unused C (by omega)
  have hlive : ∀ b ∈ wr, (H.get? b).isSome = true := fun b hb => some_keep (T.live 0 _ st b hb) kp23
  have hDC : Da ≠ C := by omega
  have hfpD : Da ∉ fp := fun m => by have := hfp' _ m; omega
  have hfpC : C ∉ fp := fun m => by have := hfp' _ m; omega
  have hcellsE : ∀ x c, (Γ.comp scope Da C own).env.cells.lookup x = some c → (x, c) ∈ own ∨ (Γ.env.cells.lookup x = some c ∧ (s₁.heap.get? c).isSome = true) := fun x c e => by
    have e' : (own ++ clos scope Γ.env).lookup x = some c := e
    rw [lookup_append] at e'
    cases q : own.lookup x with
    | some c' => rw [q] at e'; (first | obtain ⟨_, rfl⟩ := e'.atom | exact (nsE e').elim | exact (snE e').elim | exact (ftE e').elim | cases e'); exact .inl (mem_lookup q)
    | none =>
      rw [q] at e'
      have : Γ.env.cells.lookup x = some c := (closL_sub scope.names [] x c e').elim (fun q => nomatch q) id
      exact .inr ⟨this, C1.cin x c this⟩
  have hcap : ∀ x c, (Γ.comp scope Da C own).env.cells.lookup x = some c → c ∉ wr := fun x c e m => by
    rcases hcellsE x c e with a | ⟨_, a⟩
    · have h1 := okc2 x c a
      have h2 := hfp' c (T.sub _ m)
      omega
    · rw [hwr c m] at a; (first | obtain ⟨_, rfl⟩ := a.atom | exact (nsE a).elim | exact (snE a).elim | exact (ftE a).elim | cases a)
  have hat : ((Γ.comp scope Da C own).plus wr).At H := comp_at Z C1 kp (fun b hb => ⟨hwr b hb, hlive b hb⟩) ⟨hDn, by rw [hDob]; rfl⟩ hCn hns hownf okc.apart (fun x c m => own_cell scope.names (C + 1) x c (by rw [hown]; exact m))
  have hsl : ∀ x ∈ tg, Slot ((Γ.comp scope Da C own).plus wr) H x := by
    have := comp_slots (Γ := Γ) (wr := wr) (Da := Da) (n := C + 1) Z hns (fun x c m => (hownf x c (by rw [hown] at m; exact m)).1)
    rw [hown] at this; exact this
  have hmod : (Da == sysModules) = false := by
    have := size_big C2
    have e : sysModules = 1 := rfl
    rw [e]
    exact beq_eq_false_iff_ne.mpr (by omega)
  have hcellsT : ∀ x ∈ tg, ∀ c, (Γ.comp scope Da C own).env.cells.lookup x = some c → (x, c) ∈ own := fun x hx c e => by
    have e' : (own ++ clos scope Γ.env).lookup x = some c := e
    rw [lookup_append] at e'
    cases q : own.lookup x with
    | some c' => rw [q] at e'; (first | obtain ⟨_, rfl⟩ := e'.atom | exact (nsE e').elim | exact (snE e').elim | exact (ftE e').elim | cases e'); exact mem_lookup q
    | none =>
      exfalso
      rw [q] at e'
      have hf := (closL_free scope.names [] x c e').elim (fun q => nomatch q) id
      rcases Z.tg x hx with hk | hk <;> cases nodup_kind Z.nodup hf (mem_lookup hk)
  have hfpT : ∀ x ∈ tg, ∀ c, (Γ.comp scope Da C own).env.cells.lookup x = some c → c ∉ fp := fun x hx c e m => by
    have h1 := okc2 x c (hcellsT x hx c e)
    have h2 := hfp' c m
    omega
  have hcD : ∀ x, (Γ.comp scope Da C own).env.cells.lookup x ≠ some Da := by
    intro x q
    rcases hcellsE x Da q with a | ⟨_, a⟩
    · have := okc2 x Da a; omega
    · rw [hDn] at a; (first | obtain ⟨_, rfl⟩ := a.atom | exact (nsE a).elim | exact (snE a).elim | exact (ftE a).elim | cases a)
  have L : Lay (Γ.comp scope Da C own) tg Da (fun _ => False) s₁.heap := ⟨hDC, hcD, .inr hCn, fun x hx c q => .inr (hownf x c (hcellsT x hx c q)).2.1, .inr hDn⟩
  have loop : codeAny (model Γ.prog Γ.w) Γ.A (.compLoop e 0 (.ref I) (.ref Da) (Γ.comp scope Da C own).env) (R (.ref Da) C) { s₂ with heap := H } := by
    refine loop_rule (Γ := Γ.comp scope Da C own) (hP Da) L (hq _ _ _) (hden I Da C own) (hun _ _ _ _) T (fun b q => ?_) (fun h q => fun b o _ e => q b o id e) hfpC (fun x hx c q => ?_) hfpD (fun b hb => .inr (hwr b hb)) (fun b hb q => ?_) hcap t
      (fun k d hd => ?_) ⟨⟨k₂.1.1, k₂.1.2⟩, fun b o _ q => kp b o q, hat, hsl, hP0 Da _ H (.inl (.inr (.inl rfl))) hmod hDob, ⟨_, hns⟩⟩ (T.frame _ _ _ st fun b _ o q => kp23 b o q) (fun s' c => fin Da C own s' hCn hDn hDC c)
    · rcases q with (q | q | q | ⟨x, q⟩) | q
      · exact .inl q
      · subst q; exact .inr hDn
      · subst q; exact .inr hCn
      · exact .inr (hownf x b q).2.1
      · exact .inr (hwr b q)
    · exact hfpT x hx c q
    · have hb' := hwr b hb
      have hbf := hfp' b (T.sub b hb)
      rcases q with q | q | q | ⟨x, q⟩
      · have := C1.wd.held b q; rw [hb'] at this; (first | obtain ⟨_, rfl⟩ := this.atom | exact (nsE this).elim | exact (snE this).elim | exact (ftE this).elim | cases this)
      · have q : @Eq Nat b Da := q
        omega
      · have q : @Eq Nat b C := q
        omega
      · have := okc2 x b q; omega
    · obtain ⟨bs, ok, h1, h2, h3, h4, h5⟩ := turn I Da C own fp wr ⟨L.dl, L.dc, L.fl, L.fc, L.fd⟩ hfpD T.sub hfpT hfpC (fun x hx c e => .inr (.inr (.inr ⟨x, hcellsT x hx c e⟩))) k d hd
      refine ⟨bs, ok, h1, fun b hb => ⟨h2 b hb, ?_⟩, h3, h4, h5⟩
      show (if scope.names.lookup b.1 = some .free then Γ.ρ b.1 else none) = none
      rcases Z.tg b.1 (h2 b hb) with hk | hk <;> rw [hk] <;> rfl
  exact hstart loop (T.self 0 _ _ _ (T.frame _ _ _ st fun b _ o q => kp23 b o q) loop)
-- part PL10
/-- a new list, whose address nothing else knows -/
inductive NewL (Γ : Ctx) (h₀ : Heap) (ds : List D) (v : Value) (h : Heap) : Prop
  | mk (a : Addr) (vs : List Value) (e : v = .ref a) (n : h₀.get? a = none) (hl : h.PlainList a vs.toArray) (rs : RepAll Γ.prog Γ.w (fun b => Γ.S b ∨ b = a) h vs ds) : NewL Γ h₀ ds v h
/-- a new dict -/
inductive NewD {K : Type} [DecidableEq K] (Γ : Ctx) (knd : KeyKind Γ.prog Γ.w K) (h₀ : Heap) (kvs : List (K × Int)) (v : Value) (h : Heap) : Prop
  | mk (a : Addr) (us : List (K × Value)) (e : v = .ref a) (n : h₀.get? a = none) (m : (a == sysModules) = false) (hd : h.DictOf knd a us) (hk : KV us kvs) : NewD Γ knd h₀ kvs v h
theorem NewL.rep {Γ : Ctx} {h₀ h : Heap} {ds : List D} {v : Value} (x : NewL Γ h₀ ds v h) (held : ∀ a, Γ.S a → (h₀.get? a).isSome = true) : Γ.R h v (.list ds) := by
  obtain ⟨a, vs, rfl, hn, hl, rs⟩ := x
  exact .list (not_held held hn) hl (rs.less fun b q => .inl q)
theorem NewD.repI {Γ : Ctx} {h₀ h : Heap} {kvs : List (Int × Int)} {v : Value} (x : NewD Γ (intKind Γ.prog Γ.w) h₀ kvs v h) (held : ∀ a, Γ.S a → (h₀.get? a).isSome = true) : Γ.R h v (.idict kvs) := by
  obtain ⟨a, us, rfl, hn, hm, hd, hk⟩ := x
  exact .idict (not_held held hn) hm hd hk
structure EvNL (Γ : Ctx) (e : Expr) (ds : List D) : Prop where
  run : ∀ s, Γ.At s.heap → Tr Γ (eval e Γ.env) (NewL Γ s.heap ds) s
structure EvND {K : Type} [DecidableEq K] (Γ : Ctx) (knd : KeyKind Γ.prog Γ.w K) (e : Expr) (kvs : List (K × Int)) : Prop where
  run : ∀ s, Γ.At s.heap → Tr Γ (eval e Γ.env) (NewD Γ knd s.heap kvs) s
theorem EvNL.ev {Γ : Ctx} {e : Expr} {ds : List D} (h : EvNL Γ e ds) : Ev Γ e (.list ds) := .mk fun s C => (h.run s C).mono fun _ _ q => q.rep C.wd.held
theorem EvND.evI {Γ : Ctx} {e : Expr} {kvs : List (Int × Int)} (h : EvND Γ (intKind Γ.prog Γ.w) e kvs) : Ev Γ e (.idict kvs) := .mk fun s C => (h.run s C).mono fun _ _ q => q.repI C.wd.held
/-- the context of a turn of a comprehension -/
noncomputable abbrev Ctx.cx (Γ : Ctx) (scope : Scope) (bs : List (Str × D)) (Da C : Addr) (own : List (Str × Addr)) (wr : List Addr) : Ctx := ((Γ.comp scope Da C own).plus wr).setAll bs

theorem lay_setAll {Γ : Ctx} {bs : List (Str × D)} {tg : List Str} {Da : Addr} {Sr : Addr → Prop} {hr : Heap} (L : Lay Γ tg Da Sr hr) : Lay (Γ.setAll bs) tg Da Sr hr := by
  obtain ⟨e1, -⟩ := setAll_env bs Γ
  obtain ⟨a, b, c, d, e⟩ := L
  refine ⟨?_, ?_, ?_, ?_, e⟩
  · rw [e1]; exact a
  · rw [e1]; exact b
  · rw [e1]; exact c
  · rw [e1]; exact d

section
variable {Γ : Ctx} {scope : Scope} {tg : List Str} {s₁ s' : Shared} {Da C : Addr} {own : List (Str × Addr)}

theorem comp_end {P : (Addr → Prop) → Heap → Prop} (hC : s₁.heap.get? C = none) (c : Cst (Γ.comp scope Da C own) tg (fun _ => False) s₁.heap P s₁ s') :
    ∃ m, s'.heap.Ns C m ∧ ∀ h', Heap.SameBut C s'.heap h' → Kp s₁ { s' with heap := h' } ∧ Ext (Γ.comp scope Da C own).S s'.heap h' := by
  obtain ⟨m, hm⟩ := c.ns
  refine ⟨m, hm, fun h' hs => ⟨?_, fun b o hb e => hs.extBut b o (fun q => hb (.inr (.inr (.inl q)))) e⟩⟩
  exact ⟨⟨c.same.1, c.same.2⟩, fun b o e => hs.extBut b o (fun q => by rw [q, hC] at e; (first | obtain ⟨_, rfl⟩ := e.atom | exact (nsE e).elim | exact (snE e).elim | exact (ftE e).elim | cases e)) (c.ext b o id e)⟩

theorem newL_of {outs : List D} {h' : Heap} (hDn : s₁.heap.get? Da = none) (hDC : Da ≠ C) (hs : Heap.SameBut C s'.heap h') (hx : Ext (Γ.comp scope Da C own).S s'.heap h') (a : AccL Γ.prog Γ.w Da outs (Γ.comp scope Da C own).S s'.heap) : NewL Γ s₁.heap outs (.ref Da) h' := by
  obtain ⟨_, vs, hl, rs⟩ := a
  exact ⟨Da, vs, rfl, hDn, hl.at fun o e => hs.extBut Da o hDC e, (rs.ext hx).less fun b q => q.elim .inl fun e => .inr (.inl e)⟩
theorem newD_of {K : Type} [DecidableEq K] {knd : KeyKind Γ.prog Γ.w K} {kvs : List (K × Int)} {h' : Heap} (hDn : s₁.heap.get? Da = none) (hDC : Da ≠ C) (hs : Heap.SameBut C s'.heap h') (a : AccD Γ.prog Γ.w knd Da kvs (Γ.comp scope Da C own).S s'.heap) : NewD Γ knd s₁.heap kvs (.ref Da) h' := by
  obtain ⟨_, hm, us, hd, hk⟩ := a
  exact ⟨Da, us, rfl, hDn, hm, DictOf_at hd fun o e => hs.extBut Da o hDC e, hk⟩
end

theorem scope_names {Γ : Ctx} {scope : Scope} {tg : List Str} (Z : ScopeOk Γ scope tg) : ∀ x ∈ scope.names, x.2 = .local → scope.names.lookup x.1 = some .local := fun x hx e => lookup_mem Z.nodup (by rw [← e]; exact hx)
theorem scope_clos {Γ : Ctx} {scope : Scope} {tg : List Str} (Z : ScopeOk Γ scope tg) : closureFor scope Γ.env = pure (clos scope Γ.env) := closure_is fun p hp e => (Z.free p hp e).1

noncomputable def pickOut {τ : Type} (p : τ → Bool) (g : τ → D) (xs : List τ) : List D := (xs.filter p).map g
theorem pickOut_len {τ : Type} (p : τ → Bool) (g : τ → D) (xs : List τ) : (pickOut p g xs).length ≤ xs.length := by unfold pickOut; rw [List.length_map]; exact List.length_filter_le ..
theorem pickOut_take {τ : Type} (p : τ → Bool) (g : τ → D) (xs : List τ) (k : Nat) (x : τ) (h : xs[k]? = some x) : pickOut p g (xs.take (k + 1)) = pickOut p g (xs.take k) ++ (if p x = true then [g x] else []) := by
  unfold pickOut
  rw [List.take_add_one, h, List.filter_append, List.map_append]
  by_cases e : p x = true
  · simp [e]
  · simp [e]

theorem hden_list1 {Γ : Ctx} {elt target iter : Expr} {ifs : List Expr} {scope sc : Scope} {pos : Pos} (I Da C : Addr) (own : List (Str × Addr)) :
    (model Γ.prog Γ.w).den (.compLoop (.ListComp elt [⟨target, iter, ifs, 0⟩] sc pos) 0 (.ref I) (.ref Da) (Γ.comp scope Da C own).env) =
      (turnAt iter.pos target ifs (Γ.comp scope Da C own).env (emitL elt (.ref Da) (Γ.comp scope Da C own).env >>= fun _ => again (.compLoop (.ListComp elt [⟨target, iter, ifs, 0⟩] sc pos) 0 (.ref I) (.ref Da) (Γ.comp scope Da C own).env))
        (again (.compLoop (.ListComp elt [⟨target, iter, ifs, 0⟩] sc pos) 0 (.ref I) (.ref Da) (Γ.comp scope Da C own).env)) (.ref I)).onRaise (fun x => do noteFrame x (Γ.comp scope Da C own).env; theTreesLotGoes x) := by
  rw [← turn_list1 elt target iter ifs sc pos]; rfl

/-- the heart of a list comprehension with one clause: whatever is made of the list -/
theorem listcomp_use {τ : Type} {xs : List τ} {inj : τ → D} {bs : τ → List (Str × D)} {p : τ → Bool} {g : τ → D} {Γ : Ctx} {scope : Scope} {tg : List Str} {d : D} {iter elt target : Expr} {ifs : List Expr} {pos : Pos}
    (hi : Ev Γ iter d) (hit : Iterable d (xs.map inj)) (Z : ScopeOk Γ scope tg) (hsz : xs.length ≤ sizeLine)
    (hb : ∀ x ∈ xs, Bnd target (inj x) (bs x)) (hn : ∀ x ∈ xs, ∀ b ∈ bs x, b.1 ∈ tg)
    (ht : ∀ x ∈ xs, ∀ Da C own wr, TestsOk (Γ.cx scope (bs x) Da C own wr) ifs (p x))
    (he : ∀ x ∈ xs, p x = true → ∀ Da C own wr, Ev (Γ.cx scope (bs x) Da C own wr) elt (g x))
    {use : Option (Value → Sem Unit)} {Q : Value → Shared → Prop} {s : Shared} (hC : Γ.At s.heap)
    (fin : ∀ s₁ Da C own s', Kp s s₁ → Γ.At s₁.heap → s₁.heap.get? C = none → s₁.heap.get? Da = none → Da ≠ C → Cst (Γ.comp scope Da C own) tg (fun _ => False) s₁.heap (AccL Γ.prog Γ.w Da (pickOut p g xs)) s₁ s' →
      compPost (model Γ.prog Γ.w) Γ.A (fun _ _ => False) use Q (.ref Da) C (.ok .next) s')
    (hs : ∀ x, foldedSetIterable iter Γ.env x = pure x := by intro _; rfl) :
    wpAny (model Γ.prog Γ.w) Γ.A (comprehension (.ListComp elt [⟨target, iter, ifs, 0⟩] scope pos) scope Γ.env (firstIterPos [⟨target, iter, ifs, 0⟩] pos) (newList []) false (eval iter Γ.env) use) Q (fun _ _ => False) s := by
  refine wpAny_comprehension_free rfl hs (scope_clos Z) Z.kind (scope_names Z) ((hi.run s hC).then' fun xv s₁ k₁ r₁ => ?_)
  have C1 := hC.go k₁
  refine comp_core (P := fun Da t => AccL Γ.prog Γ.w Da t) (fun Da t => accL_ok) (ob := { cls := .type "list", data := .seq ([] : List Value).toArray }) rfl
    (fun M A s Q E q => wpAny_newObj_type q) (fun k => pickOut p g (xs.take k)) (fun Da S h hS _ e => ⟨hS, [], ⟨0, e⟩, ?_⟩) Z C1 r₁ hit (ip := iter.pos) (target := target) (ifs := ifs)
    (kt := fun I Da Γ' => emitL elt (.ref Da) Γ'.env >>= fun _ => again (.compLoop (.ListComp elt [⟨target, iter, ifs, 0⟩] scope pos) 0 (.ref I) (.ref Da) Γ'.env))
    (fun h h' => codeAny_compStart_list h h') (fun _ _ _ => rfl) (fun _ _ _ _ => rfl) ?_ ?_ ?_
  · rw [List.take_zero]; exact .nil
  · exact fun I Da C own => hden_list1 I Da C own
  · intro I Da C own fp wr L hfd _ _ _ _ k d hd
    rw [List.getElem?_map] at hd
    cases hx : xs[k]? with
    | none => rw [hx] at hd; (first | obtain ⟨_, rfl⟩ := hd.atom | exact (nsE hd).elim | exact (snE hd).elim | exact (ftE hd).elim | cases hd)
    | some x =>
      rw [hx] at hd
      (first | obtain ⟨_, rfl⟩ := hd.atom | exact (nsE hd).elim | exact (snE hd).elim | exact (ftE hd).elim | cases hd)
      have hm : x ∈ xs := List.mem_of_getElem? hx
      refine ⟨bs x, p x, hb x hm, hn x hm, ht x hm Da C own wr, fun e => ?_, fun e s c => ?_⟩
      · show pickOut p g (xs.take (k + 1)) = _
        rw [pickOut_take p g xs k x hx, e]; simp
      · have e2 : pickOut p g (xs.take (k + 1)) = pickOut p g (xs.take k) ++ [g x] := by rw [pickOut_take p g xs k x hx, e]; simp
        show wpAny _ _ _ (fun fin s' => fin = _ ∧ Cst _ tg _ s₁.heap (AccL Γ.prog Γ.w Da (pickOut p g (xs.take (k + 1)))) s₁ s' ∧ _) _ s
        rw [e2]
        obtain ⟨e1, -, e3, e4, e5, -⟩ := setAll_env (bs x) ((Γ.comp scope Da C own).plus wr)
        have := emitL_rule (c := .compLoop (.ListComp elt [⟨target, iter, ifs, 0⟩] scope pos) 0 (.ref I) (.ref Da) (Γ.comp scope Da C own).env) (fp := fp) (Γ := Γ.cx scope (bs x) Da C own wr) (y := g x) (elt := elt) (outs := pickOut p g (xs.take k)) (lay_setAll L) hfd
          (by rw [e3, e4]; exact c) (he x hm e Da C own wr) (Nat.le_trans (pickOut_len p g _) (Nat.le_trans (by rw [List.length_take]; exact Nat.min_le_right ..) hsz))
        rw [e1, e3, e4, e5] at this
        exact this
  · intro Da C own s' h1 h2 h3 c
    refine fin s₁ Da C own s' k₁ C1 h1 h2 h3 ?_
    have : (xs.map inj).length = xs.length := List.length_map ..
    rw [this, List.take_length] at c
    exact c

theorem ev_listcomp {τ : Type} {xs : List τ} {inj : τ → D} {bs : τ → List (Str × D)} {p : τ → Bool} {g : τ → D} {Γ : Ctx} {scope : Scope} {tg : List Str} {d : D} {iter elt target : Expr} {ifs : List Expr} {pos : Pos}
    (hi : Ev Γ iter d) (hit : Iterable d (xs.map inj)) (Z : ScopeOk Γ scope tg) (hsz : xs.length ≤ sizeLine)
    (hb : ∀ x ∈ xs, Bnd target (inj x) (bs x)) (hn : ∀ x ∈ xs, ∀ b ∈ bs x, b.1 ∈ tg)
    (ht : ∀ x ∈ xs, ∀ Da C own wr, TestsOk (Γ.cx scope (bs x) Da C own wr) ifs (p x))
    (he : ∀ x ∈ xs, p x = true → ∀ Da C own wr, Ev (Γ.cx scope (bs x) Da C own wr) elt (g x))
    (hs : ∀ x, foldedSetIterable iter Γ.env x = pure x := by intro _; rfl) : EvNL Γ (.ListComp elt [⟨target, iter, ifs, 0⟩] scope pos) (pickOut p g xs) := .mk fun s hC => by
  unfold Tr
  rw [eval_ListComp]
  refine listcomp_use (use := none) hi hit Z hsz hb hn ht he hC (fun s₁ Da C own s' k₁ C1 h1 h2 h3 c => ?_) hs
  obtain ⟨m, hm, hk⟩ := comp_end h1 c
  refine ⟨m, hm, fun h' hs' => ?_⟩
  obtain ⟨k, hx⟩ := hk h' hs'
  have := newL_of h2 h3 hs' hx c.acc
  obtain ⟨a, vs, e, hn, r, r2⟩ := this
  refine ⟨k₁.trans k, a, vs, e, ?_, r, r2⟩
  cases q : s.heap.get? a with
  | none => rfl
  | some o => rw [k₁.k a o q] at hn; (first | obtain ⟨_, rfl⟩ := hn.atom | exact (nsE hn).elim | exact (snE hn).elim | exact (ftE hn).elim | cases hn)
-- part PL11
noncomputable def kvOut {τ K : Type} [DecidableEq K] (p : τ → Bool) (gk : τ → K) (gv : τ → Int) (xs : List τ) : List (K × Int) := (xs.filter p).foldl (fun acc x => put acc (gk x) (gv x)) []
theorem put_len {K : Type} [DecidableEq K] (kvs : List (K × Int)) (k : K) (i : Int) : (put kvs k i).length ≤ kvs.length + 1 := by
  unfold put; split <;> simp
theorem foldl_put_len {τ K : Type} [DecidableEq K] (gk : τ → K) (gv : τ → Int) : ∀ (xs : List τ) (acc : List (K × Int)), (xs.foldl (fun acc x => put acc (gk x) (gv x)) acc).length ≤ acc.length + xs.length
  | [], acc => Nat.le_refl _
  | x :: r, acc => by
    have a := foldl_put_len gk gv r (put acc (gk x) (gv x))
    have b := put_len acc (gk x) (gv x)
    simp only [List.foldl_cons, List.length_cons]; omega
theorem kvOut_len {τ K : Type} [DecidableEq K] (p : τ → Bool) (gk : τ → K) (gv : τ → Int) (xs : List τ) : (kvOut p gk gv xs).length ≤ xs.length := by
  have := foldl_put_len gk gv (xs.filter p) []
  have b := List.length_filter_le p xs
  unfold kvOut; simp only [List.length_nil] at this; omega
theorem kvOut_take {τ K : Type} [DecidableEq K] (p : τ → Bool) (gk : τ → K) (gv : τ → Int) (xs : List τ) (k : Nat) (x : τ) (h : xs[k]? = some x) :
    kvOut p gk gv (xs.take (k + 1)) = if p x = true then put (kvOut p gk gv (xs.take k)) (gk x) (gv x) else kvOut p gk gv (xs.take k) := by
  unfold kvOut
  rw [List.take_add_one, h, List.filter_append, List.foldl_append]
  by_cases e : p x = true
  · simp [e]
  · simp [e]
/-- no key comes twice -/
theorem put_new {K : Type} [DecidableEq K] {kvs : List (K × Int)} {k : K} {i : Int} (h : k ∉ kvs.map (·.1)) : put kvs k i = kvs ++ [(k, i)] := by
  unfold put
  rw [if_neg]
  simp only [List.any_eq_true, decide_eq_true_eq, not_exists, not_and]
  intro x hx e
  exact h (List.mem_map.mpr ⟨x, hx, e⟩)
theorem foldl_put_new {τ K : Type} [DecidableEq K] (gk : τ → K) (gv : τ → Int) : ∀ (xs : List τ) (acc : List (K × Int)), (acc.map (·.1) ++ xs.map gk).Nodup → xs.foldl (fun acc x => put acc (gk x) (gv x)) acc = acc ++ xs.map fun x => (gk x, gv x)
  | [], acc, _ => by simp
  | x :: r, acc, h => by
    have hx : gk x ∉ acc.map (·.1) := fun m => by
      rw [List.nodup_append] at h
      exact h.2.2 _ m _ (by simp) rfl
    rw [List.foldl_cons, put_new hx, foldl_put_new gk gv r _ (by simpa using h)]
    simp
theorem kvOut_new {τ K : Type} [DecidableEq K] {p : τ → Bool} {gk : τ → K} {gv : τ → Int} {xs : List τ} (h : ((xs.filter p).map gk).Nodup) : kvOut p gk gv xs = (xs.filter p).map fun x => (gk x, gv x) := by
  unfold kvOut; rw [foldl_put_new gk gv _ [] (by simpa using h)]; simp

theorem hden_dict1 {Γ : Ctx} {kx vx target iter : Expr} {ifs : List Expr} {scope sc : Scope} {pos : Pos} (I Da C : Addr) (own : List (Str × Addr)) :
    (model Γ.prog Γ.w).den (.compLoop (.DictComp kx vx [⟨target, iter, ifs, 0⟩] sc pos) 0 (.ref I) (.ref Da) (Γ.comp scope Da C own).env) =
      (turnAt iter.pos target ifs (Γ.comp scope Da C own).env (emitD kx vx Da (Γ.comp scope Da C own).env >>= fun _ => again (.compLoop (.DictComp kx vx [⟨target, iter, ifs, 0⟩] sc pos) 0 (.ref I) (.ref Da) (Γ.comp scope Da C own).env))
        (again (.compLoop (.DictComp kx vx [⟨target, iter, ifs, 0⟩] sc pos) 0 (.ref I) (.ref Da) (Γ.comp scope Da C own).env)) (.ref I)).onRaise (fun x => do noteFrame x (Γ.comp scope Da C own).env; theTreesLotGoes x) := by
  rw [← turn_dict1 kx vx target iter ifs sc pos]; rfl

theorem dictcomp_use {K : Type} [DecidableEq K] {Γ : Ctx} {knd : KeyKind Γ.prog Γ.w K} {τ : Type} {xs : List τ} {inj : τ → D} {bs : τ → List (Str × D)} {p : τ → Bool} {gk : τ → K} {dk : τ → D} {gv : τ → Int} {scope : Scope} {tg : List Str} {d : D} {iter kx vx target : Expr} {ifs : List Expr} {pos : Pos}
    (hi : Ev Γ iter d) (hit : Iterable d (xs.map inj)) (Z : ScopeOk Γ scope tg) (hsz : xs.length ≤ sizeLine)
    (hb : ∀ x ∈ xs, Bnd target (inj x) (bs x)) (hn : ∀ x ∈ xs, ∀ b ∈ bs x, b.1 ∈ tg)
    (hkey : ∀ x ∈ xs, p x = true → ∀ S h v, Rep Γ.prog Γ.w S h v (dk x) → knd.is (gk x) v = true)
    (ht : ∀ x ∈ xs, ∀ Da C own wr, TestsOk (Γ.cx scope (bs x) Da C own wr) ifs (p x))
    (he : ∀ x ∈ xs, p x = true → ∀ Da C own wr, Ev (Γ.cx scope (bs x) Da C own wr) kx (dk x))
    (hv : ∀ x ∈ xs, p x = true → ∀ Da C own wr, Ev (Γ.cx scope (bs x) Da C own wr) vx (.int (gv x)))
    {use : Option (Value → Sem Unit)} {Q : Value → Shared → Prop} {s : Shared} (hC : Γ.At s.heap)
    (fin : ∀ s₁ Da C own s', Kp s s₁ → Γ.At s₁.heap → s₁.heap.get? C = none → s₁.heap.get? Da = none → Da ≠ C → Cst (Γ.comp scope Da C own) tg (fun _ => False) s₁.heap (AccD Γ.prog Γ.w knd Da (kvOut p gk gv xs)) s₁ s' →
      compPost (model Γ.prog Γ.w) Γ.A (fun _ _ => False) use Q (.ref Da) C (.ok .next) s')
    (hs : ∀ x, foldedSetIterable iter Γ.env x = pure x := by intro _; rfl) :
    wpAny (model Γ.prog Γ.w) Γ.A (comprehension (.DictComp kx vx [⟨target, iter, ifs, 0⟩] scope pos) scope Γ.env (firstIterPos [⟨target, iter, ifs, 0⟩] pos) newDict false (eval iter Γ.env) use) Q (fun _ _ => False) s := by
  refine wpAny_comprehension_free rfl hs (scope_clos Z) Z.kind (scope_names Z) ((hi.run s hC).then' fun xv s₁ k₁ r₁ => ?_)
  have C1 := hC.go k₁
  refine comp_core (P := fun Da t => AccD Γ.prog Γ.w knd Da t) (fun Da t => accD_ok) (ob := { cls := .type "dict", data := .dict #[] }) rfl
    (fun M A s Q E q => wpAny_newObj_type q) (fun k => kvOut p gk gv (xs.take k)) (fun Da S h hS hm e => ⟨hS, hm, [], ?_, ?_⟩) Z C1 r₁ hit (ip := iter.pos) (target := target) (ifs := ifs)
    (kt := fun I Da Γ' => emitD kx vx Da Γ'.env >>= fun _ => again (.compLoop (.DictComp kx vx [⟨target, iter, ifs, 0⟩] scope pos) 0 (.ref I) (.ref Da) Γ'.env))
    (fun h h' => codeAny_compStart_dict h h') (fun _ _ _ => rfl) (fun _ _ _ _ => rfl) ?_ ?_ ?_
  · exact ⟨_, #[], 0, e, ⟨rfl, rfl, rfl⟩, rfl, by intro x hx; simp at hx, .nil, List.nodup_nil⟩
  · rw [List.take_zero]; exact .nil
  · exact fun I Da C own => hden_dict1 I Da C own
  · intro I Da C own fp wr L hfd _ _ _ _ k d hd
    rw [List.getElem?_map] at hd
    cases hx : xs[k]? with
    | none => rw [hx] at hd; (first | obtain ⟨_, rfl⟩ := hd.atom | exact (nsE hd).elim | exact (snE hd).elim | exact (ftE hd).elim | cases hd)
    | some x =>
      rw [hx] at hd
      (first | obtain ⟨_, rfl⟩ := hd.atom | exact (nsE hd).elim | exact (snE hd).elim | exact (ftE hd).elim | cases hd)
      have hm : x ∈ xs := List.mem_of_getElem? hx
      refine ⟨bs x, p x, hb x hm, hn x hm, ht x hm Da C own wr, fun e => ?_, fun e s c => ?_⟩
      · show kvOut p gk gv (xs.take (k + 1)) = _
        rw [kvOut_take p gk gv xs k x hx, e]; simp
      · have e2 : kvOut p gk gv (xs.take (k + 1)) = put (kvOut p gk gv (xs.take k)) (gk x) (gv x) := by rw [kvOut_take p gk gv xs k x hx, e]; simp
        show wpAny _ _ _ (fun fin s' => fin = _ ∧ Cst _ tg _ s₁.heap (AccD Γ.prog Γ.w knd Da (kvOut p gk gv (xs.take (k + 1)))) s₁ s' ∧ _) _ s
        rw [e2]
        obtain ⟨e1, -, e3, e4, e5, -⟩ := setAll_env (bs x) ((Γ.comp scope Da C own).plus wr)
        have key : ∀ (Γ' : Ctx), Γ'.prog = Γ.prog → Γ'.w = Γ.w → Γ'.A = Γ.A → Γ'.env = (Γ.comp scope Da C own).env → Lay Γ' tg Da (fun _ => False) s₁.heap → Cst Γ' tg (fun _ => False) s₁.heap (AccD Γ.prog Γ.w knd Da (kvOut p gk gv (xs.take k))) s₁ s →
            Ev Γ' kx (dk x) → Ev Γ' vx (.int (gv x)) →
            wpAny (model Γ.prog Γ.w) Γ.A (emitD kx vx Da (Γ.comp scope Da C own).env >>= fun _ => again (.compLoop (.DictComp kx vx [⟨target, iter, ifs, 0⟩] scope pos) 0 (.ref I) (.ref Da) (Γ.comp scope Da C own).env))
              (fun fin s' => fin = .again (.compLoop (.DictComp kx vx [⟨target, iter, ifs, 0⟩] scope pos) 0 (.ref I) (.ref Da) (Γ.comp scope Da C own).env) ∧ Cst Γ' tg (fun _ => False) s₁.heap (AccD Γ.prog Γ.w knd Da (put (kvOut p gk gv (xs.take k)) (gk x) (gv x))) s₁ s' ∧ ∀ b ∈ fp, ∀ o, s.heap.get? b = some o → s'.heap.get? b = some o) (fun _ _ => False) s := by
          rintro ⟨K', prog', w', A', n', base', env', S', ρ'⟩ q1 q2 q3 q4 L' c' h1 h2
          dsimp only at q1 q2 q3 q4
          subst q1 q2 q3 q4
          exact emitD_rule L' hfd c' h1 h2 (hkey x hm e) (Nat.le_trans (kvOut_len p gk gv _) (Nat.le_trans (by rw [List.length_take]; exact Nat.min_le_right ..) hsz))
        exact key (Γ.cx scope (bs x) Da C own wr) e3 e4 e5 e1 (lay_setAll L) c (he x hm e Da C own wr) (hv x hm e Da C own wr)
  · intro Da C own s' h1 h2 h3 c
    refine fin s₁ Da C own s' k₁ C1 h1 h2 h3 ?_
    have : (xs.map inj).length = xs.length := List.length_map ..
    rw [this, List.take_length] at c
    exact c

theorem ev_dictcomp {K : Type} [DecidableEq K] {Γ : Ctx} {knd : KeyKind Γ.prog Γ.w K} {τ : Type} {xs : List τ} {inj : τ → D} {bs : τ → List (Str × D)} {p : τ → Bool} {gk : τ → K} {dk : τ → D} {gv : τ → Int} {scope : Scope} {tg : List Str} {d : D} {iter kx vx target : Expr} {ifs : List Expr} {pos : Pos}
    (hi : Ev Γ iter d) (hit : Iterable d (xs.map inj)) (Z : ScopeOk Γ scope tg) (hsz : xs.length ≤ sizeLine)
    (hb : ∀ x ∈ xs, Bnd target (inj x) (bs x)) (hn : ∀ x ∈ xs, ∀ b ∈ bs x, b.1 ∈ tg)
    (hkey : ∀ x ∈ xs, p x = true → ∀ S h v, Rep Γ.prog Γ.w S h v (dk x) → knd.is (gk x) v = true)
    (ht : ∀ x ∈ xs, ∀ Da C own wr, TestsOk (Γ.cx scope (bs x) Da C own wr) ifs (p x))
    (he : ∀ x ∈ xs, p x = true → ∀ Da C own wr, Ev (Γ.cx scope (bs x) Da C own wr) kx (dk x))
    (hv : ∀ x ∈ xs, p x = true → ∀ Da C own wr, Ev (Γ.cx scope (bs x) Da C own wr) vx (.int (gv x)))
    (hs : ∀ x, foldedSetIterable iter Γ.env x = pure x := by intro _; rfl) : EvND Γ knd (.DictComp kx vx [⟨target, iter, ifs, 0⟩] scope pos) (kvOut p gk gv xs) := .mk fun s hC => by
  unfold Tr
  rw [arm_eval_DictComp]
  refine dictcomp_use (use := none) (knd := knd) hi hit Z hsz hb hn hkey ht he hv hC (fun s₁ Da C own s' k₁ C1 h1 h2 h3 c => ?_) hs
  obtain ⟨m, hm, hk⟩ := comp_end h1 c
  refine ⟨m, hm, fun h' hs' => ?_⟩
  obtain ⟨k, hx⟩ := hk h' hs'
  obtain ⟨a, vs, e, hn, r, r2, r3⟩ := newD_of h2 h3 hs' c.acc
  refine ⟨k₁.trans k, a, vs, e, ?_, r, r2, r3⟩
  cases q : s.heap.get? a with
  | none => rfl
  | some o => rw [k₁.k a o q] at hn; (first | obtain ⟨_, rfl⟩ := hn.atom | exact (nsE hn).elim | exact (snE hn).elim | exact (ftE hn).elim | cases hn)
-- part PL12
theorem hden_list2a {Γ : Ctx} {elt target iter target2 iter2 : Expr} {ifs2 : List Expr} {scope sc : Scope} {pos : Pos} (I Da C : Addr) (own : List (Str × Addr)) :
    (model Γ.prog Γ.w).den (.compLoop (.ListComp elt [⟨target, iter, [], 0⟩, ⟨target2, iter2, ifs2, 0⟩] sc pos) 0 (.ref I) (.ref Da) (Γ.comp scope Da C own).env) =
      (turnAt iter.pos target [] (Γ.comp scope Da C own).env (goIn (.ListComp elt [⟨target, iter, [], 0⟩, ⟨target2, iter2, ifs2, 0⟩] sc pos) 1 iter2 (.ref Da) (Γ.comp scope Da C own).env (again (.compLoop (.ListComp elt [⟨target, iter, [], 0⟩, ⟨target2, iter2, ifs2, 0⟩] sc pos) 0 (.ref I) (.ref Da) (Γ.comp scope Da C own).env)))
        (again (.compLoop (.ListComp elt [⟨target, iter, [], 0⟩, ⟨target2, iter2, ifs2, 0⟩] sc pos) 0 (.ref I) (.ref Da) (Γ.comp scope Da C own).env)) (.ref I)).onRaise (fun x => do noteFrame x (Γ.comp scope Da C own).env; theTreesLotGoes x) := by
  rw [← turn_list2a elt target iter target2 iter2 [] ifs2 sc pos]; rfl
theorem hden_list2b {prog : Program} {w : World} {elt target iter target2 iter2 : Expr} {ifs2 : List Expr} {sc : Scope} {pos : Pos} (I Da : Addr) (env : Env) :
    (model prog w).den (.compLoop (.ListComp elt [⟨target, iter, [], 0⟩, ⟨target2, iter2, ifs2, 0⟩] sc pos) 1 (.ref I) (.ref Da) env) =
      (turnAt iter2.pos target2 ifs2 env (emitL elt (.ref Da) env >>= fun _ => again (.compLoop (.ListComp elt [⟨target, iter, [], 0⟩, ⟨target2, iter2, ifs2, 0⟩] sc pos) 1 (.ref I) (.ref Da) env))
        (again (.compLoop (.ListComp elt [⟨target, iter, [], 0⟩, ⟨target2, iter2, ifs2, 0⟩] sc pos) 1 (.ref I) (.ref Da) env)) (.ref I)).onRaise (fun x => do noteFrame x env; theTreesLotGoes x) := by
  rw [← turn_list2b elt target iter target2 iter2 [] ifs2 sc pos]; rfl

theorem compStart_at1 {prog : Program} {w : World} {A : Around} {R : Result → Shared → Prop} {s : Shared} {elt target iter ifs target2 iter2 ifs2 scope pos it acc env}
    (h0 : codeAny (model prog w) A (.compLoop (.ListComp elt [⟨target, iter, ifs, 0⟩, ⟨target2, iter2, ifs2, 0⟩] scope pos) 1 it acc env) R s)
    (h : wpAny (model prog w) A (pyIter it) (fun it' s' => codeAny (model prog w) A (.compLoop (.ListComp elt [⟨target, iter, ifs, 0⟩, ⟨target2, iter2, ifs2, 0⟩] scope pos) 1 it' acc env) R s')
      (notedBy (model prog w) A env fun x s' => R (.error x) s') s) :
    codeAny (model prog w) A (.compStart (.ListComp elt [⟨target, iter, ifs, 0⟩, ⟨target2, iter2, ifs2, 0⟩] scope pos) 1 it acc env) R s := by
  refine codeAny_of_tree ?_
  show wpAny _ _ ((compStart (.ListComp elt [⟨target, iter, ifs, 0⟩, ⟨target2, iter2, ifs2, 0⟩] scope pos) 1 it acc env).onRaise (fun x => do noteFrame x env; standAt theWindowsPlace)) _ _ s
  refine wpAny_notedAt ?_
  unfold compStart
  show wpAny _ _ (ask >>= _) _ _ s
  refine wpAny_bind (wpAny_askSetting (wpAny_ite ?_))
  split
  · first
      | exact wpAny_bind (wpAny_pure (wpAny_pure (And.intro rfl h0)))
      | exact wpAny_pure (And.intro rfl h0)
  · first
      | exact wpAny_bind (wpAny_rule (wpAny_bind (wpAny_standAt (wpAny_bind (wpAny_mono h (fun it' s' h' => wpAny_pure (And.intro rfl h')) fun _ _ x => x)))))
      | (refine wpAny_bind (wpAny_rule ?_); show wpAny _ _ (standAt iter2.pos >>= _) _ _ s; exact wpAny_bind (wpAny_standAt (wpAny_bind (wpAny_mono h (fun it' s' h' => wpAny_pure (And.intro rfl h')) fun _ _ x => x))))

noncomputable def flatOut {τ σ : Type} (ys : τ → List σ) (p : τ → σ → Bool) (g : τ → σ → D) (xs : List τ) : List D := xs.flatMap fun x => pickOut (p x) (g x) (ys x)
theorem flatOut_take {τ σ : Type} (ys : τ → List σ) (p : τ → σ → Bool) (g : τ → σ → D) (xs : List τ) (k : Nat) (x : τ) (h : xs[k]? = some x) : flatOut ys p g (xs.take (k + 1)) = flatOut ys p g (xs.take k) ++ pickOut (p x) (g x) (ys x) := by
  unfold flatOut
  rw [List.take_add_one, h, List.flatMap_append]
  simp
theorem flatOut_len {τ σ : Type} (ys : τ → List σ) (p : τ → σ → Bool) (g : τ → σ → D) (xs : List τ) (k : Nat) (x : τ) (h : xs[k]? = some x) (j : Nat) :
    (flatOut ys p g (xs.take k) ++ pickOut (p x) (g x) ((ys x).take j)).length ≤ (flatOut ys (fun _ _ => true) g xs).length := by
  have e : xs = xs.take k ++ x :: xs.drop (k + 1) := by
    have hk : k < xs.length := by
      rcases Nat.lt_or_ge k xs.length with q | q
      · exact q
      · rw [List.getElem?_eq_none q] at h; (first | obtain ⟨_, rfl⟩ := h.atom | exact (nsE h).elim | exact (snE h).elim | exact (ftE h).elim | cases h)
    have hx : xs[k] = x := by rw [List.getElem?_eq_getElem hk] at h; exact Option.some.inj h
    rw [← hx]; simp
  have mono : ∀ (l : List τ), (flatOut ys p g l).length ≤ (flatOut ys (fun _ _ => true) g l).length := fun l => by
    induction l with
    | nil => exact Nat.le_refl _
    | cons a l ih =>
      unfold flatOut at ih ⊢
      simp only [List.flatMap_cons, List.length_append]
      have h1 := pickOut_len (p a) (g a) (ys a)
      have h2 : (pickOut (fun _ => true) (g a) (ys a)).length = (ys a).length := by simp [pickOut]
      show (pickOut (p a) (g a) (ys a)).length + (l.flatMap fun x => pickOut (p x) (g x) (ys x)).length ≤ (pickOut (fun _ => true) (g a) (ys a)).length + (l.flatMap fun x => pickOut (fun _ => true) (g x) (ys x)).length
      have ih' : (l.flatMap fun x => pickOut (p x) (g x) (ys x)).length ≤ (l.flatMap fun x => pickOut (fun _ => true) (g x) (ys x)).length := ih
      omega
  have h1 := mono (xs.take k)
  have h2 := pickOut_len (p x) (g x) ((ys x).take j)
  have h3 : (pickOut (fun _ => true) (g x) (ys x)).length = (ys x).length := by simp [pickOut]
  have h4 : ((ys x).take j).length ≤ (ys x).length := by rw [List.length_take]; exact Nat.min_le_right ..
  have h5 : (flatOut ys (fun _ _ => true) g xs).length = (flatOut ys (fun _ _ => true) g (xs.take k)).length + ((pickOut (fun _ => true) (g x) (ys x)).length + (flatOut ys (fun _ _ => true) g (xs.drop (k + 1))).length) := by
    conv => lhs; rw [e]
    unfold flatOut
    rw [List.flatMap_append, List.flatMap_cons, List.length_append, List.length_append]
  rw [List.length_append]
  omega

/-- the heart of a list comprehension with two clauses -/
theorem listcomp2_use {τ σ : Type} {xs : List τ} {inj : τ → D} {bs : τ → List (Str × D)} {ys : τ → List σ} {inj2 : τ → σ → D} {bs2 : τ → σ → List (Str × D)} {p : τ → σ → Bool} {g : τ → σ → D} {d2 : τ → D}
    {Γ : Ctx} {scope : Scope} {tg : List Str} {d : D} {iter elt target iter2 target2 : Expr} {ifs2 : List Expr} {pos : Pos}
    (hi : Ev Γ iter d) (hit : Iterable d (xs.map inj)) (Z : ScopeOk Γ scope tg) (hsz : (flatOut ys (fun _ _ => true) g xs).length ≤ sizeLine)
    (hb : ∀ x ∈ xs, Bnd target (inj x) (bs x)) (hn : ∀ x ∈ xs, ∀ b ∈ bs x, b.1 ∈ tg)
    (hi2 : ∀ x ∈ xs, ∀ Da C own wr, Ev (Γ.cx scope (bs x) Da C own wr) iter2 (d2 x)) (hit2 : ∀ x ∈ xs, Iterable (d2 x) ((ys x).map (inj2 x)))
    (hb2 : ∀ x ∈ xs, ∀ y ∈ ys x, Bnd target2 (inj2 x y) (bs2 x y)) (hn2 : ∀ x ∈ xs, ∀ y ∈ ys x, ∀ b ∈ bs2 x y, b.1 ∈ tg ∧ ∀ c ∈ bs x, c.1 ≠ b.1)
    (ht : ∀ x ∈ xs, ∀ y ∈ ys x, ∀ Da C own wr wr2, TestsOk (((Γ.cx scope (bs x) Da C own wr).plus wr2).setAll (bs2 x y)) ifs2 (p x y))
    (he : ∀ x ∈ xs, ∀ y ∈ ys x, p x y = true → ∀ Da C own wr wr2, Ev (((Γ.cx scope (bs x) Da C own wr).plus wr2).setAll (bs2 x y)) elt (g x y))
    {use : Option (Value → Sem Unit)} {Q : Value → Shared → Prop} {s : Shared} (hC : Γ.At s.heap)
    (fin : ∀ s₁ Da C own s', Kp s s₁ → Γ.At s₁.heap → s₁.heap.get? C = none → s₁.heap.get? Da = none → Da ≠ C → Cst (Γ.comp scope Da C own) tg (fun _ => False) s₁.heap (AccL Γ.prog Γ.w Da (flatOut ys p g xs)) s₁ s' →
      compPost (model Γ.prog Γ.w) Γ.A (fun _ _ => False) use Q (.ref Da) C (.ok .next) s')
    (hs : ∀ x, foldedSetIterable iter Γ.env x = pure x := by intro _; rfl) (hs2 : ∀ env x, foldedSetIterable iter2 env x = pure x := by intro _ _; rfl) :
    wpAny (model Γ.prog Γ.w) Γ.A (comprehension (.ListComp elt [⟨target, iter, [], 0⟩, ⟨target2, iter2, ifs2, 0⟩] scope pos) scope Γ.env (firstIterPos [⟨target, iter, [], 0⟩, ⟨target2, iter2, ifs2, 0⟩] pos) (newList []) false (eval iter Γ.env) use) Q (fun _ _ => False) s := by
  refine wpAny_comprehension_free rfl hs (scope_clos Z) Z.kind (scope_names Z) ((hi.run s hC).then' fun xv s₁ k₁ r₁ => ?_)
  have C1 := hC.go k₁
  refine comp_core (P := fun Da t => AccL Γ.prog Γ.w Da t) (fun Da t => accL_ok) (ob := { cls := .type "list", data := .seq ([] : List Value).toArray }) rfl
    (fun M A s Q E q => wpAny_newObj_type q) (fun k => flatOut ys p g (xs.take k)) (fun Da S h hS _ e => ⟨hS, [], ⟨0, e⟩, ?_⟩) Z C1 r₁ hit (ip := iter.pos) (target := target) (ifs := [])
    (kt := fun I Da Γ' => goIn (.ListComp elt [⟨target, iter, [], 0⟩, ⟨target2, iter2, ifs2, 0⟩] scope pos) 1 iter2 (.ref Da) Γ'.env (again (.compLoop (.ListComp elt [⟨target, iter, [], 0⟩, ⟨target2, iter2, ifs2, 0⟩] scope pos) 0 (.ref I) (.ref Da) Γ'.env)))
    (fun h h' => codeAny_compStart_list h h') (fun _ _ _ => rfl) (fun _ _ _ _ => rfl) ?_ ?_ ?_
  · rw [List.take_zero]; exact .nil
  · exact fun I Da C own => hden_list2a I Da C own
  · intro I Da C own fp wr L hfd hwfp hfpT hfpC cellS k d hd
    rw [List.getElem?_map] at hd
    cases hx : xs[k]? with
    | none => rw [hx] at hd; (first | obtain ⟨_, rfl⟩ := hd.atom | exact (nsE hd).elim | exact (snE hd).elim | exact (ftE hd).elim | cases hd)
    | some x =>
      rw [hx] at hd
      (first | obtain ⟨_, rfl⟩ := hd.atom | exact (nsE hd).elim | exact (snE hd).elim | exact (ftE hd).elim | cases hd)
      have hm : x ∈ xs := List.mem_of_getElem? hx
      refine ⟨bs x, true, hb x hm, hn x hm, tests_nil, (fun e => by (first | obtain ⟨_, rfl⟩ := e.atom | exact (nsE e).elim | exact (snE e).elim | exact (ftE e).elim | cases e)), fun _ s c => ?_⟩
      show wpAny _ _ _ (fun fin s' => fin = _ ∧ Cst _ tg _ s₁.heap (AccL Γ.prog Γ.w Da (flatOut ys p g (xs.take (k + 1)))) s₁ s' ∧ _) _ s
      have e2 := flatOut_take ys p g xs k x hx
      have hfree : ∀ y ∈ ys x, ∀ b ∈ bs2 x y, (Γ.cx scope (bs x) Da C own wr).ρ b.1 = none := fun y hy b hb' => by
        obtain ⟨h1, h2⟩ := hn2 x hm y hy b hb'
        rw [Ctx.cx, setAll_rho _ _ _ fun c hc => h2 c hc]
        show (if scope.names.lookup b.1 = some .free then Γ.ρ b.1 else none) = none
        rcases Z.tg b.1 h1 with hk | hk <;> rw [hk] <;> rfl
      have L1 : Lay (Γ.cx scope (bs x) Da C own wr) tg Da (fun _ => False) s₁.heap := lay_setAll L
      obtain ⟨e1, eS, e3, e4, e5, -⟩ := setAll_env (bs x) ((Γ.comp scope Da C own).plus wr)
      have key : ∀ (Γ' : Ctx), Γ'.prog = Γ.prog → Γ'.w = Γ.w → Γ'.A = Γ.A → Γ'.env = (Γ.comp scope Da C own).env → Γ'.S = ((Γ.comp scope Da C own).plus wr).S → Lay Γ' tg Da (fun _ => False) s₁.heap →
          Cst Γ' tg (fun _ => False) s₁.heap (AccL Γ.prog Γ.w Da (flatOut ys p g (xs.take k))) s₁ s → Ev Γ' iter2 (d2 x) →
          (∀ y ∈ ys x, ∀ b ∈ bs2 x y, Γ'.ρ b.1 = none) →
          (∀ y ∈ ys x, ∀ wr2, TestsOk ((Γ'.plus wr2).setAll (bs2 x y)) ifs2 (p x y)) → (∀ y ∈ ys x, p x y = true → ∀ wr2, Ev ((Γ'.plus wr2).setAll (bs2 x y)) elt (g x y)) →
          wpAny (model Γ.prog Γ.w) Γ.A (goIn (.ListComp elt [⟨target, iter, [], 0⟩, ⟨target2, iter2, ifs2, 0⟩] scope pos) 1 iter2 (.ref Da) (Γ.comp scope Da C own).env (again (.compLoop (.ListComp elt [⟨target, iter, [], 0⟩, ⟨target2, iter2, ifs2, 0⟩] scope pos) 0 (.ref I) (.ref Da) (Γ.comp scope Da C own).env)))
            (fun fin s' => fin = .again (.compLoop (.ListComp elt [⟨target, iter, [], 0⟩, ⟨target2, iter2, ifs2, 0⟩] scope pos) 0 (.ref I) (.ref Da) (Γ.comp scope Da C own).env) ∧
              Cst Γ' tg (fun _ => False) s₁.heap (AccL Γ.prog Γ.w Da (flatOut ys p g (xs.take (k + 1)))) s₁ s' ∧ ∀ b ∈ fp, ∀ o, s.heap.get? b = some o → s'.heap.get? b = some o) (fun _ _ => False) s := by
        rintro ⟨K', prog', w', A', n', base', env', S', ρ'⟩ q1 q2 q3 q4 q5 L' c' hI hfr htt hee
        dsimp only at q1 q2 q3 q4
        subst q1 q2 q3
        rw [← q4]
        generalize hΓ : (⟨K', Γ.prog, Γ.w, Γ.A, n', base', env', S', ρ'⟩ : Ctx) = Γ' at *
        have p1 : Γ'.prog = Γ.prog := by rw [← hΓ]
        have p2 : Γ'.w = Γ.w := by rw [← hΓ]
        have p3 : Γ'.A = Γ.A := by rw [← hΓ]
        have p4 : Γ'.env = env' := by rw [← hΓ]
        have cellS' : ∀ y ∈ tg, ∀ c, Γ'.env.cells.lookup y = some c → Γ'.S c := fun y hy c hc => by rw [q5]; exact .inl (cellS y hy c (by rw [← q4, ← p4]; exact hc))
        have locS' : Γ'.S Γ'.env.locals := by rw [q5, p4, q4]; exact .inl (.inr (.inr (.inl rfl)))
        have DaS' : Γ'.S Da := by rw [q5]; exact .inl (.inr (.inl rfl))
        have hfpT' : ∀ y ∈ tg, ∀ c, Γ'.env.cells.lookup y = some c → c ∉ fp := fun y hy c hc => hfpT y hy c (by rw [← q4, ← p4]; exact hc)
        have hfpC' : Γ'.env.locals ∉ fp := by rw [p4, q4]; exact hfpC
        have c0 := c'
        rw [e2]
        clear q4 q5 e1 eS e3 e4 e5 hΓ
        rw [← p4, ← p1, ← p2, ← p3]
        rw [← p1, ← p2] at c'
        refine wpAny_bind ((hI.run s c'.at_).then' fun v2 s₂ k₂ r₂ => wpAny_bind (wpAny_standAt (wpAny_bind (wpAny_of_eq (hs2 _ v2) (wpAny_bind (wpAny_holding ?_))))))
        have c₂ := c'.kp accL_ok k₂
        refine hit2 x hm _ _ _ _ _ _ _ _ c₂.at_.room.1 r₂ fun I2 fp2 wr2 St2 s₃ k₃ T st hfp2 hwr2 hoff2 => ?_
        have c₃ := c₂.kp accL_ok k₃
        have held : ∀ b, Γ'.S b → (s₂.heap.get? b).isSome = true := c₂.at_.wd.held
        have offS : ∀ b ∈ fp2, ¬ Γ'.S b := fun b hb q => (hoff2 b hb).elim (fun n => by have := held b q; rw [hwr2 b n] at this; (first | obtain ⟨_, rfl⟩ := this.atom | exact (nsE this).elim | exact (snE this).elim | exact (ftE this).elim | cases this)) fun n => n.2 q
        have offW : ∀ b ∈ wr2, ¬ Γ'.S b := fun b hb => offS b (T.sub b hb)
        have hcap : ∀ y c, Γ'.env.cells.lookup y = some c → c ∉ wr2 := fun y c e m => by have := c₂.at_.cin y c e; rw [hwr2 c m] at this; (first | obtain ⟨_, rfl⟩ := this.atom | exact (nsE this).elim | exact (snE this).elim | exact (ftE this).elim | cases this)
        have Lx : Lay Γ' tg Da (fun b => b = Γ'.env.locals ∨ b = Da ∨ ∃ y ∈ tg, Γ'.env.cells.lookup y = some b) s₂.heap := ⟨L'.dl, L'.dc, .inl (.inl rfl), fun y hy c e => .inl (.inr (.inr ⟨y, hy, e⟩)), .inl (.inr (.inl rfl))⟩
        have hSub : ∀ b, (b = Γ'.env.locals ∨ b = Da ∨ ∃ y ∈ tg, Γ'.env.cells.lookup y = some b) → Γ'.S b := fun b q => by
          rcases q with rfl | rfl | ⟨y, hy, e⟩
          · exact locS'
          · exact DaS'
          · exact cellS' y hy b e
        refine wpAny_bind (wpAny_runOwn ?_)
        have xW : Ext (fun b => b = Γ'.env.locals ∨ b = Da ∨ ∃ y ∈ tg, Γ'.env.cells.lookup y = some b) s₂.heap s₃.heap := Ext.of_keep k₃.k
        have cP : (Γ'.plus wr2).At s₃.heap := by
          have a := c₃.at_
          refine ⟨⟨a.wd.gl, a.wd.up, fun b q => q.elim (a.wd.off b) fun m => ?_, fun b q => q.elim (a.wd.held b) fun m => T.live 0 _ st b m⟩, a.kind, a.globals, a.builtins, a.room, a.sep, a.cin, fun y d q => ?_⟩
          · exact c₂.at_.wd.fresh (hwr2 b m)
          · obtain ⟨v, hv, rv⟩ := c₂.at_.vars y d q
            refine ⟨v, hv.keeps k₃.k, (rv.avoid (S' := (Γ'.plus wr2).S) fun b q => q.elim .inl fun m => .inr (hwr2 b m)).keep k₃.k⟩
        have accP : AccL Γ'.prog Γ'.w Da (flatOut ys p g (xs.take k)) (Γ'.plus wr2).S s₃.heap := by
          have a := accL_ok.move _ (Γ'.plus wr2).S _ c₂.acc (fun b q => q.elim .inl fun m => .inr (hwr2 b m)) (.inl DaS')
          exact accL_ok.ext _ _ _ a (Ext.of_keep k₃.k) fun o e => k₃.k Da o e
        have loop : ∀ (R : Result → Shared → Prop), (∀ s', Cst Γ' tg (fun b => b = Γ'.env.locals ∨ b = Da ∨ ∃ y ∈ tg, Γ'.env.cells.lookup y = some b) s₂.heap (AccL Γ'.prog Γ'.w Da (flatOut ys p g (xs.take k) ++ pickOut (p x) (g x) (ys x))) s₁ s' → R (.ok .next) s') →
            codeAny (model Γ'.prog Γ'.w) Γ'.A (.compLoop (.ListComp elt [⟨target, iter, [], 0⟩, ⟨target2, iter2, ifs2, 0⟩] scope pos) 1 (.ref I2) (.ref Da) Γ'.env) R s₃ := fun R hR => by
          refine loop_rule (τ := List D) (s₁ := s₁) (P := fun t => AccL Γ'.prog Γ'.w Da t) (fun t => accL_ok) Lx rfl (hden_list2b I2 Da Γ'.env) rfl T (fun b q => q.elim .inl fun m => .inr (hwr2 b m))
            (fun h q => fun b o hb e => q b o (fun z => hb (hSub b z)) e) (fun m => offS _ m locS') (fun y hy c e m => offS _ m (cellS' y hy c e)) (fun m => offS _ m DaS')
            (fun b m => .inr (hwr2 b m)) offW hcap (fun j => flatOut ys p g (xs.take k) ++ pickOut (p x) (g x) ((ys x).take j)) ?_ ?_ st ?_
          · intro j dj hj
            rw [List.getElem?_map] at hj
            cases hy : (ys x)[j]? with
            | none => rw [hy] at hj; (first | obtain ⟨_, rfl⟩ := hj.atom | exact (nsE hj).elim | exact (snE hj).elim | exact (ftE hj).elim | cases hj)
            | some y =>
              rw [hy] at hj
              (first | obtain ⟨_, rfl⟩ := hj.atom | exact (nsE hj).elim | exact (snE hj).elim | exact (ftE hj).elim | cases hj)
              have hym : y ∈ ys x := List.mem_of_getElem? hy
              refine ⟨bs2 x y, p x y, hb2 x hm y hym, fun b hb' => ⟨(hn2 x hm y hym b hb').1, hfr y hym b hb'⟩, htt y hym wr2, fun e => ?_, fun e s₄ c₄ => ?_⟩
              · show _ ++ pickOut _ _ ((ys x).take (j + 1)) = _
                rw [pickOut_take _ _ _ j y hy, e]; simp
              · have e4 : flatOut ys p g (xs.take k) ++ pickOut (p x) (g x) ((ys x).take (j + 1)) = (flatOut ys p g (xs.take k) ++ pickOut (p x) (g x) ((ys x).take j)) ++ [g x y] := by rw [pickOut_take _ _ _ j y hy, e]; simp
                show wpAny _ _ _ (fun fin s' => fin = _ ∧ Cst _ tg _ s₂.heap (AccL Γ'.prog Γ'.w Da (flatOut ys p g (xs.take k) ++ pickOut (p x) (g x) ((ys x).take (j + 1)))) s₁ s' ∧ _) _ s₄
                rw [e4]
                have Ly : Lay (Γ'.plus wr2) tg Da (fun b => b = Γ'.env.locals ∨ b = Da ∨ ∃ y ∈ tg, Γ'.env.cells.lookup y = some b) s₂.heap := ⟨Lx.dl, Lx.dc, Lx.fl, Lx.fc, Lx.fd⟩
                obtain ⟨g1, -, g3, g4, g5, -⟩ := setAll_env (bs2 x y) (Γ'.plus wr2)
                have := emitL_rule (c := .compLoop (.ListComp elt [⟨target, iter, [], 0⟩, ⟨target2, iter2, ifs2, 0⟩] scope pos) 1 (.ref I2) (.ref Da) Γ'.env) (fp := fp2) (Γ := (Γ'.plus wr2).setAll (bs2 x y)) (y := g x y) (elt := elt)
                  (outs := flatOut ys p g (xs.take k) ++ pickOut (p x) (g x) ((ys x).take j)) (lay_setAll Ly) (fun m => offS _ m DaS') (by rw [g3, g4]; exact c₄) (hee y hym e wr2)
                  (Nat.le_trans (flatOut_len ys p g xs k x hx j) hsz)
                rw [g1, g3, g4, g5] at this
                exact this
          · refine ⟨c₃.same, xW, cP, fun y hy => ?_, ?_, c₃.ns⟩
            · rcases c₃.slots y hy with ⟨a, b, c⟩ | ⟨a, c, v, l, b, d⟩
              · exact .inl ⟨a, b, .inl c⟩
              · exact .inr ⟨a, c, v, l, b, .inl d⟩
            · show AccL _ _ _ (_ ++ pickOut _ _ ((ys x).take 0)) _ _
              rw [List.take_zero]
              simpa [pickOut] using accP
          · intro s' c
            refine hR s' ?_
            have : ((ys x).map (inj2 x)).length = (ys x).length := List.length_map ..
            rw [this, List.take_length] at c
            exact c
        have done : ∀ s', Cst Γ' tg (fun b => b = Γ'.env.locals ∨ b = Da ∨ ∃ y ∈ tg, Γ'.env.cells.lookup y = some b) s₂.heap (AccL Γ'.prog Γ'.w Da (flatOut ys p g (xs.take k) ++ pickOut (p x) (g x) (ys x))) s₁ s' →
            Cst Γ' tg (fun _ => False) s₁.heap (AccL Γ'.prog Γ'.w Da (flatOut ys p g (xs.take k) ++ pickOut (p x) (g x) (ys x))) s₁ s' ∧ ∀ b ∈ fp, ∀ o, s.heap.get? b = some o → s'.heap.get? b = some o := fun s' c => by
          refine ⟨⟨c.same, fun b o _ e => ?_, c.at_, c.slots, c.acc, c.ns⟩, fun b hb o e => ?_⟩
          · refine c.ext b o (fun q => ?_) (k₂.k b o (c'.ext b o id e))
            rcases q with q | q | ⟨y, hy, q⟩
            · rcases L'.fl with z | z
              · exact z
              · rw [← q, e] at z; (first | obtain ⟨_, rfl⟩ := z.atom | exact (nsE z).elim | exact (snE z).elim | exact (ftE z).elim | cases z)
            · rcases L'.fd with z | z
              · exact z
              · rw [← q, e] at z; (first | obtain ⟨_, rfl⟩ := z.atom | exact (nsE z).elim | exact (snE z).elim | exact (ftE z).elim | cases z)
            · rcases L'.fc y hy b q with z | z
              · exact z
              · rw [e] at z; (first | obtain ⟨_, rfl⟩ := z.atom | exact (nsE z).elim | exact (snE z).elim | exact (ftE z).elim | cases z)
          · refine c.ext b o (fun q => ?_) (k₂.k b o e)
            rcases q with q | q | ⟨y, hy, q⟩
            · exact hfpC' (q ▸ hb)
            · exact hfd (q ▸ hb)
            · exact hfpT' y hy b q hb
        exact compStart_at1 (loop _ fun s' c => wpAny_pure ⟨rfl, done s' c⟩) (T.self 0 _ _ _ st (loop _ fun s' c => wpAny_pure ⟨rfl, done s' c⟩))
      exact key (Γ.cx scope (bs x) Da C own wr) e3 e4 e5 e1 eS L1 c (hi2 x hm Da C own wr) hfree (fun y hy wr2 => ht x hm y hy Da C own wr wr2) (fun y hy e wr2 => he x hm y hy e Da C own wr wr2)
  · intro Da C own s' h1 h2 h3 c
    refine fin s₁ Da C own s' k₁ C1 h1 h2 h3 ?_
    have : (xs.map inj).length = xs.length := List.length_map ..
    rw [this, List.take_length] at c
    exact c
-- part PL13
/-- objects that a function alone knows, at the addresses os -/
structure OwnOk (P : (Addr → Prop) → Heap → Prop) (os : List Addr) : Prop where
  ext : ∀ S h h', P S h → Ext S h h' → (∀ a ∈ os, ∀ o, h.get? a = some o → h'.get? a = some o) → P S h'
  move : ∀ S S' h, P S h → (∀ b, S' b → S b ∨ h.get? b = none) → (∀ a ∈ os, S' a) → P S' h
  has : ∀ S h, P S h → ∀ a ∈ os, S a
noncomputable def noOwn : (Addr → Prop) → Heap → Prop := fun _ _ => True
theorem noOwn_ok : OwnOk noOwn [] := ⟨fun _ _ _ _ _ _ => trivial, fun _ _ _ _ _ _ => trivial, fun _ _ _ _ h => nomatch h⟩
theorem AccOk.own {P : (Addr → Prop) → Heap → Prop} {a : Addr} (h : AccOk P a) : OwnOk P [a] :=
  ⟨fun S h' h'' p e k => h.ext S h' h'' p e (k a (.head _)), fun S S' h' p m q => h.move S S' h' p m (q a (.head _)), fun S h' p b hb => by rw [List.mem_singleton.mp hb]; exact h.has S h' p⟩
theorem OwnOk.and {P Q : (Addr → Prop) → Heap → Prop} {os qs : List Addr} (hp : OwnOk P os) (hq : OwnOk Q qs) : OwnOk (fun S h => P S h ∧ Q S h) (os ++ qs) :=
  ⟨fun S h h' p e k => ⟨hp.ext S h h' p.1 e fun a m => k a (List.mem_append_left _ m), hq.ext S h h' p.2 e fun a m => k a (List.mem_append_right _ m)⟩,
   fun S S' h p m q => ⟨hp.move S S' h p.1 m fun a z => q a (List.mem_append_left _ z), hq.move S S' h p.2 m fun a z => q a (List.mem_append_right _ z)⟩,
   fun S h p a m => (List.mem_append.mp m).elim (hp.has S h p.1 a) (hq.has S h p.2 a)⟩

/-- what a function's frame rests on: what may be written, loops' iterators, the state at its call -/
structure Lev where
  W : Addr → Prop
  zs : List Addr
  Z : (Addr → Prop) → Heap → Prop
  s₀ : Shared

structure Fm (L : Lev) (Γ : Ctx) (os : List Addr) (P : (Addr → Prop) → Heap → Prop) (s : Shared) : Prop where
  same : Sm L.s₀ s
  ext : Ext L.W L.s₀.heap s.heap
  at_ : Γ.At s.heap
  ns : ∃ m, s.heap.Ns Γ.env.locals m
  lS : Γ.S Γ.env.locals ∧ L.s₀.heap.get? Γ.env.locals = none
  cS : ∀ x c, Γ.env.cells.lookup x = some c → Γ.env.kindOf x = some .cell ∧ Γ.S c ∧ L.s₀.heap.get? c = none ∧ ∃ v, s.heap.IsCell c v
  ol : Γ.env.locals ∉ os ∧ Γ.env.locals ∉ L.zs
  oc : ∀ x c, Γ.env.cells.lookup x = some c → c ∉ os ∧ c ∉ L.zs
  own : P Γ.S s.heap
  rest : L.Z Γ.S s.heap
  oz : ∀ a ∈ os, a ∉ L.zs
  zok : OwnOk L.Z L.zs
  pok : OwnOk P os
  base : ∀ b, (L.s₀.heap.get? b).isSome = true → (s.heap.get? b).isSome = true

theorem Ev.on {Γ : Ctx} {e : Expr} {d : D} (h : Ev Γ e d) {s : Shared} (C : Γ.At s.heap) : Tr Γ (eval e Γ.env) (fun v h => Γ.R h v d) s := h.run s C
theorem EvT.on {Γ : Ctx} {e : Expr} {b : Bool} (h : EvT Γ e b) {s : Shared} (C : Γ.At s.heap) : Tr Γ (isTrue e Γ.env (eval e Γ.env)) (fun t _ => t = b) s := h.run s C

/-- a name that the function may bind -/
noncomputable def asg (Γ : Ctx) (x : Str) : Bool := Γ.env.kindOf x == some .local || (Γ.env.kindOf x == some .cell && (Γ.env.cells.lookup x).isSome)

section
variable {L : Lev} {Γ : Ctx} {os : List Addr} {P : (Addr → Prop) → Heap → Prop} {s s' : Shared}

theorem Fm.slot (F : Fm L Γ os P s) {x : Str} (h : asg Γ x = true) : Slot Γ s.heap x := by
  unfold asg at h
  rcases Bool.or_eq_true_iff.mp h with h | h
  · exact .inl ⟨eq_of_beq h, F.ns, F.lS.1⟩
  · obtain ⟨h1, h2⟩ := Bool.and_eq_true_iff.mp h
    obtain ⟨c, hc⟩ := Option.isSome_iff_exists.mp h2
    obtain ⟨_, hS, _, v, hv⟩ := F.cS x c hc
    exact .inr ⟨eq_of_beq h1, c, v, hc, hv, hS⟩

theorem Fm.kp (F : Fm L Γ os P s) (k : Kp s s') : Fm L Γ os P s' :=
  ⟨F.same.trans k.1, F.ext.trans (Ext.of_keep k.k), F.at_.go k, let ⟨m, q⟩ := F.ns; ⟨m, q.keeps k.k⟩, F.lS,
    fun x c e => let ⟨a, b, c', v, d⟩ := F.cS x c e; ⟨a, b, c', v, d.keeps k.k⟩, F.ol, F.oc, F.pok.ext _ _ _ F.own (Ext.of_keep k.k) fun a _ o e => k.k a o e,
    F.zok.ext _ _ _ F.rest (Ext.of_keep k.k) fun a _ o e => k.k a o e, F.oz, F.zok, F.pok, fun b e => some_keep (F.base b e) k.k⟩

theorem Fm.wr {tg : List Str} {bs : List (Str × D)} (F : Fm L Γ os P s) (w : Wr Γ tg s s') (C : (Γ.setAll bs).At s'.heap) : Fm L (Γ.setAll bs) os P s' := by
  obtain ⟨e1, e2, -⟩ := setAll_env bs Γ
  have keep : ∀ b, b ≠ Γ.env.locals → (∀ x, Γ.env.cells.lookup x ≠ some b) → ∀ o, s.heap.get? b = some o → s'.heap.get? b = some o := fun b h1 h2 o e => w.off b o h1 (fun x _ => h2 x) e
  have h1 : ∀ a ∈ os, ∀ o, s.heap.get? a = some o → s'.heap.get? a = some o := fun a m => keep a (fun q => F.ol.1 (q ▸ m)) fun x q => (F.oc x a q).1 m
  have h2 : ∀ a ∈ L.zs, ∀ o, s.heap.get? a = some o → s'.heap.get? a = some o := fun a m => keep a (fun q => F.ol.2 (q ▸ m)) fun x q => (F.oc x a q).2 m
  refine ⟨F.same.trans w.same, fun b o hb e => keep b (fun q => ?_) (fun x q => ?_) o (F.ext b o hb e), C, ?_, ?_, ?_, ?_, ?_, ?_, ?_, F.oz, F.zok, F.pok, fun b q => ?_⟩
  · rw [q, F.lS.2] at e; (first | obtain ⟨_, rfl⟩ := e.atom | exact (nsE e).elim | exact (snE e).elim | exact (ftE e).elim | cases e)
  · rw [(F.cS x b q).2.2.1] at e; (first | obtain ⟨_, rfl⟩ := e.atom | exact (nsE e).elim | exact (snE e).elim | exact (ftE e).elim | cases e)
  · rw [e1]; exact w.ns F.ns
  · rw [e1, e2]; exact F.lS
  · rw [e1, e2]
    intro x c e
    obtain ⟨a, b, c', v, d⟩ := F.cS x c e
    have := w.slot x (.inr ⟨a, c, v, e, d, b⟩)
    rcases this with ⟨q, _⟩ | ⟨_, c'', v', e', d', _⟩
    · rw [a] at q; (first | obtain ⟨_, rfl⟩ := q.atom | exact (nsE q).elim | exact (snE q).elim | exact (ftE q).elim | cases q)
    · rw [e] at e'; (first | obtain ⟨_, rfl⟩ := e'.atom | exact (nsE e').elim | exact (snE e').elim | exact (ftE e').elim | cases e'); exact ⟨a, b, c', v', d'⟩
  · rw [e1]; exact F.ol
  · rw [e1]; exact F.oc
  · rw [e2]; exact F.pok.ext _ _ _ F.own w.ext h1
  · rw [e2]; exact F.zok.ext _ _ _ F.rest w.ext h2
  · have q' := F.base b q
    cases e : s.heap.get? b with
    | none => rw [e] at q'; (first | obtain ⟨_, rfl⟩ := q'.atom | exact (nsE q').elim | exact (snE q').elim | exact (ftE q').elim | cases q')
    | some o =>
      rw [keep b (fun z => ?_) (fun x z => ?_) o e]; · rfl
      · rw [z, F.lS.2] at q; (first | obtain ⟨_, rfl⟩ := q.atom | exact (nsE q).elim | exact (snE q).elim | exact (ftE q).elim | cases q)
      · rw [(F.cS x b z).2.2.1] at q; (first | obtain ⟨_, rfl⟩ := q.atom | exact (nsE q).elim | exact (snE q).elim | exact (ftE q).elim | cases q)

noncomputable abbrev Wx (Γ : Ctx) {α : Type} (t : Sem α) (Q : α → Shared → Prop) (s : Shared) : Prop := wpAny (model Γ.prog Γ.w) Γ.A t Q (fun _ _ => False) s
/-- a run of statements within a frame -/
structure Ex (Γ : Ctx) {α : Type} (t : Sem α) (Q : α → Shared → Prop) (s : Shared) : Prop where
  run : wpAny (model Γ.prog Γ.w) Γ.A t Q (fun _ _ => False) s

theorem ex_setAll {bs : List (Str × D)} {rest : List Stmt} {Q : Flow → Shared → Prop} (h : Ex (Γ.setAll bs) (execs rest (Γ.setAll bs).env) Q s) : Ex Γ (execs rest Γ.env) Q s := by
  obtain ⟨e1, _, e3, e4, e5, -⟩ := setAll_env bs Γ
  have h := h.run
  rw [e1, e3, e4, e5] at h
  exact .mk h

theorem bnd_list_ok {bs : List (Str × D)} (h : bs.all (fun b => asg Γ b.1) = true) : ∀ b ∈ bs, asg Γ b.1 = true := fun b hb => List.all_eq_true.mp h b hb

theorem Bnd.t2 {x y : Str} {px py p : Pos} {k : Nat} {d e : D} : Bnd (.Tuple [.Name x px, .Name y py] k p) (.tuple [d, e]) [(x, d), (y, e)] := Bnd.tuple (bs := [((x, px), d), ((y, py), e)])
theorem Bnd.t3 {x y z : Str} {px py pz p : Pos} {k : Nat} {d e f : D} : Bnd (.Tuple [.Name x px, .Name y py, .Name z pz] k p) (.tuple [d, e, f]) [(x, d), (y, e), (z, f)] := Bnd.tuple (bs := [((x, px), d), ((y, py), e), ((z, pz), f)])
theorem Bnd.t5 {x y z u v : Str} {px py pz pu pv p : Pos} {k : Nat} {d e f g h : D} : Bnd (.Tuple [.Name x px, .Name y py, .Name z pz, .Name u pu, .Name v pv] k p) (.tuple [d, e, f, g, h]) [(x, d), (y, e), (z, f), (u, g), (v, h)] :=
  Bnd.tuple (bs := [((x, px), d), ((y, py), e), ((z, pz), f), ((u, pu), g), ((v, pv), h)])

/-- name = value -/
theorem x_assign {x : Str} {px pos : Pos} {value : Expr} {rest : List Stmt} {d : D} {Q : Flow → Shared → Prop} (F : Fm L Γ os P s) (he : Tr Γ (eval value Γ.env) (fun v h => Γ.R h v d) s)
    (k : ∀ s', Fm L (Γ.set x d) os P s' → Ex (Γ.set x d) (execs rest (Γ.set x d).env) Q s')
    (ha : asg Γ x = true := by rfl) (hs : swapsWith value (some (.Name x px)) pos.line Γ.env = pure false := by rfl) : Ex Γ (execs (.Assign [.Name x px] value pos :: rest) Γ.env) Q s := by
  refine .mk <| wpAny_execs_cons (wpAny_Assign_Name (he.then' fun v s₁ k₁ r₁ => ?_) hs)
  exact store_rule (F.kp k₁).at_ ((F.kp k₁).slot ha) r₁ fun s' w C => (k s' ((F.kp k₁).wr (bs := [(x, d)]) w C)).run

/-- names = value, one after the other -/
theorem x_unpack {elts : List Expr} {kk : Nat} {tpos pos : Pos} {value : Expr} {rest : List Stmt} {d : D} {bs : List (Str × D)} {Q : Flow → Shared → Prop} (F : Fm L Γ os P s) (he : Tr Γ (eval value Γ.env) (fun v h => Γ.R h v d) s)
    (b : Bnd (.Tuple elts kk tpos) d bs) (k : ∀ s', Fm L (Γ.setAll bs) os P s' → Ex (Γ.setAll bs) (execs rest (Γ.setAll bs).env) Q s')
    (ha : bs.all (fun b => asg Γ b.1) = true := by rfl) (hs : swapsWithSole [.Tuple elts kk tpos] value pos.line Γ.env = pure false := by rfl) (hw : swappedStores [.Tuple elts kk tpos] value Γ.env = pure none := by rfl) :
    Ex Γ (execs (.Assign [.Tuple elts kk tpos] value pos :: rest) Γ.env) Q s := by
  refine .mk <| wpAny_execs_cons (Assign_Tuple (he.then' fun v s₁ k₁ r₁ => ?_) hs hw)
  exact assign_rule (Γ := Γ) (prog := Γ.prog) (w := Γ.w) F.at_.room.1 (F.kp k₁).at_ b (fun y hy => (F.kp k₁).slot (bnd_list_ok ha y hy)) r₁ fun s' w C => (ex_setAll (k s' ((F.kp k₁).wr w C))).run

theorem binds_in_order {M : Model} {A : Around} {E : Value → Shared → Prop} {prog : Program} {w : World} : ∀ (bs : List (Str × D)) (vs : List Value) {Γ : Ctx} {s : Shared} {Q : Unit → Shared → Prop}, Γ.prog = prog → Γ.w = w → Γ.At s.heap → (∀ b ∈ bs, Slot Γ s.heap b.1) → Γ.Rs s.heap vs (bs.map (·.2)) →
    (∀ s', Wr Γ (bs.map (·.1)) s s' → (Γ.setAll bs).At s'.heap → Q () s') → wpAny M A (assignInOrder ((bs.map (·.1)).map fun n => bindName Γ.env n) vs) Q E s
  | [], vs, Γ, s, Q, _, _, C, _, r, k => by
    (first | obtain ⟨_, rfl⟩ := r.atom | exact (nsE r).elim | exact (snE r).elim | exact (ftE r).elim | cases r)
    exact wpAny_pure (k s (Wr.of_kp (Kp.refl s)) C)
  | b :: bs, vs, Γ, s, Q, hp, hw, C, sl, r, k => by
    cases r with
    | cons a r =>
      rename_i v vs
      refine wpAny_bind (wpAny_holding (wpAny_bindName (store_rule C (sl b (.head _)) a fun s₁ W C₁ => ?_)))
      refine binds_in_order bs vs (Γ := Γ.set b.1 b.2) hp hw C₁ (fun x hx => W.slot _ (sl x (.tail _ hx))) (r.ext W.ext) fun s₂ W₂ C₂ => ?_
      exact k s₂ ((W.more (by simp)).trans ((wr_set W₂).more fun y hy => List.mem_cons_of_mem _ hy)) C₂

theorem RepAll.rev {prog : Program} {w : World} {S : Addr → Prop} {h : Heap} : ∀ {vs : List Value} {ds : List D}, RepAll prog w S h vs ds → RepAll prog w S h vs.reverse ds.reverse
  | _, _, .nil => .nil
  | _, _, .cons a r => by
    rw [List.reverse_cons, List.reverse_cons]
    exact r.rev.append (.cons a .nil)

/-- two or three local names from a written tuple: stored from the last one on -/
theorem x_swap {elts : List Expr} {kk : Nat} {tpos pos : Pos} {value : Expr} {rest : List Stmt} {bs : List (Str × D)} {Q : Flow → Shared → Prop} (F : Fm L Γ os P s) (he : Tr Γ (eval value Γ.env) (fun v h => Γ.R h v (.tuple (bs.map (·.2)))) s)
    (k : ∀ s', Fm L (Γ.setAll bs.reverse) os P s' → Ex (Γ.setAll bs.reverse) (execs rest (Γ.setAll bs.reverse).env) Q s') (ha : bs.all (fun b => asg Γ b.1) = true := by rfl)
    (hs : swapsWithSole [.Tuple elts kk tpos] value pos.line Γ.env = pure false := by rfl) (hw : swappedStores [.Tuple elts kk tpos] value Γ.env = pure (some (bs.map (·.1))) := by rfl) :
    Ex Γ (execs (.Assign [.Tuple elts kk tpos] value pos :: rest) Γ.env) Q s := by
  refine .mk <| wpAny_execs_cons (Assign_Tuple_swapped (he.then' fun v s₁ k₁ r₁ => ?_) hs hw)
  obtain ⟨a, vs, n, rfl, _, hl, rs⟩ := r₁.tuple_inv
  have e := rs.length
  have en : (bs.map (·.1)).length = vs.toArray.size := by simpa using e.symm
  rw [en]
  refine unpackItems_tuple F.at_.room.1 (isTup hl) fun h' he => ?_
  have kp : Kp s₁ { s₁ with heap := h' } := Kp.heap s₁ h' fun p o q => he p o (Nat.ne_of_lt (Heap.lt_size q)) q
  have F₂ := (F.kp k₁).kp kp
  have := binds_in_order (M := model Γ.prog Γ.w) (A := Γ.A) (E := fun _ _ => False) (prog := Γ.prog) (w := Γ.w) bs.reverse vs.reverse (Γ := Γ) (Q := fun _ s' => wpAny (model Γ.prog Γ.w) Γ.A (execs rest Γ.env) Q (fun _ _ => False) s') rfl rfl F₂.at_ (fun y hy => F₂.slot (bnd_list_ok ha y (List.mem_reverse.mp hy)))
    (by rw [List.map_reverse]; exact (rs.keep kp.k).rev) fun s' w C => (ex_setAll (k s' (F₂.wr w C))).run
  rw [List.map_reverse] at this
  exact this

theorem x_if {test : Expr} {body orelse rest : List Stmt} {pos : Pos} {b : Bool} {Q : Flow → Shared → Prop} (F : Fm L Γ os P s) (ht : Tr Γ (isTrue test Γ.env (eval test Γ.env)) (fun t _ => t = b) s)
    (h1 : b = true → ∀ s', Fm L Γ os P s' → Ex Γ (execs body Γ.env) (fun f s'' => match f with | .next => Ex Γ (execs rest Γ.env) Q s'' | f => Q f s'') s')
    (h2 : b = false → ∀ s', Fm L Γ os P s' → Ex Γ (execs orelse Γ.env) (fun f s'' => match f with | .next => Ex Γ (execs rest Γ.env) Q s'' | f => Q f s'') s') : Ex Γ (execs (.If test body orelse pos :: rest) Γ.env) Q s := by
  refine .mk <| wpAny_execs_cons (wpAny_If (ht.then' fun t s₁ k₁ e => ?_))
  subst e
  cases t with
  | true => exact wpAny_mono (h1 rfl s₁ (F.kp k₁)).run (fun f s'' q => by (first | obtain ⟨_, rfl⟩ := f.atom | exact (nsE f).elim | exact (snE f).elim | exact (ftE f).elim | cases f) <;> first | exact q.run | exact q) fun _ _ x => x
  | false => exact wpAny_mono (h2 rfl s₁ (F.kp k₁)).run (fun f s'' q => by (first | obtain ⟨_, rfl⟩ := f.atom | exact (nsE f).elim | exact (snE f).elim | exact (ftE f).elim | cases f) <;> first | exact q.run | exact q) fun _ _ x => x
/-- a test that fails, without an else -/
theorem x_skip {test : Expr} {body rest : List Stmt} {pos : Pos} {Q : Flow → Shared → Prop} (F : Fm L Γ os P s) (ht : Tr Γ (isTrue test Γ.env (eval test Γ.env)) (fun t _ => t = false) s)
    (k : ∀ s', Fm L Γ os P s' → Ex Γ (execs rest Γ.env) Q s') : Ex Γ (execs (.If test body [] pos :: rest) Γ.env) Q s :=
  x_if F ht (fun e => by (first | obtain ⟨_, rfl⟩ := e.atom | exact (nsE e).elim | exact (snE e).elim | exact (ftE e).elim | cases e)) fun _ s' F' => .mk (wpAny_execs_nil (k s' F'))

theorem ex_nil {Q : Flow → Shared → Prop} (h : Q .next s) : Ex Γ (execs [] Γ.env) Q s := .mk (wpAny_execs_nil h)
theorem x_ret {e : Expr} {pos : Pos} {rest : List Stmt} {d : D} {Q : Flow → Shared → Prop} (F : Fm L Γ os P s) (he : Tr Γ (eval e Γ.env) (fun v h => Γ.R h v d) s) (k : ∀ v s', Fm L Γ os P s' → Γ.R s'.heap v d → Q (.ret v) s') :
    Ex Γ (execs (.Return (some e) pos :: rest) Γ.env) Q s :=
  .mk <| wpAny_execs_cons (wpAny_Return_some (he.then' fun v s₁ k₁ r₁ => k v s₁ (F.kp k₁) r₁))

/-- name += value, of ints -/
theorem x_aug {x : Str} {px pos : Pos} {op : Operator} {value : Expr} {rest : List Stmt} {d1 d2 d : D} {Q : Flow → Shared → Prop} (F : Fm L Γ os P s) (hx : Γ.ρ x = some d1) (he : Ev Γ value d2) (ho : Op2 Γ (inplaceOp op) d1 d2 d)
    (k : ∀ s', Fm L (Γ.set x d) os P s' → Ex (Γ.set x d) (execs rest (Γ.set x d).env) Q s') (ha : asg Γ x = true := by rfl) : Ex Γ (execs (.AugAssign (.Name x px) op value pos :: rest) Γ.env) Q s := by
  have hl : Tr Γ (loadName Γ.env x) (fun v h => Γ.R h v d1) s := by
    obtain ⟨v, hv, r⟩ := F.at_.vars x d1 hx
    have C := F.at_
    rcases hv with ⟨a, m, n, e⟩ | ⟨a, c, l, n⟩
    · exact wpAny_loadName_local C.kind a n e ⟨Kp.refl s, r⟩
    · rcases a with a | ⟨a, b⟩
      · exact wpAny_loadName_cell C.kind a l n ⟨Kp.refl s, r⟩
      · exact wpAny_loadName_free C.kind a l n ⟨Kp.refl s, r⟩ b
  refine .mk <| wpAny_execs_cons (wpAny_AugAssign_Name (hl.then' fun a s₁ k₁ r₁ => (he.run s₁ (F.kp k₁).at_).then' fun b s₂ k₂ r₂ => (ho.run a b s₂ ((F.kp k₁).kp k₂).at_ (r₁.keep k₂.k) r₂).then' fun v s₃ k₃ r₃ => ?_))
  have F₃ := ((F.kp k₁).kp k₂).kp k₃
  exact store_rule F₃.at_ (F₃.slot ha) r₃ fun s' w C => (k s' (F₃.wr (bs := [(x, d)]) w C)).run
end
-- part PL14
/-- a comprehension whose value is stored before its block is left -/
structure EvU (Γ : Ctx) (value : Expr) (N : Ctx → Heap → Value → Heap → Prop) : Prop where
  run : ∀ (s : Shared) (use : Value → Sem Unit) (Q : Shared → Prop), Γ.At s.heap →
  (∀ s' v C, Kp s s' → s.heap.get? C = none → (∃ m, s'.heap.Ns C m) → N (Γ.plus [C]) s.heap v s'.heap → (∃ a, v = .ref a ∧ a ≠ C ∧ s.heap.get? a = none) →
    Wx Γ (use v) (fun _ s'' => ∃ m, s''.heap.Ns C m ∧ ∀ h', Heap.SameBut C s''.heap h' → Q { s'' with heap := h' }) s') → Wx Γ (evalThenUse value Γ.env use) (fun _ s' => Q s') s

section
variable {Γ : Ctx} {scope : Scope} {tg : List Str} {s s₁ s' : Shared} {Da C : Addr} {own : List (Str × Addr)}
theorem cst_kp {P : (Addr → Prop) → Heap → Prop} (c : Cst (Γ.comp scope Da C own) tg (fun _ => False) s₁.heap P s₁ s') : Kp s₁ s' := by
  exact ⟨c.same, fun b o e => c.ext b o id e⟩
theorem none_back (k : Kp s s₁) {a : Addr} (e : s₁.heap.get? a = none) : s.heap.get? a = none := by
  cases q : s.heap.get? a with
  | none => rfl
  | some o => rw [k.k a o q] at e; (first | obtain ⟨_, rfl⟩ := e.atom | exact (nsE e).elim | exact (snE e).elim | exact (ftE e).elim | cases e)

theorem evU_of {Γ : Ctx} {elt target iter : Expr} {gs : List Comprehension} {scope : Scope} {pos : Pos} {ds : List D}
    (h : ∀ (s : Shared) (use : Option (Value → Sem Unit)) (Q : Value → Shared → Prop), Γ.At s.heap → (∀ s₁ Da C own s', Kp s s₁ → Γ.At s₁.heap → s₁.heap.get? C = none → s₁.heap.get? Da = none → Da ≠ C → Cst (Γ.comp scope Da C own) tg (fun _ => False) s₁.heap (AccL Γ.prog Γ.w Da ds) s₁ s' →
      compPost (model Γ.prog Γ.w) Γ.A (fun _ _ => False) use Q (.ref Da) C (.ok .next) s') →
      wpAny (model Γ.prog Γ.w) Γ.A (comprehension (.ListComp elt (⟨target, iter, ifs, 0⟩ :: gs) scope pos) scope Γ.env (firstIterPos (⟨target, iter, ifs, 0⟩ :: gs) pos) (newList []) false (eval iter Γ.env) use) Q (fun _ _ => False) s) :
    EvU Γ (.ListComp elt (⟨target, iter, ifs, 0⟩ :: gs) scope pos) fun Γ h₀ v h => NewL Γ h₀ ds v h := .mk fun s use Q hC k => by
  show wpAny _ Γ.A (do let _ ← comprehension (.ListComp elt (⟨target, iter, ifs, 0⟩ :: gs) scope pos) scope Γ.env _ (newList []) false (eval iter Γ.env) (some use)) _ _ s
  refine wpAny_bind (wpAny_mono (h s (some use) (fun _ s' => Q s') hC ?_) (fun _ _ q => wpAny_pure q) fun _ _ x => x)
  intro s₁ Da C own s' k₁ C1 h1 h2 h3 c
  have kk := cst_kp c
  refine wpAny_mono (k s' (.ref Da) C (k₁.trans kk) (none_back k₁ h1) c.ns ?_ ⟨Da, rfl, h3, none_back k₁ h2⟩) (fun _ s'' q => q) fun _ _ x => x
  obtain ⟨_, vs, hl, rs⟩ := c.acc
  exact ⟨Da, vs, rfl, none_back k₁ h2, hl, rs.less fun b q => by
    rcases q with (q | q) | q
    · exact .inl q
    · exact .inr (.inr (.inl (List.mem_singleton.mp q)))
    · exact .inr (.inl q)⟩

theorem evU_listcomp {τ : Type} {xs : List τ} {inj : τ → D} {bs : τ → List (Str × D)} {p : τ → Bool} {g : τ → D} {Γ : Ctx} {scope : Scope} {tg : List Str} {d : D} {iter elt target : Expr} {ifs : List Expr} {pos : Pos}
    (hi : Ev Γ iter d) (hit : Iterable d (xs.map inj)) (Z : ScopeOk Γ scope tg) (hsz : xs.length ≤ sizeLine)
    (hb : ∀ x ∈ xs, Bnd target (inj x) (bs x)) (hn : ∀ x ∈ xs, ∀ b ∈ bs x, b.1 ∈ tg)
    (ht : ∀ x ∈ xs, ∀ Da C own wr, TestsOk (Γ.cx scope (bs x) Da C own wr) ifs (p x))
    (he : ∀ x ∈ xs, p x = true → ∀ Da C own wr, Ev (Γ.cx scope (bs x) Da C own wr) elt (g x))
    (hs : ∀ x, foldedSetIterable iter Γ.env x = pure x := by intro _; rfl) : EvU Γ (.ListComp elt [⟨target, iter, ifs, 0⟩] scope pos) fun Γ h₀ v h => NewL Γ h₀ (pickOut p g xs) v h :=
  evU_of fun s use Q hC fin => listcomp_use hi hit Z hsz hb hn ht he hC fin hs

theorem evU_listcomp2 {τ σ : Type} {xs : List τ} {inj : τ → D} {bs : τ → List (Str × D)} {ys : τ → List σ} {inj2 : τ → σ → D} {bs2 : τ → σ → List (Str × D)} {p : τ → σ → Bool} {g : τ → σ → D} {d2 : τ → D}
    {Γ : Ctx} {scope : Scope} {tg : List Str} {d : D} {iter elt target iter2 target2 : Expr} {ifs2 : List Expr} {pos : Pos}
    (hi : Ev Γ iter d) (hit : Iterable d (xs.map inj)) (Z : ScopeOk Γ scope tg) (hsz : (flatOut ys (fun _ _ => true) g xs).length ≤ sizeLine)
    (hb : ∀ x ∈ xs, Bnd target (inj x) (bs x)) (hn : ∀ x ∈ xs, ∀ b ∈ bs x, b.1 ∈ tg)
    (hi2 : ∀ x ∈ xs, ∀ Da C own wr, Ev (Γ.cx scope (bs x) Da C own wr) iter2 (d2 x)) (hit2 : ∀ x ∈ xs, Iterable (d2 x) ((ys x).map (inj2 x)))
    (hb2 : ∀ x ∈ xs, ∀ y ∈ ys x, Bnd target2 (inj2 x y) (bs2 x y)) (hn2 : ∀ x ∈ xs, ∀ y ∈ ys x, ∀ b ∈ bs2 x y, b.1 ∈ tg ∧ ∀ c ∈ bs x, c.1 ≠ b.1)
    (ht : ∀ x ∈ xs, ∀ y ∈ ys x, ∀ Da C own wr wr2, TestsOk (((Γ.cx scope (bs x) Da C own wr).plus wr2).setAll (bs2 x y)) ifs2 (p x y))
    (he : ∀ x ∈ xs, ∀ y ∈ ys x, p x y = true → ∀ Da C own wr wr2, Ev (((Γ.cx scope (bs x) Da C own wr).plus wr2).setAll (bs2 x y)) elt (g x y))
    (hs : ∀ x, foldedSetIterable iter Γ.env x = pure x := by intro _; rfl) (hs2 : ∀ env x, foldedSetIterable iter2 env x = pure x := by intro _ _; rfl) :
    EvU Γ (.ListComp elt [⟨target, iter, [], 0⟩, ⟨target2, iter2, ifs2, 0⟩] scope pos) fun Γ h₀ v h => NewL Γ h₀ (flatOut ys p g xs) v h :=
  evU_of fun s use Q hC fin => listcomp2_use hi hit Z hsz hb hn hi2 hit2 hb2 hn2 ht he hC fin hs hs2

theorem evU_dictcomp {K : Type} [DecidableEq K] {Γ : Ctx} {knd : KeyKind Γ.prog Γ.w K} {τ : Type} {xs : List τ} {inj : τ → D} {bs : τ → List (Str × D)} {p : τ → Bool} {gk : τ → K} {dk : τ → D} {gv : τ → Int} {scope : Scope} {tg : List Str} {d : D} {iter kx vx target : Expr} {ifs : List Expr} {pos : Pos}
    (hi : Ev Γ iter d) (hit : Iterable d (xs.map inj)) (Z : ScopeOk Γ scope tg) (hsz : xs.length ≤ sizeLine)
    (hb : ∀ x ∈ xs, Bnd target (inj x) (bs x)) (hn : ∀ x ∈ xs, ∀ b ∈ bs x, b.1 ∈ tg)
    (hkey : ∀ x ∈ xs, p x = true → ∀ S h v, Rep Γ.prog Γ.w S h v (dk x) → knd.is (gk x) v = true)
    (ht : ∀ x ∈ xs, ∀ Da C own wr, TestsOk (Γ.cx scope (bs x) Da C own wr) ifs (p x))
    (he : ∀ x ∈ xs, p x = true → ∀ Da C own wr, Ev (Γ.cx scope (bs x) Da C own wr) kx (dk x))
    (hv : ∀ x ∈ xs, p x = true → ∀ Da C own wr, Ev (Γ.cx scope (bs x) Da C own wr) vx (.int (gv x)))
    (hs : ∀ x, foldedSetIterable iter Γ.env x = pure x := by intro _; rfl) : EvU Γ (.DictComp kx vx [⟨target, iter, ifs, 0⟩] scope pos) fun _ h₀ v h => NewD Γ knd h₀ (kvOut p gk gv xs) v h := .mk fun s use Q hC k => by
  show wpAny _ Γ.A (do let _ ← comprehension (.DictComp kx vx [⟨target, iter, ifs, 0⟩] scope pos) scope Γ.env _ newDict false (eval iter Γ.env) (some use)) _ _ s
  refine wpAny_bind (wpAny_mono (dictcomp_use (use := some use) (Q := fun _ s' => Q s') (knd := knd) hi hit Z hsz hb hn hkey ht he hv hC ?_ hs) (fun _ _ q => wpAny_pure q) fun _ _ x => x)
  intro s₁ Da C own s' k₁ C1 h1 h2 h3 c
  have kk := cst_kp c
  refine wpAny_mono (k s' (.ref Da) C (k₁.trans kk) (none_back k₁ h1) c.ns ?_ ⟨Da, rfl, h3, none_back k₁ h2⟩) (fun _ s'' q => q) fun _ _ x => x
  obtain ⟨_, hm, us, hd, hkv⟩ := c.acc
  exact ⟨Da, us, rfl, none_back k₁ h2, hm, hd, hkv⟩
end

section
variable {L : Lev} {Γ : Ctx} {os : List Addr} {P : (Addr → Prop) → Heap → Prop} {s s' : Shared}

/-- more addresses that data keeps off: new ones -/
theorem At.plus {wr : List Addr} {h h' : Heap} (C : Γ.At h) (k : ∀ b o, h.get? b = some o → h'.get? b = some o) (hw : ∀ b ∈ wr, h.get? b = none) (hl : ∀ b ∈ wr, (h'.get? b).isSome = true) : (Γ.plus wr).At h' :=
  ⟨⟨C.wd.gl, fun b o e => k b o (C.wd.up b o e), fun a q => q.elim (C.wd.off a) fun m => C.wd.fresh (hw a m), fun a q => q.elim (fun z => some_keep (C.wd.held a z) k) (hl a)⟩, C.kind, C.globals, C.builtins, C.room, C.sep, fun x c e => some_keep (C.cin x c e) k,
    fun x d e => let ⟨v, hv, r⟩ := C.vars x d e; ⟨v, hv.keeps k, (r.avoid (S' := (Γ.plus wr).S) fun b q => q.elim .inl fun m => .inr (hw b m)).keep k⟩⟩
theorem At.minus {wr : List Addr} {h : Heap} (C : (Γ.plus wr).At h) : Γ.At h :=
  ⟨C.wd.less fun _ q => .inl q, C.kind, C.globals, C.builtins, C.room, C.sep, C.cin, fun x d e => let ⟨v, hv, r⟩ := C.vars x d e; ⟨v, hv, r.less fun _ q => .inl q⟩⟩

theorem Fm.plus {wr : List Addr} (F : Fm L Γ os P s) (k : Kp s s') (hw : ∀ b ∈ wr, s.heap.get? b = none) (hl : ∀ b ∈ wr, (s'.heap.get? b).isSome = true) : Fm L (Γ.plus wr) os P s' := by
  have F' := F.kp k
  have h1 : ∀ b, (Γ.plus wr).S b → Γ.S b ∨ s.heap.get? b = none := fun b q => q.elim .inl fun m => .inr (hw b m)
  refine ⟨F'.same, F'.ext, At.plus F.at_ k.k hw hl, F'.ns, ⟨.inl F'.lS.1, F'.lS.2⟩, fun x c e => let ⟨a, b, c'⟩ := F'.cS x c e; ⟨a, .inl b, c'⟩, F'.ol, F'.oc, ?_, ?_, F'.oz, F'.zok, F'.pok, F'.base⟩
  · exact F.pok.ext _ _ _ (F.pok.move _ _ _ F.own h1 fun a m => .inl (F.pok.has _ _ F.own a m)) (Ext.of_keep k.k) fun a _ o e => k.k a o e
  · exact F.zok.ext _ _ _ (F.zok.move _ _ _ F.rest h1 fun a m => .inl (F.zok.has _ _ F.rest a m)) (Ext.of_keep k.k) fun a _ o e => k.k a o e

theorem At.off {C : Addr} {h h' : Heap} (X : (Γ.plus [C]).At h) (k : ∀ b o, b ≠ C → h.get? b = some o → h'.get? b = some o) (hl : Γ.env.locals ≠ C) (hcc : ∀ x c, Γ.env.cells.lookup x = some c → c ≠ C) (hS : ¬ Γ.S C) : Γ.At h' := by
  have live : ∀ a, a ≠ C → (h.get? a).isSome = true → (h'.get? a).isSome = true := fun a m q => by
    cases e : h.get? a with
    | none => rw [e] at q; (first | obtain ⟨_, rfl⟩ := q.atom | exact (nsE q).elim | exact (snE q).elim | exact (ftE q).elim | cases q)
    | some o => rw [k a o m e]; rfl
  have hb : Γ.base.get? C = none := X.wd.off C (.inr (.head _))
  refine ⟨⟨X.wd.gl, fun b o e => k b o (fun q => by rw [q, hb] at e; (first | obtain ⟨_, rfl⟩ := e.atom | exact (nsE e).elim | exact (snE e).elim | exact (ftE e).elim | cases e)) (X.wd.up b o e), fun a q => X.wd.off a (.inl q), fun a q => live a (fun e => hS (e ▸ q)) (X.wd.held a (.inl q))⟩, X.kind, X.globals, X.builtins, X.room, X.sep,
    fun x c e => live c (hcc x c e) (X.cin x c e), fun x d e => ?_⟩
  obtain ⟨v, hv, r⟩ := X.vars x d e
  refine ⟨v, ?_, r.move fun b o hb e => ⟨k b o (fun q => hb (.inr (by rw [q]; exact .head _))) e, fun q => hb (.inl q)⟩⟩
  rcases hv with ⟨a, m, n, em⟩ | ⟨a, c, l, o, ho, hd⟩
  · exact .inl ⟨a, m, n.at' fun o q => k _ o hl q, em⟩
  · exact .inr ⟨a, c, l, o, k c o (hcc x c l) ho, hd⟩

/-- change at C alone, which nothing knows -/
theorem Fm.sameBut {C : Addr} {h' : Heap} (F : Fm L (Γ.plus [C]) os P s) (hs : Heap.SameBut C s.heap h') (hC : Γ.env.locals ≠ C) (hcc : ∀ x c, Γ.env.cells.lookup x = some c → c ≠ C) (hCo : C ∉ os) (hCz : C ∉ L.zs) (hC₀ : L.s₀.heap.get? C = none)
    (hCS : ¬ Γ.S C) : Fm L Γ os P { s with heap := h' } := by
  have hx : Ext (Γ.plus [C]).S s.heap h' := Ext.sameBut hs (.inr (.head _))
  have k1 : ∀ a, a ≠ C → ∀ o, s.heap.get? a = some o → h'.get? a = some o := fun a m o e => hs.extBut a o m e
  have hmem : ∀ a ∈ os, a ≠ C := fun a m e => hCo (e ▸ m)
  have hmz : ∀ a ∈ L.zs, a ≠ C := fun a m e => hCz (e ▸ m)
  refine ⟨⟨F.same.1, F.same.2⟩, fun b o hb e => k1 b (fun q => by rw [q, hC₀] at e; (first | obtain ⟨_, rfl⟩ := e.atom | exact (nsE e).elim | exact (snE e).elim | exact (ftE e).elim | cases e)) o (F.ext b o hb e), ?_, let ⟨m, q⟩ := F.ns; ⟨m, q.sameBut hs hC⟩, ⟨F.lS.1.elim id fun m => absurd (List.mem_singleton.mp m) hC, F.lS.2⟩,
    fun x c e => ?_, F.ol, F.oc, ?_, ?_, F.oz, F.zok, F.pok, fun b e => ?_⟩
  · exact At.off F.at_ (fun b o m e => k1 b m o e) hC hcc hCS
  · obtain ⟨a, b, c', v, d⟩ := F.cS x c e
    exact ⟨a, b.elim id fun m => absurd (List.mem_singleton.mp m) (hcc x c e), c', v, d.sameBut hs (hcc x c e)⟩
  · refine F.pok.move _ _ _ (F.pok.ext _ _ _ F.own hx fun a m => k1 a (hmem a m)) (fun b q => .inl (.inl q)) fun a m => ?_
    exact (F.pok.has _ _ F.own a m).elim id fun z => absurd (List.mem_singleton.mp z) (hmem a m)
  · refine F.zok.move _ _ _ (F.zok.ext _ _ _ F.rest hx fun a m => k1 a (hmz a m)) (fun b q => .inl (.inl q)) fun a m => ?_
    exact (F.zok.has _ _ F.rest a m).elim id fun z => absurd (List.mem_singleton.mp z) (hmz a m)
  · by_cases q : b = C
    · rw [q, hC₀] at e; (first | obtain ⟨_, rfl⟩ := e.atom | exact (nsE e).elim | exact (snE e).elim | exact (ftE e).elim | cases e)
    · show (h'.get? b).isSome = true
      rw [hs.2 b q]; exact F.base b e

structure FreshIs (L : Lev) (Γ : Ctx) (os : List Addr) (a : Addr) : Prop where
  f1 : Γ.env.locals ≠ a
  f2 : ∀ x c, Γ.env.cells.lookup x = some c → c ≠ a
  f3 : a ∉ os
  f4 : a ∉ L.zs
  f5 : L.s₀.heap.get? a = none
  f6 : ¬ Γ.S a
theorem Fm.fresh {a : Addr} (F : Fm L Γ os P s) (e : s.heap.get? a = none) :
    FreshIs L Γ os a := by
  have nS : ¬ Γ.S a := not_held F.at_.wd.held e
  refine ⟨fun q => nS (q ▸ F.lS.1), fun x c l q => nS (q ▸ (F.cS x c l).2.1), fun m => nS (F.pok.has _ _ F.own a m), fun m => nS (F.zok.has _ _ F.rest a m), ?_, nS⟩
  cases q : L.s₀.heap.get? a with
  | none => rfl
  | some o =>
    have := F.base a (by rw [q]; rfl)
    rw [e] at this; (first | obtain ⟨_, rfl⟩ := this.atom | exact (nsE this).elim | exact (snE this).elim | exact (ftE this).elim | cases this)

/-- name = comprehension, where the two stand in one row -/
theorem x_used {x : Str} {px pos : Pos} {value : Expr} {rest : List Stmt} {d : D} {N : Ctx → Heap → Value → Heap → Prop} {Q : Flow → Shared → Prop} (F : Fm L Γ os P s) (he : EvU Γ value N)
    (hN : ∀ C h v h', (∀ b, (Γ.plus [C]).S b → b = C ∨ (h.get? b).isSome = true) → (∃ a, v = .ref a ∧ a ≠ C ∧ h.get? a = none) → N (Γ.plus [C]) h v h' → (Γ.plus [C]).R h' v d)
    (k : ∀ s', Fm L (Γ.set x d) os P s' → Ex (Γ.set x d) (execs rest (Γ.set x d).env) Q s')
    (ha : asg Γ x = true := by rfl) (hs : swapsWith value (some (.Name x px)) pos.line Γ.env = pure true := by rfl) : Ex Γ (execs (.Assign [.Name x px] value pos :: rest) Γ.env) Q s := by
  refine .mk <| wpAny_execs_cons ?_
  rw [exec_Assign_Name_used _ _ _ _ hs]
  refine wpAny_bind (wpAny_standAt (wpAny_bind (wpAny_mono (he.run s (assign (.Name x px) Γ.env) (fun s' => Wx Γ (execs rest Γ.env) Q s') F.at_ ?_) (fun _ s' q => wpAny_pure q) fun _ _ x => x)))
  intro s' v C k₁ hC hns hv hva
  obtain ⟨f1, f2, f3, f4, f5, f6⟩ := F.fresh hC
  obtain ⟨m, hm⟩ := hns
  have hCl : (s'.heap.get? C).isSome = true := let ⟨o, _, _, e, _⟩ := hm; by rw [e]; rfl
  have F' := F.plus k₁ (wr := [C]) (fun b m => by rw [List.mem_singleton.mp m]; exact hC) (fun b m => by rw [List.mem_singleton.mp m]; exact hCl)
  have r := hN C s.heap v s'.heap (fun b q => q.elim (fun z => .inr (F.at_.wd.held b z)) fun m => .inl (List.mem_singleton.mp m)) hva hv
  refine wpAny_assign_Name (store_rule (Γ := Γ.plus [C]) F'.at_ (F'.slot ha) r fun s'' w At' => ?_)
  have F'' := F'.wr (bs := [(x, d)]) w At'
  have hm' : s''.heap.Ns C m := hm.at' fun o e => w.off C o (Ne.symm f1) (fun y _ q => f2 y C q rfl) e
  exact ⟨m, hm', fun h' hs' => (k _ (Fm.sameBut (Γ := Γ.set x d) F'' hs' f1 f2 f3 f4 f5 f6)).run⟩
theorem x_used_list {x : Str} {px pos : Pos} {value : Expr} {rest : List Stmt} {ds : List D} {Q : Flow → Shared → Prop} (F : Fm L Γ os P s) (he : EvU Γ value fun Γ h₀ v h => NewL Γ h₀ ds v h)
    (k : ∀ s', Fm L (Γ.set x (.list ds)) os P s' → Ex (Γ.set x (.list ds)) (execs rest (Γ.set x (.list ds)).env) Q s')
    (ha : asg Γ x = true := by rfl) (hs : swapsWith value (some (.Name x px)) pos.line Γ.env = pure true := by rfl) : Ex Γ (execs (.Assign [.Name x px] value pos :: rest) Γ.env) Q s :=
  x_used F he (fun C h v h' hh hva hv => by
    obtain ⟨a, vs, rfl, hn, hl, rs⟩ := hv
    obtain ⟨a', e, hne, hn'⟩ := hva
    (first | obtain ⟨_, rfl⟩ := e.atom | exact (nsE e).elim | exact (snE e).elim | exact (ftE e).elim | cases e)
    exact .list (fun q => (hh a q).elim (fun e => hne e) fun e => by rw [hn] at e; (first | obtain ⟨_, rfl⟩ := e.atom | exact (nsE e).elim | exact (snE e).elim | exact (ftE e).elim | cases e)) hl (rs.less fun b q => .inl q)) k ha hs
end
-- part PL15
noncomputable def look (l : List (Str × D)) : Str → Option D := fun x => l.lookup x
noncomputable def Ctx.only (Γ : Ctx) (l : List (Str × D)) : Ctx := { Γ with ρ := look l }
noncomputable def Agree (Γ : Ctx) : List (Str × D) → Prop
  | [] => True
  | (x, d) :: r => Γ.ρ x = some d ∧ Agree Γ r
theorem Agree.mem {Γ : Ctx} : ∀ {l : List (Str × D)}, Agree Γ l → ∀ {x : Str} {d : D}, (x, d) ∈ l → Γ.ρ x = some d
  | [], _, _, _, m => nomatch m
  | (y, e) :: r, h, x, d, m => by
    rcases List.mem_cons.mp m with q | q
    · (first | obtain ⟨_, rfl⟩ := q.atom | exact (nsE q).elim | exact (snE q).elim | exact (ftE q).elim | cases q); exact h.1
    · exact h.2.mem q

section
variable {L : Lev} {Γ : Ctx} {os : List Addr} {P : (Addr → Prop) → Heap → Prop} {s s' : Shared}
theorem At.only {l : List (Str × D)} {h : Heap} (a : Agree Γ l) (C : Γ.At h) : (Γ.only l).At h :=
  ⟨C.wd, C.kind, C.globals, C.builtins, C.room, C.sep, C.cin, fun x d e => C.vars x d (a.mem (mem_of_lookup e))⟩
theorem Fm.only {l : List (Str × D)} (a : Agree Γ l) (F : Fm L Γ os P s) : Fm L (Γ.only l) os P s := { F with at_ := At.only a F.at_ }

theorem Fm.next {Γ' : Ctx} {l : List (Str × D)} (F : Fm L Γ os P s) (e : Γ' = Γ.only l) (a : Agree Γ l) : Fm L Γ' os P s := by rw [e]; exact Fm.only a F

/-- what a loop's iterator is, beside what the function owns -/
structure Zit (Γ : Ctx) (h₁ : Heap) (St : Nat → Heap → Prop) (fp wr : List Addr) (k : Nat) (S : Addr → Prop) (h : Heap) : Prop where
  st : St k h
  z2 : ∀ b ∈ fp, (h.get? b).isSome = true
  z3 : ∀ b ∈ fp, b ∈ wr ∨ ¬ S b
  z4 : ∀ b ∈ wr, S b
  z5 : ∀ b, S b → Γ.S b ∨ h₁.get? b = none
  z6 : Ext Γ.S h₁ h
theorem zit_ok {nt : Bool} {prog : Program} {w : World} {A : Around} {S₀ : Addr → Prop} {h₀ h₁ : Heap} {I : Addr} {fp wr : List Addr} {ds : List D} {St : Nat → Heap → Prop} (T : It nt prog w A S₀ h₀ I fp wr ds St) (k : Nat) : OwnOk (Zit Γ h₁ St fp wr k) wr where
  ext := fun S h h' ⟨z1, z2, z3, z4, z5, z6⟩ x q => by
    have keep : ∀ b ∈ fp, ∀ o, h.get? b = some o → h'.get? b = some o := fun b hb o e => (z3 b hb).elim (fun m => q b m o e) fun n => x b o n e
    refine ⟨T.frame k h h' z1 keep, fun b hb => ?_, z3, z4, z5, fun b o hb e => ?_⟩
    · have := z2 b hb
      cases e : h.get? b with
      | none => rw [e] at this; (first | obtain ⟨_, rfl⟩ := this.atom | exact (nsE this).elim | exact (snE this).elim | exact (ftE this).elim | cases this)
      | some o => rw [keep b hb o e]; rfl
    · exact x b o (fun n => (z5 b n).elim hb fun n' => by rw [n'] at e; (first | obtain ⟨_, rfl⟩ := e.atom | exact (nsE e).elim | exact (snE e).elim | exact (ftE e).elim | cases e)) (z6 b o hb e)
  move := fun S S' h ⟨z1, z2, z3, z4, z5, z6⟩ x q => ⟨z1, z2, fun b hb => (z3 b hb).elim .inl fun n => .inr fun m => (x b m).elim n fun e => (by have := z2 b hb; rw [e] at this; (first | obtain ⟨_, rfl⟩ := this.atom | exact (nsE this).elim | exact (snE this).elim | exact (ftE this).elim | cases this)), q,
    fun b m => (x b m).elim (z5 b) (fun e => (by
      by_cases g : Γ.S b
      · exact .inl g
      · right
        cases r : h₁.get? b with
        | none => rfl
        | some o => rw [z6 b o g r] at e; (first | obtain ⟨_, rfl⟩ := e.atom | exact (nsE e).elim | exact (snE e).elim | exact (ftE e).elim | cases e))), z6⟩
  has := fun S h z => z.z4

theorem x_for {nt : Bool} {target iter : Expr} {body rest : List Stmt} {pos : Pos} {d : D} {ds : List D} {Q : Flow → Shared → Prop} (vars : Nat → List (Str × D)) (Pk : Nat → (Addr → Prop) → Heap → Prop) (F : Fm L Γ os (Pk 0) s) (pok : ∀ k, OwnOk (Pk k) os)
    (hi : Tr Γ (eval iter Γ.env) (fun v h => Γ.R h v d) s) (hit : IterableN nt d ds) (h0 : Agree Γ (vars 0))
    (turn : ∀ k d', ds[k]? = some d' → ∃ bs, Bnd target d' bs ∧ (bs.all fun b => asg Γ b.1) = true ∧ ∀ (L' : Lev) (wr : List Addr) (s' : Shared), L'.W = L.W → L'.s₀ = L.s₀ → Fm L' (((Γ.plus wr).only (vars k)).setAll bs) os (Pk k) s' →
      Ex (((Γ.plus wr).only (vars k)).setAll bs) (execs body (((Γ.plus wr).only (vars k)).setAll bs).env) (fun f s'' => ((f = .next ∨ f = .cont) ∧ Fm L' ((Γ.plus wr).only (vars (k + 1))) os (Pk (k + 1)) s'') ∨ ((∃ v, f = .ret v) ∧ Q f s'')) s')
    (fin : ∀ s', Fm L (Γ.only (vars ds.length)) os (Pk ds.length) s' → Ex (Γ.only (vars ds.length)) (execs rest (Γ.only (vars ds.length)).env) Q s')
    (hs : ∀ x, foldedSetIterable iter Γ.env x = pure x := by intro _; rfl) (hnt : nt = true → ∃ es k p, target = .Tuple es k p := by intro e; first | exact ⟨_, _, _, rfl⟩ | cases e) : Ex Γ (execs (.For target iter body [] pos :: rest) Γ.env) Q s := by
  refine .mk <| wpAny_execs_cons (wpAny_For (hi.then' fun xv s₁ k₁ r₁ => ?_) hs)
  have F₁ := F.kp k₁
  refine hit _ _ _ _ _ _ _ _ F.at_.room.1 r₁ fun I fp wr St s₂ k₂ T st hfp hwr hoff => ?_
  have F₂ := F₁.plus k₂ hwr (fun b m => T.live 0 _ st b m)
  have held : ∀ b, Γ.S b → (s₁.heap.get? b).isSome = true := F₁.at_.wd.held
  have hwS : ∀ b ∈ wr, ¬ Γ.S b := fun b m q => by have := held b q; rw [hwr b m] at this; (first | obtain ⟨_, rfl⟩ := this.atom | exact (nsE this).elim | exact (snE this).elim | exact (ftE this).elim | cases this)
  have hlw : Γ.env.locals ∉ wr := fun m => hwS _ m F.lS.1
  have hcw : ∀ x c, Γ.env.cells.lookup x = some c → c ∉ wr := fun x c e m => hwS _ m (F.cS x c e).2.1
  have hosS : ∀ a ∈ os, Γ.S a := F.pok.has _ _ F.own
  have hzsS : ∀ a ∈ L.zs, Γ.S a := F.zok.has _ _ F.rest
  have hw₀ : ∀ b ∈ wr, L.s₀.heap.get? b = none := fun b m => by
    cases q : L.s₀.heap.get? b with
    | none => rfl
    | some o => have := F₁.base b (by rw [q]; rfl); rw [hwr b m] at this; (first | obtain ⟨_, rfl⟩ := this.atom | exact (nsE this).elim | exact (snE this).elim | exact (ftE this).elim | cases this)
  have zok : ∀ k, OwnOk (fun S h => L.Z S h ∧ Zit Γ s₁.heap St fp wr k S h) (L.zs ++ wr) := fun k => F.zok.and (zit_ok T k)
  let Lk : Nat → Lev := fun k => { L with zs := L.zs ++ wr, Z := fun S h => L.Z S h ∧ Zit Γ s₁.heap St fp wr k S h }
  have F₃ : Fm (Lk 0) ((Γ.plus wr).only (vars 0)) os (Pk 0) s₂ := by
    refine Fm.only (l := vars 0) (Γ := Γ.plus wr) (show Agree (Γ.plus wr) (vars 0) from ?_) ⟨F₂.same, F₂.ext, F₂.at_, F₂.ns, F₂.lS, F₂.cS, ⟨F₂.ol.1, fun m => (List.mem_append.mp m).elim F₂.ol.2 hlw⟩, fun x c e => ⟨(F₂.oc x c e).1, fun m => (List.mem_append.mp m).elim (F₂.oc x c e).2 (hcw x c e)⟩,
      F₂.own, ⟨F₂.rest, st, fun b hb => ?_, fun b hb => ?_, fun b m => .inr m, fun b q => q.elim .inl fun m => .inr (hwr b m), Ext.of_keep k₂.k⟩, fun a m q => (List.mem_append.mp q).elim (F.oz a m) fun z => hwS a z (hosS a m), zok 0, F₂.pok, F₂.base⟩
    · clear turn fin
      have agr : ∀ l, Agree Γ l → Agree (Γ.plus wr) l := fun l => by
        induction l with
        | nil => exact fun _ => trivial
        | cons p l ih => exact fun q => ⟨q.1, ih q.2⟩
      exact agr _ h0
    · rcases hoff b hb with n | n
      · exact T.live 0 _ st b n
      · exact some_keep n.1 k₂.k
    · exact (hoff b hb).elim .inl fun n => by
        by_cases m : b ∈ wr
        · exact .inl m
        · exact .inr fun q => q.elim n.2 m
  refine codeAny_forLoop_any (fun n s => ∃ k, k ≤ ds.length ∧ n = ds.length - k ∧ Fm (Lk k) ((Γ.plus wr).only (vars k)) os (Pk k) s) ?_ _ ⟨0, Nat.zero_le _, rfl, F₃⟩
  rintro n s ⟨k, hk, rfl, c⟩
  obtain ⟨zL, st', z2, z3, z4, z5, z6⟩ := c.rest
  have moved : ∀ (h' : Heap) (tk : Nat), (∀ b o, b ∉ wr → s.heap.get? b = some o → h'.get? b = some o) → (∀ b ∈ wr, (h'.get? b).isSome = true) → ∀ (k' : Nat), St k' h' →
      (∀ b ∈ fp, (h'.get? b).isSome = true) → Fm (Lk k') ((Γ.plus wr).only (vars k)) os (Pk k) { s with heap := h', toks := tk } := fun h' tk he hv k' hst' hfp' => by
    have hx : Ext (Γ.plus wr).S s.heap h' := fun b o hb e => he b o (fun m => hb (.inr m)) e
    have hnw : ∀ a, Γ.S a → a ∉ wr := fun a q m => hwS a m q
    refine ⟨⟨c.same.1, c.same.2⟩, fun b o hb e => he b o (fun m => by rw [show (Lk k').s₀ = L.s₀ from rfl, hw₀ b m] at e; (first | obtain ⟨_, rfl⟩ := e.atom | exact (nsE e).elim | exact (snE e).elim | exact (ftE e).elim | cases e)) (c.ext b o hb e), At.wr (wr := wr) c.at_ he (fun b m => .inr m) hv hlw hcw,
      let ⟨m, q⟩ := c.ns; ⟨m, q.at' fun o e => he _ o hlw e⟩, c.lS, fun x c' e => ?_, c.ol, c.oc, ?_, ⟨?_, hst', hfp', z3, z4, z5, ?_⟩, c.oz, zok k', c.pok, fun b e => ?_⟩
    · obtain ⟨a, b, d', v, o, ho, hd⟩ := c.cS x c' e
      exact ⟨a, b, d', v, o, he _ _ (hcw x c' e) ho, hd⟩
    · exact c.pok.ext _ _ _ c.own hx fun a m o e => he a o (hnw a (hosS a m)) e
    · exact F.zok.ext _ _ _ zL hx fun a m o e => he a o (hnw a (hzsS a m)) e
    · exact fun b o hb e => he b o (fun m => by rw [hwr b m] at e; (first | obtain ⟨_, rfl⟩ := e.atom | exact (nsE e).elim | exact (snE e).elim | exact (ftE e).elim | cases e)) (z6 b o hb e)
    · have := c.base b e
      cases q : s.heap.get? b with
      | none => rw [q] at this; (first | obtain ⟨_, rfl⟩ := this.atom | exact (nsE this).elim | exact (snE this).elim | exact (ftE this).elim | cases this)
      | some o =>
        have nb : b ∉ wr := fun m => by
          have e' : (L.s₀.heap.get? b).isSome = true := e
          rw [hw₀ b m] at e'; (first | obtain ⟨_, rfl⟩ := e'.atom | exact (nsE e').elim | exact (snE e').elim | exact (ftE e').elim | cases e')
        show (h'.get? b).isSome = true
        rw [he b o nb q]; rfl
  rcases Nat.lt_or_ge k ds.length with hlt | hge
  · have hd : ds[k]? = some ds[k] := List.getElem?_eq_getElem hlt
    obtain ⟨bs, hb, hba, hbody⟩ := turn k _ hd
    refine wpAny_mono (T.step k _ target bs s (fun v s' => wpAny (model Γ.prog Γ.w) Γ.A (assign target Γ.env v) (fun _ s₂ => wpAny (model Γ.prog Γ.w) Γ.A (execs body Γ.env) (fun f s₃ => ((f = .next ∨ f = .cont) ∧ Fm (Lk (k + 1)) ((Γ.plus wr).only (vars (k + 1))) os (Pk (k + 1)) s₃) ∨ ((∃ v, f = .ret v) ∧ Q f s₃)) (fun _ _ => False) s₂) (fun _ _ => False) s')
      hnt hb hd st' fun v h' tk hv stn he => ?_) (fun r s₁' h₁' => ?_) fun _ _ x => x.elim
    · have live : ∀ b ∈ wr, (h'.get? b).isSome = true := fun b m => T.live _ _ stn b m
      have c' := moved h' tk he live (k + 1) stn fun b hb => by
        by_cases m : b ∈ wr
        · exact live b m
        · have := z2 b hb
          cases q : s.heap.get? b with
          | none => rw [q] at this; (first | obtain ⟨_, rfl⟩ := this.atom | exact (nsE this).elim | exact (snE this).elim | exact (ftE this).elim | cases this)
          | some o => rw [he b o m q]; rfl
      have x1 : Ext Γ.S s₁.heap h' := fun b o hb e => he b o (fun m => by rw [hwr b m] at e; (first | obtain ⟨_, rfl⟩ := e.atom | exact (nsE e).elim | exact (snE e).elim | exact (ftE e).elim | cases e)) (z6 b o hb e)
      have rv := hv (Γ.plus wr).S (fun b q => q.elim .inl fun m => .inr (hwr b m)) c.at_.wd.held x1
      refine assign_rule (Γ := (Γ.plus wr).only (vars k)) (prog := Γ.prog) (w := Γ.w) F.at_.room.1 c'.at_ hb (fun y hy => c'.slot (bnd_list_ok (Γ := (Γ.plus wr).only (vars k)) hba y hy)) rv fun s₂ W C₂ => ?_
      exact (ex_setAll (Γ := (Γ.plus wr).only (vars k)) (hbody (Lk (k + 1)) wr s₂ rfl rfl (c'.wr W C₂))).run
    · obtain ⟨v, rfl, h₁'⟩ := h₁'
      refine wpAny_mono h₁' (fun _ s₂ h₂ => wpAny_mono h₂ (fun _ s₃ h₃ => wpAny_mono h₃ (fun f s₄ h₄ => ?_) fun _ _ x => x.elim) fun _ _ x => x.elim) fun _ _ x => x.elim
      rcases h₄ with ⟨rfl | rfl, h₄⟩ | ⟨⟨v, rfl⟩, h₄⟩
      · exact ⟨ds.length - (k + 1), by omega, k + 1, hlt, rfl, h₄⟩
      · exact ⟨ds.length - (k + 1), by omega, k + 1, hlt, rfl, h₄⟩
      · exact h₄
  · have hk' : k = ds.length := by omega
    subst hk'
    refine T.done _ _ _ st' fun h' tk he => wpAny_execs_nil ?_
    refine (fin _ ?_).run
    have hnw : ∀ a, Γ.S a → a ∉ wr := fun a q m => hwS a m q
    have hx : Ext (Γ.plus wr).S s.heap h' := fun b o hb e => he b o (fun m => hb (.inr m)) e
    have live : ∀ a, a ∉ wr → (s.heap.get? a).isSome = true → (h'.get? a).isSome = true := fun a m q => by
      cases e : s.heap.get? a with
      | none => rw [e] at q; (first | obtain ⟨_, rfl⟩ := q.atom | exact (nsE q).elim | exact (snE q).elim | exact (ftE q).elim | cases q)
      | some o => rw [he a o m e]; rfl
    refine ⟨⟨c.same.1, c.same.2⟩, fun b o hb e => he b o (fun m => by rw [hw₀ b m] at e; (first | obtain ⟨_, rfl⟩ := e.atom | exact (nsE e).elim | exact (snE e).elim | exact (ftE e).elim | cases e)) (c.ext b o hb e), ?_,
      let ⟨m, q⟩ := c.ns; ⟨m, q.at' fun o e => he _ o hlw e⟩, F.lS, fun x c' e => ?_, F.ol, F.oc, ?_, ?_, F.oz, F.zok, c.pok, fun b e => ?_⟩
    · have C := c.at_
      refine ⟨⟨C.wd.gl, fun b o e => he b o (fun m => by have this : Γ.base.get? b = none := C.wd.off b (.inr m); have e' : Γ.base.get? b = some o := e; rw [this] at e'; (first | obtain ⟨_, rfl⟩ := e'.atom | exact (nsE e').elim | exact (snE e').elim | exact (ftE e').elim | cases e')) (C.wd.up b o e), fun a q => C.wd.off a (.inl q), fun a q => live a (hnw a q) (C.wd.held a (.inl q))⟩,
        C.kind, C.globals, C.builtins, C.room, C.sep, fun x c' e => live c' (hcw x c' e) (C.cin x c' e), fun x d e => ?_⟩
      obtain ⟨v, hv, r⟩ := C.vars x d e
      refine ⟨v, ?_, (r.ext hx).less fun b q => .inl q⟩
      rcases hv with ⟨a, m, n, em⟩ | ⟨a, c', l, o, ho, hd⟩
      · exact .inl ⟨a, m, n.at' fun o q => he _ o hlw q, em⟩
      · exact .inr ⟨a, c', l, o, he _ _ (hcw x c' l) ho, hd⟩
    · obtain ⟨a, b, d', v, o, ho, hd⟩ := c.cS x c' e
      exact ⟨a, (F.cS x c' e).2.1, d', v, o, he _ _ (hcw x c' e) ho, hd⟩
    · exact c.pok.move _ _ _ (c.pok.ext _ _ _ c.own hx fun a m o e => he a o (hnw a (hosS a m)) e) (fun b q => .inl (.inl q)) hosS
    · exact F.zok.move _ _ _ (F.zok.ext _ _ _ zL hx fun a m o e => he a o (hnw a (hzsS a m)) e) (fun b q => .inl (.inl q)) hzsS
    · exact live b (fun m => by rw [hw₀ b m] at e; (first | obtain ⟨_, rfl⟩ := e.atom | exact (nsE e).elim | exact (snE e).elim | exact (ftE e).elim | cases e)) (c.base b e)
end
-- part PL16
/-- the context of a called function's body -/
noncomputable def fnCtx (K : Frag) (prog : Program) (w : World) (A : Around) (n : Nat) (base : Heap) (S : Addr → Prop) (fd : FuncData) (L a : Addr) (vars : List (Str × D)) : Ctx :=
  { K := K, prog := prog, w := w, A := A.deeper (callEnvC fd L a), n := n, base := base, env := callEnvC fd L a, S := fun b => S b ∨ b = L ∨ ∃ x, (callEnvC fd L a).cells.lookup x = some b, ρ := look vars }

theorem bindL_other {kindOf : Str → Option NameKind} : ∀ (binds : List (Str × Value)) (m : Str → Option Value) (x : Str), x ∉ binds.map (·.1) → bindL kindOf binds m x = m x
  | [], _, _, _ => rfl
  | (n, v) :: r, m, x, h => by
    unfold bindL
    rw [bindL_other r _ x fun q => h (List.mem_cons_of_mem _ q)]
    have hx : x ≠ n := fun e => h (by rw [e]; exact .head _)
    split
    · simp [hx]
    · rfl
theorem bindC_other {kindOf : Str → Option NameKind} : ∀ (binds : List (Str × Value)) (m : Str → Option Value) (x : Str), x ∉ binds.map (·.1) → bindC kindOf binds m x = m x
  | [], _, _, _ => rfl
  | (n, v) :: r, m, x, h => by
    unfold bindC
    rw [bindC_other r _ x fun q => h (List.mem_cons_of_mem _ q)]
    have hx : x ≠ n := fun e => h (by rw [e]; exact .head _)
    split
    · rfl
    · simp [hx]
theorem bindL_at {kindOf : Str → Option NameKind} : ∀ (binds : List (Str × Value)) (m : Str → Option Value) (x : Str) (v : Value), (binds.map (·.1)).Nodup → (x, v) ∈ binds → kindOf x = some .local → bindL kindOf binds m x = some v
  | [], _, _, _, _, h, _ => nomatch h
  | (n, u) :: r, m, x, v, hn, h, hk => by
    rw [List.map_cons, List.nodup_cons] at hn
    unfold bindL
    rcases List.mem_cons.mp h with q | q
    · (first | obtain ⟨_, rfl⟩ := q.atom | exact (nsE q).elim | exact (snE q).elim | exact (ftE q).elim | cases q)
      rw [bindL_other r _ _ hn.1, if_pos hk]; simp
    · exact bindL_at r _ x v hn.2 q hk
theorem bindC_at {kindOf : Str → Option NameKind} : ∀ (binds : List (Str × Value)) (m : Str → Option Value) (x : Str) (v : Value), (binds.map (·.1)).Nodup → (x, v) ∈ binds → kindOf x ≠ some .local → bindC kindOf binds m x = some v
  | [], _, _, _, _, h, _ => nomatch h
  | (n, u) :: r, m, x, v, hn, h, hk => by
    rw [List.map_cons, List.nodup_cons] at hn
    unfold bindC
    rcases List.mem_cons.mp h with q | q
    · (first | obtain ⟨_, rfl⟩ := q.atom | exact (nsE q).elim | exact (snE q).elim | exact (ftE q).elim | cases q)
      rw [bindC_other r _ _ hn.1, if_neg hk]; simp
    · exact bindC_at r _ x v hn.2 q hk

theorem zip_rep {prog : Program} {w : World} {S : Addr → Prop} {h : Heap} : ∀ (ps : List Str) (vals : List Value) (ds : List D), RepAll prog w S h vals ds → ∀ x d, (ps.zip ds).lookup x = some d → ∃ v, (x, v) ∈ ps.zip vals ∧ Rep prog w S h v d
  | [], _, _, _, x, d, e => by simp at e
  | p :: ps, [], _, r, x, d, e => by (first | obtain ⟨_, rfl⟩ := r.atom | exact (nsE r).elim | exact (snE r).elim | exact (ftE r).elim | cases r); simp at e
  | p :: ps, v :: vals, _, r, x, d, e => by
    cases r with
    | cons a r =>
      rw [List.zip_cons_cons, List.lookup_cons] at e
      cases hx : (x == p) with
      | true => rw [hx] at e; (first | obtain ⟨_, rfl⟩ := e.atom | exact (nsE e).elim | exact (snE e).elim | exact (ftE e).elim | cases e); exact ⟨v, by rw [eq_of_beq hx]; exact .head _, a⟩
      | false =>
        rw [hx] at e
        obtain ⟨u, h1, h2⟩ := zip_rep ps vals _ r x d e
        exact ⟨u, .tail _ h1, h2⟩

/-- what is to be seen of a function's data, by computation -/
structure FnOk (K : Frag) (a : Addr) (fd : FuncData) (body : List Stmt) (ps : List Str) : Prop where
  at_ : ∃ c d sl, K.lookup a = some ⟨c, d, .func fd, sl⟩
  code : ∃ cc c d vs sl t, fd.code = .ref cc ∧ K.lookup cc = some ⟨c, d, .fields vs, sl⟩ ∧ vs[1]? = some (.str fd.qualname t)
  body : fd.body = .stmts body
  clo : fd.closure = []
  glob : fd.globals = mainGlobals
  blt : fd.builtins = builtinsNs
  kind : fd.scope.kind = .function
  co : fd.scope.isCoroutine = false
  gen : fd.scope.isGenerator = false
  names : (fd.scope.names.map (·.1)).Nodup
  params : ps.Nodup
  kinds : ∀ p ∈ ps, fd.scope.names.lookup p = some .local ∨ fd.scope.names.lookup p = some .cell
  binds : ∀ vals : List Value, vals.length = ps.length → bindArgs fd ⟨vals, []⟩ = pure (ps.zip vals)

theorem FnOk.callable {K : Frag} {a : Addr} {fd : FuncData} {body : List Stmt} {ps : List Str} (h : FnOk K a fd body ps) : Callable K (.ref a) := by
  obtain ⟨c, d, sl, e⟩ := h.at_
  show keepIn K (.ref a) = true
  unfold keepIn
  split
  · rename_i q
    (first | obtain ⟨_, rfl⟩ := q.atom | exact (nsE q).elim | exact (snE q).elim | exact (ftE q).elim | cases q)
    split
    · rfl
    · rename_i q; rw [e] at q; (first | obtain ⟨_, rfl⟩ := q.atom | exact (nsE q).elim | exact (snE q).elim | exact (ftE q).elim | cases q)
    · rename_i q1 q2; exact absurd e (q1 c d fd sl)
  · rename_i q; exact absurd rfl (q a)

theorem fn_enterC {K : Frag} {prog : Program} {w : World} {n : Nat} {fd : FuncData} {body : List Stmt} {ps : List Str} {a : Addr} (H : FnOk K a fd body ps) {A : Around} {base : Heap} {S : Addr → Prop} {s : Shared} {vals : List Value} {ds : List D}
    (hr : RoomA (n + 1) A) (hw : Wd K base S s.heap) (r : RepAll prog w S s.heap vals ds) (hlen : ds.length = ps.length) {W : Addr → Prop} {os : List Addr} {P : (Addr → Prop) → Heap → Prop} (pok : OwnOk P os) (hP : P S s.heap) {R : Result → Shared → Prop}
    (hx : ∀ L s₁, Fm ⟨W, [], noOwn, s⟩ (fnCtx K prog w A n base S fd L a (ps.zip ds)) os P s₁ → Ex (fnCtx K prog w A n base S fd L a (ps.zip ds)) (execs body (fnCtx K prog w A n base S fd L a (ps.zip ds)).env) (fun f s' => R (.ok (.ret (match f with | .ret v => v | _ => .none))) s') s₁) :
    codeAny (model prog w) A (.call (.ref a) ⟨vals, []⟩) R s := by
  have hv := r.length
  obtain ⟨c, d, sl, hat⟩ := H.at_
  obtain ⟨cc, c', d', vs, sl', t, hcode, hcat, hq⟩ := H.code
  have g := hw.glh
  have kinds : ∀ x ∈ ps.zip vals, fd.scope.names.lookup x.1 = some .local ∨ (fd.scope.names.lookup x.1 = some .cell ∧ ((cellsFrom (s.heap.objs.size + 1) fd.scope.names []).lookup x.1).isSome = true) := fun x hx => by
    rcases H.kinds x.1 (List.of_mem_zip hx).1 with q | q
    · exact .inl q
    · exact .inr ⟨q, cellsFrom_has _ _ _ _ (.inr (mem_lookup q))⟩
  refine codeAny_call_cells (fd := fd) (binds := ps.zip vals) (by have := hr.2.1; show A.depth < 1000; omega) (g.inn _ _ hat) rfl g.nolimit ⟨cc, _, vs, t, hcode, g.inn _ _ hcat, rfl, hq⟩ H.body (H.binds vals (by omega)) H.clo kinds (fun s₁ X => ?_) H.co H.gen H.kind
  have keep := X.toInCall.keep
  generalize hL : s.heap.objs.size = L at *
  have hLn : s.heap.get? L = none := get_size _ (by rw [hL]; exact Nat.le_refl _)
  have hcell : ∀ x c, (callEnvC fd L a).cells.lookup x = some c → (x, NameKind.cell) ∈ fd.scope.names ∧ L < c := fun x c e => ⟨own_cell fd.scope.names (L + 1) x c (mem_of_lookup e), X.above x c (mem_of_lookup e)⟩
  have hcn : ∀ x c, (callEnvC fd L a).cells.lookup x = some c → s.heap.get? c = none := fun x c e => get_size _ (by rw [hL]; exact Nat.le_of_lt (hcell x c e).2)
  have hLl : (s₁.heap.get? L).isSome = true := let ⟨o, _, _, e, _⟩ := X.toInCall.ns; by
    have e' : s₁.heap.get? L = some o := e
    rw [e']; rfl
  have sm : Sm s s₁ := let ⟨h', tk, e, k⟩ := X.done; ⟨by rw [e], by rw [e]⟩
  have kp : Kp s s₁ := ⟨sm, keep⟩
  have hkind : ∀ x, (callEnvC fd L a).kindOf x = fd.scope.names.lookup x := fun _ => rfl
  have at_ : (fnCtx K prog w A n base S fd L a (ps.zip ds)).At s₁.heap := by
    refine ⟨⟨hw.gl, fun b o e => keep b o (hw.up b o e), fun b q => ?_, fun b q => ?_⟩, H.kind, H.glob, H.blt, RoomA.deeper hr _, ⟨fun x y c e f => name_of_addr X.apart (mem_of_lookup e) (mem_of_lookup f), fun x c e => ?_⟩, fun x c e => ?_, fun x d e => ?_⟩
    · rcases q with q | q | ⟨x, q⟩
      · exact hw.off b q
      · rw [q]; exact hw.fresh hLn
      · exact hw.fresh (hcn x b q)
    · rcases q with q | q | ⟨x, q⟩
      · exact some_keep (hw.held b q) keep
      · rw [q]; exact hLl
      · obtain ⟨o, ho, _⟩ := X.cell x b q; rw [ho]; rfl
    · show c ≠ L
      have := (hcell x c e).2
      exact fun q => by rw [q] at this; exact Nat.lt_irrefl _ this
    · obtain ⟨o, ho, _⟩ := X.cell x c e; rw [ho]; rfl
    · obtain ⟨v, hm, rv⟩ := zip_rep ps vals ds r x d e
      have hnod : ((ps.zip vals).map (·.1)).Nodup := by
        rw [List.map_fst_zip (by omega)]; exact H.params
      refine ⟨v, ?_, (rv.avoid (S' := (fnCtx K prog w A n base S fd L a (ps.zip ds)).S) fun b q => ?_).keep keep⟩
      · rcases H.kinds x (List.of_mem_zip hm).1 with q | q
        · exact .inl ⟨q, _, X.toInCall.ns, bindL_at _ _ x v hnod hm q⟩
        · have hs := cellsFrom_has fd.scope.names (L + 1) [] x (.inr (mem_lookup q))
          obtain ⟨c, hc⟩ := Option.isSome_iff_exists.mp hs
          have := X.cell x c hc
          rw [bindC_at _ _ x v hnod hm (by rw [hkind, q]; decide)] at this
          exact .inr ⟨.inl q, c, hc, this⟩
      · rcases q with q | q | ⟨y, q⟩
        · exact .inl q
        · right; rw [q]; exact hLn
        · exact .inr (hcn y b q)
  have F : Fm ⟨W, [], noOwn, s⟩ (fnCtx K prog w A n base S fd L a (ps.zip ds)) os P s₁ := by
    have hosS : ∀ b ∈ os, S b := pok.has _ _ hP
    have hosl : ∀ b ∈ os, (s.heap.get? b).isSome = true := fun b m => hw.held b (hosS b m)
    refine ⟨sm, fun b o _ e => keep b o e, at_, ⟨_, X.toInCall.ns⟩, ⟨.inr (.inl rfl), hLn⟩, fun x c e => ⟨?_, .inr (.inr ⟨x, e⟩), hcn x c e, _, X.cell x c e⟩, ⟨fun m => ?_, (fun m => nomatch m)⟩, fun x c e => ⟨fun m => ?_, (fun m => nomatch m)⟩, ?_, trivial, (fun _ _ m => nomatch m), noOwn_ok, pok, fun b e => some_keep e keep⟩
    · rw [show (fnCtx K prog w A n base S fd L a (ps.zip ds)).env.kindOf x = fd.scope.names.lookup x from rfl]
      exact lookup_mem H.names (hcell x c e).1
    · have := hosl _ m
      rw [show (fnCtx K prog w A n base S fd L a (ps.zip ds)).env.locals = L from rfl, hLn] at this; (first | obtain ⟨_, rfl⟩ := this.atom | exact (nsE this).elim | exact (snE this).elim | exact (ftE this).elim | cases this)
    · have := hosl _ m
      rw [hcn x c e] at this; (first | obtain ⟨_, rfl⟩ := this.atom | exact (nsE this).elim | exact (snE this).elim | exact (ftE this).elim | cases this)
    · refine pok.ext _ _ _ (pok.move _ (fnCtx K prog w A n base S fd L a (ps.zip ds)).S _ hP (fun b q => ?_) fun b m => .inl (hosS b m)) (Ext.of_keep keep) fun b _ o e => keep b o e
      rcases q with q | q | ⟨y, q⟩
      · exact .inl q
      · right; rw [q]; exact hLn
      · exact .inr (hcn y b q)
  exact wpAny_mono (hx L s₁ F).run (fun f s' q => q) fun _ _ x => x.elim
theorem fn_enter {K : Frag} {prog : Program} {w : World} {n : Nat} {fd : FuncData} {body : List Stmt} {ps : List Str} {a : Addr} (H : FnOk K a fd body ps) {A : Around} {base : Heap} {S : Addr → Prop} {s : Shared} {vals : List Value} {ds : List D}
    (hr : RoomA (n + 1) A) (hw : Wd K base S s.heap) (r : RepAll prog w S s.heap vals ds) (hlen : ds.length = ps.length) {W : Addr → Prop} {os : List Addr} {P : (Addr → Prop) → Heap → Prop} (pok : OwnOk P os) (hP : P S s.heap) {Q : Value → Shared → Prop}
    (hx : ∀ L s₁, Fm ⟨W, [], noOwn, s⟩ (fnCtx K prog w A n base S fd L a (ps.zip ds)) os P s₁ → Ex (fnCtx K prog w A n base S fd L a (ps.zip ds)) (execs body (fnCtx K prog w A n base S fd L a (ps.zip ds)).env) (fun f s' => ∃ v, f = .ret v ∧ Q v s') s₁) :
    wpAny (model prog w) A (call (.ref a) vals) Q (fun _ _ => False) s :=
  wpAny_call (fn_enterC H hr hw r hlen pok hP fun L s₁ F => .mk (wpAny_mono (hx L s₁ F).run (fun f s' q => by
    obtain ⟨v, rfl, q⟩ := q
    exact q) fun _ _ x => x))

/-- the end of a function that owns nothing from without -/
theorem Fm.done {s s' : Shared} {os : List Addr} {P : (Addr → Prop) → Heap → Prop} {Γ : Ctx} {Lv : Lev}
    (F : Fm Lv Γ os P s') (h1 : Lv.W = fun _ => False) (h2 : Lv.s₀ = s) : Kp s s' := by
  have y := F.same
  have x := F.ext
  rw [h2] at x y
  rw [h1] at x
  exact ⟨y, fun b o q => x b o id q⟩

/-- a function's law, from its body's -/
theorem fn_of_body {K : Frag} {prog : Program} {w : World} {n : Nat} {fd : FuncData} {body : List Stmt} {ps : List Str} {a : Addr} (H : FnOk K a fd body ps) {ds : List D} {d : D} (hlen : ds.length = ps.length)
    (hx : ∀ A base S s₀ L s₁, Fm ⟨fun _ => False, [], noOwn, s₀⟩ (fnCtx K prog w A n base S fd L a (ps.zip ds)) [] noOwn s₁ → Ex (fnCtx K prog w A n base S fd L a (ps.zip ds)) (execs body (fnCtx K prog w A n base S fd L a (ps.zip ds)).env) (fun f s' => ∃ v, f = .ret v ∧ Kp s₀ s' ∧ Rep prog w S s'.heap v d) s₁) :
    Fn K prog w (n + 1) (.ref a) ds d := .mk fun A base S s vals hr hw r =>
  fn_enter H hr hw r hlen noOwn_ok trivial fun L s₁ F => hx A base S s L s₁ F
-- part PL17
noncomputable def lookD {K : Type} [DecidableEq K] (kvs : List (K × Int)) (k : K) : Option Int := (kvs.find? fun kv => kv.1 = k).map (·.2)
noncomputable def eqKV {K : Type} [DecidableEq K] (k1 k2 : List (K × Int)) : Bool := k1.length == k2.length && k1.all fun p => lookD k2 p.1 == some p.2

/-- what == tells of two data -/
inductive EqD : Nat → D → D → Bool → Prop
  | int (n : Nat) (a b : Int) : EqD n (.int a) (.int b) (a == b)
  | str (n : Nat) (a b : Str) : EqD n (.str a) (.str b) (a == b)
  | len (n : Nat) {ds es : List D} : ds.length ≠ es.length → EqD n (.list ds) (.list es) false
  | list {n : Nat} {ds es : List D} (bs : Nat → Bool) : ds.length = es.length → (∀ j d e, ds[j]? = some d → es[j]? = some e → EqD n d e (bs j)) → EqD (n + 1) (.list ds) (.list es) ((List.range ds.length).all bs)
  | tuple {n : Nat} {ds es : List D} (bs : Nat → Bool) : ds.length = es.length → (∀ j d e, ds[j]? = some d → es[j]? = some e → EqD n d e (bs j)) → EqD (n + 1) (.tuple ds) (.tuple es) ((List.range ds.length).all bs)
  | idict (n : Nat) (k1 k2 : List (Int × Int)) : EqD (n + 1) (.idict k1) (.idict k2) (eqKV k1 k2)

section
variable {prog : Program} {w : World}
theorem kv_find {K : Type} [DecidableEq K] {us : List (K × Value)} {kvs : List (K × Int)} (r : KV us kvs) (k : K) : (lookD kvs k = none ∧ valueAt us k = none) ∨ ∃ i t, lookD kvs k = some i ∧ valueAt us k = some (.int i t) := by
  induction r with
  | nil => exact .inl ⟨rfl, rfl⟩
  | @cons k' i t us kvs _ ih =>
    by_cases e : k' = k
    · subst e; exact .inr ⟨i, t, by simp [lookD], by simp [valueAt]⟩
    · have h1 : lookD ((k', i) :: kvs) k = lookD kvs k := by simp [lookD, e]
      have h2 : valueAt ((k', Value.int i t) :: us) k = valueAt us k := by simp [valueAt, e]
      rw [h1, h2]; exact ih

theorem kv_hits {K : Type} [DecidableEq K] {A : Around} {s : Shared} {us2 : List (K × Value)} {k2 : List (K × Int)} (r2 : KV us2 k2) {us1 : List (K × Value)} {k1 : List (K × Int)} (r1 : KV us1 k1) : KeqHits A s us2 us1 (k1.all fun p => lookD k2 p.1 == some p.2) := by
  induction r1 with
  | nil => exact .nil
  | @cons k i t us kvs _ ih =>
    rw [List.all_cons]
    rcases kv_find r2 k with ⟨h1, h2⟩ | ⟨j, u, h1, h2⟩
    · rw [h1]; exact .miss h2
    · rw [h1]
      have : (some j == some i) = (i == j) := by
        show (j == i) = (i == j)
        exact Bool.beq_comm
      rw [this]
      exact .hit h2 (PySem.SeqAt.EqAt.int_int i t j u) ih

theorem rc_dict {K : Type} [DecidableEq K] {knd : KeyKind prog w K} {A : Around} {s : Shared} {a b : Addr} {us1 us2 : List (K × Value)} {k1 k2 : List (K × Int)} (ha : (a == sysModules) = false) (hb : (b == sysModules) = false) (d1 : s.heap.DictOf knd a us1) (d2 : s.heap.DictOf knd b us2) (r1 : KV us1 k1) (r2 : KV us2 k2) (hu : A.units < cLine)
    {E : Value → Shared → Prop} {Q : Value → Shared → Prop} (h : Q (.bool (eqKV k1 k2)) s) : wpAny (model prog w) A (compareOp .Eq (.ref a) (.ref b)) Q E s :=
  keq_eq ha hb d1 d2 hu (fun _ => kv_hits r2 r1) (by rw [r1.length, r2.length]; exact h)
theorem rc_dict_ne {K : Type} [DecidableEq K] {knd : KeyKind prog w K} {A : Around} {s : Shared} {a b : Addr} {us1 us2 : List (K × Value)} {k1 k2 : List (K × Int)} (ha : (a == sysModules) = false) (hb : (b == sysModules) = false) (d1 : s.heap.DictOf knd a us1) (d2 : s.heap.DictOf knd b us2) (r1 : KV us1 k1) (r2 : KV us2 k2) (hu : A.units < cLine)
    {E : Value → Shared → Prop} {Q : Value → Shared → Prop} (h : Q (.bool (!eqKV k1 k2)) s) : wpAny (model prog w) A (compareOp .NotEq (.ref a) (.ref b)) Q E s :=
  keq_ne ha hb d1 d2 hu (fun _ => kv_hits r2 r1) (by rw [r1.length, r2.length]; exact h)

theorem pairs_kind {K : Type} [DecidableEq K] {prog' : Program} {w' : World} {knd : KeyKind prog w K} {knd' : KeyKind prog' w' K} (hi : ∀ k v, knd.is k v = knd'.is k v) {es : List DictEntry} {kvs : List (K × Value)} (p : Pairs knd es kvs) : Pairs knd' es kvs := by
  induction p with
  | nil => exact .nil
  | cons h1 h2 _ ih => exact .cons (by rw [← hi]; exact h1) h2 ih
theorem dictOf_int {prog' : Program} {w' : World} {h : Heap} {a : Addr} {us : List (Int × Value)} (d : h.DictOf (intKind prog w) a us) : h.DictOf (intKind prog' w') a us :=
  let ⟨o, es, ep, h1, h2, h3, h4, h5, h6⟩ := d; ⟨o, es, ep, h1, h2, h3, h4, pairs_kind (knd := intKind prog w) (knd' := intKind prog' w') (fun _ _ => rfl) h5, h6⟩
theorem pairs_uniq {K : Type} [DecidableEq K] {knd : KeyKind prog w K} : ∀ {es : List DictEntry} {kvs kvs' : List (K × Value)}, Pairs knd es kvs → Pairs knd es kvs' → kvs = kvs'
  | _, _, _, .nil, .nil => rfl
  | _, _, _, .cons (kv := kv) h1 h2 r, .cons (kv := kv') h1' h2' r' => by
    have e1 : kv.1 = kv'.1 := knd.inj _ _ _ h1 h1'
    have e2 : kv.2 = kv'.2 := by rw [← h2, ← h2']
    rw [pairs_uniq r r', Prod.ext e1 e2]
theorem dictOf_uniq {K : Type} [DecidableEq K] {knd : KeyKind prog w K} {h : Heap} {a : Addr} {us us' : List (K × Value)} (d : h.DictOf knd a us) (d' : h.DictOf knd a us') : us = us' := by
  obtain ⟨o, es, ep, h1, _, h3, _, h5, _⟩ := d
  obtain ⟨o', es', ep', h1', _, h3', _, h5', _⟩ := d'
  rw [h1] at h1'; (first | obtain ⟨_, rfl⟩ := h1'.atom | exact (nsE h1').elim | exact (snE h1').elim | exact (ftE h1').elim | cases h1')
  rw [h3] at h3'; (first | obtain ⟨_, rfl⟩ := h3'.atom | exact (nsE h3').elim | exact (snE h3').elim | exact (ftE h3').elim | cases h3')
  exact pairs_uniq h5 h5'
theorem kv_uniq {K : Type} {us : List (K × Value)} {k1 k2 : List (K × Int)} (r1 : KV us k1) (r2 : KV us k2) : k1 = k2 := by
  induction r1 generalizing k2 with
  | nil => (first | obtain ⟨_, rfl⟩ := r2.atom | exact (nsE r2).elim | exact (snE r2).elim | exact (ftE r2).elim | cases r2); rfl
  | cons _ ih => cases r2 with
    | cons r => rw [ih r]
theorem lookD_mem {K : Type} [DecidableEq K] : ∀ {kvs : List (K × Int)}, (kvs.map (·.1)).Nodup → ∀ p ∈ kvs, lookD kvs p.1 = some p.2
  | [], _, _, h => nomatch h
  | q :: r, hn, p, h => by
    rw [List.map_cons, List.nodup_cons] at hn
    rcases List.mem_cons.mp h with e | e
    · subst e; simp [lookD]
    · have : q.1 ≠ p.1 := fun z => hn.1 (List.mem_map.mpr ⟨p, e, z.symm⟩)
      have ih := lookD_mem hn.2 p e
      unfold lookD at ih ⊢
      rw [List.find?_cons_of_neg (by simpa using this)]; exact ih
theorem eqKV_self {K : Type} [DecidableEq K] {kvs : List (K × Int)} (hn : (kvs.map (·.1)).Nodup) : eqKV kvs kvs = true := by
  unfold eqKV
  simp only [beq_self_eq_true, Bool.true_and, List.all_eq_true]
  intro p hp
  rw [lookD_mem hn p hp]; simp
theorem kv_keys {K : Type} {us : List (K × Value)} {kvs : List (K × Int)} (r : KV us kvs) : us.map (·.1) = kvs.map (·.1) := by
  induction r with
  | nil => rfl
  | cons _ ih => rw [List.map_cons, List.map_cons, ih]

theorem eqd_same {S : Addr → Prop} {h : Heap} {n : Nat} {d e : D} {b : Bool} (q : EqD n d e b) : ∀ {v : Value}, Rep prog w S h v d → Rep prog w S h v e → b = true := by
  induction q with
  | int n a b => intro v r1 r2; (first | obtain ⟨_, rfl⟩ := r1.atom | exact (nsE r1).elim | exact (snE r1).elim | exact (ftE r1).elim | cases r1); (first | obtain ⟨_, rfl⟩ := r2.atom | exact (nsE r2).elim | exact (snE r2).elim | exact (ftE r2).elim | cases r2); simp
  | str n a b => intro v r1 r2; (first | obtain ⟨_, rfl⟩ := r1.atom | exact (nsE r1).elim | exact (snE r1).elim | exact (ftE r1).elim | cases r1); (first | obtain ⟨_, rfl⟩ := r2.atom | exact (nsE r2).elim | exact (snE r2).elim | exact (ftE r2).elim | cases r2); simp
  | len n hne =>
    intro v r1 r2
    obtain ⟨a, vs, rfl, _, ⟨c, h1⟩, rs⟩ := r1.list_inv
    obtain ⟨a', vs', e, _, ⟨c', h2⟩, rs'⟩ := r2.list_inv
    (first | obtain ⟨_, rfl⟩ := e.atom | exact (nsE e).elim | exact (snE e).elim | exact (ftE e).elim | cases e)
    rw [h1] at h2; simp at h2
    obtain ⟨rfl, -⟩ := h2
    exact absurd (rs.length.symm.trans rs'.length) hne
  | list bs hlen _ ih =>
    intro v r1 r2
    obtain ⟨a, vs, rfl, _, ⟨c, h1⟩, rs⟩ := r1.list_inv
    obtain ⟨a', vs', e, _, ⟨c', h2⟩, rs'⟩ := r2.list_inv
    (first | obtain ⟨_, rfl⟩ := e.atom | exact (nsE e).elim | exact (snE e).elim | exact (ftE e).elim | cases e)
    rw [h1] at h2; simp at h2
    obtain ⟨rfl, -⟩ := h2
    rw [List.all_eq_true]
    intro j hj
    rw [List.mem_range] at hj
    have hj' := hlen ▸ hj
    obtain ⟨v, hv, rv⟩ := rs.get (List.getElem?_eq_getElem hj)
    obtain ⟨v', hv', rv'⟩ := rs'.get (List.getElem?_eq_getElem hj')
    rw [hv] at hv'; (first | obtain ⟨_, rfl⟩ := hv'.atom | exact (nsE hv').elim | exact (snE hv').elim | exact (ftE hv').elim | cases hv')
    exact ih j _ _ (List.getElem?_eq_getElem hj) (List.getElem?_eq_getElem hj') rv rv'
  | tuple bs hlen _ ih =>
    intro v r1 r2
    obtain ⟨a, vs, n, rfl, _, h1, rs⟩ := r1.tuple_inv
    obtain ⟨a', vs', n', e, _, h2, rs'⟩ := r2.tuple_inv
    (first | obtain ⟨_, rfl⟩ := e.atom | exact (nsE e).elim | exact (snE e).elim | exact (ftE e).elim | cases e)
    rw [h1] at h2; simp at h2
    obtain ⟨rfl, -⟩ := h2
    rw [List.all_eq_true]
    intro j hj
    rw [List.mem_range] at hj
    have hj' := hlen ▸ hj
    obtain ⟨v, hv, rv⟩ := rs.get (List.getElem?_eq_getElem hj)
    obtain ⟨v', hv', rv'⟩ := rs'.get (List.getElem?_eq_getElem hj')
    rw [hv] at hv'; (first | obtain ⟨_, rfl⟩ := hv'.atom | exact (nsE hv').elim | exact (snE hv').elim | exact (ftE hv').elim | cases hv')
    exact ih j _ _ (List.getElem?_eq_getElem hj) (List.getElem?_eq_getElem hj') rv rv'
  | idict n k1 k2 =>
    intro v r1 r2
    cases r1 with
    | idict _ _ d1 q1 =>
      cases r2 with
      | idict _ _ d2 q2 =>
        have e := dictOf_uniq d1 d2
        subst e
        have := kv_uniq q1 q2
        subst this
        obtain ⟨_, _, _, _, _, _, _, _, hn⟩ := d1
        exact eqKV_self (by rw [← kv_keys q1]; exact hn)

theorem isTuple_of {h : Heap} {a : Addr} {vs : List Value} {n : Nat} (e : h.get? a = some { cls := .type "tuple", data := .seq vs.toArray n }) : h.IsTuple a vs.toArray := ⟨_, e, rfl, n, rfl⟩

theorem eqd_at {S : Addr → Prop} {s : Shared} {n : Nat} {d e : D} {b : Bool} (q : EqD n d e b) : ∀ {v y : Value} {A : Around}, Rep prog w S s.heap v d → Rep prog w S s.heap y e → A.units + n < cLine → PySem.SeqAt.EqAt A s v y b := by
  induction q with
  | int n a b => intro v y A r1 r2 _; (first | obtain ⟨_, rfl⟩ := r1.atom | exact (nsE r1).elim | exact (snE r1).elim | exact (ftE r1).elim | cases r1); (first | obtain ⟨_, rfl⟩ := r2.atom | exact (nsE r2).elim | exact (snE r2).elim | exact (ftE r2).elim | cases r2); exact PySem.SeqAt.EqAt.int_int _ _ _ _
  | str n a b => intro v y A r1 r2 _; (first | obtain ⟨_, rfl⟩ := r1.atom | exact (nsE r1).elim | exact (snE r1).elim | exact (ftE r1).elim | cases r1); (first | obtain ⟨_, rfl⟩ := r2.atom | exact (nsE r2).elim | exact (snE r2).elim | exact (ftE r2).elim | cases r2); exact PySem.SeqAt.EqAt.str_str _ _ _ _
  | len n hne =>
    intro v y A r1 r2 hu
    have ne : v ≠ y := fun z => by
      subst z
      exact absurd (eqd_same (.len 0 hne) r1 r2) (by decide)
    obtain ⟨a, vs, rfl, _, h1, rs⟩ := r1.list_inv
    obtain ⟨a', vs', rfl, _, h2, rs'⟩ := r2.list_inv
    refine .of_refs (fun z => ne (by rw [z])) (PySem.SeqAt.RcAt.lists_lengths h1.isList h2.isList ?_ (by omega))
    have := rs.length; have := rs'.length
    simp; omega
  | @list n ds es bs hlen hq ih =>
    intro v y A r1 r2 hu
    by_cases ne : v = y
    · subst ne
      rw [eqd_same (.list bs hlen hq) r1 r2]
      exact PySem.SeqAt.EqAt.same _
    · obtain ⟨a, vs, rfl, _, h1, rs⟩ := r1.list_inv
      obtain ⟨a', vs', rfl, _, h2, rs'⟩ := r2.list_inv
      have e1 := rs.length; have e2 := rs'.length
      refine .of_refs (fun z => ne (by rw [z])) ?_
      have := PySem.SeqAt.RcAt.lists (A := A) (e := bs) h1.isList h2.isList (by simp; omega) (by omega) fun j g1 g2 => by
        have g1' : j < vs.length := by simpa using g1
        have g2' : j < vs'.length := by simpa using g2
        obtain ⟨d, hd, rd⟩ := rs.get' (List.getElem?_eq_getElem g1')
        obtain ⟨e, he, re⟩ := rs'.get' (List.getElem?_eq_getElem g2')
        exact ih j d e hd he (A := A.in1) (by simpa using rd) (by simpa using re) (by show A.units + 1 + n < _; omega)
      rw [show vs.toArray.size = ds.length by simpa using e1] at this
      exact this
  | @tuple n ds es bs hlen hq ih =>
    intro v y A r1 r2 hu
    by_cases ne : v = y
    · subst ne
      rw [eqd_same (.tuple bs hlen hq) r1 r2]
      exact PySem.SeqAt.EqAt.same _
    · obtain ⟨a, vs, m, rfl, _, h1, rs⟩ := r1.tuple_inv
      obtain ⟨a', vs', m', rfl, _, h2, rs'⟩ := r2.tuple_inv
      have e1 := rs.length; have e2 := rs'.length
      refine .of_refs (fun z => ne (by rw [z])) ?_
      have := PySem.SeqAt.RcAt.tuples (A := A) (e := bs) (isTuple_of h1) (isTuple_of h2) (by omega) fun j g1 g2 => by
        have g1' : j < vs.length := by simpa using g1
        have g2' : j < vs'.length := by simpa using g2
        obtain ⟨d, hd, rd⟩ := rs.get' (List.getElem?_eq_getElem g1')
        obtain ⟨e, he, re⟩ := rs'.get' (List.getElem?_eq_getElem g2')
        exact ih j d e hd he (A := A.in1) (by simpa using rd) (by simpa using re) (by show A.units + 1 + n < _; omega)
      rw [show vs.toArray.size = ds.length by simpa using e1, show vs'.toArray.size = ds.length by simp; omega] at this
      simpa using this
  | idict n k1 k2 =>
    intro v y A r1 r2 hu
    by_cases ne : v = y
    · subst ne
      rw [eqd_same (.idict n k1 k2) r1 r2]
      exact PySem.SeqAt.EqAt.same _
    · cases r1 with
      | idict _ m1 d1 q1 =>
        cases r2 with
        | idict _ m2 d2 q2 =>
          refine .of_refs (fun z => ne (by rw [z])) fun prog' w' E Q h => ?_
          exact rc_dict m1 m2 (dictOf_int d1) (dictOf_int d2) q1 q2 (by omega) h
end

section
variable {Γ : Ctx}
theorem units_ok {h : Heap} (C : Γ.At h) : Γ.A.units + 300 < cLine := by
  have := C.room.2.2
  show _ < 9900
  omega
theorem op_eqD {n : Nat} {d e : D} {b : Bool} (q : EqD n d e b) (hn : n ≤ 100) : Op2 Γ (compareOp .Eq) d e (.bool b) := .mk fun v y s C r1 r2 => by
  have hu := units_ok C
  cases q with
  | int => exact op_eq.run v y s C r1 r2
  | str => (first | obtain ⟨_, rfl⟩ := r1.atom | exact (nsE r1).elim | exact (snE r1).elim | exact (ftE r1).elim | cases r1); (first | obtain ⟨_, rfl⟩ := r2.atom | exact (nsE r2).elim | exact (snE r2).elim | exact (ftE r2).elim | cases r2); exact PySem.SeqAt.RcAt.str_str _ _ _ _ _ _ _ _ ⟨Kp.refl s, .bool _⟩
  | len _ hne =>
    obtain ⟨a, vs, rfl, _, h1, rs⟩ := r1.list_inv
    obtain ⟨a', vs', rfl, _, h2, rs'⟩ := r2.list_inv
    have := rs.length; have := rs'.length
    exact PySem.SeqAt.RcAt.lists_lengths h1.isList h2.isList (by simp; omega) (by omega) _ _ _ _ ⟨Kp.refl s, .bool _⟩
  | @list n ds es bs hlen hq =>
    obtain ⟨a, vs, rfl, _, h1, rs⟩ := r1.list_inv
    obtain ⟨a', vs', rfl, _, h2, rs'⟩ := r2.list_inv
    have e1 := rs.length; have e2 := rs'.length
    have := PySem.SeqAt.RcAt.lists (A := Γ.A) (e := bs) h1.isList h2.isList (by simp; omega) (by omega) fun j g1 g2 => by
      have g1' : j < vs.length := by simpa using g1
      have g2' : j < vs'.length := by simpa using g2
      obtain ⟨d, hd, rd⟩ := rs.get' (List.getElem?_eq_getElem g1')
      obtain ⟨e, he, re⟩ := rs'.get' (List.getElem?_eq_getElem g2')
      exact eqd_at (hq j d e hd he) (A := Γ.A.in1) (by simpa using rd) (by simpa using re) (by show Γ.A.units + 1 + n < _; omega)
    rw [show vs.toArray.size = ds.length by simpa using e1] at this
    exact this _ _ _ _ ⟨Kp.refl s, .bool _⟩
  | @tuple n ds es bs hlen hq =>
    obtain ⟨a, vs, m, rfl, _, h1, rs⟩ := r1.tuple_inv
    obtain ⟨a', vs', m', rfl, _, h2, rs'⟩ := r2.tuple_inv
    have e1 := rs.length; have e2 := rs'.length
    have := PySem.SeqAt.RcAt.tuples (A := Γ.A) (e := bs) (isTuple_of h1) (isTuple_of h2) (by omega) fun j g1 g2 => by
      have g1' : j < vs.length := by simpa using g1
      have g2' : j < vs'.length := by simpa using g2
      obtain ⟨d, hd, rd⟩ := rs.get' (List.getElem?_eq_getElem g1')
      obtain ⟨e, he, re⟩ := rs'.get' (List.getElem?_eq_getElem g2')
      exact eqd_at (hq j d e hd he) (A := Γ.A.in1) (by simpa using rd) (by simpa using re) (by show Γ.A.units + 1 + n < _; omega)
    rw [show vs.toArray.size = ds.length by simpa using e1, show vs'.toArray.size = ds.length by simp; omega] at this
    simp only [Nat.min_self, beq_self_eq_true, Bool.and_true] at this
    exact this _ _ _ _ ⟨Kp.refl s, .bool _⟩
  | idict n k1 k2 =>
    cases r1 with
    | idict _ m1 d1 q1 =>
      cases r2 with
      | idict _ m2 d2 q2 => exact rc_dict m1 m2 d1 d2 q1 q2 (by omega) ⟨Kp.refl s, .bool _⟩
theorem op_neD {n : Nat} {d e : D} {b : Bool} (q : EqD n d e b) (hn : n ≤ 100) : Op2 Γ (compareOp .NotEq) d e (.bool (!b)) := .mk fun v y s C r1 r2 => by
  have hu := units_ok C
  cases q with
  | int => exact op_ne.run v y s C r1 r2
  | str => (first | obtain ⟨_, rfl⟩ := r1.atom | exact (nsE r1).elim | exact (snE r1).elim | exact (ftE r1).elim | cases r1); (first | obtain ⟨_, rfl⟩ := r2.atom | exact (nsE r2).elim | exact (snE r2).elim | exact (ftE r2).elim | cases r2); exact PySem.SeqAt.RcNeAt.str_str _ _ _ _ _ _ _ _ ⟨Kp.refl s, .bool _⟩
  | len _ hne =>
    obtain ⟨a, vs, rfl, _, h1, rs⟩ := r1.list_inv
    obtain ⟨a', vs', rfl, _, h2, rs'⟩ := r2.list_inv
    have := rs.length; have := rs'.length
    exact PySem.SeqAt.RcNeAt.lists_lengths h1.isList h2.isList (by simp; omega) (by omega) _ _ _ _ ⟨Kp.refl s, .bool _⟩
  | @list n ds es bs hlen hq =>
    obtain ⟨a, vs, rfl, _, h1, rs⟩ := r1.list_inv
    obtain ⟨a', vs', rfl, _, h2, rs'⟩ := r2.list_inv
    have e1 := rs.length; have e2 := rs'.length
    have := PySem.SeqAt.RcNeAt.lists (A := Γ.A) (e := bs) h1.isList h2.isList (by simp; omega) (by omega) fun j g1 g2 => by
      have g1' : j < vs.length := by simpa using g1
      have g2' : j < vs'.length := by simpa using g2
      obtain ⟨d, hd, rd⟩ := rs.get' (List.getElem?_eq_getElem g1')
      obtain ⟨e, he, re⟩ := rs'.get' (List.getElem?_eq_getElem g2')
      exact eqd_at (hq j d e hd he) (A := Γ.A.in1) (by simpa using rd) (by simpa using re) (by show Γ.A.units + 1 + n < _; omega)
    rw [show vs.toArray.size = ds.length by simpa using e1] at this
    exact this _ _ _ _ ⟨Kp.refl s, .bool _⟩
  | @tuple n ds es bs hlen hq =>
    obtain ⟨a, vs, m, rfl, _, h1, rs⟩ := r1.tuple_inv
    obtain ⟨a', vs', m', rfl, _, h2, rs'⟩ := r2.tuple_inv
    have e1 := rs.length; have e2 := rs'.length
    have := PySem.SeqAt.RcNeAt.tuples (A := Γ.A) (e := bs) (isTuple_of h1) (isTuple_of h2) (by omega) fun j g1 g2 => by
      have g1' : j < vs.length := by simpa using g1
      have g2' : j < vs'.length := by simpa using g2
      obtain ⟨d, hd, rd⟩ := rs.get' (List.getElem?_eq_getElem g1')
      obtain ⟨e, he, re⟩ := rs'.get' (List.getElem?_eq_getElem g2')
      exact eqd_at (hq j d e hd he) (A := Γ.A.in1) (by simpa using rd) (by simpa using re) (by show Γ.A.units + 1 + n < _; omega)
    rw [show vs.toArray.size = ds.length by simpa using e1, show vs'.toArray.size = ds.length by simp; omega] at this
    simp only [Nat.min_self, beq_self_eq_true, Bool.and_true] at this
    exact this _ _ _ _ ⟨Kp.refl s, .bool _⟩
  | idict n k1 k2 =>
    cases r1 with
    | idict _ m1 d1 q1 =>
      cases r2 with
      | idict _ m2 d2 q2 => exact rc_dict_ne m1 m2 d1 d2 q1 q2 (by omega) ⟨Kp.refl s, .bool _⟩

-- ready shapes
theorem range_all_get (ns ms : List Int) (h : ns.length = ms.length) : ((List.range ns.length).all fun j => ns[j]? == ms[j]?) = decide (ns = ms) := by
  rw [Bool.eq_iff_iff]
  simp only [List.all_eq_true, List.mem_range, beq_iff_eq, decide_eq_true_eq]
  constructor
  · intro q
    refine List.ext_getElem? fun j => ?_
    rcases Nat.lt_or_ge j ns.length with z | z
    · exact q j z
    · rw [List.getElem?_eq_none z, List.getElem?_eq_none (by omega)]
  · rintro rfl j _; rfl
theorem EqD.ints (n : Nat) (ns ms : List Int) : EqD (n + 1) (.list (ns.map .int)) (.list (ms.map .int)) (decide (ns = ms)) := by
  by_cases h : ns.length = ms.length
  · rw [← range_all_get ns ms h, show ns.length = (ns.map D.int).length by simp]
    refine .list _ (by simpa using h) fun j d e hd he => ?_
    rw [List.getElem?_map] at hd he
    cases h1 : ns[j]? with
    | none => rw [h1] at hd; (first | obtain ⟨_, rfl⟩ := hd.atom | exact (nsE hd).elim | exact (snE hd).elim | exact (ftE hd).elim | cases hd)
    | some a =>
      cases h2 : ms[j]? with
      | none => rw [h2] at he; (first | obtain ⟨_, rfl⟩ := he.atom | exact (nsE he).elim | exact (snE he).elim | exact (ftE he).elim | cases he)
      | some b =>
        rw [h1] at hd; rw [h2] at he
        (first | obtain ⟨_, rfl⟩ := hd.atom | exact (nsE hd).elim | exact (snE hd).elim | exact (ftE hd).elim | cases hd); (first | obtain ⟨_, rfl⟩ := he.atom | exact (nsE he).elim | exact (snE he).elim | exact (ftE he).elim | cases he)
        have := EqD.int n a b
        simpa using this
  · have : decide (ns = ms) = false := by simp; exact fun e => h (by rw [e])
    rw [this]
    exact .len _ (by simpa using h)
/-- a list against itself: equal where all its items are -/
theorem EqD.list_true {n : Nat} {ds es : List D} (hl : ds.length = es.length) (h : ∀ (j : Nat) (d e : D), ds[j]? = some d → es[j]? = some e → EqD n d e true) : EqD (n + 1) (.list ds) (.list es) true := by
  have : ((List.range ds.length).all fun _ => true) = true := by simp
  rw [← this]; exact .list (fun _ => true) hl h
theorem EqD.tuple_true {n : Nat} {ds es : List D} (hl : ds.length = es.length) (h : ∀ (j : Nat) (d e : D), ds[j]? = some d → es[j]? = some e → EqD n d e true) : EqD (n + 1) (.tuple ds) (.tuple es) true := by
  have : ((List.range ds.length).all fun _ => true) = true := by simp
  rw [← this]; exact .tuple (fun _ => true) hl h
end
-- part PL18
/-- dicts with keys of one kind -/
structure KD (K : Type) [DecidableEq K] where
  knd : (prog : Program) → (w : World) → KeyKind prog w K
  enc : K → D
  con : List (K × Int) → D
  inv : ∀ prog w S h v kvs, Rep prog w S h v (con kvs) → ∃ a us, v = .ref a ∧ ¬ S a ∧ (a == sysModules) = false ∧ h.DictOf (knd prog w) a us ∧ KV us kvs
  rd : ∀ prog w S h a us kvs, ¬ S a → (a == sysModules) = false → h.DictOf (knd prog w) a us → KV us kvs → Rep prog w S h (.ref a) (con kvs)
  key : ∀ prog w S h v k, Rep prog w S h v (enc k) → (knd prog w).is k v = true
  rep : ∀ prog w S h v k, (knd prog w).is k v = true → Rep prog w S h v (enc k)
noncomputable def kdI : KD Int where
  knd := intKind
  enc := .int
  con := .idict
  inv := fun prog w S h v kvs r => by cases r with | idict a b c d => exact ⟨_, _, rfl, a, b, c, d⟩
  rd := fun prog w S h a us kvs h1 h2 h3 h4 => .idict h1 h2 h3 h4
  key := fun prog w S h v k r => by (first | obtain ⟨_, rfl⟩ := r.atom | exact (nsE r).elim | exact (snE r).elim | exact (ftE r).elim | cases r); exact intKind_is prog w k _
  rep := fun prog w S h v k e => by obtain ⟨t, rfl⟩ := Value.isInt_shape e; exact .int _ _
noncomputable def kdS : KD Str where
  knd := strKind
  enc := .str
  con := .sdict
  inv := fun prog w S h v kvs r => by cases r with | sdict a b c d => exact ⟨_, _, rfl, a, b, c, d⟩
  rd := fun prog w S h a us kvs h1 h2 h3 h4 => .sdict h1 h2 h3 h4
  key := fun prog w S h v k r => by (first | obtain ⟨_, rfl⟩ := r.atom | exact (nsE r).elim | exact (snE r).elim | exact (ftE r).elim | cases r); exact strKind_is prog w k _
  rep := fun prog w S h v k e => by obtain ⟨t, rfl⟩ := Value.isStrOf_shape e; exact .str _ _

theorem kv_get {K : Type} {us : List (K × Value)} {kvs : List (K × Int)} (r : KV us kvs) {i : Nat} {k : K} {x : Int} (h : kvs[i]? = some (k, x)) : ∃ t, us[i]? = some (k, .int x t) := by
  induction r generalizing i with
  | nil => simp at h
  | cons _ ih =>
    cases i with
    | zero => simp at h; obtain ⟨rfl, rfl⟩ := h; exact ⟨_, rfl⟩
    | succ i => simp at h; simpa using ih h

section
variable {K : Type} [DecidableEq K] (κ : KD K)

theorem rep_box {prog : Program} {w : World} {S : Addr → Prop} {h : Heap} {v : Value} {T : String} {d : D} (r : Rep prog w S h v (.box T d)) : ∃ a x, v = .ref a ∧ ¬ S a ∧ h.get? a = some { cls := .type T, data := .fields #[x] } ∧ Rep prog w S h x d := by
  cases r with
  | box a b c => exact ⟨_, _, rfl, a, b, c⟩

theorem iterable_values {kvs : List (K × Int)} : IterableN false (.box "dict_values" (κ.con kvs)) (kvs.map fun p => .int p.2) := by
  intro prog w A S s v Q E hh r k
  obtain ⟨a, x, rfl, hSa, ha, rx⟩ := rep_box r
  obtain ⟨d, us, rfl, hSd, hm, hd, hkv⟩ := κ.inv _ _ _ _ _ _ rx
  obtain ⟨ep, hat⟩ := hd.dictAt
  have hdl : d < s.heap.objs.size := let ⟨o, _, _, e, _⟩ := hd; Heap.lt_size e
  have hne : d ≠ s.heap.objs.size := Nat.ne_of_lt hdl
  refine wpAny_pyIter_values (d := d) ⟨_, ha, rfl, rfl⟩ hat (k s.heap.objs.size [s.heap.objs.size, d] [s.heap.objs.size] (fun i h => h.IsValIter s.heap.objs.size d i us.length ep ∧ h.DictAt (κ.knd prog w) d us ep) _ (Kp.push s _) ?_ ⟨⟨_, Heap.get?_push_size _ rfl, rfl, rfl⟩, hat.push _⟩ ?_ ?_ ?_)
  · have W := Walks.dictValues (prog := prog) (w := w) (A := A) (knd := κ.knd prog w) hh s.heap.objs.size d hne us ep
    refine It0.it ⟨W.sub, fun i h st b hb => ?_, W.frame, fun i d' s' Q' E' hd' st k' => ?_, fun s' Q' E' st k' => W.done s' Q' E' (by rw [List.length_map, ← hkv.length] at st; exact st) k', W.self, fun i target d' bs v s' Q' E' b rv st q => ?_⟩
    · simp at hb; subst hb; obtain ⟨⟨o, ho, _⟩, _⟩ := st; rw [ho]; rfl
    · rw [List.getElem?_map] at hd'
      cases hx : kvs[i]? with
      | none => rw [hx] at hd'; (first | obtain ⟨_, rfl⟩ := hd'.atom | exact (nsE hd').elim | exact (snE hd').elim | exact (ftE hd').elim | cases hd')
      | some p =>
        rw [hx] at hd'; (first | obtain ⟨_, rfl⟩ := hd'.atom | exact (nsE hd').elim | exact (snE hd').elim | exact (ftE hd').elim | cases hd')
        obtain ⟨t, hu⟩ := kv_get hkv (k := p.1) (x := p.2) hx
        have hi : i < us.length := by
          rcases Nat.lt_or_ge i us.length with z | z
          · exact z
          · rw [List.getElem?_eq_none z] at hu; (first | obtain ⟨_, rfl⟩ := hu.atom | exact (nsE hu).elim | exact (snE hu).elim | exact (ftE hu).elim | cases hu)
        refine W.item i s' Q' E' hi st fun v h' tk hv st' hk => k' v h' tk ?_ st' hk
        obtain ⟨k₀, hv⟩ := hv
        rw [hu] at hv; (first | obtain ⟨_, rfl⟩ := hv.atom | exact (nsE hv).elim | exact (snE hv).elim | exact (ftE hv).elim | cases hv)
        exact .int _ _
    · rcases bnd_target b with ⟨x, p, rfl⟩ | ⟨es, k, p, rfl⟩
      · exact wpAny_pure q
      · cases rv with
        | int => exact wpAny_pure q
        | _ =>
          obtain ⟨⟨o, ho, hc, hdat⟩, _⟩ := st
          first
          | exact wpAny_pure q
          | (unfold letOwnedTupleGo
             refine wpAny_bind (wpAny_load ho ?_)
             rw [hc, hdat]
             show wpAny _ A (if (["enumerate", "zip", "dict_itemiterator", "dict_reverseitemiterator", "odict_iterator", "itertools.zip_longest", "itertools.pairwise"].contains "dict_valueiterator" && _) = true then _ else _) Q' E' s'
             rw [if_neg (by
               rw [show (["enumerate", "zip", "dict_itemiterator", "dict_reverseitemiterator", "odict_iterator", "itertools.zip_longest", "itertools.pairwise"].contains "dict_valueiterator") = false from by decide, Bool.false_and]
               exact Bool.false_ne_true)]
             exact wpAny_pure q)
          | cases v with
            | ref aa =>
              unfold letOwnedTupleGo
              refine wpAny_bind (wpAny_load ho ?_)
              rw [hc, hdat]
              show wpAny _ A (if (["enumerate", "zip", "dict_itemiterator", "dict_reverseitemiterator", "odict_iterator", "itertools.zip_longest", "itertools.pairwise"].contains "dict_valueiterator" && _) = true then _ else _) Q' E' s'
              rw [if_neg (by
                rw [show (["enumerate", "zip", "dict_itemiterator", "dict_reverseitemiterator", "odict_iterator", "itertools.zip_longest", "itertools.pairwise"].contains "dict_valueiterator") = false from by decide, Bool.false_and]
                exact Bool.false_ne_true)]
              exact wpAny_pure q
            | _ => exact wpAny_pure q
  · intro b hb
    show b < (s.heap.push _).objs.size
    rw [Heap.size_push]
    rcases List.mem_cons.mp hb with rfl | hb
    · exact Nat.lt_succ_self _
    · rcases List.mem_cons.mp hb with rfl | hb
      · exact Nat.lt_succ_of_lt hdl
      · (first | obtain ⟨_, rfl⟩ := hb.atom | exact (nsE hb).elim | exact (snE hb).elim | exact (ftE hb).elim | cases hb)
  · intro b hb
    simp at hb; subst hb
    exact get_size _ (Nat.le_refl _)
  · intro b hb
    rcases List.mem_cons.mp hb with rfl | hb
    · exact .inl (.head _)
    · rcases List.mem_cons.mp hb with rfl | hb
      · exact .inr ⟨by obtain ⟨o, _, _, e, _⟩ := hd; rw [e]; rfl, hSd⟩
      · (first | obtain ⟨_, rfl⟩ := hb.atom | exact (nsE hb).elim | exact (snE hb).elim | exact (ftE hb).elim | cases hb)

theorem iterable_items {kvs : List (K × Int)} : IterableN true (.box "dict_items" (κ.con kvs)) (kvs.map fun p => .tuple [κ.enc p.1, .int p.2]) := by
  intro prog w A S s v Q E hh r k
  obtain ⟨a, x, rfl, hSa, ha, rx⟩ := rep_box r
  obtain ⟨d, us, rfl, hSd, hm, hd, hkv⟩ := κ.inv _ _ _ _ _ _ rx
  obtain ⟨ep, hat⟩ := hd.dictAt
  have hdl : d < s.heap.objs.size := let ⟨o, _, _, e, _⟩ := hd; Heap.lt_size e
  generalize hI : s.heap.objs.size = I at *
  have hne : d ≠ I := Nat.ne_of_lt hdl
  have hIn : s.heap.get? I = none := get_size _ (by rw [hI]; exact Nat.le_refl _)
  refine wpAny_pyIter_items (knd := κ.knd prog w) (d := d) (kvs := us) (ep := ep) ⟨_, ha, rfl, rfl⟩ hat ?_
  rw [hI]
  refine k I [I, d] [I] (fun i h => (∃ ok ov, IsItemIter h I d i us.length ep ok ov) ∧ h.DictAt (κ.knd prog w) d us ep) _ (Kp.push s _) ?_ ⟨⟨_, _, hI ▸ Heap.get?_push_size _ rfl⟩, hat.push _⟩ ?_ ?_ ?_
  · refine ⟨fun b hb => by simp at hb; simp [hb], fun i h st b hb => ?_, fun i h h' st hk => ?_, fun s' Q' E' st k' => ?_, fun i s' Q' E' st q => ?_, fun i d' target bs s' Q' hT b hd' st k' => ?_⟩
    · simp at hb; subst hb; obtain ⟨⟨ok, ov, e⟩, _⟩ := st
      have e' : h.get? b = some _ := e
      rw [e']; rfl
    · obtain ⟨⟨ok, ov, e⟩, st⟩ := st
      exact ⟨⟨ok, ov, hk I (by simp) _ e⟩, st.at' fun o e => hk d (by simp) o e⟩
    · obtain ⟨⟨ok, ov, e⟩, hat'⟩ := st
      rw [List.length_map, ← hkv.length] at e
      exact wpAny_pyNext_items_end hh e hat' (by simp) fun h' he => k' h' s'.toks fun b o hb q => he b o (fun z => hb (by simp [z])) q
    · obtain ⟨⟨ok, ov, e⟩, hat'⟩ := st
      have hT : s'.TypeIs (.ref I) "dict_itemiterator" := ⟨_, e, rfl⟩
      refine wpAny_pyIter_slot hT F.slot_dict_itemiterator_iter (wpAny_call_entry F.slot_dict_itemiterator_iter hT kcp_entry ?_ (F.args_dict_itemiterator_iter_1 _))
      show wpAny _ _ (ret (.ref I)) _ _ s'
      exact wpAny_pure ⟨_, rfl, "dict_itemiterator", _, hT, F.slot_dict_itemiterator_next.lookup, q⟩
    · rw [List.getElem?_map] at hd'
      cases hx : kvs[i]? with
      | none => rw [hx] at hd'; (first | obtain ⟨_, rfl⟩ := hd'.atom | exact (nsE hd').elim | exact (snE hd').elim | exact (ftE hd').elim | cases hd')
      | some p =>
        rw [hx] at hd'; (first | obtain ⟨_, rfl⟩ := hd'.atom | exact (nsE hd').elim | exact (snE hd').elim | exact (ftE hd').elim | cases hd')
        obtain ⟨t, hu⟩ := kv_get hkv (k := p.1) (x := p.2) hx
        obtain ⟨⟨ok, ov, e⟩, hat'⟩ := st
        obtain ⟨es, k₀, p₀, rfl⟩ := hT rfl
        have hIl : I < s'.heap.objs.size := Heap.lt_size e
        have hdl' : d < s'.heap.objs.size := let ⟨o, _, q, _⟩ := hat'; Heap.lt_size q
        refine wpAny_pyNext_items_item e hat' hu fun key h₁ hkey heo ht₁ hz₁ hk₁ => ⟨_, rfl, ?_⟩
        refine wpAny_letOwnedTupleGo_items heo fun h₂ he₂ hs₂ => ?_
        have ht₂ : h₂.get? s'.heap.objs.size = some { cls := .type "tuple", data := .seq #[key, Value.int p.2 t] } := (hs₂.2 _ (Nat.ne_of_gt hIl)).trans ht₁
        refine k' _ h₂ s'.toks (fun S' hS' held ext => ?_) ⟨⟨_, _, he₂⟩, (hat'.at' fun o q => hk₁ d o hne q).extBut hs₂.extBut hne⟩ fun b o hb q => hs₂.extBut b o (fun z => hb (by simp [z])) (hk₁ b o (fun z => hb (by simp [z])) q)
        exact .tuple (vs := [key, Value.int p.2 t]) (n := 0) (not_held held (get_size _ (Nat.le_refl _))) ht₂ (.cons (κ.rep _ _ _ _ _ _ hkey) (.cons (.int _ _) .nil))
  · intro b hb
    show b < (s.heap.push _).objs.size
    rw [Heap.size_push, hI]
    rcases List.mem_cons.mp hb with rfl | hb
    · exact Nat.lt_succ_self _
    · rcases List.mem_cons.mp hb with rfl | hb
      · exact Nat.lt_succ_of_lt hdl
      · (first | obtain ⟨_, rfl⟩ := hb.atom | exact (nsE hb).elim | exact (snE hb).elim | exact (ftE hb).elim | cases hb)
  · intro b hb
    simp at hb; subst hb
    exact hIn
  · intro b hb
    rcases List.mem_cons.mp hb with rfl | hb
    · exact .inl (.head _)
    · rcases List.mem_cons.mp hb with rfl | hb
      · exact .inr ⟨by obtain ⟨o, _, _, e, _⟩ := hd; rw [e]; rfl, hSd⟩
      · (first | obtain ⟨_, rfl⟩ := hb.atom | exact (nsE hb).elim | exact (snE hb).elim | exact (ftE hb).elim | cases hb)
end
-- part PL19
/-- data of one built-in type, without a dict of its own -/
noncomputable def HasT (d : D) (T : String) : Prop := ∀ prog w S (s : Shared) v, Rep prog w S s.heap v d → s.TypeIs v T ∧ ∀ a, v = .ref a → ∃ ob, s.heap.get? a = some ob ∧ ob.dict = none
theorem hasT_list {ds : List D} : HasT (.list ds) "list" := fun prog w S s v r => by
  obtain ⟨a, vs, rfl, _, ⟨n, hl⟩, _⟩ := r.list_inv
  exact ⟨⟨_, hl, rfl⟩, fun b e => by (first | obtain ⟨_, rfl⟩ := e.atom | exact (nsE e).elim | exact (snE e).elim | exact (ftE e).elim | cases e); exact ⟨_, hl, rfl⟩⟩
theorem hasT_dict {K : Type} [DecidableEq K] (κ : KD K) {kvs : List (K × Int)} : HasT (κ.con kvs) "dict" := fun prog w S s v r => by
  obtain ⟨a, us, rfl, _, _, hd, _⟩ := κ.inv _ _ _ _ _ _ r
  exact ⟨hd.typeIs, fun b e => by (first | obtain ⟨_, rfl⟩ := e.atom | exact (nsE e).elim | exact (snE e).elim | exact (ftE e).elim | cases e); exact hd.mapOf.noDict _ rfl⟩
section
variable {Γ : Ctx} {s : Shared}
/-- a method of a built-in type -/
theorem ev_meth {o : Expr} {name : Str} {apos pos : Pos} {args : List Expr} {T id : String} {d0 d : D} {ds : List D} (ho : Ev Γ o d0) (ha : Evs Γ pos args ds) (hT : HasT d0 T) (pa : PlainAttrs T) (slot : PySem.Slot T name id) (hty : typeOf (.builtin id) = pure (.type "method_descriptor"))
    (F : Fn Γ.K Γ.prog Γ.w Γ.n (.builtin id) (d0 :: ds) d) (hbase : attributeBase o name Γ.env (eval o Γ.env) = eval o Γ.env := by rfl)
    (hfew : ((backTo pos (starEach args Γ.env)).all (fun x => !x.1) && (backToKw pos (keywordEach [] Γ.env)).all (fun x => x.1.isSome)
      && decide (args.length + ([] : List Keyword).length + (if ([] : List Keyword).isEmpty then 0 else 1) < 30)) = true := by rfl)
    (hline : (apos.endLine == pos.line) = true := by rfl) (hp : List.all args plainE = true := by rfl) : Ev Γ (.Call (.Attribute o name apos) args [] pos) d := .mk fun s C => by
  refine wpAny_Call_method hbase hfew hline pa slot hty ((ho.run s C).then' fun v s₁ k₁ r₁ => ?_)
  obtain ⟨h1, h2⟩ := hT _ _ _ _ _ r₁
  refine ⟨h1, h2, spliced_args (C.go k₁) trivial ha (any_plain hp) fun vs s₂ k₂ r₂ => ?_⟩
  have C₂ := (C.go k₁).go k₂
  exact wpAny_mono (F.run Γ.A Γ.base Γ.S s₂ (v :: vs) C₂.room C₂.wd (.cons (r₁.keep k₂.k) r₂)) (fun _ _ q => ⟨(k₁.trans k₂).trans q.1, q.2⟩) fun _ _ x => x
end

section
variable {K : Frag} {prog : Program} {w : World} {n : Nat} {KK : Type} [DecidableEq KK] (κ : KD KK)
theorem fn_values {kvs : List (KK × Int)} : Fn K prog w n (.builtin "dict.values") [κ.con kvs] (.box "dict_values" (κ.con kvs)) := .mk fun A base S s vals hr hw r => by
  obtain ⟨v, rfl, r₁⟩ := r.one
  obtain ⟨a, us, rfl, hS, hm, hd, hkv⟩ := κ.inv _ _ _ _ _ _ r₁
  refine call_meetsIn F.slot_dict_values hd.typeIs F.entry_dict_values (F.args_dict_values_1 _) (meets_dict_values (κ.knd prog w) a hm) ⟨⟨us, hd⟩, Kp.push s _, ?_⟩
  exact .box (not_held hw.held (get_size _ (Nat.le_refl _))) (Heap.get?_push_size _ rfl) (r₁.keep fun _ _ e => Heap.get?_push_of_some _ e)
theorem fn_items {kvs : List (KK × Int)} : Fn K prog w n (.builtin "dict.items") [κ.con kvs] (.box "dict_items" (κ.con kvs)) := .mk fun A base S s vals hr hw r => by
  obtain ⟨v, rfl, r₁⟩ := r.one
  obtain ⟨a, us, rfl, hS, hm, hd, hkv⟩ := κ.inv _ _ _ _ _ _ r₁
  refine call_meetsIn F.slot_dict_items hd.typeIs F.entry_dict_items (F.args_dict_items_1 _) (meets_dict_items (κ.knd prog w) a hm) ⟨⟨us, hd⟩, Kp.push s _, ?_⟩
  exact .box (not_held hw.held (get_size _ (Nat.le_refl _))) (Heap.get?_push_size _ rfl) (r₁.keep fun _ _ e => Heap.get?_push_of_some _ e)
end
section
variable {Γ : Ctx} {KK : Type} [DecidableEq KK] (κ : KD KK)
theorem ev_values {o : Expr} {apos pos : Pos} {kvs : List (KK × Int)} (ho : Ev Γ o (κ.con kvs)) (hbase : attributeBase o "values" Γ.env (eval o Γ.env) = eval o Γ.env := by rfl) (hline : (apos.endLine == pos.line) = true := by rfl) :
    Ev Γ (.Call (.Attribute o "values" apos) [] [] pos) (.box "dict_values" (κ.con kvs)) :=
  ev_meth ho evs_nil (hasT_dict κ) F.plainAttrs_dict F.slot_dict_values F.type_dict_values (fn_values κ) hbase rfl hline rfl
theorem ev_items {o : Expr} {apos pos : Pos} {kvs : List (KK × Int)} (ho : Ev Γ o (κ.con kvs)) (hbase : attributeBase o "items" Γ.env (eval o Γ.env) = eval o Γ.env := by rfl) (hline : (apos.endLine == pos.line) = true := by rfl) :
    Ev Γ (.Call (.Attribute o "items" apos) [] [] pos) (.box "dict_items" (κ.con kvs)) :=
  ev_meth ho evs_nil (hasT_dict κ) F.plainAttrs_dict F.slot_dict_items F.type_dict_items (fn_items κ) hbase rfl hline rfl
theorem op_in_dict {kvs : List (KK × Int)} {k : KK} : Op2 Γ (compareOp .In) (κ.enc k) (κ.con kvs) (.bool (lookD kvs k).isSome) := .mk fun v y s C r1 r2 => by
  obtain ⟨a, us, rfl, hS, hm, hd, hkv⟩ := κ.inv _ _ _ _ _ _ r2
  refine wpAny_in_of (κ.key _ _ _ _ _ _ r1) hm hd.mapOf ⟨Kp.toks s _, ?_⟩
  rcases kv_find hkv k with ⟨h1, h2⟩ | ⟨i, t, h1, h2⟩ <;> rw [h1, h2] <;> exact .bool _
/-- membership in a list -/
theorem any_rep {prog : Program} {w : World} {S : Addr → Prop} {h : Heap} {b : D → Bool} : ∀ {vs : List Value} {ds : List D}, RepAll prog w S h vs ds → ∀ (e : Value → Bool), (∀ v d, d ∈ ds → Rep prog w S h v d → b d = true → e v = true) → (∀ v ∈ vs, e v = true → ∃ d ∈ ds, b d = true) → vs.any e = ds.any b := by
  intro vs ds r e h1 h2
  rw [Bool.eq_iff_iff, List.any_eq_true, List.any_eq_true]
  constructor
  · rintro ⟨v, hv, q⟩; exact h2 v hv q
  · rintro ⟨d, hd, q⟩
    obtain ⟨j, hj, rfl⟩ := List.getElem_of_mem hd
    obtain ⟨v, hv, rv⟩ := r.get (List.getElem?_eq_getElem hj)
    exact ⟨v, List.mem_of_getElem? hv, h1 v _ hd rv q⟩
open Classical in
theorem mem_at {n : Nat} {dx : D} {ds : List D} {b : D → Bool} (q : ∀ d ∈ ds, EqD n d dx (b d)) {s : Shared} {S : Addr → Prop} {prog : Program} {w : World} {vs : List Value} {x : Value} {A : Around} (rs : RepAll prog w S s.heap vs ds) (rx : Rep prog w S s.heap x dx) (hu : A.units + n < cLine) :
    ∃ e : Value → Bool, (∀ y, y ∈ vs.toArray → PySem.SeqAt.EqAt A s y x (e y)) ∧ vs.any e = ds.any b := by
  refine ⟨fun v => decide (∃ d ∈ ds, Rep prog w S s.heap v d ∧ b d = true), fun y hy => ?_, any_rep rs _ (fun v d hd r hb => by simp; exact ⟨d, hd, r, hb⟩) fun v _ q => by simp at q; obtain ⟨d, hd, _, hb⟩ := q; exact ⟨d, hd, hb⟩⟩
  by_cases h : ∃ d ∈ ds, Rep prog w S s.heap y d ∧ b d = true
  · show PySem.SeqAt.EqAt A s y x (decide (∃ d ∈ ds, Rep prog w S s.heap y d ∧ b d = true))
    rw [decide_eq_true h]
    obtain ⟨d, hd, r, hb⟩ := h
    have := eqd_at (q d hd) (A := A) r rx hu
    rw [hb] at this; exact this
  · show PySem.SeqAt.EqAt A s y x (decide (∃ d ∈ ds, Rep prog w S s.heap y d ∧ b d = true))
    rw [decide_eq_false h]
    have hy' : y ∈ vs := by simpa using hy
    obtain ⟨j, hj, rfl⟩ := List.getElem_of_mem hy'
    obtain ⟨d, hd, rd⟩ := rs.get' (List.getElem?_eq_getElem hj)
    have hm : d ∈ ds := List.mem_of_getElem? hd
    have hb : b d = false := by
      cases e : b d with
      | false => rfl
      | true => exact absurd ⟨d, hm, rd, e⟩ h
    have := eqd_at (q d hm) (A := A) rd rx hu
    rw [hb] at this; exact this
theorem op_in_list {n : Nat} {dx : D} {ds : List D} (b : D → Bool) (q : ∀ d ∈ ds, EqD n d dx (b d)) (hn : n ≤ 100) : Op2 Γ (compareOp .In) dx (.list ds) (.bool (ds.any b)) := .mk fun v y s C r1 r2 => by
  obtain ⟨a, vs, rfl, hS, hl, rs⟩ := r2.list_inv
  have hu := units_ok C
  obtain ⟨e, h1, h2⟩ := mem_at q (A := Γ.A.in1) rs r1 (by show Γ.A.units + 1 + n < _; omega)
  refine PySem.SeqAt.in_listAt e hl.isList h1 ⟨Kp.refl s, ?_⟩
  rw [show vs.toArray.any e = ds.any b by simpa using h2]; exact .bool _
theorem op_notin_list {n : Nat} {dx : D} {ds : List D} (b : D → Bool) (q : ∀ d ∈ ds, EqD n d dx (b d)) (hn : n ≤ 100) : Op2 Γ (compareOp .NotIn) dx (.list ds) (.bool (!ds.any b)) := .mk fun v y s C r1 r2 => by
  obtain ⟨a, vs, rfl, hS, hl, rs⟩ := r2.list_inv
  have hu := units_ok C
  obtain ⟨e, h1, h2⟩ := mem_at q (A := Γ.A.in1) rs r1 (by show Γ.A.units + 1 + n < _; omega)
  refine PySem.SeqAt.notIn_listAt e hl.isList h1 ⟨Kp.refl s, ?_⟩
  rw [show vs.toArray.any e = ds.any b by simpa using h2]; exact .bool _
end

/-- how often, where -/
noncomputable def isI (k : Int) : Value → Bool
  | .int i _ => i == k
  | _ => false
theorem ints_eqAt {A : Around} {s : Shared} {vs : List Value} {ns : List Int} (r : IntsAre vs ns) (k : Int) (t : Tok) : ∀ y, y ∈ vs.toArray → PySem.SeqAt.EqAt A s y (.int k t) (isI k y) := fun y hy => by
  have hy' : y ∈ vs := by simpa using hy
  clear hy
  induction r with
  | nil => (first | obtain ⟨_, rfl⟩ := hy'.atom | exact (nsE hy').elim | exact (snE hy').elim | exact (ftE hy').elim | cases hy')
  | cons i u _ ih =>
    rcases List.mem_cons.mp hy' with rfl | z
    · exact PySem.SeqAt.EqAt.int_int _ _ _ _
    · exact ih z
theorem ints_count {vs : List Value} {ns : List Int} (r : IntsAre vs ns) (k : Int) : vs.countP (isI k) = ns.count k := by
  induction r with
  | nil => rfl
  | cons i u _ ih =>
    rw [List.countP_cons, List.count_cons, ih]; rfl
section
variable {K : Frag} {prog : Program} {w : World} {n : Nat}
theorem fn_count {ns : List Int} {k : Int} : Fn K prog w n (.builtin "list.count") [.list (ns.map .int), .int k] (.int (ns.count k)) := .mk fun A base S s vals hr hw r => by
  obtain ⟨v, u, rfl, r₁, r₂⟩ := r.two
  obtain ⟨l, vs, rfl, _, ⟨c, hl⟩, rs⟩ := r₁.list_inv
  (first | obtain ⟨_, rfl⟩ := r₂.atom | exact (nsE r₂).elim | exact (snE r₂).elim | exact (ftE r₂).elim | cases r₂)
  refine call_meets F.slot_list_count ⟨_, hl, rfl⟩ F.entry_list_count (F.args_list_count_2 _ _) (PySem.SeqAt.list_countAt l vs.toArray c none #[] _ (isI k)) ⟨hl, fun y hy => ints_eqAt rs.ints k _ y hy, Kp.toks s _, ?_⟩
  rw [show (vs.toArray.toList.countP (isI k)) = ns.count k by simpa using ints_count rs.ints k]
  exact .int _ _
/-- a call that makes a new list, a new dict -/
structure FnL (K : Frag) (prog : Program) (w : World) (n : Nat) (f : Value) (ds : List D) (out : List D) : Prop where
  run : ∀ (A : Around) (base : Heap) (S : Addr → Prop) (s : Shared) (vals : List Value), RoomA n A → Wd K base S s.heap → RepAll prog w S s.heap vals ds →
    wpAny (model prog w) A (call f vals) (fun v s' => Kp s s' ∧ ∃ a vs, v = .ref a ∧ s.heap.get? a = none ∧ s'.heap.PlainList a vs.toArray ∧ RepAll prog w (fun b => S b ∨ b = a) s'.heap vs out) (fun _ _ => False) s
structure FnD {KK : Type} [DecidableEq KK] (κ : KD KK) (K : Frag) (prog : Program) (w : World) (n : Nat) (f : Value) (ds : List D) (out : List (KK × Int)) : Prop where
  run : ∀ (A : Around) (base : Heap) (S : Addr → Prop) (s : Shared) (vals : List Value), RoomA n A → Wd K base S s.heap → RepAll prog w S s.heap vals ds →
    wpAny (model prog w) A (call f vals) (fun v s' => Kp s s' ∧ ∃ a us, v = .ref a ∧ s.heap.get? a = none ∧ (a == sysModules) = false ∧ s'.heap.DictOf (κ.knd prog w) a us ∧ KV us out) (fun _ _ => False) s
theorem fn_dict {KK : Type} [DecidableEq KK] (κ : KD KK) {kvs : List (KK × Int)} (hz : kvs.length ≤ sizeLine) : FnD κ K prog w n (.type "dict") [κ.con kvs] kvs := .mk fun A base S s vals hr hw r => by
  obtain ⟨v, rfl, r₁⟩ := r.one
  obtain ⟨a, us, rfl, hS, hm, hd, hkv⟩ := κ.inv _ _ _ _ _ _ r₁
  refine kt_call_dict hm hd (by rw [hkv.length]; exact hz) fun h' hd' hs => ⟨Kp.heap s h' fun b o e => hs.extBut b o (Nat.ne_of_lt (Heap.lt_size e)) (Heap.get?_push_of_some _ e), _, us, rfl, get_size _ (Nat.le_refl _), ?_, hd', hkv⟩
  obtain ⟨mg, o, _, _, e, _⟩ := hw.glh.mg
  have h3 : (3 : Nat) < s.heap.objs.size := Heap.lt_size e
  have h1 : sysModules = 1 := rfl
  rw [h1]
  exact beq_eq_false_iff_ne.mpr (Nat.ne_of_gt (show (1 : Nat) < _ by omega))
end
section
variable {Γ : Ctx} {KK : Type} [DecidableEq KK] {κ : KD KK}
theorem ev_callL {x : Str} {px p : Pos} {es : List Expr} {ds out : List D} {f : Value} (hf : Ev Γ (.Name x px) (.raw f)) (hc : Callable Γ.K f) (h : Evs Γ p es ds) (F : FnL Γ.K Γ.prog Γ.w Γ.n f ds out)
    (hp : List.all es plainE = true := by rfl) : EvNL Γ (.Call (.Name x px) es [] p) out := .mk fun s C => by
  refine wpAny_Call_Name_kw ((hf.run s C).then' fun v s₁ k₁ r₁ => ?_)
  (first | obtain ⟨_, rfl⟩ := r₁.atom | exact (nsE r₁).elim | exact (snE r₁).elim | exact (ftE r₁).elim | cases r₁)
  show wpAny _ _ (callWith p f [] (backTo p (starEach es Γ.env)) []) _ _ _
  exact spliced_args (C.go k₁) hc h (any_plain hp) fun vs s₂ k₂ r₂ => by
    have C₂ := (C.go k₁).go k₂
    exact wpAny_mono (F.run Γ.A Γ.base Γ.S s₂ vs C₂.room C₂.wd r₂) (fun _ _ q => ⟨(k₁.trans k₂).trans q.1, by
      obtain ⟨a, vs, e, hn, r, r2⟩ := q.2
      exact ⟨a, vs, e, none_back (k₁.trans k₂) hn, r, r2⟩⟩) fun _ _ x => x
theorem ev_callD {x : Str} {px p : Pos} {es : List Expr} {ds : List D} {out : List (KK × Int)} {f : Value} (hf : Ev Γ (.Name x px) (.raw f)) (hc : Callable Γ.K f) (h : Evs Γ p es ds) (F : FnD κ Γ.K Γ.prog Γ.w Γ.n f ds out)
    (hp : List.all es plainE = true := by rfl) : EvND Γ (κ.knd Γ.prog Γ.w) (.Call (.Name x px) es [] p) out := .mk fun s C => by
  refine wpAny_Call_Name_kw ((hf.run s C).then' fun v s₁ k₁ r₁ => ?_)
  (first | obtain ⟨_, rfl⟩ := r₁.atom | exact (nsE r₁).elim | exact (snE r₁).elim | exact (ftE r₁).elim | cases r₁)
  show wpAny _ _ (callWith p f [] (backTo p (starEach es Γ.env)) []) _ _ _
  exact spliced_args (C.go k₁) hc h (any_plain hp) fun vs s₂ k₂ r₂ => by
    have C₂ := (C.go k₁).go k₂
    exact wpAny_mono (F.run Γ.A Γ.base Γ.S s₂ vs C₂.room C₂.wd r₂) (fun _ _ q => ⟨(k₁.trans k₂).trans q.1, by
      obtain ⟨a, vs, e, hn, r, r2, r3⟩ := q.2
      exact ⟨a, vs, e, none_back (k₁.trans k₂) hn, r, r2, r3⟩⟩) fun _ _ x => x
theorem EvND.ev {e : Expr} {kvs : List (KK × Int)} (h : EvND Γ (κ.knd Γ.prog Γ.w) e kvs) : Ev Γ e (κ.con kvs) := .mk fun s C => (h.run s C).mono fun _ _ q => by
  obtain ⟨a, us, rfl, hn, hm, hd, hk⟩ := q
  exact κ.rd _ _ _ _ _ _ _ (not_held C.wd.held hn) hm hd hk

/-- an empty dict -/
theorem ev_dict0 (κ : KD KK) {p : Pos} : EvND Γ (κ.knd Γ.prog Γ.w) (.Dict [] [] p) [] := .mk fun s C =>
  wpAny_Dict_empty ⟨Kp.push s _, _, [], rfl, get_size _ (Nat.le_refl _), by
    have := size_big C
    have h1 : sysModules = 1 := rfl
    rw [h1]
    exact beq_eq_false_iff_ne.mpr (Nat.ne_of_gt (show (1 : Nat) < _ by omega)), Heap.DictOf.new s.heap, .nil⟩
/-- [x] * n -/
theorem ev_mulL {l r : Expr} {p : Pos} {d : D} {k : Int} (h1 : Ev Γ l (.list [d])) (h2 : Ev Γ r (.int k)) (h0 : 0 ≤ k) (hk : k ≤ 16384) : EvNL Γ (.BinOp l .Mult r p) (List.replicate k.toNat d) := .mk fun s C => by
  refine wpAny_BinOp ((h1.run s C).then' fun a s₁ k₁ r₁ => (h2.run s₁ (C.go k₁)).then' fun b s₂ k₂ r₂ => ?_)
  have C₂ := (C.go k₁).go k₂
  obtain ⟨x, vs, rfl, _, ⟨c, hl⟩, rs⟩ := (r₁.keep k₂.k).list_inv
  (first | obtain ⟨_, rfl⟩ := r₂.atom | exact (nsE r₂).elim | exact (snE r₂).elim | exact (ftE r₂).elim | cases r₂)
  rename_i u
  obtain ⟨v, rfl, rv⟩ := rs.one
  refine wpAny_binaryOp_repeat_ref (T := "list") (U := "int") (by decide) ⟨_, hl, rfl⟩ (fun s' => typeIs_int s' k u) noFill_list_mul F.fills_int_mul F.slot_int_rmul repeat_list F.slot_int_index.lookup
    (call_meets F.slot_int_rmul (typeIs_int s₂ k u) F.entry_int_rmul (F.args_int_rmul_2 _ _) (int___rmul___int_list k u x _ c)
      ⟨hl, rfl, ⟨_, hl, rfl⟩, call_meets F.slot_list_mul ⟨_, hl, rfl⟩ F.entry_list_mul (F.args_list_mul_2 _ _)
        (AutoListH.list___mul___list_int_3 x _ c k u (by simp [Builtin.List.listFitsIndex]; omega) (by simp; omega) (by simp [Builtin.List.listTooLong, sizeLine]; omega))
        ⟨hl, (k₁.trans k₂).trans (Kp.push s₂ _), s₂.heap.objs.size, List.replicate k.toNat v, rfl, none_back (k₁.trans k₂) (get_size _ (Nat.le_refl _)), ⟨0, ?_⟩, ?_⟩⟩)
  · have e : List.foldl (fun x1 x2 => x1 ++ x2) #[] (List.replicate (if ([v].toArray).isEmpty = true then 0 else k.toNat) [v].toArray) = (List.replicate k.toNat v).toArray := by
      have : ∀ (m : Nat) (acc : Array Value), (List.foldl (fun x1 x2 => x1 ++ x2) acc (List.replicate m [v].toArray)).toList = acc.toList ++ List.replicate m v := by
        intro m
        induction m with
        | zero => intro acc; simp
        | succ m ih => intro acc; rw [List.replicate_succ, List.foldl_cons, ih, List.replicate_succ]; simp
      apply Array.ext'
      have h := this k.toNat #[]
      simpa using h
    rw [e]
    exact Heap.get?_push_size _ rfl
  · have rv' := rv.avoid (S' := fun b => Γ.S b ∨ b = s₂.heap.objs.size) fun b q => q.elim .inl fun e => .inr (by rw [e]; exact get_size _ (Nat.le_refl _))
    refine RepAll.keep (h := s₂.heap) ?_ fun _ _ e => Heap.get?_push_of_some _ e
    generalize k.toNat = m
    induction m with
    | zero => exact .nil
    | succ m ih => exact .cons rv' ih
end
-- part PL20
/-- what is owned, seen as data for a while -/
noncomputable def Ctx.view (Γ : Ctx) (as : List Addr) (l : List (Str × D)) : Ctx := { Γ with S := fun b => Γ.S b ∧ b ∉ as, ρ := fun x => match l.lookup x with | some d => some d | none => Γ.ρ x }
theorem At.view {Γ : Ctx} {as : List Addr} {l : List (Str × D)} {h : Heap} (C : Γ.At h) (q : ∀ x d, l.lookup x = some d → ∃ a, Γ.ρ x = some (.raw (.ref a)) ∧ Rep Γ.prog Γ.w (fun b => Γ.S b ∧ b ∉ as) h (.ref a) d) : (Γ.view as l).At h := by
  refine ⟨C.wd.less fun _ z => z.1, C.kind, C.globals, C.builtins, C.room, C.sep, C.cin, fun x d e => ?_⟩
  have e' : (match l.lookup x with | some d => some d | none => Γ.ρ x) = some d := e
  cases h' : l.lookup x with
  | some d' =>
    rw [h'] at e'; (first | obtain ⟨_, rfl⟩ := e'.atom | exact (nsE e').elim | exact (snE e').elim | exact (ftE e').elim | cases e')
    obtain ⟨a, h1, h2⟩ := q x d h'
    obtain ⟨v, hv, r⟩ := C.vars x _ h1
    (first | obtain ⟨_, rfl⟩ := r.atom | exact (nsE r).elim | exact (snE r).elim | exact (ftE r).elim | cases r)
    exact ⟨_, hv, h2⟩
  | none =>
    rw [h'] at e'
    obtain ⟨v, hv, r⟩ := C.vars x d e'
    exact ⟨v, hv, r.less fun _ z => z.1⟩

theorem AccL.rep {prog : Program} {w : World} {a : Addr} {ds : List D} {S : Addr → Prop} {h : Heap} {as : List Addr} (x : AccL prog w a ds S h) (ha : a ∈ as) : Rep prog w (fun b => S b ∧ b ∉ as) h (.ref a) (.list ds) :=
  let ⟨_, vs, hl, rs⟩ := x; .list (fun q => q.2 ha) hl (rs.less fun _ q => q.1)
theorem AccD.rep {KK : Type} [DecidableEq KK] (κ : KD KK) {prog : Program} {w : World} {a : Addr} {kvs : List (KK × Int)} {S : Addr → Prop} {h : Heap} {as : List Addr} (x : AccD prog w (κ.knd prog w) a kvs S h) (ha : a ∈ as) : Rep prog w (fun b => S b ∧ b ∉ as) h (.ref a) (κ.con kvs) :=
  let ⟨_, hm, us, hd, hk⟩ := x; κ.rd _ _ _ _ _ _ _ (fun q => q.2 ha) hm hd hk

section
variable {L : Lev} {Γ : Ctx} {os : List Addr} {P : (Addr → Prop) → Heap → Prop} {s s' : Shared}

/-- an owned object changes -/
theorem Fm.mut {a : Addr} {h' : Heap} {tk : Nat} {P' : (Addr → Prop) → Heap → Prop} (F : Fm L Γ os P s) (ha : a ∈ os) (hs : Heap.SameBut a s.heap h') (live : (h'.get? a).isSome = true) (hW : L.W a ∨ L.s₀.heap.get? a = none) (pok' : OwnOk P' os) (hP' : P' Γ.S h') :
    Fm L Γ os P' { s with heap := h', toks := tk } := by
  have hS : Γ.S a := F.pok.has _ _ F.own a ha
  have k1 : ∀ b, b ≠ a → ∀ o, s.heap.get? b = some o → h'.get? b = some o := fun b m o e => hs.extBut b o m e
  have hl : Γ.env.locals ≠ a := fun q => F.ol.1 (q ▸ ha)
  have hc : ∀ x c, Γ.env.cells.lookup x = some c → c ≠ a := fun x c e q => (F.oc x c e).1 (q ▸ ha)
  refine ⟨⟨F.same.1, F.same.2⟩, fun b o hb e => k1 b (fun q => ?_) o (F.ext b o hb e), ?_, let ⟨m, q⟩ := F.ns; ⟨m, q.sameBut hs hl⟩, F.lS, fun x c e => let ⟨p, q, r, v, z⟩ := F.cS x c e; ⟨p, q, r, v, z.sameBut hs (hc x c e)⟩, F.ol, F.oc, hP', ?_, F.oz, F.zok, pok', fun b e => ?_⟩
  · rcases hW with z | z
    · exact hb (q ▸ z)
    · rw [q, z] at e; (first | obtain ⟨_, rfl⟩ := e.atom | exact (nsE e).elim | exact (snE e).elim | exact (ftE e).elim | cases e)
  · exact At.wr (wr := [a]) F.at_ (fun b o m e => k1 b (fun q => m (by simp [q])) o e) (fun b m => by rw [List.mem_singleton.mp m]; exact hS) (fun b m => by rw [List.mem_singleton.mp m]; exact live) (fun m => hl (List.mem_singleton.mp m)) fun x c e m => hc x c e (List.mem_singleton.mp m)
  · exact F.zok.ext _ _ _ F.rest (Ext.sameBut hs hS) fun b m o e => k1 b (fun q => F.oz a ha (q ▸ m)) o e
  · have := F.base b e
    by_cases q : b = a
    · rw [q]; exact live
    · show (h'.get? b).isSome = true
      rw [hs.2 b q]; exact this

/-- name = a new object, which the function owns from now on -/
theorem x_own {x : Str} {px pos : Pos} {value : Expr} {rest : List Stmt} {P2 : Addr → (Addr → Prop) → Heap → Prop} {Q : Flow → Shared → Prop} (F : Fm L Γ os P s) (ok2 : ∀ a, OwnOk (P2 a) [a]) (hlive : ∀ a S h, P2 a S h → (h.get? a).isSome = true)
    (he : Tr Γ (eval value Γ.env) (fun v h => ∃ a, v = .ref a ∧ s.heap.get? a = none ∧ P2 a (fun b => Γ.S b ∨ b = a) h) s)
    (k : ∀ a s', L.s₀.heap.get? a = none → a ∉ os → Fm L ((Γ.plus [a]).set x (.raw (.ref a))) (a :: os) (fun S h => P2 a S h ∧ P S h) s' → Ex ((Γ.plus [a]).set x (.raw (.ref a))) (execs rest ((Γ.plus [a]).set x (.raw (.ref a))).env) Q s')
    (ha : asg Γ x = true := by rfl) (hs : swapsWith value (some (.Name x px)) pos.line Γ.env = pure false := by rfl) : Ex Γ (execs (.Assign [.Name x px] value pos :: rest) Γ.env) Q s := by
  refine .mk <| wpAny_execs_cons (wpAny_Assign_Name (he.then' fun v s₁ k₁ r₁ => ?_) hs)
  obtain ⟨a, rfl, hn, hP⟩ := r₁
  obtain ⟨f1, f2, f3, f4, f5, f6⟩ := F.fresh hn
  have live := hlive _ _ _ hP
  have F₁ := F.plus k₁ (wr := [a]) (fun b m => by rw [List.mem_singleton.mp m]; exact hn) (fun b m => by rw [List.mem_singleton.mp m]; exact live)
  have hP' : P2 a (Γ.plus [a]).S s₁.heap := (ok2 a).move _ _ _ hP (fun b q => q.elim (fun z => .inl (.inl z)) fun m => .inl (.inr (List.mem_singleton.mp m))) fun b m => .inr m
  have F₂ : Fm L (Γ.plus [a]) (a :: os) (fun S h => P2 a S h ∧ P S h) s₁ := ⟨F₁.same, F₁.ext, F₁.at_, F₁.ns, F₁.lS, F₁.cS, ⟨fun m => (List.mem_cons.mp m).elim f1 F₁.ol.1, F₁.ol.2⟩, fun x c e => ⟨fun m => (List.mem_cons.mp m).elim (f2 x c e) (F₁.oc x c e).1, (F₁.oc x c e).2⟩,
    ⟨hP', F₁.own⟩, F₁.rest, fun b m => (List.mem_cons.mp m).elim (fun e => e ▸ f4) (F₁.oz b), F₁.zok, (ok2 a).and F₁.pok, F₁.base⟩
  exact store_rule (Γ := Γ.plus [a]) F₂.at_ (F₂.slot (show asg (Γ.plus [a]) x = true from ha)) (.raw _) fun s' w C => (k a s' f5 f3 (F₂.wr (bs := [(x, .raw (.ref a))]) w C)).run

theorem x_own_list {x : Str} {px pos : Pos} {value : Expr} {rest : List Stmt} {ds : List D} {Q : Flow → Shared → Prop} (F : Fm L Γ os P s) (he : Tr Γ (eval value Γ.env) (NewL Γ s.heap ds) s)
    (k : ∀ a s', L.s₀.heap.get? a = none → a ∉ os → Fm L ((Γ.plus [a]).set x (.raw (.ref a))) (a :: os) (fun S h => AccL Γ.prog Γ.w a ds S h ∧ P S h) s' → Ex ((Γ.plus [a]).set x (.raw (.ref a))) (execs rest ((Γ.plus [a]).set x (.raw (.ref a))).env) Q s')
    (ha : asg Γ x = true := by rfl) (hs : swapsWith value (some (.Name x px)) pos.line Γ.env = pure false := by rfl) : Ex Γ (execs (.Assign [.Name x px] value pos :: rest) Γ.env) Q s :=
  x_own (P2 := fun a => AccL Γ.prog Γ.w a ds) F (fun a => accL_ok.own) (fun a S h ⟨_, vs, ⟨n, e⟩, _⟩ => by rw [e]; rfl) (he.mono fun v h ⟨a, vs, e, hn, hl, rs⟩ => ⟨a, e, hn, .inr rfl, vs, hl, rs⟩) k ha hs
theorem x_own_dict {KK : Type} [DecidableEq KK] (κ : KD KK) {x : Str} {px pos : Pos} {value : Expr} {rest : List Stmt} {kvs : List (KK × Int)} {Q : Flow → Shared → Prop} (F : Fm L Γ os P s) (he : Tr Γ (eval value Γ.env) (NewD Γ (κ.knd Γ.prog Γ.w) s.heap kvs) s)
    (k : ∀ a s', L.s₀.heap.get? a = none → a ∉ os → Fm L ((Γ.plus [a]).set x (.raw (.ref a))) (a :: os) (fun S h => AccD Γ.prog Γ.w (κ.knd Γ.prog Γ.w) a kvs S h ∧ P S h) s' → Ex ((Γ.plus [a]).set x (.raw (.ref a))) (execs rest ((Γ.plus [a]).set x (.raw (.ref a))).env) Q s')
    (ha : asg Γ x = true := by rfl) (hs : swapsWith value (some (.Name x px)) pos.line Γ.env = pure false := by rfl) : Ex Γ (execs (.Assign [.Name x px] value pos :: rest) Γ.env) Q s :=
  x_own (P2 := fun a => AccD Γ.prog Γ.w (κ.knd Γ.prog Γ.w) a kvs) F (fun a => accD_ok.own) (fun a S h ⟨_, _, us, ⟨o, _, _, e, _⟩, _⟩ => by rw [e]; rfl) (he.mono fun v h ⟨a, vs, e, hn, hm, hd, hk⟩ => ⟨a, e, hn, .inr rfl, hm, vs, hd, hk⟩) k ha hs

/-- a comprehension's list, stored and owned from now on -/
theorem x_own_used {x : Str} {px pos : Pos} {value : Expr} {rest : List Stmt} {ds : List D} {Q : Flow → Shared → Prop} (F : Fm L Γ os P s) (he : EvU Γ value fun Γ h₀ v h => NewL Γ h₀ ds v h)
    (k : ∀ a s', L.s₀.heap.get? a = none → a ∉ os → Fm L ((Γ.plus [a]).set x (.raw (.ref a))) (a :: os) (fun S h => AccL Γ.prog Γ.w a ds S h ∧ P S h) s' → Ex ((Γ.plus [a]).set x (.raw (.ref a))) (execs rest ((Γ.plus [a]).set x (.raw (.ref a))).env) Q s')
    (ha : asg Γ x = true := by rfl) (hs : swapsWith value (some (.Name x px)) pos.line Γ.env = pure true := by rfl) : Ex Γ (execs (.Assign [.Name x px] value pos :: rest) Γ.env) Q s := by
  refine .mk <| wpAny_execs_cons ?_
  rw [exec_Assign_Name_used _ _ _ _ hs]
  refine wpAny_bind (wpAny_standAt (wpAny_bind (wpAny_mono (he.run s (assign (.Name x px) Γ.env) (fun s' => Wx Γ (execs rest Γ.env) Q s') F.at_ ?_) (fun _ s' q => wpAny_pure q) fun _ _ x => x)))
  intro s' v C k₁ hC hns hv hva
  obtain ⟨f1, f2, f3, f4, f5, f6⟩ := F.fresh hC
  obtain ⟨m, hm⟩ := hns
  have hCl : (s'.heap.get? C).isSome = true := let ⟨o, _, _, e, _⟩ := hm; by rw [e]; rfl
  obtain ⟨a, vs, rfl, hn, hl, rs⟩ := hv
  obtain ⟨a', e', hne, _⟩ := hva
  (first | obtain ⟨_, rfl⟩ := e'.atom | exact (nsE e').elim | exact (snE e').elim | exact (ftE e').elim | cases e')
  obtain ⟨g1, g2, g3, g4, g5, g6⟩ := F.fresh hn
  have hal : (s'.heap.get? a).isSome = true := let ⟨n, e⟩ := hl; by rw [e]; rfl
  have F₁ := F.plus k₁ (wr := [a]) (fun b m => by rw [List.mem_singleton.mp m]; exact hn) (fun b m => by rw [List.mem_singleton.mp m]; exact hal)
  have F₁' := F.plus k₁ (wr := [a, C]) (fun b m => by rcases List.mem_cons.mp m with e | e; exact e ▸ hn; rw [List.mem_singleton.mp e]; exact hC) (fun b m => by rcases List.mem_cons.mp m with e | e; exact e ▸ hal; rw [List.mem_singleton.mp e]; exact hCl)
  have hSS : ∀ b, ((Γ.plus [a]).plus [C]).S b ↔ (Γ.plus [a, C]).S b := fun b => by
    show (Γ.S b ∨ b ∈ [a]) ∨ b ∈ [C] ↔ Γ.S b ∨ b ∈ [a, C]
    simp [or_assoc]
  have acc : AccL Γ.prog Γ.w a ds ((Γ.plus [a]).plus [C]).S s'.heap := ⟨.inl (.inr (.head _)), vs, hl, rs.less fun b q => by
    rcases q with (q | q) | q
    · exact .inl (.inl q)
    · exact .inr (List.mem_singleton.mp q)
    · exact .inl (.inr q)⟩
  have atC : ((Γ.plus [a]).plus [C]).At s'.heap := by
    have X := F₁'.at_
    refine ⟨X.wd.less fun b q => (hSS b).mp q, X.kind, X.globals, X.builtins, X.room, X.sep, X.cin, fun y d e => ?_⟩
    obtain ⟨v, hv, r⟩ := X.vars y d e
    exact ⟨v, hv, r.less fun b q => (hSS b).mp q⟩
  have F₂ : Fm L ((Γ.plus [a]).plus [C]) (a :: os) (fun S h => AccL Γ.prog Γ.w a ds S h ∧ P S h) s' := by
    refine ⟨F₁'.same, F₁'.ext, atC, F₁'.ns, ⟨.inl (.inl F.lS.1), F.lS.2⟩, fun x c e => let ⟨p, q, r⟩ := F₁'.cS x c e; ⟨p, .inl (.inl (F.cS x c e).2.1), r⟩, ⟨fun m => (List.mem_cons.mp m).elim g1 F.ol.1, F.ol.2⟩, fun x c e => ⟨fun m => (List.mem_cons.mp m).elim (g2 x c e) (F.oc x c e).1, (F.oc x c e).2⟩,
      ⟨acc, ?_⟩, ?_, fun b m => (List.mem_cons.mp m).elim (fun e => e ▸ g4) (F.oz b), F.zok, accL_ok.own.and F.pok, F₁'.base⟩
    · exact F.pok.move _ _ _ F₁'.own (fun b q => .inl ((hSS b).mp q)) fun b m => .inl (.inl (F.pok.has _ _ F.own b m))
    · exact F.zok.move _ _ _ F₁'.rest (fun b q => .inl ((hSS b).mp q)) fun b m => .inl (.inl (F.zok.has _ _ F.rest b m))
  refine wpAny_assign_Name (store_rule (Γ := (Γ.plus [a]).plus [C]) F₂.at_ (F₂.slot (show asg ((Γ.plus [a]).plus [C]) x = true from ha)) (.raw (.ref a)) fun s'' w At' => ?_)
  have F₃ := F₂.wr (bs := [(x, .raw (.ref a))]) w At'
  have hm' : s''.heap.Ns C m := hm.at' fun o e => w.off C o (Ne.symm f1) (fun y _ q => f2 y C q rfl) e
  exact ⟨m, hm', fun h' hs' => Ex.run (Γ := (Γ.plus [a]).set x (.raw (.ref a))) (k a _ g5 g3 (Fm.sameBut (Γ := (Γ.plus [a]).set x (.raw (.ref a))) F₃ hs' f1 f2 (fun m => (List.mem_cons.mp m).elim (fun e => hne e.symm) f3) f4 f5 fun q => q.elim f6 fun m => hne (List.mem_singleton.mp m).symm))⟩

theorem RepAll.set {prog : Program} {w : World} {S : Addr → Prop} {h : Heap} : ∀ {vs : List Value} {ds : List D} (_ : RepAll prog w S h vs ds) (j : Nat) {v : Value} {d : D}, Rep prog w S h v d → RepAll prog w S h (vs.set j v) (ds.set j d)
  | _, _, .nil, _, _, _, _ => .nil
  | _, _, .cons a r, 0, _, _, q => .cons q r
  | _, _, .cons a r, j + 1, _, _, q => .cons a (r.set j q)

/-- owned[i] = value: a list -/
theorem x_setL {o i value : Expr} {p' pos : Pos} {rest : List Stmt} {a : Addr} {ds : List D} {d : D} {j : Nat} {P1 : (Addr → Prop) → Heap → Prop} {Q : Flow → Shared → Prop} (F : Fm L Γ os (fun S h => AccL Γ.prog Γ.w a ds S h ∧ P1 S h) s) (ha : a ∈ os) (hW : L.W a ∨ L.s₀.heap.get? a = none)
    (pok' : OwnOk (fun S h => AccL Γ.prog Γ.w a (ds.set j d) S h ∧ P1 S h) os) (hP1 : ∀ S h h', Heap.SameBut a h h' → S a → P1 S h → P1 S h')
    (hv : Tr Γ (eval value Γ.env) (fun v h => Γ.R h v d) s) (ho : Ev Γ o (.raw (.ref a))) (hi : ∀ s', Fm L Γ os (fun S h => AccL Γ.prog Γ.w a ds S h ∧ P1 S h) s' → Tr Γ (eval i Γ.env) (fun v h => Γ.R h v (.int j)) s') (hj : j < ds.length) (hz : ds.length ≤ 16384)
    (k : ∀ s', Fm L Γ os (fun S h => AccL Γ.prog Γ.w a (ds.set j d) S h ∧ P1 S h) s' → Ex Γ (execs rest Γ.env) Q s')
    (hs : swapsWith value (some (.Subscript o i p')) pos.line Γ.env = pure false := by rfl) : Ex Γ (execs (.Assign [.Subscript o i p'] value pos :: rest) Γ.env) Q s := by
  refine .mk <| wpAny_execs_cons (wpAny_Assign_Subscript (hv.then' fun v s₁ k₁ r₁ => ?_) hs)
  have F₁ := F.kp k₁
  refine (ho.run s₁ F₁.at_).then' fun ov s₂ k₂ r₂ => ?_
  (first | obtain ⟨_, rfl⟩ := r₂.atom | exact (nsE r₂).elim | exact (snE r₂).elim | exact (ftE r₂).elim | cases r₂)
  have F₂ := F₁.kp k₂
  refine (hi s₂ F₂).then' fun iv s₃ k₃ r₃ => ?_
  have F₃ := F₂.kp k₃
  (first | obtain ⟨_, rfl⟩ := r₃.atom | exact (nsE r₃).elim | exact (snE r₃).elim | exact (ftE r₃).elim | cases r₃)
  obtain ⟨⟨hS, vs, hl, rs⟩, hp⟩ := F₃.own
  have hlen := rs.length
  have rv : Γ.R s₃.heap v d := (r₁.keep k₂.k).keep k₃.k
  obtain ⟨n, hl'⟩ := id hl
  refine ki_setAt (n := n) hl' (by omega) (by omega) (by simp; omega) ?_
  have hh := PySem.IsL.update (h := s₃.heap) hl' (·.setIfInBounds ((j : Int)).toNat v)
  have hs' : Heap.SameBut a s₃.heap (s₃.heap.update a (Obj.mapSeq (·.setIfInBounds ((j : Int)).toNat v))) := Heap.SameBut.update ..
  have hpl : (s₃.heap.update a (Obj.mapSeq (·.setIfInBounds ((j : Int)).toNat v))).PlainList a (vs.toArray.setIfInBounds ((j : Int)).toNat v) := ⟨_, hh⟩
  rw [Int.toNat_natCast, List.setIfInBounds_toArray] at hpl
  refine (k _ (Fm.mut (tk := s₃.toks) F₃ ha hs' (by rw [hh]; rfl) hW pok' ⟨⟨hS, vs.set j v, by simpa using hpl, ?_⟩, hP1 _ _ _ hs' hS hp⟩)).run
  exact (rs.set j rv).ext (Ext.sameBut hs' hS)

/-- owned.append(value) -/
theorem x_append {o value : Expr} {apos cpos pos : Pos} {rest : List Stmt} {a : Addr} {ds : List D} {d : D} {P1 : (Addr → Prop) → Heap → Prop} {Q : Flow → Shared → Prop} (F : Fm L Γ os (fun S h => AccL Γ.prog Γ.w a ds S h ∧ P1 S h) s) (ha : a ∈ os) (hW : L.W a ∨ L.s₀.heap.get? a = none)
    (pok' : OwnOk (fun S h => AccL Γ.prog Γ.w a (ds ++ [d]) S h ∧ P1 S h) os) (hP1 : ∀ S h h', Heap.SameBut a h h' → S a → P1 S h → P1 S h')
    (ho : Ev Γ o (.raw (.ref a))) (hv : Ev Γ value d) (hz : ds.length ≤ sizeLine)
    (k : ∀ s', Fm L Γ os (fun S h => AccL Γ.prog Γ.w a (ds ++ [d]) S h ∧ P1 S h) s' → Ex Γ (execs rest Γ.env) Q s')
    (hbase : attributeBase o "append" Γ.env (eval o Γ.env) = eval o Γ.env := by rfl)
    (hfew : ((backTo cpos (starEach [value] Γ.env)).all (fun x => !x.1) && (backToKw cpos (keywordEach [] Γ.env)).all (fun x => x.1.isSome)
      && decide (([value] : List Expr).length + ([] : List Keyword).length + (if ([] : List Keyword).isEmpty then 0 else 1) < 30)) = true := by rfl)
    (hline : (apos.endLine == cpos.line) = true := by rfl) (htrees : backTo cpos (starEach [value] Γ.env) = [(false, eval value Γ.env)] := by rfl)
    (hi : interactive Γ.env = false := by rfl) : Ex Γ (execs (.Expr (.Call (.Attribute o "append" apos) [value] [] cpos) pos :: rest) Γ.env) Q s := by
  refine .mk <| wpAny_execs_cons (wpAny_Expr (wpAny_Call_append hbase hfew hline htrees ((ho.run s F.at_).then' fun ov s₁ k₁ r₁ => ?_)) hi rfl)
  (first | obtain ⟨_, rfl⟩ := r₁.atom | exact (nsE r₁).elim | exact (snE r₁).elim | exact (ftE r₁).elim | cases r₁)
  have F₁ := F.kp k₁
  obtain ⟨⟨hS₁, vs₁, ⟨n₁, hl₁⟩, rs₁⟩, hp₁⟩ := F₁.own
  refine ⟨a, vs₁.toArray, rfl, ⟨_, n₁, hl₁, rfl, rfl, rfl⟩, (hv.run s₁ F₁.at_).then' fun v s₂ k₂ r₂ => ?_⟩
  have F₂ := F₁.kp k₂
  obtain ⟨⟨hS, vs, hl, rs⟩, hp⟩ := F₂.own
  have hlen := rs.length
  refine wpAny_list_append_plain hl (fun h' hl' hs' => (k _ ?_).run) (by simpa [hlen] using hz)
  refine Fm.mut (tk := s₂.toks) F₂ ha hs' (by obtain ⟨n, e⟩ := hl'; rw [e]; rfl) hW pok' ⟨⟨hS, vs ++ [v], by simpa using hl', ?_⟩, hP1 _ _ _ hs' hS hp⟩
  exact (rs.ext (Ext.sameBut hs' hS)).append (.cons (r₂.ext (Ext.sameBut hs' hS)) .nil)

/-- owned[key] = value, owned[key] += value: a dict -/
theorem x_setD {KK : Type} [DecidableEq KK] (κ : KD KK) {o i value : Expr} {p' pos : Pos} {rest : List Stmt} {a : Addr} {kvs : List (KK × Int)} {key : KK} {x : Int} {P1 : (Addr → Prop) → Heap → Prop} {Q : Flow → Shared → Prop}
    (F : Fm L Γ os (fun S h => AccD Γ.prog Γ.w (κ.knd Γ.prog Γ.w) a kvs S h ∧ P1 S h) s) (ha : a ∈ os) (hW : L.W a ∨ L.s₀.heap.get? a = none)
    (pok' : OwnOk (fun S h => AccD Γ.prog Γ.w (κ.knd Γ.prog Γ.w) a (put kvs key x) S h ∧ P1 S h) os) (hP1 : ∀ S h h', Heap.SameBut a h h' → S a → P1 S h → P1 S h')
    (hv : Ev Γ value (.int x)) (ho : Ev Γ o (.raw (.ref a))) (hi : Ev Γ i (κ.enc key)) (hz : kvs.length ≤ sizeLine)
    (k : ∀ s', Fm L Γ os (fun S h => AccD Γ.prog Γ.w (κ.knd Γ.prog Γ.w) a (put kvs key x) S h ∧ P1 S h) s' → Ex Γ (execs rest Γ.env) Q s')
    (hs : swapsWith value (some (.Subscript o i p')) pos.line Γ.env = pure false := by rfl) : Ex Γ (execs (.Assign [.Subscript o i p'] value pos :: rest) Γ.env) Q s := by
  refine .mk <| wpAny_execs_cons (wpAny_Assign_Subscript ((hv.run s F.at_).then' fun v s₁ k₁ r₁ => ?_) hs)
  have F₁ := F.kp k₁
  refine (ho.run s₁ F₁.at_).then' fun ov s₂ k₂ r₂ => ?_
  (first | obtain ⟨_, rfl⟩ := r₂.atom | exact (nsE r₂).elim | exact (snE r₂).elim | exact (ftE r₂).elim | cases r₂)
  have F₂ := F₁.kp k₂
  refine (hi.run s₂ F₂.at_).then' fun iv s₃ k₃ r₃ => ?_
  have F₃ := F₂.kp k₃
  obtain ⟨⟨hS, hm, us, hd, hk⟩, hp⟩ := F₃.own
  cases r₁ with
  | int _ t =>
  refine wpAny_setItem_pairs (κ.key _ _ _ _ _ _ r₃) hd (fun h' hd' hs' => (k _ ?_).run) (by rw [hk.length]; exact hz)
  exact Fm.mut F₃ ha hs' (by obtain ⟨o, _, _, e, _⟩ := hd'; rw [e]; rfl) hW pok' ⟨⟨hS, hm, _, hd', kv_put hk key x t⟩, hP1 _ _ _ hs' hS hp⟩
theorem x_augD {KK : Type} [DecidableEq KK] (κ : KD KK) {o i value : Expr} {p' pos : Pos} {rest : List Stmt} {a : Addr} {kvs : List (KK × Int)} {key : KK} {x y : Int} {P1 : (Addr → Prop) → Heap → Prop} {Q : Flow → Shared → Prop}
    (F : Fm L Γ os (fun S h => AccD Γ.prog Γ.w (κ.knd Γ.prog Γ.w) a kvs S h ∧ P1 S h) s) (ha : a ∈ os) (hW : L.W a ∨ L.s₀.heap.get? a = none)
    (pok' : OwnOk (fun S h => AccD Γ.prog Γ.w (κ.knd Γ.prog Γ.w) a (put kvs key (x + y)) S h ∧ P1 S h) os) (hP1 : ∀ S h h', Heap.SameBut a h h' → S a → P1 S h → P1 S h')
    (hv : Ev Γ value (.int y)) (ho : Ev Γ o (.raw (.ref a))) (hi : Ev Γ i (κ.enc key)) (hx : lookD kvs key = some x) (hz : kvs.length ≤ sizeLine)
    (k : ∀ s', Fm L Γ os (fun S h => AccD Γ.prog Γ.w (κ.knd Γ.prog Γ.w) a (put kvs key (x + y)) S h ∧ P1 S h) s' → Ex Γ (execs rest Γ.env) Q s')
    (hau : ∀ ov iv new, augStore i ov iv new = (do holding [new, ov, iv] (setItem ov iv new); release [new, ov, iv] []; pure .next) := by intro _ _ _; rfl) : Ex Γ (execs (.AugAssign (.Subscript o i p') .Add value pos :: rest) Γ.env) Q s := by
  refine .mk <| wpAny_execs_cons (wpAny_AugAssign_Subscript_any ((ho.run s F.at_).then' fun ov s₁ k₁ r₁ => ?_) hau)
  (first | obtain ⟨_, rfl⟩ := r₁.atom | exact (nsE r₁).elim | exact (snE r₁).elim | exact (ftE r₁).elim | cases r₁)
  have F₁ := F.kp k₁
  refine (hi.run s₁ F₁.at_).then' fun iv s₂ k₂ r₂ => ?_
  have F₂ := F₁.kp k₂
  have hkey := κ.key _ _ _ _ _ _ r₂
  obtain ⟨⟨hS₂, hm₂, us₂, hd₂, hk₂⟩, hp₂⟩ := F₂.own
  rcases kv_find hk₂ key with ⟨h1, h2⟩ | ⟨i, t, h1, h2⟩
  · rw [hx] at h1; (first | obtain ⟨_, rfl⟩ := h1.atom | exact (nsE h1).elim | exact (snE h1).elim | exact (ftE h1).elim | cases h1)
  rw [hx] at h1; (first | obtain ⟨_, rfl⟩ := h1.atom | exact (nsE h1).elim | exact (snE h1).elim | exact (ftE h1).elim | cases h1)
  refine wpAny_getItem_of hkey hd₂.mapOf h2 ?_
  have F₃ := F₂.kp (Kp.toks s₂ (s₂.toks + 1))
  refine (hv.run _ F₃.at_).then' fun v s₄ k₄ r₄ => ?_
  have F₄ := F₃.kp k₄
  cases r₄ with
  | int _ t' =>
  refine iadd_int ?_
  have F₅ := F₄.kp (Kp.toks s₄ (s₄.toks + 1))
  obtain ⟨⟨hS, hm, us, hd, hk⟩, hp⟩ := F₅.own
  refine wpAny_setItem_pairs hkey hd (fun h' hd' hs' => (k _ ?_).run) (by rw [hk.length]; exact hz)
  exact Fm.mut F₅ ha hs' (by obtain ⟨o, _, _, e, _⟩ := hd'; rw [e]; rfl) hW pok' ⟨⟨hS, hm, _, hd', kv_put hk key (x + y) _⟩, hP1 _ _ _ hs' hS hp⟩

/-- a loop of while -/
theorem x_while {test : Expr} {body orelse rest : List Stmt} {pos : Pos} {Q : Flow → Shared → Prop} (I : Nat → Shared → Prop) (n : Nat) (h : I n s)
    (turn : ∀ n s, I n s → ∃ b, Ex Γ (isTrue test Γ.env (eval test Γ.env)) (fun t s' => t = b ∧ if b then Ex Γ (execs body Γ.env) (fun f s₃ => match f with
        | .next | .cont => ∃ m, m < n ∧ I m s₃
        | .brk => Ex Γ (execs rest Γ.env) Q s₃
        | .ret v => Q (.ret v) s₃) s' else Ex Γ (execs orelse Γ.env) (fun f s₃ => match f with | .next => Ex Γ (execs rest Γ.env) Q s₃ | f => Q f s₃) s') s) : Ex Γ (execs (.While test body orelse pos :: rest) Γ.env) Q s := by
  refine .mk <| wpAny_execs_cons (wpAny_While (codeAny_whileLoop I (fun n s hI => ?_) n h))
  obtain ⟨b, hb⟩ := turn n s hI
  refine wpAny_mono hb.run (fun t s' q => ?_) fun _ _ x => x.elim
  obtain ⟨rfl, q⟩ := q
  cases t with
  | true =>
    simp only [if_true] at q ⊢
    exact wpAny_mono q.run (fun f s₃ z => by (first | obtain ⟨_, rfl⟩ := f.atom | exact (nsE f).elim | exact (snE f).elim | exact (ftE f).elim | cases f) <;> first | exact z | exact z.run) fun _ _ x => x.elim
  | false =>
    simp only [Bool.false_eq_true, if_false] at q ⊢
    exact wpAny_mono q.run (fun f s₃ z => by (first | obtain ⟨_, rfl⟩ := f.atom | exact (nsE f).elim | exact (snE f).elim | exact (ftE f).elim | cases f) <;> first | exact z.run | exact z) fun _ _ x => x.elim
end
-- part PL21
/-- a loop of while, whose state is told by a number -/
theorem x_whileF {L : Lev} {Γ : Ctx} {os : List Addr} {P : (Addr → Prop) → Heap → Prop} {s : Shared} {test : Expr} {body orelse rest : List Stmt} {pos : Pos} {Q : Flow → Shared → Prop} (G : Nat → List (Str × D)) (J : Nat → Prop) (n : Nat) (F : Fm L (Γ.only (G n)) os P s) (j : J n)
    (turn : ∀ n, J n → ∃ b, (∀ s, Fm L (Γ.only (G n)) os P s → Tr (Γ.only (G n)) (isTrue test (Γ.only (G n)).env (eval test (Γ.only (G n)).env)) (fun t _ => t = b) s) ∧
      (b = true → ∀ s, Fm L (Γ.only (G n)) os P s → Ex (Γ.only (G n)) (execs body (Γ.only (G n)).env) (fun f s₃ => match f with
        | .next | .cont => ∃ m, m < n ∧ J m ∧ Fm L (Γ.only (G m)) os P s₃
        | .brk => Ex Γ (execs rest Γ.env) Q s₃
        | .ret v => Q (.ret v) s₃) s) ∧
      (b = false → ∀ s, Fm L (Γ.only (G n)) os P s → Ex (Γ.only (G n)) (execs orelse (Γ.only (G n)).env) (fun f s₃ => match f with | .next => Ex Γ (execs rest Γ.env) Q s₃ | f => Q f s₃) s)) :
    Ex Γ (execs (.While test body orelse pos :: rest) Γ.env) Q s := by
  refine x_while (fun n s => Fm L (Γ.only (G n)) os P s ∧ J n) n ⟨F, j⟩ fun n s h => ?_
  obtain ⟨F, j⟩ := h
  obtain ⟨b, ht, h1, h2⟩ := turn n j
  refine ⟨b, .mk (wpAny_mono (ht s F) (fun t s' q => ?_) fun _ _ x => x)⟩
  obtain ⟨kp, rfl⟩ := q
  refine ⟨rfl, ?_⟩
  have F' := F.kp kp
  cases t with
  | true =>
    refine .mk (wpAny_mono (h1 rfl s' F').run (fun f s₃ z => ?_) fun _ _ x => x)
    cases f with
    | next => obtain ⟨m, a, b, c⟩ := z; exact ⟨m, a, c, b⟩
    | cont => obtain ⟨m, a, b, c⟩ := z; exact ⟨m, a, c, b⟩
    | brk => exact z
    | ret v => exact z
  | false => exact .mk (h2 rfl s' F').run
theorem ex_brk {Γ : Ctx} {s : Shared} {pos : Pos} {rest : List Stmt} {Q : Flow → Shared → Prop} (h : Q .brk s) : Ex Γ (execs (.Break pos :: rest) Γ.env) Q s := .mk (wpAny_execs_cons (wpAny_Break h))

/-- a comprehension's table of names, looked at by computation -/
noncomputable def scopeB (Γ : Ctx) (scope : Scope) (tg : List Str) : Bool :=
  decide (scope.kind = .function) && decide ((scope.names.map (·.1)).Nodup) && scope.names.all (fun p => decide (p.2 ≠ .free) || ((Γ.ρ p.1).isSome && decide (Γ.env.kindOf p.1 ≠ some .local))) &&
    tg.all fun x => decide (scope.names.lookup x = some .local) || decide (scope.names.lookup x = some .cell)
theorem scopeOk_at {Γ : Ctx} {scope : Scope} {tg : List Str} {h : Heap} (C : Γ.At h) (e : scopeB Γ scope tg = true) : ScopeOk Γ scope tg := by
  unfold scopeB at e
  simp only [Bool.and_eq_true, decide_eq_true_eq, List.all_eq_true, Bool.or_eq_true] at e
  obtain ⟨⟨⟨e1, e2⟩, e3⟩, e4⟩ := e
  refine ⟨e1, e2, fun p hp hf => ?_, fun x hx => e4 x hx⟩
  rcases e3 p hp with q | ⟨q, q'⟩
  · exact absurd hf q
  · obtain ⟨d, hd⟩ := Option.isSome_iff_exists.mp q
    obtain ⟨v, hv, _⟩ := C.vars _ _ hd
    rcases hv with ⟨a, _⟩ | ⟨_, c, l, _⟩
    · exact absurd a q'
    · exact ⟨by rw [l]; rfl, q'⟩

theorem Op2.cast {Γ : Ctx} {f : Value → Value → Sem Value} {d1 d2 d d' : D} (h : Op2 Γ f d1 d2 d) (q : d = d') : Op2 Γ f d1 d2 d' := q ▸ h
theorem Ev.cast {Γ : Ctx} {e : Expr} {d d' : D} (h : Ev Γ e d) (q : d = d') : Ev Γ e d' := q ▸ h
theorem EvT.cast {Γ : Ctx} {e : Expr} {b b' : Bool} (h : EvT Γ e b) (q : b = b') : EvT Γ e b' := q ▸ h

/-- range, as numbers -/
theorem iter_range {n : Int} (h0 : 0 ≤ n) (h1 : n < 2 ^ 62) : Iterable (.range 0 n 1) ((List.range n.toNat).map fun i : Nat => D.int (i : Int)) := by
  have := iterable_range1 (a := 0) (b := n) (by omega) (by omega) (by omega) h1
  have e : rangeD 0 1 (n - 0).toNat = (List.range n.toNat).map fun i : Nat => D.int (i : Int) := by simp [rangeD]
  rw [e] at this; exact this
theorem iter_range2 {a b : Int} (ha : -(2 ^ 62) ≤ a) (ha' : a < 2 ^ 62) (hb : -(2 ^ 62) ≤ b) (hb' : b < 2 ^ 62) : Iterable (.range a b 1) ((List.range (b - a).toNat).map fun i : Nat => D.int (a + (i : Int))) := by
  have := iterable_range1 ha ha' hb hb'
  have e : rangeD a 1 (b - a).toNat = (List.range (b - a).toNat).map fun i : Nat => D.int (a + (i : Int)) := by simp [rangeD]
  rw [e] at this; exact this
theorem iter_ints {ns : List Int} : Iterable (.list (ns.map .int)) (ns.map .int) := iterable_list

section
variable {Γ : Ctx}
theorem ev_range {x : Expr} {px p : Pos} {n : Int} (T : TopOk Γ.K) (hk : Γ.env.kindOf "range" = some .globalImplicit) (e : globOf Γ.K "range" = none) (h : Ev Γ x (.int n)) (hp : List.all [x] plainE = true := by rfl) (he : plainE x = true := by rfl) :
    Ev Γ (.Call (.Name "range" px) [x] [] p) (.range 0 n 1) :=
  ev_call (f := .type "range") (ev_blt T hk e (by rfl)) trivial (evs_cons h evs_nil he) fn_range1 hp
theorem ev_range2 {x y : Expr} {px p : Pos} {a b : Int} (T : TopOk Γ.K) (hk : Γ.env.kindOf "range" = some .globalImplicit) (e : globOf Γ.K "range" = none) (h1 : Ev Γ x (.int a)) (h2 : Ev Γ y (.int b)) (hp : List.all [x, y] plainE = true := by rfl) (he : plainE x = true := by rfl) (he2 : plainE y = true := by rfl) : Ev Γ (.Call (.Name "range" px) [x, y] [] p) (.range a b 1) :=
  ev_call (f := .type "range") (ev_blt T hk e (by rfl)) trivial (evs_cons h1 (evs_cons h2 evs_nil he2) he) fn_range2 hp
theorem ev_blt1 {f : Str} {F : Value} {x : Expr} {px p : Pos} {d1 d : D} (T : TopOk Γ.K) (hk : Γ.env.kindOf f = some .globalImplicit) (e : globOf Γ.K f = none) (hb : bootBuiltins f = some F) (hc : Callable Γ.K F) (h : Ev Γ x d1) (fn : Fn Γ.K Γ.prog Γ.w Γ.n F [d1] d) (hn : f ≠ "__name__" := by decide) (hd : (f == ("__debug__" : Str)) = false := by decide)
    (hp : List.all [x] plainE = true := by rfl) (he : plainE x = true := by rfl) : Ev Γ (.Call (.Name f px) [x] [] p) d :=
  ev_call (ev_blt T hk e hb hn hd) hc (evs_cons h evs_nil he) fn hp

section lc
variable {τ : Type} {xs : List τ} {inj : τ → D} {p : τ → Bool} {g : τ → D} {scope : Scope} {d : D} {iter elt : Expr} {ifs : List Expr} {x : Str} {px pos : Pos}
theorem ev_lc (hi : Ev Γ iter d) (hit : Iterable d (xs.map inj)) (hsz : xs.length ≤ sizeLine) (ht : ∀ t ∈ xs, ∀ Da C own wr, TestsOk (Γ.cx scope [(x, inj t)] Da C own wr) ifs (p t))
    (he : ∀ t ∈ xs, p t = true → ∀ Da C own wr, Ev (Γ.cx scope [(x, inj t)] Da C own wr) elt (g t)) (hz : scopeB Γ scope [x] = true := by rfl) (hs : ∀ x, foldedSetIterable iter Γ.env x = pure x := by intro _; rfl) :
    EvNL Γ (.ListComp elt [⟨.Name x px, iter, ifs, 0⟩] scope pos) (pickOut p g xs) := .mk fun s hC =>
  (ev_listcomp (bs := fun t => [(x, inj t)]) (tg := [x]) hi hit (scopeOk_at hC hz) hsz (fun t _ => .name) (fun t _ b hb => by simp at hb; simp [hb]) ht he hs).run s hC
theorem evU_lc (hi : Ev Γ iter d) (hit : Iterable d (xs.map inj)) (hsz : xs.length ≤ sizeLine) (ht : ∀ t ∈ xs, ∀ Da C own wr, TestsOk (Γ.cx scope [(x, inj t)] Da C own wr) ifs (p t))
    (he : ∀ t ∈ xs, p t = true → ∀ Da C own wr, Ev (Γ.cx scope [(x, inj t)] Da C own wr) elt (g t)) (hz : scopeB Γ scope [x] = true := by rfl) (hs : ∀ x, foldedSetIterable iter Γ.env x = pure x := by intro _; rfl) :
    EvU Γ (.ListComp elt [⟨.Name x px, iter, ifs, 0⟩] scope pos) fun Γ h₀ v h => NewL Γ h₀ (pickOut p g xs) v h := .mk fun s use Q hC =>
  (evU_listcomp (bs := fun t => [(x, inj t)]) (tg := [x]) hi hit (scopeOk_at hC hz) hsz (fun t _ => .name) (fun t _ b hb => by simp at hb; simp [hb]) ht he hs).run s use Q hC
/-- without tests -/
theorem pickOut_all (g : τ → D) (xs : List τ) : pickOut (fun _ => true) g xs = xs.map g := by unfold pickOut; rw [List.filter_eq_self.mpr (fun _ _ => rfl)]
theorem ev_lcm (hi : Ev Γ iter d) (hit : Iterable d (xs.map inj)) (hsz : xs.length ≤ sizeLine)
    (he : ∀ t ∈ xs, ∀ Da C own wr, Ev (Γ.cx scope [(x, inj t)] Da C own wr) elt (g t)) (hz : scopeB Γ scope [x] = true := by rfl) (hs : ∀ x, foldedSetIterable iter Γ.env x = pure x := by intro _; rfl) :
    EvNL Γ (.ListComp elt [⟨.Name x px, iter, [], 0⟩] scope pos) (xs.map g) := by
  rw [← pickOut_all]
  exact ev_lc hi hit hsz (fun _ _ _ _ _ _ => tests_nil) (fun t ht _ => he t ht) hz hs
theorem evU_lcm (hi : Ev Γ iter d) (hit : Iterable d (xs.map inj)) (hsz : xs.length ≤ sizeLine)
    (he : ∀ t ∈ xs, ∀ Da C own wr, Ev (Γ.cx scope [(x, inj t)] Da C own wr) elt (g t)) (hz : scopeB Γ scope [x] = true := by rfl) (hs : ∀ x, foldedSetIterable iter Γ.env x = pure x := by intro _; rfl) :
    EvU Γ (.ListComp elt [⟨.Name x px, iter, [], 0⟩] scope pos) fun Γ h₀ v h => NewL Γ h₀ (xs.map g) v h := by
  rw [← pickOut_all]
  exact evU_lc hi hit hsz (fun _ _ _ _ _ _ => tests_nil) (fun t ht _ => he t ht) hz hs
/-- one test -/
theorem ev_lcf {test : Expr} (hi : Ev Γ iter d) (hit : Iterable d (xs.map inj)) (hsz : xs.length ≤ sizeLine) (ht : ∀ t ∈ xs, ∀ Da C own wr, EvT (Γ.cx scope [(x, inj t)] Da C own wr) test (p t))
    (he : ∀ t ∈ xs, p t = true → ∀ Da C own wr, Ev (Γ.cx scope [(x, inj t)] Da C own wr) elt (g t)) (hz : scopeB Γ scope [x] = true := by rfl) (hs : ∀ x, foldedSetIterable iter Γ.env x = pure x := by intro _; rfl) :
    EvNL Γ (.ListComp elt [⟨.Name x px, iter, [test], 0⟩] scope pos) ((xs.filter p).map g) :=
  ev_lc hi hit hsz (fun t h Da C own wr => tests_one (ht t h Da C own wr)) he hz hs
end lc

section dc
variable {K : Type} [DecidableEq K] (κ : KD K) {τ : Type} {xs : List τ} {inj : τ → D} {p : τ → Bool} {gk : τ → K} {gv : τ → Int} {scope : Scope} {d : D} {iter kx vx : Expr} {ifs : List Expr} {x : Str} {px pos : Pos}
theorem ev_dc (hi : Ev Γ iter d) (hit : Iterable d (xs.map inj)) (hsz : xs.length ≤ sizeLine) (ht : ∀ t ∈ xs, ∀ Da C own wr, TestsOk (Γ.cx scope [(x, inj t)] Da C own wr) ifs (p t))
    (he : ∀ t ∈ xs, p t = true → ∀ Da C own wr, Ev (Γ.cx scope [(x, inj t)] Da C own wr) kx (κ.enc (gk t))) (hv : ∀ t ∈ xs, p t = true → ∀ Da C own wr, Ev (Γ.cx scope [(x, inj t)] Da C own wr) vx (.int (gv t)))
    (hn : ((xs.filter p).map gk).Nodup) (hz : scopeB Γ scope [x] = true := by rfl) (hs : ∀ x, foldedSetIterable iter Γ.env x = pure x := by intro _; rfl) :
    EvND Γ (κ.knd Γ.prog Γ.w) (.DictComp kx vx [⟨.Name x px, iter, ifs, 0⟩] scope pos) ((xs.filter p).map fun t => (gk t, gv t)) := .mk fun s hC => by
  rw [← kvOut_new hn]
  exact (ev_dictcomp (bs := fun t => [(x, inj t)]) (dk := fun t => κ.enc (gk t)) (tg := [x]) hi hit (scopeOk_at hC hz) hsz (fun t _ => .name) (fun t _ b hb => by simp at hb; simp [hb]) (fun t _ _ S h v r => κ.key _ _ _ _ _ _ r) ht he hv hs).run s hC
theorem evU_dc (hi : Ev Γ iter d) (hit : Iterable d (xs.map inj)) (hsz : xs.length ≤ sizeLine) (ht : ∀ t ∈ xs, ∀ Da C own wr, TestsOk (Γ.cx scope [(x, inj t)] Da C own wr) ifs (p t))
    (he : ∀ t ∈ xs, p t = true → ∀ Da C own wr, Ev (Γ.cx scope [(x, inj t)] Da C own wr) kx (κ.enc (gk t))) (hv : ∀ t ∈ xs, p t = true → ∀ Da C own wr, Ev (Γ.cx scope [(x, inj t)] Da C own wr) vx (.int (gv t)))
    (hn : ((xs.filter p).map gk).Nodup) (hz : scopeB Γ scope [x] = true := by rfl) (hs : ∀ x, foldedSetIterable iter Γ.env x = pure x := by intro _; rfl) :
    EvU Γ (.DictComp kx vx [⟨.Name x px, iter, ifs, 0⟩] scope pos) fun _ h₀ v h => NewD Γ (κ.knd Γ.prog Γ.w) h₀ ((xs.filter p).map fun t => (gk t, gv t)) v h := .mk fun s use Q hC => by
  rw [← kvOut_new hn]
  exact (evU_dictcomp (bs := fun t => [(x, inj t)]) (dk := fun t => κ.enc (gk t)) (tg := [x]) hi hit (scopeOk_at hC hz) hsz (fun t _ => .name) (fun t _ b hb => by simp at hb; simp [hb]) (fun t _ _ S h v r => κ.key _ _ _ _ _ _ r) ht he hv hs).run s use Q hC
end dc
end

theorem cutBy_map {α β : Type} (f : α → β) (xs : List α) (lo hi st : Option Int) : cutBy (xs.map f) lo hi st = (cutBy xs lo hi st).map f := by
  unfold cutBy
  rw [List.length_map, List.map_filterMap]
  congr 1
  funext i
  rw [List.getElem?_map]
theorem cut_map {α β : Type} (f : α → β) (xs : List α) (lo hi : Option Int) : cut (xs.map f) lo hi = (cut xs lo hi).map f := by
  unfold cut
  rw [List.length_map, List.map_take, List.map_drop]
theorem fmod_nat (a b : Nat) : (a : Int).fmod (b : Int) = ((a % b : Nat) : Int) := (Int.ofNat_fmod a b).symm
theorem fmod_range (a : Int) {b : Int} (hb : 0 < b) : 0 ≤ a.fmod b ∧ a.fmod b < b := ⟨Int.fmod_nonneg_of_pos a hb, Int.fmod_lt_of_pos a hb⟩

theorem cut_from {α : Type} (xs : List α) {i : Int} (h0 : 0 ≤ i) : cut xs (some i) none = xs.drop i.toNat := by
  have e : kms_lo (some i) xs.length = min i.toNat xs.length := if_neg (Int.not_lt.mpr h0)
  have e2 : kms_hi none xs.length = xs.length := rfl
  unfold cut
  rw [e, e2]
  rcases Nat.le_total i.toNat xs.length with q | q
  · rw [Nat.min_eq_left q, List.take_of_length_le (by simp)]
  · rw [Nat.min_eq_right q, List.drop_eq_nil_of_le q, List.drop_eq_nil_of_le (Nat.le_refl _)]; simp
theorem cut_to {α : Type} (xs : List α) {i : Int} (h0 : 0 ≤ i) : cut xs none (some i) = xs.take i.toNat := by
  have e : kms_hi (some i) xs.length = min i.toNat xs.length := if_neg (Int.not_lt.mpr h0)
  have e2 : kms_lo none xs.length = 0 := rfl
  unfold cut
  rw [e, e2, List.drop_zero, Nat.sub_zero]
  rcases Nat.le_total i.toNat xs.length with q | q
  · rw [Nat.min_eq_left q]
  · rw [Nat.min_eq_right q, List.take_of_length_le q, List.take_of_length_le (Nat.le_refl _)]
theorem cut_mid {α : Type} (xs : List α) {i j : Int} (h0 : 0 ≤ i) (h1 : 0 ≤ j) (h : j.toNat ≤ xs.length) : cut xs (some i) (some j) = (xs.drop i.toNat).take (j.toNat - i.toNat) := by
  have e : kms_hi (some j) xs.length = j.toNat := (if_neg (Int.not_lt.mpr h1)).trans (Nat.min_eq_left h)
  have e2 : kms_lo (some i) xs.length = min i.toNat xs.length := if_neg (Int.not_lt.mpr h0)
  unfold cut
  rw [e, e2]
  rcases Nat.le_total i.toNat xs.length with q | q
  · rw [Nat.min_eq_left q]
  · rw [Nat.min_eq_right q, List.drop_eq_nil_of_le q, List.drop_eq_nil_of_le (Nat.le_refl _)]; simp
section
variable {K : Frag} {prog : Program} {w : World} {n : Nat}
theorem fn_min2 {a b : Int} : Fn K prog w n (.builtin "min") [.int a, .int b] (.int (if b < a then b else a)) := .mk fun A base S s vals hr hw r => by
  obtain ⟨v, u, rfl, r₁, r₂⟩ := r.two
  (first | obtain ⟨_, rfl⟩ := r₁.atom | exact (nsE r₁).elim | exact (snE r₁).elim | exact (ftE r₁).elim | cases r₁); (first | obtain ⟨_, rfl⟩ := r₂.atom | exact (nsE r₂).elim | exact (snE r₂).elim | exact (ftE r₂).elim | cases r₂)
  refine min_two_ints hr.1 fun h' tk hk => ⟨Kp.both s h' tk hk, ?_⟩
  split <;> exact .int _ _
end

noncomputable def fdOf (K : Frag) (a : Addr) : FuncData := match K.lookup a with
  | some ⟨_, _, .func fd, _⟩ => fd
  | _ => { name := "", qualname := "", params := default, body := .stmts [], scope := default, globals := 0, closure := [], defaults := .none, kwdefaults := .none, pyModule := .none, code := .none }
noncomputable def bodyOf (fd : FuncData) : List Stmt := match fd.body with
  | .stmts b => b
  | _ => []
theorem sum_take_succ (l : List Int) (k : Nat) (x : Int) (h : l[k]? = some x) : (l.take (k + 1)).sum = (l.take k).sum + x := by
  rw [List.take_add_one, h]; simp
-- part H2
namespace Hd
noncomputable abbrev pw : Program := PySem.Challenge.pw_rw0016_02
noncomputable def st (n : Nat) : Stmt := pw.main.body.getD n (.Pass default)
noncomputable def m187 : Value := .str "cpy313.pstats" 187
noncomputable def m269 : Value := .str "cpy313.re._compiler" 269
noncomputable def m281 : Value := .str "law_rw0016_02" 281
noncomputable def fnO (s : Stmt) (q : Str) (md : Value) (c : Addr) : Obj := match s with
  | .FunctionDef nm ps body _ _ _ sc _ _ _ => { cls := .type "function", data := .func { name := nm, qualname := q, params := ps, body := .stmts body, scope := sc, globals := 3, closure := [], defaults := .none, kwdefaults := .none, pyModule := md, code := .ref c } }
  | _ => default
noncomputable def cdO (l : List Value) : Obj := { cls := .type "code", data := .fields l.toArray }
noncomputable def inCls (s : Stmt) (n : Nat) : Stmt := match s with
  | .ClassDef _ _ _ body _ _ _ _ _ _ _ => body.getD n (.Pass default)
  | _ => .Pass default
noncomputable def en (P : Params) (k : Str) (t : Tok) (v : Value) : DictEntry := { hash := PyData.keyHash P k, key := .str k t, val := v }
noncomputable def frag (P : Params) : Frag :=
  [(3, { cls := .type "dict", data := .dict #[en P "__name__" 165 (.str "law_rw0016_02" 281), en P "__doc__" 166 (.none), en P "__package__" 167 (.none), en P "__loader__" 168 (.builtin "__main__.__loader__#opaque"), en P "__spec__" 169 (.none), en P "__annotations__" 170 (.ref 6), en P "__builtins__" 171 (.ref 4), en P "__file__" 173 (.str "/claim/cut.py" 172), en P "__cached__" 174 (.none), en P "TupleComp" 230 (.ref 38), en P "add_func_stats" 248 (.ref 49), en P "add_callers" 259 (.ref 56), en P "count_calls" 268 (.ref 63), en P "_generate_overlap_table" 280 (.ref 70), en P "_law_word" 288 (.ref 75), en P "_law_next" 299 (.ref 82), en P "_law_longest" 305 (.ref 87), en P "_law_books" 311 (.ref 92), en P "_law_added" 321 (.ref 99), en P "_law_run" 327 (.ref 104), en P "_law_due" 333 (.ref 109), en P "law" 339 (.ref 114)] 22 }),
   (27, cdO [.str "__init__" 201, .str "TupleComp.__init__" 202, .str "/claim/cut.py" 203, .int 4 0, .int 2 0, .int 0 0, .int 0 0, .int 3 0, .ref 22, .bool true, .int 181 0, .ref 23, .none, .ref 24, .ref 25, .ref 26, .int 206 0, .int 4 0, .str "/claim/cut.py" 207]),
   (28, fnO (inCls (st 1) 0) "TupleComp.__init__" m187 27),
   (34, cdO [.str "compare" 209, .str "TupleComp.compare" 210, .str "/claim/cut.py" 211, .int 7 0, .int 3 0, .int 0 0, .int 0 0, .int 3 0, .ref 29, .bool true, .int 181 0, .ref 30, .none, .ref 31, .ref 32, .ref 33, .int 219 0, .int 7 0, .str "/claim/cut.py" 220]),
   (35, fnO (inCls (st 1) 1) "TupleComp.compare" m187 34),
   (37, { cls := .type "dict", data := .dict #[en P "__module__" 196 (.str "cpy313.pstats" 187), en P "__firstlineno__" 200 (.int 2 199), en P "__init__" 208 (.ref 28), en P "compare" 221 (.ref 35), en P "__static_attributes__" 223 (.ref 36), en P "__dict__" 225 (.ref 39), en P "__weakref__" 227 (.ref 40), en P "__doc__" 228 (.none)] 4 }),
   (38, { cls := Value.type "type", data := Data.cls { name := "TupleComp", bases := [Value.type "object"], mro := [Value.ref 38, Value.type "object"], ns := 37, qualname := "TupleComp" }, slots := #[none, none, some (Value.str ("TupleComp") 189), some (Value.str ("TupleComp") 197), some (Value.builtin "object.__new__"), some (Value.bool true)] }),
   (48, cdO [.str "add_func_stats" 231, .str "add_func_stats" 232, .str "/claim/cut.py" 233, .int 16 0, .int 2 0, .int 0 0, .int 0 0, .int 3 0, .ref 43, .bool true, .int 181 0, .ref 44, .none, .ref 45, .ref 46, .ref 47, .int 246 0, .int 16 0, .str "/claim/cut.py" 247]),
   (49, fnO (st 2) "add_func_stats" m187 48),
   (55, cdO [.str "add_callers" 249, .str "add_callers" 250, .str "/claim/cut.py" 251, .int 20 0, .int 2 0, .int 0 0, .int 0 0, .int 3 0, .ref 50, .bool true, .int 181 0, .ref 51, .none, .ref 52, .ref 53, .ref 54, .int 257 0, .int 20 0, .str "/claim/cut.py" 258]),
   (56, fnO (st 3) "add_callers" m187 55),
   (62, cdO [.str "count_calls" 260, .str "count_calls" 261, .str "/claim/cut.py" 262, .int 33 0, .int 1 0, .int 0 0, .int 0 0, .int 3 0, .ref 57, .bool true, .int 181 0, .ref 58, .none, .ref 59, .ref 60, .ref 61, .int 266 0, .int 33 0, .str "/claim/cut.py" 267]),
   (63, fnO (st 4) "count_calls" m187 62),
   (69, cdO [.str "_generate_overlap_table" 271, .str "_generate_overlap_table" 272, .str "/claim/cut.py" 273, .int 39 0, .int 1 0, .int 0 0, .int 0 0, .int 3 0, .ref 64, .bool true, .int 181 0, .ref 65, .none, .ref 66, .ref 67, .ref 68, .int 278 0, .int 39 0, .str "/claim/cut.py" 279]),
   (70, fnO (st 6) "_generate_overlap_table" m269 69),
   (74, cdO [.str "_law_word" 283, .str "_law_word" 284, .str "/claim/cut.py" 285, .int 52 0, .int 1 0, .int 0 0, .int 0 0, .int 3 0, .ref 71, .bool true, .int 181 0, .ref 72, .none, .none, .none, .ref 73, .int 286 0, .int 52 0, .str "/claim/cut.py" 287]),
   (75, fnO (st 8) "_law_word" m281 74),
   (81, cdO [.str "_law_next" 289, .str "_law_next" 290, .str "/claim/cut.py" 291, .int 58 0, .int 4 0, .int 0 0, .int 0 0, .int 3 0, .ref 76, .bool true, .int 181 0, .ref 77, .none, .ref 78, .ref 79, .ref 80, .int 297 0, .int 58 0, .str "/claim/cut.py" 298]),
   (82, fnO (st 9) "_law_next" m281 81),
   (86, cdO [.str "_law_longest" 300, .str "_law_longest" 301, .str "/claim/cut.py" 302, .int 66 0, .int 2 0, .int 0 0, .int 0 0, .int 3 0, .ref 83, .bool true, .int 181 0, .ref 84, .none, .none, .none, .ref 85, .int 303 0, .int 66 0, .str "/claim/cut.py" 304]),
   (87, fnO (st 10) "_law_longest" m281 86),
   (91, cdO [.str "_law_books" 306, .str "_law_books" 307, .str "/claim/cut.py" 308, .int 68 0, .int 1 0, .int 0 0, .int 0 0, .int 3 0, .ref 88, .bool true, .int 181 0, .ref 89, .none, .none, .none, .ref 90, .int 309 0, .int 68 0, .str "/claim/cut.py" 310]),
   (92, fnO (st 11) "_law_books" m281 91),
   (98, cdO [.str "_law_added" 312, .str "_law_added" 313, .str "/claim/cut.py" 314, .int 79 0, .int 2 0, .int 0 0, .int 0 0, .int 3 0, .ref 93, .bool true, .int 181 0, .ref 94, .none, .ref 95, .ref 96, .ref 97, .int 319 0, .int 79 0, .str "/claim/cut.py" 320]),
   (99, fnO (st 12) "_law_added" m281 98),
   (103, cdO [.str "_law_run" 322, .str "_law_run" 323, .str "/claim/cut.py" 324, .int 87 0, .int 3 0, .int 0 0, .int 0 0, .int 3 0, .ref 100, .bool true, .int 181 0, .ref 101, .none, .none, .none, .ref 102, .int 325 0, .int 87 0, .str "/claim/cut.py" 326]),
   (104, fnO (st 13) "_law_run" m281 103),
   (108, cdO [.str "_law_due" 328, .str "_law_due" 329, .str "/claim/cut.py" 330, .int 97 0, .int 2 0, .int 0 0, .int 0 0, .int 3 0, .ref 105, .bool true, .int 181 0, .ref 106, .none, .none, .none, .ref 107, .int 331 0, .int 97 0, .str "/claim/cut.py" 332]),
   (109, fnO (st 14) "_law_due" m281 108),
   (113, cdO [.str "law" 334, .str "law" 335, .str "/claim/cut.py" 336, .int 109 0, .int 1 0, .int 0 0, .int 0 0, .int 3 0, .ref 110, .bool true, .int 181 0, .ref 111, .none, .none, .none, .ref 112, .int 337 0, .int 109 0, .str "/claim/cut.py" 338]),
   (114, fnO (st 15) "law" m281 113)]
noncomputable def addrs : List Addr := [3, 27, 28, 34, 35, 37, 38, 48, 49, 55, 56, 62, 63, 69, 70, 74, 75, 81, 82, 86, 87, 91, 92, 98, 99, 103, 104, 108, 109, 113, 114]
noncomputable def view : Program := { pw with main := { pw.main with body := [st 1, st 2, st 3, st 4, st 6, st 8, st 9, st 10, st 11, st 12, st 13, st 14, st 15] } }
noncomputable def lawDef : DefRec := match st 15 with
  | .FunctionDef nm ps body _ _ _ sc _ _ pos => ⟨nm, ps, body, sc, pos⟩
  | _ => ⟨"", default, [], default, default⟩
theorem addrs_ok (P : Params) : addrs = (frag P).map (·.1) := rfl
noncomputable def hook : Hook := kHook frag addrs addrs_ok
theorem said : PySem.Challenge.rw_rw0016_02.wellSaid = true := by
  rw [Fast.te9446332074065402090]
  kernel_rfl
theorem boot1 : opening pw = plainProg pw.main.scope.names := by kernel_rfl
theorem boot2 (s : Shared) : fenceModules? pw s = some s := by kernel_rfl
theorem leftTop (w : World) (os : OsState) : (topFrom treeTable pw w 1412 { heap := boot_heap w.params, gens := Array.mk [], drawn := boot_drawn, toks := boot_toks, os := os }).map (fun s => (openSeen view [] (importedModules pw.main.body) (fun s => xlAt view [] s && recOk [] s) true s, Hook.obs hook s)) =
    some (openGood view [], Hook.val hook w) := by
  unfold topFrom
  rw [Fast.te14082659384304107361, Fast.te14364793385576792824, Fast.te4187177175401517315, Fast.te5923862056798008813]
  kernel_rfl
theorem left : LeftO pw view [] (fun s => xlAt view [] s && recOk [] s) (Hook.obs hook) (Hook.val hook) 1412 := fun w => by
  obtain ⟨s, hs, hv⟩ := Option.map_eq_some_iff.mp (boot_open (p := pw) (N := 1412) boot1 (by decide) boot2 w)
  show ((fencedOpening treeTable pw w 1412).bind (topFrom treeTable pw w 1412)).map _ = _
  rw [hs]
  obtain ⟨heap, gens, drawn, toks, os⟩ := s
  simp only [Prod.mk.injEq] at hv
  obtain ⟨rfl, rfl, rfl, rfl⟩ := hv
  rw [Option.bind_some]; exact leftTop w os
theorem hdef : defOf view "law" = some (lawDef, []) := by kernel_rfl
theorem hthe : pw.theDef "law" = some (lawDef.params, lawDef.body, lawDef.scope) := by kernel_rfl
theorem hkw : kwWritten? lawDef.params.kwonlyargs lawDef.params.kw_defaults = some [] := by kernel_rfl
theorem hchains : (chainsOk view && opensWell pw && (frees PySem.Challenge.rw_rw0016_02.row.toRowW && PySem.Challenge.rw_rw0016_02.row.within.isEmpty)) = true := by decide +kernel
theorem hbare : pw.bare := ⟨rfl, rfl, rfl, rfl, rfl, by decide +kernel⟩
theorem hprom : PySem.Challenge.rw_rw0016_02.row.toRowW.promised := ⟨[.list []], by decide +kernel, by decide +kernel⟩
theorem hd (walk : WalkO view [] (XL view []) hook.says PySem.Challenge.rw_rw0016_02.row.toRowW lawDef [] fun f vs => PySem.call f vs) : PySem.Challenge.rw_rw0016_02.Holds := by
  refine holds_law said fun said' => ?_
  exact holds_open (q := view) (loose := []) (Xt := fun s => xlAt view [] s && recOk [] s) (XP := XL view []) (Yf := Hook.obs hook) (Ya := Hook.val hook) (YP := Hook.says hook) (N := 1412) left (Hook.of hook) (Hook.keeps hook)
    (fun s e => xl_of s (Bool.and_eq_true_iff.mp e).1) XL.keeps hdef hthe hkw (fun s e => recFacts_of (Bool.and_eq_true_iff.mp e).2) rfl said' hchains hbare hprom walk
end Hd
-- part F0
noncomputable def Kf (w : World) : Frag := Hd.frag w.params
theorem topOk {w : World} : TopOk (Kf w) := ⟨_, _, _, _, _, rfl⟩
section
variable {w : World}
theorem g_len : globOf (Kf w) "len" = none := id rfl
theorem g_sum : globOf (Kf w) "sum" = none := id rfl
theorem g_range : globOf (Kf w) "range" = none := id rfl
theorem g_max : globOf (Kf w) "max" = none := id rfl
theorem g_min : globOf (Kf w) "min" = none := id rfl
theorem g_abs : globOf (Kf w) "abs" = none := id rfl
theorem g_isinstance : globOf (Kf w) "isinstance" = none := id rfl
theorem g_sorted : globOf (Kf w) "sorted" = none := id rfl
theorem g_set : globOf (Kf w) "set" = none := id rfl
theorem g_list : globOf (Kf w) "list" = none := id rfl
theorem g_dict : globOf (Kf w) "dict" = none := id rfl
theorem g_bool : globOf (Kf w) "bool" = none := id rfl
theorem g_int : globOf (Kf w) "int" = none := id rfl
theorem g_tuple : globOf (Kf w) "tuple" = none := id rfl
theorem b_len : bootBuiltins "len" = some (.builtin "len") := id rfl
theorem b_sum : bootBuiltins "sum" = some (.builtin "sum") := id rfl
theorem b_max : bootBuiltins "max" = some (.builtin "max") := id rfl
theorem b_min : bootBuiltins "min" = some (.builtin "min") := id rfl
theorem b_abs : bootBuiltins "abs" = some (.builtin "abs") := id rfl
theorem b_isinstance : bootBuiltins "isinstance" = some (.builtin "isinstance") := id rfl
theorem b_sorted : bootBuiltins "sorted" = some (.builtin "sorted") := id rfl
theorem b_range : bootBuiltins "range" = some (.type "range") := id rfl
theorem b_set : bootBuiltins "set" = some (.type "set") := id rfl
theorem b_list : bootBuiltins "list" = some (.type "list") := id rfl
theorem b_dict : bootBuiltins "dict" = some (.type "dict") := id rfl
theorem b_bool : bootBuiltins "bool" = some (.type "bool") := id rfl
theorem b_int : bootBuiltins "int" = some (.type "int") := id rfl
theorem b_tuple : bootBuiltins "tuple" = some (.type "tuple") := id rfl
theorem c_len {Γ : Ctx} {x : Expr} {px p : Pos} {d1 d : D} (hK : Γ.K = Kf w) (hk : Γ.env.kindOf "len" = some .globalImplicit) (h : Ev Γ x d1) (fn : Fn (Kf w) Γ.prog Γ.w Γ.n (.builtin "len") [d1] d)
    (hp : List.all [x] plainE = true := by rfl) (he : plainE x = true := by rfl) : Ev Γ (.Call (.Name "len" px) [x] [] p) d :=
  ev_blt1 (F := .builtin "len") (hK ▸ topOk) hk (hK ▸ g_len) b_len trivial h (hK ▸ fn) (by decide) (by decide) hp he
theorem c_sum {Γ : Ctx} {x : Expr} {px p : Pos} {d1 d : D} (hK : Γ.K = Kf w) (hk : Γ.env.kindOf "sum" = some .globalImplicit) (h : Ev Γ x d1) (fn : Fn (Kf w) Γ.prog Γ.w Γ.n (.builtin "sum") [d1] d)
    (hp : List.all [x] plainE = true := by rfl) (he : plainE x = true := by rfl) : Ev Γ (.Call (.Name "sum" px) [x] [] p) d :=
  ev_blt1 (F := .builtin "sum") (hK ▸ topOk) hk (hK ▸ g_sum) b_sum trivial h (hK ▸ fn) (by decide) (by decide) hp he
theorem c_max {Γ : Ctx} {x : Expr} {px p : Pos} {d1 d : D} (hK : Γ.K = Kf w) (hk : Γ.env.kindOf "max" = some .globalImplicit) (h : Ev Γ x d1) (fn : Fn (Kf w) Γ.prog Γ.w Γ.n (.builtin "max") [d1] d)
    (hp : List.all [x] plainE = true := by rfl) (he : plainE x = true := by rfl) : Ev Γ (.Call (.Name "max" px) [x] [] p) d :=
  ev_blt1 (F := .builtin "max") (hK ▸ topOk) hk (hK ▸ g_max) b_max trivial h (hK ▸ fn) (by decide) (by decide) hp he
theorem c_abs {Γ : Ctx} {x : Expr} {px p : Pos} {d1 d : D} (hK : Γ.K = Kf w) (hk : Γ.env.kindOf "abs" = some .globalImplicit) (h : Ev Γ x d1) (fn : Fn (Kf w) Γ.prog Γ.w Γ.n (.builtin "abs") [d1] d)
    (hp : List.all [x] plainE = true := by rfl) (he : plainE x = true := by rfl) : Ev Γ (.Call (.Name "abs" px) [x] [] p) d :=
  ev_blt1 (F := .builtin "abs") (hK ▸ topOk) hk (hK ▸ g_abs) b_abs trivial h (hK ▸ fn) (by decide) (by decide) hp he
theorem c_min2 {Γ : Ctx} {x y : Expr} {px p : Pos} {d1 d2 d : D} (hK : Γ.K = Kf w) (hk : Γ.env.kindOf "min" = some .globalImplicit) (h1 : Ev Γ x d1) (h2 : Ev Γ y d2) (fn : Fn (Kf w) Γ.prog Γ.w Γ.n (.builtin "min") [d1, d2] d)
    (hp : List.all [x, y] plainE = true := by rfl) (he : plainE x = true := by rfl) (he2 : plainE y = true := by rfl) : Ev Γ (.Call (.Name "min" px) [x, y] [] p) d :=
  ev_call (f := .builtin "min") (ev_blt (hK ▸ topOk) hk (hK ▸ g_min) b_min (by decide) (by decide)) trivial (evs_cons h1 (evs_cons h2 evs_nil he2) he) (hK ▸ fn) hp
theorem c_isi_list {Γ : Ctx} {x : Expr} {px py p : Pos} {d1 : D} {b : Bool} (hK : Γ.K = Kf w) (hk : Γ.env.kindOf "isinstance" = some .globalImplicit) (hk2 : Γ.env.kindOf "list" = some .globalImplicit) (h1 : Ev Γ x d1) (fn : Fn (Kf w) Γ.prog Γ.w Γ.n (.builtin "isinstance") [d1, .raw (.type "list")] (.bool b))
    (hp : List.all [x, .Name "list" py] plainE = true := by rfl) (he : plainE x = true := by rfl) : Ev Γ (.Call (.Name "isinstance" px) [x, .Name "list" py] [] p) (.bool b) :=
  ev_call (f := .builtin "isinstance") (ev_blt (hK ▸ topOk) hk (hK ▸ g_isinstance) b_isinstance (by decide) (by decide)) trivial (evs_cons h1 (evs_cons (ev_blt (hK ▸ topOk) hk2 (hK ▸ g_list) b_list (by decide) (by decide)) evs_nil rfl) he) (hK ▸ fn) hp
theorem c_isi_bool {Γ : Ctx} {x : Expr} {px py p : Pos} {d1 : D} {b : Bool} (hK : Γ.K = Kf w) (hk : Γ.env.kindOf "isinstance" = some .globalImplicit) (hk2 : Γ.env.kindOf "bool" = some .globalImplicit) (h1 : Ev Γ x d1) (fn : Fn (Kf w) Γ.prog Γ.w Γ.n (.builtin "isinstance") [d1, .raw (.type "bool")] (.bool b))
    (hp : List.all [x, .Name "bool" py] plainE = true := by rfl) (he : plainE x = true := by rfl) : Ev Γ (.Call (.Name "isinstance" px) [x, .Name "bool" py] [] p) (.bool b) :=
  ev_call (f := .builtin "isinstance") (ev_blt (hK ▸ topOk) hk (hK ▸ g_isinstance) b_isinstance (by decide) (by decide)) trivial (evs_cons h1 (evs_cons (ev_blt (hK ▸ topOk) hk2 (hK ▸ g_bool) b_bool (by decide) (by decide)) evs_nil rfl) he) (hK ▸ fn) hp
theorem c_isi_int {Γ : Ctx} {x : Expr} {px py p : Pos} {d1 : D} {b : Bool} (hK : Γ.K = Kf w) (hk : Γ.env.kindOf "isinstance" = some .globalImplicit) (hk2 : Γ.env.kindOf "int" = some .globalImplicit) (h1 : Ev Γ x d1) (fn : Fn (Kf w) Γ.prog Γ.w Γ.n (.builtin "isinstance") [d1, .raw (.type "int")] (.bool b))
    (hp : List.all [x, .Name "int" py] plainE = true := by rfl) (he : plainE x = true := by rfl) : Ev Γ (.Call (.Name "isinstance" px) [x, .Name "int" py] [] p) (.bool b) :=
  ev_call (f := .builtin "isinstance") (ev_blt (hK ▸ topOk) hk (hK ▸ g_isinstance) b_isinstance (by decide) (by decide)) trivial (evs_cons h1 (evs_cons (ev_blt (hK ▸ topOk) hk2 (hK ▸ g_int) b_int (by decide) (by decide)) evs_nil rfl) he) (hK ▸ fn) hp
theorem c_isi_tuple {Γ : Ctx} {x : Expr} {px py p : Pos} {d1 : D} {b : Bool} (hK : Γ.K = Kf w) (hk : Γ.env.kindOf "isinstance" = some .globalImplicit) (hk2 : Γ.env.kindOf "tuple" = some .globalImplicit) (h1 : Ev Γ x d1) (fn : Fn (Kf w) Γ.prog Γ.w Γ.n (.builtin "isinstance") [d1, .raw (.type "tuple")] (.bool b))
    (hp : List.all [x, .Name "tuple" py] plainE = true := by rfl) (he : plainE x = true := by rfl) : Ev Γ (.Call (.Name "isinstance" px) [x, .Name "tuple" py] [] p) (.bool b) :=
  ev_call (f := .builtin "isinstance") (ev_blt (hK ▸ topOk) hk (hK ▸ g_isinstance) b_isinstance (by decide) (by decide)) trivial (evs_cons h1 (evs_cons (ev_blt (hK ▸ topOk) hk2 (hK ▸ g_tuple) b_tuple (by decide) (by decide)) evs_nil rfl) he) (hK ▸ fn) hp
theorem c_range {Γ : Ctx} {x : Expr} {px p : Pos} {n : Int} (hK : Γ.K = Kf w) (hk : Γ.env.kindOf "range" = some .globalImplicit) (h : Ev Γ x (.int n))
    (hp : List.all [x] plainE = true := by rfl) (he : plainE x = true := by rfl) : Ev Γ (.Call (.Name "range" px) [x] [] p) (.range 0 n 1) :=
  ev_range (hK ▸ topOk) hk (hK ▸ g_range) h hp he
theorem c_range2 {Γ : Ctx} {x y : Expr} {px p : Pos} {a b : Int} (hK : Γ.K = Kf w) (hk : Γ.env.kindOf "range" = some .globalImplicit) (h1 : Ev Γ x (.int a)) (h2 : Ev Γ y (.int b)) (hp : List.all [x, y] plainE = true := by rfl)
    (he : plainE x = true := by rfl) (he2 : plainE y = true := by rfl) : Ev Γ (.Call (.Name "range" px) [x, y] [] p) (.range a b 1) :=
  ev_range2 (hK ▸ topOk) hk (hK ▸ g_range) h1 h2 hp he he2
theorem g75 : globOf (Kf w) "_law_word" = some (.ref 75) := id rfl
theorem g70 : globOf (Kf w) "_generate_overlap_table" = some (.ref 70) := id rfl
theorem g82 : globOf (Kf w) "_law_next" = some (.ref 82) := id rfl
theorem g87 : globOf (Kf w) "_law_longest" = some (.ref 87) := id rfl
theorem g56 : globOf (Kf w) "add_callers" = some (.ref 56) := id rfl
theorem g49 : globOf (Kf w) "add_func_stats" = some (.ref 49) := id rfl
theorem g63 : globOf (Kf w) "count_calls" = some (.ref 63) := id rfl
theorem g92 : globOf (Kf w) "_law_books" = some (.ref 92) := id rfl
theorem g99 : globOf (Kf w) "_law_added" = some (.ref 99) := id rfl
theorem g104 : globOf (Kf w) "_law_run" = some (.ref 104) := id rfl
theorem g109 : globOf (Kf w) "_law_due" = some (.ref 109) := id rfl
theorem g38 : globOf (Kf w) "TupleComp" = some (.ref 38) := id rfl
theorem len1 {α : Type} : ∀ {l : List α}, l.length = 1 → ∃ a, l = [a]
  | [a], _ => ⟨a, rfl⟩
theorem len2 {α : Type} {l : List α} (h : l.length = 2) : ∃ a b, l = [a, b] := by
  cases l with
  | nil => cases h
  | cons a l => obtain ⟨b, e⟩ := len1 (Nat.succ.inj h); exact ⟨a, b, congrArg _ e⟩
theorem len3 {α : Type} {l : List α} (h : l.length = 3) : ∃ a b c, l = [a, b, c] := by
  cases l with
  | nil => cases h
  | cons a l => obtain ⟨b, c, e⟩ := len2 (Nat.succ.inj h); exact ⟨a, b, c, congrArg _ e⟩
theorem len4 {α : Type} {l : List α} (h : l.length = 4) : ∃ a b c d, l = [a, b, c, d] := by
  cases l with
  | nil => cases h
  | cons a l => obtain ⟨b, c, d, e⟩ := len3 (Nat.succ.inj h); exact ⟨a, b, c, d, congrArg _ e⟩
noncomputable def fn63 (w : World) : { fd : FuncData // ∃ c d sl, (Kf w).lookup 63 = some ⟨c, d, .func fd, sl⟩ } := ⟨_, _, _, _, rfl⟩
theorem ok63 : FnOk (Kf w) 63 (fn63 w).1 (bodyOf (fn63 w).1) ["callers"] where
  at_ := (fn63 w).2
  code := ⟨_, _, _, _, _, _, rfl, rfl, rfl⟩
  body := rfl
  clo := rfl
  glob := rfl
  blt := rfl
  kind := rfl
  co := rfl
  gen := rfl
  names := of_decide_eq_true rfl
  params := of_decide_eq_true rfl
  kinds := of_decide_eq_true rfl
  binds := by
    intro vals h
    obtain ⟨v0, rfl⟩ := len1 h
    rfl
noncomputable def fn75 (w : World) : { fd : FuncData // ∃ c d sl, (Kf w).lookup 75 = some ⟨c, d, .func fd, sl⟩ } := ⟨_, _, _, _, rfl⟩
theorem ok75 : FnOk (Kf w) 75 (fn75 w).1 (bodyOf (fn75 w).1) ["nums"] where
  at_ := (fn75 w).2
  code := ⟨_, _, _, _, _, _, rfl, rfl, rfl⟩
  body := rfl
  clo := rfl
  glob := rfl
  blt := rfl
  kind := rfl
  co := rfl
  gen := rfl
  names := of_decide_eq_true rfl
  params := of_decide_eq_true rfl
  kinds := of_decide_eq_true rfl
  binds := by
    intro vals h
    obtain ⟨v0, rfl⟩ := len1 h
    rfl
noncomputable def fn70 (w : World) : { fd : FuncData // ∃ c d sl, (Kf w).lookup 70 = some ⟨c, d, .func fd, sl⟩ } := ⟨_, _, _, _, rfl⟩
theorem ok70 : FnOk (Kf w) 70 (fn70 w).1 (bodyOf (fn70 w).1) ["prefix"] where
  at_ := (fn70 w).2
  code := ⟨_, _, _, _, _, _, rfl, rfl, rfl⟩
  body := rfl
  clo := rfl
  glob := rfl
  blt := rfl
  kind := rfl
  co := rfl
  gen := rfl
  names := of_decide_eq_true rfl
  params := of_decide_eq_true rfl
  kinds := of_decide_eq_true rfl
  binds := by
    intro vals h
    obtain ⟨v0, rfl⟩ := len1 h
    rfl
noncomputable def fn82 (w : World) : { fd : FuncData // ∃ c d sl, (Kf w).lookup 82 = some ⟨c, d, .func fd, sl⟩ } := ⟨_, _, _, _, rfl⟩
theorem ok82 : FnOk (Kf w) 82 (fn82 w).1 (bodyOf (fn82 w).1) ["word", "table", "size", "letter"] where
  at_ := (fn82 w).2
  code := ⟨_, _, _, _, _, _, rfl, rfl, rfl⟩
  body := rfl
  clo := rfl
  glob := rfl
  blt := rfl
  kind := rfl
  co := rfl
  gen := rfl
  names := of_decide_eq_true rfl
  params := of_decide_eq_true rfl
  kinds := of_decide_eq_true rfl
  binds := by
    intro vals h
    obtain ⟨v0, v1, v2, v3, rfl⟩ := len4 h
    rfl
noncomputable def fn87 (w : World) : { fd : FuncData // ∃ c d sl, (Kf w).lookup 87 = some ⟨c, d, .func fd, sl⟩ } := ⟨_, _, _, _, rfl⟩
theorem ok87 : FnOk (Kf w) 87 (fn87 w).1 (bodyOf (fn87 w).1) ["word", "seen"] where
  at_ := (fn87 w).2
  code := ⟨_, _, _, _, _, _, rfl, rfl, rfl⟩
  body := rfl
  clo := rfl
  glob := rfl
  blt := rfl
  kind := rfl
  co := rfl
  gen := rfl
  names := of_decide_eq_true rfl
  params := of_decide_eq_true rfl
  kinds := of_decide_eq_true rfl
  binds := by
    intro vals h
    obtain ⟨v0, v1, rfl⟩ := len2 h
    rfl
noncomputable def fn35 (w : World) : { fd : FuncData // ∃ c d sl, (Kf w).lookup 35 = some ⟨c, d, .func fd, sl⟩ } := ⟨_, _, _, _, rfl⟩
theorem ok35 : FnOk (Kf w) 35 (fn35 w).1 (bodyOf (fn35 w).1) ["self", "left", "right"] where
  at_ := (fn35 w).2
  code := ⟨_, _, _, _, _, _, rfl, rfl, rfl⟩
  body := rfl
  clo := rfl
  glob := rfl
  blt := rfl
  kind := rfl
  co := rfl
  gen := rfl
  names := of_decide_eq_true rfl
  params := of_decide_eq_true rfl
  kinds := of_decide_eq_true rfl
  binds := by
    intro vals h
    obtain ⟨v0, v1, v2, rfl⟩ := len3 h
    rfl
noncomputable def fn28 (w : World) : { fd : FuncData // ∃ c d sl, (Kf w).lookup 28 = some ⟨c, d, .func fd, sl⟩ } := ⟨_, _, _, _, rfl⟩
theorem ok28 : FnOk (Kf w) 28 (fn28 w).1 (bodyOf (fn28 w).1) ["self", "comp_select_list"] where
  at_ := (fn28 w).2
  code := ⟨_, _, _, _, _, _, rfl, rfl, rfl⟩
  body := rfl
  clo := rfl
  glob := rfl
  blt := rfl
  kind := rfl
  co := rfl
  gen := rfl
  names := of_decide_eq_true rfl
  params := of_decide_eq_true rfl
  kinds := of_decide_eq_true rfl
  binds := by
    intro vals h
    obtain ⟨v0, v1, rfl⟩ := len2 h
    rfl
noncomputable def fn56 (w : World) : { fd : FuncData // ∃ c d sl, (Kf w).lookup 56 = some ⟨c, d, .func fd, sl⟩ } := ⟨_, _, _, _, rfl⟩
theorem ok56 : FnOk (Kf w) 56 (fn56 w).1 (bodyOf (fn56 w).1) ["target", "source"] where
  at_ := (fn56 w).2
  code := ⟨_, _, _, _, _, _, rfl, rfl, rfl⟩
  body := rfl
  clo := rfl
  glob := rfl
  blt := rfl
  kind := rfl
  co := rfl
  gen := rfl
  names := of_decide_eq_true rfl
  params := of_decide_eq_true rfl
  kinds := of_decide_eq_true rfl
  binds := by
    intro vals h
    obtain ⟨v0, v1, rfl⟩ := len2 h
    rfl
noncomputable def fn49 (w : World) : { fd : FuncData // ∃ c d sl, (Kf w).lookup 49 = some ⟨c, d, .func fd, sl⟩ } := ⟨_, _, _, _, rfl⟩
theorem ok49 : FnOk (Kf w) 49 (fn49 w).1 (bodyOf (fn49 w).1) ["target", "source"] where
  at_ := (fn49 w).2
  code := ⟨_, _, _, _, _, _, rfl, rfl, rfl⟩
  body := rfl
  clo := rfl
  glob := rfl
  blt := rfl
  kind := rfl
  co := rfl
  gen := rfl
  names := of_decide_eq_true rfl
  params := of_decide_eq_true rfl
  kinds := of_decide_eq_true rfl
  binds := by
    intro vals h
    obtain ⟨v0, v1, rfl⟩ := len2 h
    rfl
noncomputable def fn92 (w : World) : { fd : FuncData // ∃ c d sl, (Kf w).lookup 92 = some ⟨c, d, .func fd, sl⟩ } := ⟨_, _, _, _, rfl⟩
theorem ok92 : FnOk (Kf w) 92 (fn92 w).1 (bodyOf (fn92 w).1) ["arrows"] where
  at_ := (fn92 w).2
  code := ⟨_, _, _, _, _, _, rfl, rfl, rfl⟩
  body := rfl
  clo := rfl
  glob := rfl
  blt := rfl
  kind := rfl
  co := rfl
  gen := rfl
  names := of_decide_eq_true rfl
  params := of_decide_eq_true rfl
  kinds := of_decide_eq_true rfl
  binds := by
    intro vals h
    obtain ⟨v0, rfl⟩ := len1 h
    rfl
noncomputable def fn99 (w : World) : { fd : FuncData // ∃ c d sl, (Kf w).lookup 99 = some ⟨c, d, .func fd, sl⟩ } := ⟨_, _, _, _, rfl⟩
theorem ok99 : FnOk (Kf w) 99 (fn99 w).1 (bodyOf (fn99 w).1) ["target", "source"] where
  at_ := (fn99 w).2
  code := ⟨_, _, _, _, _, _, rfl, rfl, rfl⟩
  body := rfl
  clo := rfl
  glob := rfl
  blt := rfl
  kind := rfl
  co := rfl
  gen := rfl
  names := of_decide_eq_true rfl
  params := of_decide_eq_true rfl
  kinds := of_decide_eq_true rfl
  binds := by
    intro vals h
    obtain ⟨v0, v1, rfl⟩ := len2 h
    rfl
noncomputable def fn104 (w : World) : { fd : FuncData // ∃ c d sl, (Kf w).lookup 104 = some ⟨c, d, .func fd, sl⟩ } := ⟨_, _, _, _, rfl⟩
theorem ok104 : FnOk (Kf w) 104 (fn104 w).1 (bodyOf (fn104 w).1) ["word", "table", "text"] where
  at_ := (fn104 w).2
  code := ⟨_, _, _, _, _, _, rfl, rfl, rfl⟩
  body := rfl
  clo := rfl
  glob := rfl
  blt := rfl
  kind := rfl
  co := rfl
  gen := rfl
  names := of_decide_eq_true rfl
  params := of_decide_eq_true rfl
  kinds := of_decide_eq_true rfl
  binds := by
    intro vals h
    obtain ⟨v0, v1, v2, rfl⟩ := len3 h
    rfl
noncomputable def fn109 (w : World) : { fd : FuncData // ∃ c d sl, (Kf w).lookup 109 = some ⟨c, d, .func fd, sl⟩ } := ⟨_, _, _, _, rfl⟩
theorem ok109 : FnOk (Kf w) 109 (fn109 w).1 (bodyOf (fn109 w).1) ["word", "text"] where
  at_ := (fn109 w).2
  code := ⟨_, _, _, _, _, _, rfl, rfl, rfl⟩
  body := rfl
  clo := rfl
  glob := rfl
  blt := rfl
  kind := rfl
  co := rfl
  gen := rfl
  names := of_decide_eq_true rfl
  params := of_decide_eq_true rfl
  kinds := of_decide_eq_true rfl
  binds := by
    intro vals h
    obtain ⟨v0, v1, rfl⟩ := len2 h
    rfl
noncomputable def fn114 (w : World) : { fd : FuncData // ∃ c d sl, (Kf w).lookup 114 = some ⟨c, d, .func fd, sl⟩ } := ⟨_, _, _, _, rfl⟩
theorem ok114 : FnOk (Kf w) 114 (fn114 w).1 (bodyOf (fn114 w).1) ["script"] where
  at_ := (fn114 w).2
  code := ⟨_, _, _, _, _, _, rfl, rfl, rfl⟩
  body := rfl
  clo := rfl
  glob := rfl
  blt := rfl
  kind := rfl
  co := rfl
  gen := rfl
  names := of_decide_eq_true rfl
  params := of_decide_eq_true rfl
  kinds := of_decide_eq_true rfl
  binds := by
    intro vals h
    obtain ⟨v0, rfl⟩ := len1 h
    rfl
end
-- part FX
section
variable {L : Lev} {Γ : Ctx} {os : List Addr} {s : Shared}
theorem x_forI {τ : Type} {xs : List τ} {inj : τ → D} {x : Str} {px : Pos} {iter : Expr} {body rest : List Stmt} {pos : Pos} {d : D} {Q : Flow → Shared → Prop} (vars : Nat → List (Str × D)) (Pk : Nat → (Addr → Prop) → Heap → Prop) (F : Fm L Γ os (Pk 0) s) (pok : ∀ k, OwnOk (Pk k) os)
    (hi : Tr Γ (eval iter Γ.env) (fun v h => Γ.R h v d) s) (hit : Iterable d (xs.map inj)) (h0 : Agree Γ (vars 0))
    (turn : ∀ k t, xs[k]? = some t → ∀ (L' : Lev) (wr : List Addr) (s' : Shared), L'.W = L.W → L'.s₀ = L.s₀ → Fm L' (((Γ.plus wr).only (vars k)).set x (inj t)) os (Pk k) s' →
      Ex (((Γ.plus wr).only (vars k)).set x (inj t)) (execs body (((Γ.plus wr).only (vars k)).set x (inj t)).env) (fun f s'' => ((f = .next ∨ f = .cont) ∧ Fm L' ((Γ.plus wr).only (vars (k + 1))) os (Pk (k + 1)) s'') ∨ ((∃ v, f = .ret v) ∧ Q f s'')) s')
    (fin : ∀ s', Fm L (Γ.only (vars xs.length)) os (Pk xs.length) s' → Ex (Γ.only (vars xs.length)) (execs rest (Γ.only (vars xs.length)).env) Q s')
    (hx : asg Γ x = true := by rfl) (hs : ∀ x, foldedSetIterable iter Γ.env x = pure x := by intro _; rfl) : Ex Γ (execs (.For (.Name x px) iter body [] pos :: rest) Γ.env) Q s := by
  have e : (xs.map inj).length = xs.length := List.length_map ..
  refine x_for vars Pk F pok hi hit h0 (fun k d' hd => ?_) (by rw [e]; exact fin) hs
  rw [List.getElem?_map] at hd
  obtain ⟨t, ht, rfl⟩ := Option.map_eq_some_iff.mp hd
  exact ⟨[(x, inj t)], .name, by rw [List.all_cons, hx]; rfl, turn k t ht⟩
theorem x_forN {n : Nat} {inj : Nat → D} {x : Str} {px : Pos} {iter : Expr} {body rest : List Stmt} {pos : Pos} {d : D} {Q : Flow → Shared → Prop} (vars : Nat → List (Str × D)) (Pk : Nat → (Addr → Prop) → Heap → Prop) (F : Fm L Γ os (Pk 0) s) (pok : ∀ k, OwnOk (Pk k) os)
    (hi : Tr Γ (eval iter Γ.env) (fun v h => Γ.R h v d) s) (hit : Iterable d ((List.range n).map inj)) (h0 : Agree Γ (vars 0))
    (turn : ∀ k, k < n → ∀ (L' : Lev) (wr : List Addr) (s' : Shared), L'.W = L.W → L'.s₀ = L.s₀ → Fm L' (((Γ.plus wr).only (vars k)).set x (inj k)) os (Pk k) s' →
      Ex (((Γ.plus wr).only (vars k)).set x (inj k)) (execs body (((Γ.plus wr).only (vars k)).set x (inj k)).env) (fun f s'' => ((f = .next ∨ f = .cont) ∧ Fm L' ((Γ.plus wr).only (vars (k + 1))) os (Pk (k + 1)) s'') ∨ ((∃ v, f = .ret v) ∧ Q f s'')) s')
    (fin : ∀ s', Fm L (Γ.only (vars n)) os (Pk n) s' → Ex (Γ.only (vars n)) (execs rest (Γ.only (vars n)).env) Q s')
    (hx : asg Γ x = true := by rfl) (hs : ∀ x, foldedSetIterable iter Γ.env x = pure x := by intro _; rfl) : Ex Γ (execs (.For (.Name x px) iter body [] pos :: rest) Γ.env) Q s := by
  have e : (List.range n).length = n := List.length_range
  refine x_forI vars Pk F pok hi hit h0 (fun k t ht => ?_) (by rw [e]; exact fin) hx hs
  have hk : k < n := by
    have := (List.getElem?_eq_some_iff.mp ht).1
    rwa [e] at this
  rw [List.getElem?_range hk] at ht
  obtain rfl := Option.some.inj ht
  exact turn k hk
end
-- part F2
section
variable {w : World} {prog : Program} {n : Nat}
theorem fn_count_calls {KK : Type} [DecidableEq KK] (κ : KD KK) {kvs : List (KK × Int)} : Fn (Kf w) prog w (n + 1) (.ref 63) [κ.con kvs] (.int (kvs.map (·.2)).sum) :=
  fn_of_body ok63 rfl fun A base S s₀ L s₁ F => by
    refine x_assign F (ev_int.on F.at_) fun s F => ?_
    refine x_for (d := .box "dict_values" (κ.con kvs)) (ds := kvs.map fun p => .int p.2) (fun k => [("callers", κ.con kvs), ("nc", .int ((kvs.map (·.2)).take k).sum)]) (fun _ => noOwn) F (fun _ => noOwn_ok)
      ((ev_values κ (ev_name rfl)).on F.at_) (iterable_values κ) ⟨rfl, rfl, trivial⟩ (fun k d' hd => ?_) fun s F => ?_
    · rw [List.getElem?_map] at hd
      cases hx : kvs[k]? with
      | none => rw [hx] at hd; (first | obtain ⟨_, rfl⟩ := hd.atom | exact (nsE hd).elim | exact (snE hd).elim | exact (ftE hd).elim | cases hd)
      | some p =>
        rw [hx] at hd; (first | obtain ⟨_, rfl⟩ := hd.atom | exact (nsE hd).elim | exact (snE hd).elim | exact (ftE hd).elim | cases hd)
        refine ⟨_, .name, rfl, fun L' wr s F₁ F₂ F => ?_⟩
        refine x_aug F (d1 := .int ((kvs.map (·.2)).take k).sum) rfl (ev_name rfl) op_iadd fun s F => ?_
        refine ex_nil (.inl ⟨.inl rfl, F.next rfl ⟨rfl, ?_, trivial⟩⟩)
        rw [sum_take_succ _ k p.2 (by rw [List.getElem?_map, hx]; rfl)]; rfl
    · refine x_ret F ((ev_name rfl).on F.at_) fun v s F r => ⟨v, rfl, F.done rfl rfl, ?_⟩
      rw [show (kvs.map fun p => D.int p.2).length = (kvs.map (·.2)).length by simp, List.take_length] at r
      (first | obtain ⟨_, rfl⟩ := r.atom | exact (nsE r).elim | exact (snE r).elim | exact (ftE r).elim | cases r); exact .int _ _

/-- the pattern -/
noncomputable def laid2 : List Int := [0, 0, 1, 0, 0, 0, 1]
noncomputable def kinds2 : List Int := [0, 2, 3, 2]
noncomputable def size2 (nums : List Int) : Nat := 4 + nums.length % 4
noncomputable def kind2 (nums : List Int) : Int := kinds2.getD (nums.sum.fmod 4).toNat 0
noncomputable def word02 (nums : List Int) : List Int := (List.range (size2 nums)).map fun (k : Nat) => laid2.getD k 0 + (cutBy nums (some (k : Int)) none (some (size2 nums : Int))).sum
noncomputable def word2 (nums : List Int) : List Int := if kind2 nums = 0 then word02 nums else (word02 nums).map fun x => x.fmod (kind2 nums)

theorem lt_cases4 {i : Int} (h0 : 0 ≤ i) (h : i < 4) : i = 0 ∨ i = 1 ∨ i = 2 ∨ i = 3 := by omega

set_option maxHeartbeats 1000000 in
theorem fn_word {nums : List Int} (hl : nums.length ≤ 63) : Fn (Kf w) prog w (n + 1) (.ref 75) [.list (nums.map .int)] (.list ((word2 nums).map .int)) :=
  fn_of_body ok75 rfl fun A base S s₀ L s₁ F => by
    have hz : nums.length ≤ 16384 := by omega
    refine x_assign F (d := .int (size2 nums)) (((ev_binop ev_int (ev_binop (c_len rfl rfl (ev_name rfl) (fn_len_list (by simpa using hz))) ev_int (op_mod (by decide))) op_add).cast (by have := fmod_nat nums.length 4; rw [List.length_map]; unfold size2; push_cast at this ⊢; rw [this])).on F.at_) fun s F => ?_
    refine x_assign F (d := .tuple (laid2.map .int)) ((ev_tuple (evs_cons ev_int (evs_cons ev_int (evs_cons ev_int (evs_cons ev_int (evs_cons ev_int (evs_cons ev_int (evs_cons ev_int evs_nil))))))) (by decide)).on F.at_) fun s F => ?_
    have hr := fmod_range nums.sum (b := 4) (by decide)
    refine x_assign F (d := .int (kind2 nums)) ((ev_sub (ev_tuple (evs_cons ev_int (evs_cons ev_int (evs_cons ev_int (evs_cons ev_int evs_nil)))) (by decide))
      (ev_binop (c_sum rfl rfl (ev_name rfl) fn_sum) ev_int (op_mod (by decide))) (sub_tuple (by intro _ _; rfl) hr.1 (by omega) ?_)).on F.at_) fun s F => ?_
    · unfold kind2
      rcases lt_cases4 hr.1 hr.2 with e | e | e | e <;> rw [e] <;> rfl
    have hs2 : size2 nums < 8 := by unfold size2; omega
    refine x_used_list F (ds := (word02 nums).map .int) ?_ fun s F => ?_
    · rw [word02, List.map_map]
      refine evU_lcm (c_range rfl rfl (ev_name rfl)) (iter_range (by omega) (by omega)) (by simp; unfold sizeLine; omega) fun t ht Da C own wr => ?_
      have ht' : t < size2 nums := by simpa using ht
      refine ev_binop (ev_sub (ev_name rfl) (ev_name rfl) (sub_tuple (d := .int (laid2.getD t 0)) (by intro _ _; rfl) (by omega) (by omega) ?_))
        (c_sum rfl rfl ((ev_sliceBy (ev_name rfl) (part_some (ev_name rfl)) part_none (ev_name rfl) (by unfold size2; omega) (by simp; unfold sizeLine; omega)).cast (by rw [cutBy_map])) fn_sum) op_add
      have : t < 7 := by unfold size2 at ht'; omega
      rw [List.getElem?_map]
      simp only [Int.toNat_natCast, laid2]
      match t, this with
      | 0, _ | 1, _ | 2, _ | 3, _ | 4, _ | 5, _ | 6, _ => rfl
    · refine x_ret F (d := .list ((word2 nums).map .int)) ((ev_ifexp (b := kind2 nums != 0) (evT_of (ev_name rfl) truth_int) (fun hk => ?_) fun hk => ?_).on F.at_) fun v s F r => ⟨v, rfl, F.done rfl rfl, r.less fun b q => .inl q⟩
      · have hk' : kind2 nums ≠ 0 := by simpa using hk
        rw [word2, if_neg hk', List.map_map]
        exact (ev_lcm (ev_name rfl) iter_ints (by simp [word02]; unfold sizeLine; omega) fun t ht Da C own wr => ev_binop (ev_name rfl) (ev_name rfl) (op_mod hk')).ev
      · have hk' : kind2 nums = 0 := by simpa using hk
        rw [word2, if_pos hk']
        exact ev_name rfl
end
-- part F3
section
variable {L : Lev} {Γ : Ctx} {os : List Addr} {P : (Addr → Prop) → Heap → Prop} {s s' : Shared} {as : List Addr} {l : List (Str × D)}
theorem tr_view_int {e : Expr} {i : Int} (h : Ev (Γ.view as l) e (.int i)) (C : (Γ.view as l).At s.heap) : Tr Γ (eval e Γ.env) (fun v h => Γ.R h v (.int i)) s := by
  show Tr (Γ.view as l) (eval e (Γ.view as l).env) (fun v h => Γ.R h v (.int i)) s
  exact (h.on C).mono fun v _ r => by (first | obtain ⟨_, rfl⟩ := r.atom | exact (nsE r).elim | exact (snE r).elim | exact (ftE r).elim | cases r); exact .int _ _
theorem tr_view_T {e : Expr} {b : Bool} (h : EvT (Γ.view as l) e b) (C : (Γ.view as l).At s.heap) : Tr Γ (isTrue e Γ.env (eval e Γ.env)) (fun t _ => t = b) s := h.on C
theorem look1 {x y : Str} {d e : D} (h : List.lookup y [(x, d)] = some e) : y = x ∧ e = d := by
  rw [List.lookup_cons] at h
  cases q : (y == x) with
  | true => rw [q] at h; (first | obtain ⟨_, rfl⟩ := h.atom | exact (nsE h).elim | exact (snE h).elim | exact (ftE h).elim | cases h); exact ⟨eq_of_beq q, rfl⟩
  | false => rw [q] at h; (first | obtain ⟨_, rfl⟩ := h.atom | exact (nsE h).elim | exact (snE h).elim | exact (ftE h).elim | cases h)
theorem Fm.viewL {a : Addr} {x : Str} {ds : List D} {P1 : (Addr → Prop) → Heap → Prop} (F : Fm L Γ os (fun S h => AccL Γ.prog Γ.w a ds S h ∧ P1 S h) s) (hx : Γ.ρ x = some (.raw (.ref a))) : (Γ.view [a] [(x, .list ds)]).At s.heap :=
  At.view F.at_ fun y d e => by
    obtain ⟨rfl, rfl⟩ := look1 e
    exact ⟨a, hx, F.own.1.rep (.head _)⟩
end
section
variable {w : World} {prog : Program} {n : Nat}

/-- a function's call that makes a new list -/
theorem fnL_of_body {K : Frag} {fd : FuncData} {body : List Stmt} {ps : List Str} {a : Addr} (H : FnOk K a fd body ps) {ds : List D} {out : List D} (hlen : ds.length = ps.length)
    (hx : ∀ A base S s₀ L s₁, Fm ⟨fun _ => False, [], noOwn, s₀⟩ (fnCtx K prog w A n base S fd L a (ps.zip ds)) [] noOwn s₁ → Ex (fnCtx K prog w A n base S fd L a (ps.zip ds)) (execs body (fnCtx K prog w A n base S fd L a (ps.zip ds)).env)
      (fun f s' => ∃ v, f = .ret v ∧ Kp s₀ s' ∧ ∃ a vs, v = .ref a ∧ s₀.heap.get? a = none ∧ s'.heap.PlainList a vs.toArray ∧ RepAll prog w (fun b => S b ∨ b = a) s'.heap vs out) s₁) :
    FnL K prog w (n + 1) (.ref a) ds out := .mk fun A base S s vals hr hw r =>
  fn_enter H hr hw r hlen noOwn_ok trivial fun L s₁ F => hx A base S s L s₁ F

/-- the laws that make a table of the loop's values -/
structure TabLaw (pre : List Int) (pi : Nat → Nat) (R : Nat → Nat → Nat) : Prop where
  le : ∀ j, pi j ≤ j
  step : ∀ i idx, idx < i → i < pre.length → R i idx = if pre.getD i 0 = pre.getD idx 0 then idx + 1 else if idx = 0 then 0 else R i (pi (idx - 1))
  out : ∀ i, 1 ≤ i → i < pre.length → pi i = R i (pi (i - 1))
noncomputable def tabAt (m : Nat) (pi : Nat → Nat) (k : Nat) : List Int := (List.range m).map fun j => if j ≤ k then (pi j : Int) else 0
theorem tabAt_get {m : Nat} {pi : Nat → Nat} {k j : Nat} (hj : j < m) (hk : j ≤ k) : (tabAt m pi k)[j]? = some (pi j : Int) := by
  unfold tabAt; simp [hj, hk]
theorem tabAt_succ {m : Nat} {pi : Nat → Nat} {k : Nat} (hk : k + 1 < m) : (tabAt m pi k).set (k + 1) (pi (k + 1) : Int) = tabAt m pi (k + 1) := by
  apply List.ext_getElem?
  intro j
  by_cases e : j = k + 1
  · subst e
    rw [List.getElem?_set_self (by simp [tabAt]; exact hk), tabAt_get hk (Nat.le_refl _)]
  · rw [List.getElem?_set_ne (fun z => e z.symm)]
    unfold tabAt
    simp only [List.getElem?_map]
    cases h : (List.range m)[j]? with
    | none => rfl
    | some x =>
      have : x = j := by
        rw [List.getElem?_range] at h
        · (first | obtain ⟨_, rfl⟩ := h.atom | exact (nsE h).elim | exact (snE h).elim | exact (ftE h).elim | cases h); rfl
        · have := (List.getElem?_eq_some_iff.mp h).1; simpa using this
      subst this
      simp only [Option.map_some]
      by_cases h1 : x ≤ k
      · rw [if_pos h1, if_pos (by omega)]
      · rw [if_neg h1, if_neg (by omega)]
theorem tabAt_zero {m : Nat} {pi : Nat → Nat} (h0 : pi 0 = 0) : tabAt m pi 0 = List.replicate m 0 := by
  apply List.ext_getElem?
  intro j
  unfold tabAt
  rcases Nat.lt_or_ge j m with q | q
  · simp only [List.getElem?_map, List.getElem?_range q, Option.map_some, List.getElem?_replicate, q, if_true]
    by_cases e : j ≤ 0
    · have : j = 0 := by omega
      subst this; simp [h0]
    · simp [e]
  · rw [List.getElem?_eq_none (by simpa using q), List.getElem?_eq_none (by simpa using q)]
theorem beq_nat0 (i : Nat) : ((i : Int) == 0) = decide (i = 0) := by
  rw [Bool.eq_iff_iff]; simp
theorem tab_set {m : Nat} {pi : Nat → Nat} {k : Nat} {x : Int} (hk : k + 1 < m) (hx : x = (pi (k + 1) : Int)) : ((tabAt m pi k).map D.int).set (k + 1) (.int x) = (tabAt m pi (k + 1)).map D.int := by
  rw [hx, ← List.map_set, tabAt_succ hk]

set_option maxHeartbeats 1000000 in
theorem fn_table {pre : List Int} {pi : Nat → Nat} {R : Nat → Nat → Nat} (T : TabLaw pre pi R) (hm : pre.length ≤ 1000) : FnL (Kf w) prog w (n + 1) (.ref 70) [.list (pre.map .int)] ((tabAt pre.length pi (pre.length - 1)).map .int) :=
  fnL_of_body ok70 rfl fun A base S s₀ L s₁ F => by
    have h0 : pi 0 = 0 := by have := T.le 0; omega
    refine x_own_list (ds := (tabAt pre.length pi 0).map .int) F ?_ fun a s ha _ F => ?_
    · have e : (tabAt pre.length pi 0).map D.int = List.replicate (((pre.map D.int).length : Int)).toNat (D.int 0) := by
        rw [tabAt_zero h0]; simp
      rw [e]
      exact (ev_mulL (ev_list (evs_cons ev_int evs_nil) (by decide)) (c_len rfl rfl (ev_name rfl) (fn_len_list (by simp; omega))) (by omega) (by simp; omega)).run _ F.at_
    have okP : ∀ k, OwnOk (fun S h => AccL prog w a ((tabAt pre.length pi k).map .int) S h ∧ noOwn S h) [a] := fun k => (accL_ok.own).and noOwn_ok
    refine x_forN (d := .range 1 (pre.map D.int).length 1) (n := (((pre.map D.int).length : Int) - 1).toNat) (inj := fun j : Nat => D.int (1 + (j : Int))) (fun _ => [("prefix", .list (pre.map .int)), ("table", .raw (.ref a))])
      (fun k S h => AccL prog w a ((tabAt pre.length pi k).map .int) S h ∧ noOwn S h) F okP
      ((c_range2 rfl rfl ev_int (c_len rfl rfl (ev_name rfl) (fn_len_list (by simp; omega)))).on F.at_) (iter_range2 (by omega) (by omega) (by omega) (by simp; omega)) ⟨rfl, rfl, trivial⟩ (fun k hk L' wr s hW hs₀ F => ?_) fun s F => ?_
    · have hk : k + 1 < pre.length := by rw [List.length_map] at hk; omega
      refine x_assign F (d := .int (pi k)) (tr_view_int (as := [a]) (l := [("table", .list ((tabAt pre.length pi k).map .int))]) (ev_sub (ev_name rfl) (ev_binop (ev_name rfl) ev_int op_sub) (sub_list (by intro _ _; rfl) (by omega) (by omega) ?_)) (F.viewL rfl)) fun s F => ?_
      · rw [show (1 + (k : Int) - 1).toNat = k by omega, List.getElem?_map, tabAt_get (by omega) (Nat.le_refl _)]; rfl
      have gp : ∀ j : Nat, j < pre.length → (pre.map D.int)[((j : Int)).toNat]? = some (.int (pre.getD j 0)) := fun j hj => by simp [hj]
      refine x_whileF (fun idx => [("prefix", .list (pre.map .int)), ("table", .raw (.ref a)), ("i", .int (1 + (k : Int))), ("idx", .int (idx : Int))]) (fun idx => idx ≤ k ∧ R (k + 1) idx = pi (k + 1)) (pi k)
        (F.next rfl ⟨rfl, rfl, rfl, rfl, trivial⟩) ⟨T.le k, (T.out (k + 1) (by omega) hk).symm⟩ fun idx h => ?_
      obtain ⟨hidx, hR⟩ := h
      have hst := T.step (k + 1) idx (by omega) hk
      refine ⟨pre.getD (k + 1) 0 != pre.getD idx 0, fun s F => ?_, fun hb s F => ?_, fun hb s F => ?_⟩
      · exact (evT_cmp (ev_sub (ev_name rfl) (ev_name rfl) (sub_list (d := .int (pre.getD (k + 1) 0)) (by intro _ _; rfl) (by omega) (by omega) (by rw [show 1 + (k : Int) = ((k + 1 : Nat) : Int) by omega]; exact gp _ hk)))
          (ev_sub (ev_name rfl) (ev_name rfl) (sub_list (d := .int (pre.getD idx 0)) (by intro _ _; rfl) (by omega) (by omega) (gp _ (by omega)))) op_ne).on F.at_
      · have hne : pre.getD (k + 1) 0 ≠ pre.getD idx 0 := by simpa using hb
        rw [if_neg hne] at hst
        refine x_if F (b := decide (idx = 0)) ((evT_cmp (b := decide (idx = 0)) (ev_name rfl) ev_int (op_eq.cast (congrArg D.bool (beq_nat0 idx)))).on F.at_) (fun h0' s F => ?_) fun h0' s F => ?_
        · have h0' : idx = 0 := by simpa using h0'
          rw [if_pos h0'] at hst
          refine x_setL (j := k + 1) (d := .int 0) F (.head _) (.inr (hs₀ ▸ ha)) ?_ (fun S h h' _ _ _ => trivial) (ev_int.on F.at_) (ev_name rfl) (fun s F => ((ev_name rfl).cast (by rw [show 1 + (k : Int) = ((k + 1 : Nat) : Int) by omega])).on F.at_) (by simp [tabAt]; exact hk) (by simp [tabAt]; omega) fun s F => ?_
          · exact (accL_ok.own).and noOwn_ok
          rw [tab_set hk (by rw [← hR, hst]; rfl)] at F
          exact ex_brk (ex_nil (.inl ⟨.inl rfl, F.next rfl ⟨rfl, rfl, trivial⟩⟩))
        · have h0' : idx ≠ 0 := by simpa using h0'
          rw [if_neg h0'] at hst
          refine ex_nil ?_
          refine x_assign F (d := .int (pi (idx - 1) : Nat)) (tr_view_int (as := [a]) (l := [("table", .list ((tabAt pre.length pi k).map .int))]) (ev_sub (ev_name rfl) (ev_binop (ev_name rfl) ev_int op_sub) (sub_list (by intro _ _; rfl) (by omega) (by omega) ?_)) (F.viewL rfl)) fun s F => ?_
          · rw [show ((idx : Int) - 1).toNat = idx - 1 by omega, List.getElem?_map, tabAt_get (by omega) (by omega)]; rfl
          have := T.le (idx - 1)
          exact ex_nil ⟨pi (idx - 1), by omega, ⟨by omega, by rw [← hst, hR]⟩, F.next rfl ⟨rfl, rfl, rfl, rfl, trivial⟩⟩
      · have heq : pre.getD (k + 1) 0 = pre.getD idx 0 := by simpa using hb
        rw [if_pos heq] at hst
        refine x_setL (j := k + 1) (d := .int ((idx : Int) + 1)) F (.head _) (.inr (hs₀ ▸ ha)) ?_ (fun S h h' _ _ _ => trivial) ((ev_binop (ev_name rfl) ev_int op_add).on F.at_) (ev_name rfl) (fun s F => ((ev_name rfl).cast (by rw [show 1 + (k : Int) = ((k + 1 : Nat) : Int) by omega])).on F.at_) (by simp [tabAt]; exact hk) (by simp [tabAt]; omega) fun s F => ?_
        · exact (accL_ok.own).and noOwn_ok
        rw [tab_set hk (by rw [← hR, hst]; omega)] at F
        exact ex_nil (ex_nil (.inl ⟨.inl rfl, F.next rfl ⟨rfl, rfl, trivial⟩⟩))
    · refine x_ret F (d := .raw (.ref a)) ((ev_name rfl).on F.at_) fun v s F r => ⟨v, rfl, F.done rfl rfl, ?_⟩
      (first | obtain ⟨_, rfl⟩ := r.atom | exact (nsE r).elim | exact (snE r).elim | exact (ftE r).elim | cases r)
      obtain ⟨⟨hS, vs, hl, rs⟩, _⟩ := F.own
      rw [show (((pre.map D.int).length : Int) - 1).toNat = pre.length - 1 by rw [List.length_map]; omega] at rs
      exact ⟨a, vs, rfl, ha, hl, rs.less fun b q => q.elim (fun z => .inl (.inl z)) fun e => .inr (by rw [e]; exact .head _)⟩
end
-- part F4
section
variable {w : World} {prog : Program} {n : Nat}

/-- a fact that no heap changes -/
theorem fact_ok (J : Prop) : OwnOk (fun _ _ => J) [] := ⟨fun _ _ _ p _ _ => p, fun _ _ _ p _ _ => p, fun _ _ _ _ h => nomatch h⟩

/-- the laws of the automaton's step -/
structure NextLaw (word : List Int) (pi : Nat → Nat) (letter : Int) (nx : Nat → Nat) : Prop where
  le : ∀ j, pi j ≤ j
  step : ∀ q, q ≤ word.length → nx q = if q < word.length ∧ word.getD q 0 = letter then q + 1 else if q = 0 then 0 else nx (pi (q - 1))
noncomputable def itr (pi : Nat → Nat) (q : Nat) : Nat → Nat
  | 0 => q
  | k + 1 => pi (itr pi q k - 1)

set_option maxHeartbeats 1000000 in
theorem fn_next {word : List Int} {pi : Nat → Nat} {letter : Int} {nx : Nat → Nat} {q : Nat} {tab : List Int} (T : NextLaw word pi letter nx) (hm : word.length ≤ 1000) (ht : ∀ j : Nat, j < word.length → tab[j]? = some (pi j : Int)) (hq : q ≤ word.length) :
    Fn (Kf w) prog w (n + 1) (.ref 82) [.list (word.map .int), .list (tab.map .int), .int q, .int letter] (.int (nx q)) :=
  fn_of_body ok82 rfl fun A base S s₀ L s₁ F => by
    have hlen : (word.map D.int).length ≤ 16384 := by simp; omega
    let J : Nat → Prop := fun k => itr pi q k + k ≤ word.length ∧ nx (itr pi q k) = nx q
    have F : Fm ⟨fun _ => False, [], noOwn, s₀⟩ (fnCtx (Kf w) prog w A n base S (fn82 w).1 L 82 ([("word" : Str), "table", "size", "letter"].zip [.list (word.map .int), .list (tab.map .int), .int q, .int letter])) [] (fun _ _ => J 0) s₁ := { F with own := ⟨by show q + 0 ≤ _; omega, rfl⟩, pok := fact_ok _ }
    refine x_for (d := .range 0 (((word.map D.int).length : Int) + 1) 1) (ds := (List.range (((word.map D.int).length : Int) + 1).toNat).map fun j : Nat => D.int (j : Int)) (fun k => [("word", .list (word.map .int)), ("table", .list (tab.map .int)), ("size", .int (itr pi q k : Nat)), ("letter", .int letter)])
      (fun k _ _ => J k) F (fun k => fact_ok _) ((c_range rfl rfl (ev_binop (c_len rfl rfl (ev_name rfl) (fn_len_list hlen)) ev_int op_add)).on F.at_) (iter_range (by omega) (by simp; omega)) ⟨rfl, rfl, rfl, rfl, trivial⟩ (fun k d' hd => ?_) fun s F => ?_
    · refine ⟨_, .name, rfl, fun L' wr s hW hs₀ F => ?_⟩
      obtain ⟨hj, hnx⟩ := F.own
      have hst := T.step (itr pi q k) (by omega)
      have gp : ∀ j : Nat, j < word.length → (word.map D.int)[((j : Int)).toNat]? = some (.int (word.getD j 0)) := fun j hj => by simp [hj]
      refine x_if F (b := decide (((itr pi q k : Nat) : Int) < ((word.map D.int).length : Int)) && (word.getD (itr pi q k) 0 == letter && true)) ((evT_boolop (evTs_and (evT_cmp (ev_name rfl) (c_len rfl rfl (ev_name rfl) (fn_len_list hlen)) op_lt) fun hlt => evTs_and (evT_cmp (ev_sub (ev_name rfl) (ev_name rfl)
        (sub_list (by intro _ _; rfl) (by omega) (by omega) (gp _ (by simpa using hlt)))) (ev_name rfl) op_eq) fun _ => evTs_and_nil)).on F.at_) (fun hb s F => ?_) fun hb s F => ?_
      · have hb' : itr pi q k < word.length ∧ word.getD (itr pi q k) 0 = letter := by
          simp only [Bool.and_true, Bool.and_eq_true, decide_eq_true_eq, beq_iff_eq, List.length_map] at hb
          exact ⟨by omega, hb.2⟩
        rw [if_pos hb'] at hst
        refine x_ret F ((ev_binop (ev_name rfl) ev_int op_add).on F.at_) fun v s F r => .inr ⟨⟨_, rfl⟩, v, rfl, F.done hW hs₀, ?_⟩
        (first | obtain ⟨_, rfl⟩ := r.atom | exact (nsE r).elim | exact (snE r).elim | exact (ftE r).elim | cases r)
        rw [show ((nx q : Nat) : Int) = (itr pi q k : Int) + 1 by rw [← hnx, hst]; omega]
        exact .int _ _
      · have hb' : ¬ (itr pi q k < word.length ∧ word.getD (itr pi q k) 0 = letter) := fun z => by
          rw [show (decide (((itr pi q k : Nat) : Int) < ((word.map D.int).length : Int)) && (word.getD (itr pi q k) 0 == letter && true)) = true by
            simp only [Bool.and_true, Bool.and_eq_true, decide_eq_true_eq, beq_iff_eq, List.length_map]; exact ⟨by omega, z.2⟩] at hb
          (first | obtain ⟨_, rfl⟩ := hb.atom | exact (nsE hb).elim | exact (snE hb).elim | exact (ftE hb).elim | cases hb)
        rw [if_neg hb'] at hst
        refine ex_nil ?_
        refine x_if F (b := decide (itr pi q k = 0)) ((evT_cmp (b := decide (itr pi q k = 0)) (ev_name rfl) ev_int (op_eq.cast (congrArg D.bool (beq_nat0 _)))).on F.at_) (fun h0' s F => ?_) fun h0' s F => ?_
        · have h0' : itr pi q k = 0 := by simpa using h0'
          rw [if_pos h0'] at hst
          refine x_ret F (ev_int.on F.at_) fun v s F r => .inr ⟨⟨_, rfl⟩, v, rfl, F.done hW hs₀, ?_⟩
          (first | obtain ⟨_, rfl⟩ := r.atom | exact (nsE r).elim | exact (snE r).elim | exact (ftE r).elim | cases r)
          rw [show ((nx q : Nat) : Int) = 0 by rw [← hnx, hst]; rfl]
          exact .int _ _
        · have h0' : itr pi q k ≠ 0 := by simpa using h0'
          rw [if_neg h0'] at hst
          refine ex_nil ?_
          refine x_assign F (d := .int (itr pi q (k + 1) : Nat)) ((ev_sub (ev_name rfl) (ev_binop (ev_name rfl) ev_int op_sub) (sub_list (by intro _ _; rfl) (by omega) (by omega) ?_)).on F.at_) fun s F => ?_
          · rw [show ((itr pi q k : Nat) : Int) - 1 = ((itr pi q k - 1 : Nat) : Int) by omega, Int.toNat_natCast, List.getElem?_map, ht _ (by omega)]; rfl
          have hle := T.le (itr pi q k - 1)
          have F : Fm L' _ [] (fun _ _ => J (k + 1)) s := { F with own := ⟨by show pi (itr pi q k - 1) + (k + 1) ≤ _; omega, by show nx (pi (itr pi q k - 1)) = _; rw [← hst, hnx]⟩, pok := fact_ok _ }
          exact ex_nil (.inl ⟨.inl rfl, F.next rfl ⟨rfl, rfl, rfl, rfl, trivial⟩⟩)
    · exfalso
      have := F.own.1
      simp at this
      omega
end
-- part F5
section
variable {w : World} {prog : Program} {n : Nat}

/-- the longest beginning of the pattern that ends what was seen -/
structure IsLon (word seen : List Int) (M : Nat) : Prop where
  le : M ≤ min word.length seen.length
  eq : seen.drop (seen.length - M) = word.take M
  max : ∀ k, k ≤ min word.length seen.length → seen.drop (seen.length - k) = word.take k → k ≤ M

set_option maxHeartbeats 1000000 in
theorem fn_longest {word seen : List Int} {M : Nat} (hM : IsLon word seen M) (h1 : word.length ≤ 1000) (h2 : seen.length ≤ 1000) : Fn (Kf w) prog w (n + 1) (.ref 87) [.list (word.map .int), .list (seen.map .int)] (.int M) :=
  fn_of_body ok87 rfl fun A base S s₀ L s₁ F => by
    have hl1 : (word.map D.int).length ≤ 16384 := by simp; omega
    have hl2 : (seen.map D.int).length ≤ 16384 := by simp; omega
    have emin : (if ((seen.map D.int).length : Int) < ((word.map D.int).length : Int) then ((seen.map D.int).length : Int) else ((word.map D.int).length : Int)) = ((min word.length seen.length : Nat) : Int) := by
      simp only [List.length_map]; split <;> omega
    refine x_ret F (d := .int M) ((c_max rfl rfl (d1 := .list ((((List.range (min word.length seen.length + 1)).filter fun k => decide (seen.drop (seen.length - k) = word.take k)).map fun k : Nat => (k : Int)).map .int)) ?_ (fn_max ?_)).on F.at_) fun v s F r => ⟨v, rfl, F.done rfl rfl, ?_⟩
    · rw [List.map_map]
      refine (ev_lcf (d := .range 0 ((min word.length seen.length : Nat) + 1 : Int) 1) (inj := fun k : Nat => D.int (k : Int)) (ev_range topOk rfl g_range (((ev_binop (c_min2 rfl rfl (c_len rfl rfl (ev_name rfl) (fn_len_list hl1)) (c_len rfl rfl (ev_name rfl) (fn_len_list hl2)) fn_min2) ev_int op_add).cast (congrArg D.int (by rw [emin]))))) ?_ (by simp; unfold sizeLine; omega) (fun k hk Da C own wr => ?_) fun k hk _ Da C own wr => ev_name rfl).ev
      · have := iter_range (n := ((min word.length seen.length : Nat) : Int) + 1) (by omega) (by omega)
        rw [show (((min word.length seen.length : Nat) : Int) + 1).toNat = min word.length seen.length + 1 by omega] at this
        exact this
      · have hk' : k ≤ min word.length seen.length := by simp at hk; omega
        exact evT_cmp ((ev_slice (ev_name rfl) (part_some (ev_binop (c_len rfl rfl (ev_name rfl) (fn_len_list hl2)) (ev_name rfl) op_sub)) part_none (by simp; unfold sizeLine; omega)).cast (congrArg D.list (show _ = (seen.drop (seen.length - k)).map D.int by
            rw [cut_from _ (by simp; omega), List.map_drop]; congr 1; simp)))
          ((ev_slice (ev_name rfl) part_none (part_some (ev_name rfl)) (by simp; unfold sizeLine; omega)).cast (congrArg D.list (show _ = (word.take k).map D.int by rw [cut_to _ (by omega), List.map_take]; rfl))) (op_eqD (EqD.ints 0 _ _) (by decide))
    · refine ⟨?_, fun a ha => ?_⟩
      · refine List.mem_map.mpr ⟨M, List.mem_filter.mpr ⟨by simp; have := hM.le; omega, by simpa using hM.eq⟩, rfl⟩
      · obtain ⟨k, hk, rfl⟩ := List.mem_map.mp ha
        obtain ⟨hk1, hk2⟩ := List.mem_filter.mp hk
        have := hM.max k (by simp at hk1; omega) (by simpa using hk2)
        omega
    · (first | obtain ⟨_, rfl⟩ := r.atom | exact (nsE r).elim | exact (snE r).elim | exact (ftE r).elim | cases r); exact .int _ _
end
-- part F6
/-- counts put together -/
noncomputable def addKV {K : Type} [DecidableEq K] (acc : List (K × Int)) (p : K × Int) : List (K × Int) := put acc p.1 ((lookD acc p.1).getD 0 + p.2)
noncomputable def putAll {K : Type} [DecidableEq K] (t : List (K × Int)) : List (K × Int) := t.foldl (fun acc p => put acc p.1 p.2) []
noncomputable def addAll {K : Type} [DecidableEq K] (t s : List (K × Int)) : List (K × Int) := s.foldl addKV (putAll t)
theorem foldl_take_succ {α β : Type} (f : β → α → β) (b : β) (l : List α) (k : Nat) (x : α) (h : l[k]? = some x) : (l.take (k + 1)).foldl f b = f ((l.take k).foldl f b) x := by
  rw [List.take_add_one, h, List.foldl_append]; rfl
theorem putAll_len {K : Type} [DecidableEq K] (t : List (K × Int)) : (putAll t).length ≤ t.length := by
  have := foldl_put_len (fun p : K × Int => p.1) (fun p => p.2) t []
  simpa [putAll] using this
theorem addAll_len {K : Type} [DecidableEq K] (t : List (K × Int)) : ∀ (s : List (K × Int)) (acc : List (K × Int)), (s.foldl addKV acc).length ≤ acc.length + s.length
  | [], acc => Nat.le_refl _
  | p :: r, acc => by
    have a := addAll_len t r (addKV acc p)
    have b := put_len acc p.1 ((lookD acc p.1).getD 0 + p.2)
    simp only [List.foldl_cons, List.length_cons]
    unfold addKV at a ⊢
    omega

section
variable {L : Lev} {Γ : Ctx} {os : List Addr} {P : (Addr → Prop) → Heap → Prop} {s s' : Shared}
theorem Fm.viewD {KK : Type} [DecidableEq KK] (κ : KD KK) {a : Addr} {x : Str} {kvs : List (KK × Int)} {P1 : (Addr → Prop) → Heap → Prop} (F : Fm L Γ os (fun S h => AccD Γ.prog Γ.w (κ.knd Γ.prog Γ.w) a kvs S h ∧ P1 S h) s) (hx : Γ.ρ x = some (.raw (.ref a))) : (Γ.view [a] [(x, κ.con kvs)]).At s.heap :=
  At.view F.at_ fun y d e => by
    obtain ⟨rfl, rfl⟩ := look1 e
    exact ⟨a, hx, F.own.1.rep κ (.head _)⟩
end
section
variable {w : World} {prog : Program} {n : Nat} {KK : Type} [DecidableEq KK] (κ : KD KK)

/-- a function's call that makes a new dict -/
theorem fnD_of_body {K : Frag} {fd : FuncData} {body : List Stmt} {ps : List Str} {a : Addr} (H : FnOk K a fd body ps) {ds : List D} {out : List (KK × Int)} (hlen : ds.length = ps.length)
    (hx : ∀ A base S s₀ L s₁, Fm ⟨fun _ => False, [], noOwn, s₀⟩ (fnCtx K prog w A n base S fd L a (ps.zip ds)) [] noOwn s₁ → Ex (fnCtx K prog w A n base S fd L a (ps.zip ds)) (execs body (fnCtx K prog w A n base S fd L a (ps.zip ds)).env)
      (fun f s' => ∃ v, f = .ret v ∧ Kp s₀ s' ∧ ∃ a us, v = .ref a ∧ s₀.heap.get? a = none ∧ (a == sysModules) = false ∧ s'.heap.DictOf (κ.knd prog w) a us ∧ KV us out) s₁) :
    FnD κ K prog w (n + 1) (.ref a) ds out := .mk fun A base S s vals hr hw r =>
  fn_enter H hr hw r hlen noOwn_ok trivial fun L s₁ F => hx A base S s L s₁ F

set_option maxHeartbeats 1000000 in
theorem fn_add_callers {t s : List (KK × Int)} (hz : t.length + s.length ≤ 1000000) : FnD κ (Kf w) prog w (n + 1) (.ref 56) [κ.con t, κ.con s] (addAll t s) :=
  fnD_of_body κ ok56 rfl fun A base S s₀ L s₁ F => by
    refine x_own_dict κ (kvs := []) F ((ev_dict0 κ).run _ F.at_) fun a _ ha _ F => ?_
    have okD : ∀ kvs : List (KK × Int), OwnOk (fun S h => AccD prog w (κ.knd prog w) a kvs S h ∧ noOwn S h) [a] := fun kvs => (accD_ok.own).and noOwn_ok
    have hsz : sizeLine = 16777216 := by decide
    refine x_for (d := .box "dict_items" (κ.con t)) (ds := t.map fun p => .tuple [κ.enc p.1, .int p.2]) (fun k => [("target", κ.con t), ("source", κ.con s), ("new_callers", .raw (.ref a))]) (fun k S h => AccD prog w (κ.knd prog w) a (putAll (t.take k)) S h ∧ noOwn S h) F (fun _ => okD _)
      ((ev_items κ (ev_name rfl)).on F.at_) (iterable_items κ) ⟨rfl, rfl, rfl, trivial⟩ (fun k d' hd => ?_) fun _ F => ?_
    · rw [List.getElem?_map] at hd
      cases hx : t[k]? with
      | none => rw [hx] at hd; (first | obtain ⟨_, rfl⟩ := hd.atom | exact (nsE hd).elim | exact (snE hd).elim | exact (ftE hd).elim | cases hd)
      | some p =>
        rw [hx] at hd; (first | obtain ⟨_, rfl⟩ := hd.atom | exact (nsE hd).elim | exact (snE hd).elim | exact (ftE hd).elim | cases hd)
        refine ⟨_, .t2, rfl, fun L' wr _ hW hs₀ F => ?_⟩
        have hl := putAll_len (t.take k)
        have hl2 : (t.take k).length ≤ t.length := by rw [List.length_take]; exact Nat.min_le_right ..
        refine x_setD κ (key := p.1) (x := p.2) F (.head _) (.inr (hs₀ ▸ ha)) (okD _) (fun _ _ _ _ _ _ => trivial) (ev_name rfl) (ev_name rfl) (ev_name rfl) (by omega) fun _ F => ?_
        rw [show put (putAll (t.take k)) p.1 p.2 = putAll (t.take (k + 1)) by unfold putAll; rw [foldl_take_succ _ _ _ k p hx]] at F
        exact ex_nil (.inl ⟨.inl rfl, F.next rfl ⟨rfl, rfl, rfl, trivial⟩⟩)
    rw [List.length_map, List.take_length] at F
    refine x_for (d := .box "dict_items" (κ.con s)) (ds := s.map fun p => .tuple [κ.enc p.1, .int p.2]) (fun k => [("target", κ.con t), ("source", κ.con s), ("new_callers", .raw (.ref a))]) (fun k S h => AccD prog w (κ.knd prog w) a (addAll t (s.take k)) S h ∧ noOwn S h) F (fun _ => okD _)
      ((ev_items κ (ev_name rfl)).on F.at_) (iterable_items κ) ⟨rfl, rfl, rfl, trivial⟩ (fun k d' hd => ?_) fun _ F => ?_
    · rw [List.getElem?_map] at hd
      cases hx : s[k]? with
      | none => rw [hx] at hd; (first | obtain ⟨_, rfl⟩ := hd.atom | exact (nsE hd).elim | exact (snE hd).elim | exact (ftE hd).elim | cases hd)
      | some p =>
        rw [hx] at hd; (first | obtain ⟨_, rfl⟩ := hd.atom | exact (nsE hd).elim | exact (snE hd).elim | exact (ftE hd).elim | cases hd)
        refine ⟨_, .t2, rfl, fun L' wr _ hW hs₀ F => ?_⟩
        have hl := putAll_len t
        have hl3 := addAll_len t (s.take k) (putAll t)
        have hl2 : (s.take k).length ≤ s.length := by rw [List.length_take]; exact Nat.min_le_right ..
        have hl4 : (addAll t (s.take k)).length ≤ sizeLine := by unfold addAll; omega
        have hnext : addKV (addAll t (s.take k)) p = addAll t (s.take (k + 1)) := by unfold addAll; rw [foldl_take_succ _ _ _ k p hx]
        refine x_if F (b := (lookD (addAll t (s.take k)) p.1).isSome) (tr_view_T (as := [a]) (l := [("new_callers", κ.con (addAll t (s.take k)))]) (evT_cmp (ev_name (d := κ.enc p.1) rfl) (ev_name rfl) (op_in_dict κ)) (F.viewD κ rfl)) (fun hb _ F => ?_) fun hb _ F => ?_
        · obtain ⟨x, hx'⟩ := Option.isSome_iff_exists.mp hb
          refine x_if F (b := false) ((evT_of (c_isi_tuple rfl rfl rfl (ev_name (d := .int p.2) rfl) fn_isi_int_tuple) truth_bool).on F.at_) (fun e => by (first | obtain ⟨_, rfl⟩ := e.atom | exact (nsE e).elim | exact (snE e).elim | exact (ftE e).elim | cases e)) fun _ _ F => ?_
          refine x_augD κ (key := p.1) (x := x) (y := p.2) F (.head _) (.inr (hs₀ ▸ ha)) (okD _) (fun _ _ _ _ _ _ => trivial) (ev_name rfl) (ev_name rfl) (ev_name rfl) hx' hl4 fun _ F => ?_
          rw [show put (addAll t (s.take k)) p.1 (x + p.2) = addAll t (s.take (k + 1)) by rw [← hnext]; unfold addKV; rw [hx']; rfl] at F
          exact ex_nil (ex_nil (ex_nil (.inl ⟨.inl rfl, F.next rfl ⟨rfl, rfl, rfl, trivial⟩⟩)))
        · have hx' : lookD (addAll t (s.take k)) p.1 = none := by
            cases e : lookD (addAll t (s.take k)) p.1 with
            | none => rfl
            | some x => rw [e] at hb; (first | obtain ⟨_, rfl⟩ := hb.atom | exact (nsE hb).elim | exact (snE hb).elim | exact (ftE hb).elim | cases hb)
          refine x_setD κ (key := p.1) (x := p.2) F (.head _) (.inr (hs₀ ▸ ha)) (okD _) (fun _ _ _ _ _ _ => trivial) (ev_name rfl) (ev_name rfl) (ev_name rfl) hl4 fun _ F => ?_
          rw [show put (addAll t (s.take k)) p.1 p.2 = addAll t (s.take (k + 1)) by rw [← hnext]; unfold addKV; rw [hx']; simp] at F
          exact ex_nil (ex_nil (.inl ⟨.inl rfl, F.next rfl ⟨rfl, rfl, rfl, trivial⟩⟩))
    · rw [List.length_map, List.take_length] at F
      refine x_ret F (d := .raw (.ref a)) ((ev_name rfl).on F.at_) fun v _ F r => ⟨v, rfl, F.done rfl rfl, ?_⟩
      (first | obtain ⟨_, rfl⟩ := r.atom | exact (nsE r).elim | exact (snE r).elim | exact (ftE r).elim | cases r)
      obtain ⟨⟨hS, hm, us, hd, hk⟩, _⟩ := F.own
      exact ⟨a, us, rfl, ha, hm, hd, hk⟩
end
-- part PL22
/-- made of new objects alone -/
noncomputable def isOld (h : Heap) : Addr → Prop := fun b => (h.get? b).isSome = true
structure EvNew (Γ : Ctx) (e : Expr) (d : D) : Prop where
  run : ∀ s, Γ.At s.heap → Tr Γ (eval e Γ.env) (fun v h => Rep Γ.prog Γ.w (isOld s.heap) h v d) s
structure EvsNew (Γ : Ctx) (p : Pos) (es : List Expr) (ds : List D) : Prop where
  run : ∀ s, Γ.At s.heap → Tr Γ (spliced (backTo p (starEach es Γ.env))) (fun vs h => RepAll Γ.prog Γ.w (isOld s.heap) h vs ds) s
structure FnN (K : Frag) (prog : Program) (w : World) (n : Nat) (f : Value) (ds : List D) (d : D) : Prop where
  run : ∀ (A : Around) (base : Heap) (S : Addr → Prop) (s : Shared) (vals : List Value), RoomA n A → Wd K base S s.heap → RepAll prog w S s.heap vals ds →
    wpAny (model prog w) A (call f vals) (fun v s' => Kp s s' ∧ Rep prog w (isOld s.heap) s'.heap v d) (fun _ _ => False) s

theorem isOld_mono {s s' : Shared} (k : Kp s s') {b : Addr} (h : isOld s.heap b) : isOld s'.heap b := some_keep h k.k
theorem not_old {h : Heap} {a : Addr} (e : h.get? a = none) : ¬ isOld h a := fun q => by unfold isOld at q; rw [e] at q; (first | obtain ⟨_, rfl⟩ := q.atom | exact (nsE q).elim | exact (snE q).elim | exact (ftE q).elim | cases q)

section
variable {Γ : Ctx}
theorem new_int {e : Expr} {i : Int} (h : Ev Γ e (.int i)) : EvNew Γ e (.int i) := .mk fun s C => (h.run s C).mono fun _ _ r => by (first | obtain ⟨_, rfl⟩ := r.atom | exact (nsE r).elim | exact (snE r).elim | exact (ftE r).elim | cases r); exact .int _ _
theorem EvND.new {KK : Type} [DecidableEq KK] {κ : KD KK} {e : Expr} {kvs : List (KK × Int)} (h : EvND Γ (κ.knd Γ.prog Γ.w) e kvs) : EvNew Γ e (κ.con kvs) := .mk fun s C => (h.run s C).mono fun _ _ r => by
  obtain ⟨a, us, rfl, hn, hm, hd, hk⟩ := r
  exact κ.rd _ _ _ _ _ _ _ (not_old hn) hm hd hk
theorem newS_nil {p : Pos} : EvsNew Γ p [] [] := .mk fun s _ => wpAny_items_nil ⟨Kp.refl s, .nil⟩
theorem newS_cons {p : Pos} {e : Expr} {r : List Expr} {d : D} {ds : List D} (h1 : EvNew Γ e d) (h2 : EvsNew Γ p r ds) (he : plainE e = true := by rfl) : EvsNew Γ p (e :: r) (d :: ds) := .mk fun s C =>
  wpAny_items_cons ((h1.run s C).then' fun v s₁ k₁ r₁ => (h2.run s₁ (C.go k₁)).then' fun vs s₂ k₂ r₂ => ⟨k₁.trans k₂, .cons (r₁.keep k₂.k) (r₂.less fun b q => isOld_mono k₁ q)⟩) (starEach_plain he)
theorem new_tuple {es : List Expr} {k : Nat} {p : Pos} {ds : List D} (h : EvsNew Γ p es ds) (hz : ds.length ≤ sizeLine) : EvNew Γ (.Tuple es k p) (.tuple ds) := .mk fun s C =>
  wpAny_Tuple ((h.run s C).then' fun vs s₁ k₁ r₁ => ⟨by rw [r₁.length]; exact hz, k₁.trans (Kp.push s₁ _),
    .tuple (not_old (none_back k₁ (get_size _ (Nat.le_refl _)))) (Heap.get?_push_size _ rfl) (r₁.keep fun _ _ e => Heap.get?_push_of_some _ e)⟩)
theorem new_list {es : List Expr} {p : Pos} {ds : List D} (h : EvsNew Γ p es ds) (hz : ds.length ≤ sizeLine) : EvNew Γ (.List es p) (.list ds) := .mk fun s C =>
  wpAny_List ((h.run s C).then' fun vs s₁ k₁ r₁ => ⟨by rw [r₁.length]; exact hz, k₁.trans (Kp.push s₁ _),
    .list (not_old (none_back k₁ (get_size _ (Nat.le_refl _)))) ⟨0, Heap.get?_push_size _ rfl⟩ (r₁.keep fun _ _ e => Heap.get?_push_of_some _ e)⟩)
theorem new_call {x : Str} {px p : Pos} {es : List Expr} {ds : List D} {d : D} {f : Value} (hf : Ev Γ (.Name x px) (.raw f)) (hc : Callable Γ.K f) (h : Evs Γ p es ds) (F : FnN Γ.K Γ.prog Γ.w Γ.n f ds d)
    (hp : List.all es plainE = true := by rfl) : EvNew Γ (.Call (.Name x px) es [] p) d := .mk fun s C => by
  refine wpAny_Call_Name_kw ((hf.run s C).then' fun v s₁ k₁ r₁ => ?_)
  (first | obtain ⟨_, rfl⟩ := r₁.atom | exact (nsE r₁).elim | exact (snE r₁).elim | exact (ftE r₁).elim | cases r₁)
  show wpAny _ _ (callWith p f [] (backTo p (starEach es Γ.env)) []) _ _ _
  exact spliced_args (C.go k₁) hc h (any_plain hp) fun vs s₂ k₂ r₂ => by
    have C₂ := (C.go k₁).go k₂
    exact wpAny_mono (F.run Γ.A Γ.base Γ.S s₂ vs C₂.room C₂.wd r₂) (fun _ _ q => ⟨(k₁.trans k₂).trans q.1, q.2.less fun b z => isOld_mono (k₁.trans k₂) z⟩) fun _ _ x => x
end
section
variable {K : Frag} {prog : Program} {w : World} {n : Nat}
theorem FnD.new {KK : Type} [DecidableEq KK] {κ : KD KK} {f : Value} {ds : List D} {out : List (KK × Int)} (h : FnD κ K prog w n f ds out) : FnN K prog w n f ds (κ.con out) := .mk fun A base S s vals hr hw r =>
  wpAny_mono (h.run A base S s vals hr hw r) (fun v s' q => ⟨q.1, by
    obtain ⟨a, us, rfl, hn, hm, hd, hk⟩ := q.2
    exact κ.rd _ _ _ _ _ _ _ (not_old hn) hm hd hk⟩) fun _ _ x => x
theorem fnN_of_body {fd : FuncData} {body : List Stmt} {ps : List Str} {a : Addr} (H : FnOk K a fd body ps) {ds : List D} {d : D} (hlen : ds.length = ps.length)
    (hx : ∀ A base S s₀ L s₁, Fm ⟨fun _ => False, [], noOwn, s₀⟩ (fnCtx K prog w A n base S fd L a (ps.zip ds)) [] noOwn s₁ → Ex (fnCtx K prog w A n base S fd L a (ps.zip ds)) (execs body (fnCtx K prog w A n base S fd L a (ps.zip ds)).env)
      (fun f s' => ∃ v, f = .ret v ∧ Kp s₀ s' ∧ Rep prog w (isOld s₀.heap) s'.heap v d) s₁) : FnN K prog w (n + 1) (.ref a) ds d := .mk fun A base S s vals hr hw r =>
  fn_enter H hr hw r hlen noOwn_ok trivial fun L s₁ F => hx A base S s L s₁ F
end
section
variable {L : Lev} {Γ : Ctx} {os : List Addr} {P : (Addr → Prop) → Heap → Prop} {s s' : Shared}
theorem x_retN {e : Expr} {pos : Pos} {rest : List Stmt} {d : D} {Q : Flow → Shared → Prop} (F : Fm L Γ os P s) (he : EvNew Γ e d) (k : ∀ v s', Fm L Γ os P s' → Rep Γ.prog Γ.w (isOld L.s₀.heap) s'.heap v d → Q (.ret v) s') :
    Ex Γ (execs (.Return (some e) pos :: rest) Γ.env) Q s :=
  .mk <| wpAny_execs_cons (wpAny_Return_some ((he.run s F.at_).then' fun v s₁ k₁ r₁ => k v s₁ (F.kp k₁) (r₁.less fun b q => F.base b q)))
end
-- part F7
section
variable {w : World} {prog : Program} {n : Nat} {KK : Type} [DecidableEq KK] (κ : KD KK)
noncomputable def stats (a b c d : Int) (e : D) : D := .tuple [.int a, .int b, .int c, .int d, e]
set_option maxHeartbeats 1000000 in
theorem fn_stats {a b c d a' b' c' d' : Int} {t s : List (KK × Int)} (hz : t.length + s.length ≤ 1000000) :
    FnN (Kf w) prog w (n + 2) (.ref 49) [stats a b c d (κ.con t), stats a' b' c' d' (κ.con s)] (stats (a' + a) (b' + b) (c' + c) (d' + d) (κ.con (addAll t s))) :=
  fnN_of_body ok49 rfl fun A base S s₀ L s₁ F => by
    refine x_unpack F (d := stats a' b' c' d' (κ.con s)) ((ev_name rfl).on F.at_) .t5 fun _ F => ?_
    refine x_unpack F (d := stats a b c d (κ.con t)) ((ev_name rfl).on F.at_) .t5 fun _ F => ?_
    refine x_retN F (new_tuple (newS_cons (new_int (ev_binop (ev_name rfl) (ev_name rfl) op_add)) (newS_cons (new_int (ev_binop (ev_name rfl) (ev_name rfl) op_add)) (newS_cons (new_int (ev_binop (ev_name rfl) (ev_name rfl) op_add)) (newS_cons (new_int (ev_binop (ev_name rfl) (ev_name rfl) op_add))
      (newS_cons (new_call (f := .ref 56) (ev_glob topOk rfl g56) ok56.callable (evs_cons (ev_name rfl) (evs_cons (ev_name rfl) evs_nil)) (fn_add_callers κ hz).new) newS_nil))))) (by show 5 ≤ sizeLine; decide)) fun v _ F r => ⟨v, rfl, F.done rfl rfl, r⟩
end
-- part PL23
section
variable {Γ : Ctx} {KK : Type} [DecidableEq KK]
/-- {key: value} -/
theorem ev_dict1 (κ : KD KK) {kx vx : Expr} {p : Pos} {k : KK} {i : Int} (h1 : Ev Γ kx (κ.enc k)) (h2 : Ev Γ vx (.int i)) : EvND Γ (κ.knd Γ.prog Γ.w) (.Dict [some kx] [vx] p) [(k, i)] := .mk fun s C => by
  have kp0 : Kp s { s with heap := s.heap.push { cls := .type "dict", data := .dict #[] } } := Kp.push s _
  refine wpAny_Dict_walk (knd := κ.knd Γ.prog Γ.w) rfl rfl (List.cons_ne_nil _ _) (by simp) (pairTrees_cons_walk ((h1.run _ (C.go kp0)).then' fun kv s₁ k₁ r₁ => (h2.run s₁ ((C.go kp0).go k₁)).then' fun vv s₂ k₂ r₂ => pairTrees_nil_walk ?_))
  have kk := (kp0.trans k₁).trans k₂
  cases r₂ with
  | int _ t =>
  refine ⟨[(k, .int i t)], ⟨κ.key _ _ _ _ _ _ r₁, rfl, trivial⟩, (DictOf_at (Heap.DictOf.new s.heap) fun o e => (k₁.trans k₂).k _ o e), fun h' hd hs => ⟨?_, s.heap.objs.size, _, rfl, get_size _ (Nat.le_refl _), ?_, hd, ?_⟩⟩
  · have kq := kk.2
    exact ⟨⟨kk.1.1, kk.1.2⟩, fun b o e => hs.extBut b o (Nat.ne_of_lt (Heap.lt_size e)) (kq b o e)⟩
  · have := size_big C
    have h1 : sysModules = 1 := rfl
    rw [h1]
    exact beq_eq_false_iff_ne.mpr (Nat.ne_of_gt (show (1 : Nat) < _ by omega))
  · exact .cons .nil
end

section
variable {L : Lev} {Γ : Ctx} {os : List Addr} {P : (Addr → Prop) → Heap → Prop} {s s' : Shared}
/-- owned[i] = value, wherever the list stands among what is owned -/
theorem x_setP {o i value : Expr} {p' pos : Pos} {rest : List Stmt} {a : Addr} {ds : List D} {d : D} {j : Nat} {P' : (Addr → Prop) → Heap → Prop} {Q : Flow → Shared → Prop} (F : Fm L Γ os P s) (ha : a ∈ os) (hW : L.W a ∨ L.s₀.heap.get? a = none)
    (pok' : OwnOk P' os) (hP : ∀ S h, P S h → AccL Γ.prog Γ.w a ds S h) (hP' : ∀ S h h', Heap.SameBut a h h' → S a → P S h → AccL Γ.prog Γ.w a (ds.set j d) S h' → P' S h')
    (hv : Tr Γ (eval value Γ.env) (fun v h => Γ.R h v d) s) (ho : Ev Γ o (.raw (.ref a))) (hi : Ev Γ i (.int j)) (hj : j < ds.length) (hz : ds.length ≤ 16384)
    (k : ∀ s', Fm L Γ os P' s' → Ex Γ (execs rest Γ.env) Q s')
    (hs : swapsWith value (some (.Subscript o i p')) pos.line Γ.env = pure false := by rfl) : Ex Γ (execs (.Assign [.Subscript o i p'] value pos :: rest) Γ.env) Q s := by
  refine .mk <| wpAny_execs_cons (wpAny_Assign_Subscript (hv.then' fun v s₁ k₁ r₁ => ?_) hs)
  have F₁ := F.kp k₁
  refine (ho.run s₁ F₁.at_).then' fun ov s₂ k₂ r₂ => ?_
  (first | obtain ⟨_, rfl⟩ := r₂.atom | exact (nsE r₂).elim | exact (snE r₂).elim | exact (ftE r₂).elim | cases r₂)
  have F₂ := F₁.kp k₂
  refine (hi.run s₂ F₂.at_).then' fun iv s₃ k₃ r₃ => ?_
  have F₃ := F₂.kp k₃
  (first | obtain ⟨_, rfl⟩ := r₃.atom | exact (nsE r₃).elim | exact (snE r₃).elim | exact (ftE r₃).elim | cases r₃)
  obtain ⟨hS, vs, hl, rs⟩ := hP _ _ F₃.own
  have hlen := rs.length
  have rv : Γ.R s₃.heap v d := (r₁.keep k₂.k).keep k₃.k
  obtain ⟨n, hl'⟩ := id hl
  refine ki_setAt (n := n) hl' (by omega) (by omega) (by simp; omega) ?_
  have hh := PySem.IsL.update (h := s₃.heap) hl' (·.setIfInBounds ((j : Int)).toNat v)
  have hs' : Heap.SameBut a s₃.heap (s₃.heap.update a (Obj.mapSeq (·.setIfInBounds ((j : Int)).toNat v))) := Heap.SameBut.update ..
  have hpl : (s₃.heap.update a (Obj.mapSeq (·.setIfInBounds ((j : Int)).toNat v))).PlainList a (vs.toArray.setIfInBounds ((j : Int)).toNat v) := ⟨_, hh⟩
  rw [Int.toNat_natCast, List.setIfInBounds_toArray] at hpl
  refine (k _ (Fm.mut (tk := s₃.toks) F₃ ha hs' (by rw [hh]; rfl) hW pok' (hP' _ _ _ hs' hS F₃.own ⟨hS, vs.set j v, by simpa using hpl, ?_⟩))).run
  exact (rs.set j rv).ext (Ext.sameBut hs' hS)

/-- owned.clear(): a dict -/
theorem x_clear {KK : Type} [DecidableEq KK] (κ : KD KK) {o : Expr} {apos cpos pos : Pos} {rest : List Stmt} {a : Addr} {kvs : List (KK × Int)} {P' : (Addr → Prop) → Heap → Prop} {Q : Flow → Shared → Prop} (F : Fm L Γ os P s) (ha : a ∈ os) (hW : L.W a ∨ L.s₀.heap.get? a = none)
    (pok' : OwnOk P' os) (hP : ∀ S h, P S h → AccD Γ.prog Γ.w (κ.knd Γ.prog Γ.w) a kvs S h) (hP' : ∀ S h h', Heap.SameBut a h h' → S a → P S h → AccD Γ.prog Γ.w (κ.knd Γ.prog Γ.w) a [] S h' → P' S h')
    (ho : Tr Γ (eval o Γ.env) (fun v _ => v = .ref a) s) (hz : kvs.length ≤ sizeLine) (k : ∀ s', Fm L Γ os P' s' → Ex Γ (execs rest Γ.env) Q s')
    (hbase : attributeBase o "clear" Γ.env (eval o Γ.env) = eval o Γ.env := by rfl) (hline : (apos.endLine == cpos.line) = true := by rfl) (hi : interactive Γ.env = false := by rfl) :
    Ex Γ (execs (.Expr (.Call (.Attribute o "clear" apos) [] [] cpos) pos :: rest) Γ.env) Q s := by
  refine .mk <| wpAny_execs_cons (wpAny_Expr (wpAny_Call_method hbase rfl hline PySem.F.plainAttrs_dict PySem.F.slot_dict_clear PySem.F.type_dict_clear (ho.then' fun v s₁ k₁ r₁ => ?_)) hi rfl)
  subst r₁
  have F₁ := F.kp k₁
  obtain ⟨hS, hm, us, hd, hk⟩ := hP _ _ F₁.own
  refine ⟨hd.typeIs, fun b e => by (first | obtain ⟨_, rfl⟩ := e.atom | exact (nsE e).elim | exact (snE e).elim | exact (ftE e).elim | cases e); exact hd.mapOf.noDict _ rfl, ?_⟩
  refine Calls.callWith_builtin rfl (evalArgs_any rfl (Calls.spliced_nil ?_))
  show wpAny _ _ (call (.builtin "dict.clear") [.ref a]) _ _ s₁
  refine call_meetsIn PySem.F.slot_dict_clear hd.typeIs PySem.F.entry_dict_clear (PySem.F.args_dict_clear_1 _) (meets_dict_clear (κ.knd Γ.prog Γ.w) a) ⟨us, hd, by rw [hk.length]; exact hz, fun h' hd' hs' => ?_⟩
  exact (k _ (Fm.mut (tk := s₁.toks) F₁ ha hs' (by obtain ⟨o, _, _, e, _⟩ := hd'; rw [e]; rfl) hW pok' (hP' _ _ _ hs' hS F₁.own ⟨hS, hm, [], hd', .nil⟩))).run

/-- what is owned last is given up -/
theorem Fm.drop {a : Addr} {P0 P1 : (Addr → Prop) → Heap → Prop} {ρ' : Str → Option D} (F0 : Fm L Γ os P0 s') (F : Fm L { Γ with S := (Γ.plus [a]).S, ρ := ρ' } (a :: os) (fun S h => P1 S h ∧ P S h) s) (pok : OwnOk P os) : Fm L { Γ with ρ := ρ' } os P s :=
  ⟨F.same, F.ext, At.minus (Γ := { Γ with ρ := ρ' }) (wr := [a]) F.at_, F.ns, ⟨F0.lS.1, F.lS.2⟩, fun x c e => let ⟨p, _, r⟩ := F.cS x c e; ⟨p, (F0.cS x c e).2.1, r⟩, ⟨fun m => F.ol.1 (.tail _ m), F.ol.2⟩, fun x c e => ⟨fun m => (F.oc x c e).1 (.tail _ m), (F.oc x c e).2⟩,
    pok.move _ _ _ F.own.2 (fun b q => .inl (.inl q)) (F0.pok.has _ _ F0.own), F.zok.move _ _ _ F.rest (fun b q => .inl (.inl q)) (F0.zok.has _ _ F0.rest), fun b m => F.oz b (.tail _ m), F.zok, pok, F.base⟩
theorem tr_view_old {as : List Addr} {l : List (Str × D)} {e : Expr} {d : D} (h : EvNew (Γ.view as l) e d) (C : (Γ.view as l).At s.heap) : Tr Γ (eval e Γ.env) (fun v h' => Rep Γ.prog Γ.w (isOld s.heap) h' v d) s := h.run s C
theorem tr_view_new {as : List Addr} {l : List (Str × D)} {e : Expr} {d : D} (h : EvNew (Γ.view as l) e d) (C : (Γ.view as l).At s.heap) (held : ∀ b, Γ.S b → (s.heap.get? b).isSome = true) : Tr Γ (eval e Γ.env) (fun v h => Γ.R h v d) s := by
  show Tr (Γ.view as l) (eval e (Γ.view as l).env) (fun v h => Γ.R h v d) s
  exact (h.run s C).mono fun v _ r => r.less fun b q => held b q

theorem look2 {x y z : Str} {d e f : D} (h : List.lookup z [(x, d), (y, e)] = some f) : (z = x ∧ f = d) ∨ (z = y ∧ f = e) := by
  rw [List.lookup_cons] at h
  cases q : (z == x) with
  | true => rw [q] at h; (first | obtain ⟨_, rfl⟩ := h.atom | exact (nsE h).elim | exact (snE h).elim | exact (ftE h).elim | cases h); exact .inl ⟨eq_of_beq q, rfl⟩
  | false =>
    rw [q] at h
    rw [List.lookup_cons] at h
    cases q' : (z == y) with
    | true => rw [q'] at h; (first | obtain ⟨_, rfl⟩ := h.atom | exact (nsE h).elim | exact (snE h).elim | exact (ftE h).elim | cases h); exact .inr ⟨eq_of_beq q', rfl⟩
    | false => rw [q'] at h; (first | obtain ⟨_, rfl⟩ := h.atom | exact (nsE h).elim | exact (snE h).elim | exact (ftE h).elim | cases h)
/-- x, y = (new data, a new dict that is owned) -/
theorem x_swap_own {KK : Type} [DecidableEq KK] (κ : KD KK) {x y : Str} {px py : Pos} {kk kk' : Nat} {tpos vpos pos : Pos} {e1 e2 : Expr} {rest : List Stmt} {d1 : D} {kvs : List (KK × Int)} {Q : Flow → Shared → Prop} (F : Fm L Γ os P s)
    (h1 : Tr Γ (eval e1 Γ.env) (fun v h => Rep Γ.prog Γ.w (isOld s.heap) h v d1) s) (h2 : EvND Γ (κ.knd Γ.prog Γ.w) e2 kvs)
    (k : ∀ a s', L.s₀.heap.get? a = none → a ∉ os → Fm L (((Γ.plus [a]).set y (.raw (.ref a))).set x d1) (a :: os) (fun S h => AccD Γ.prog Γ.w (κ.knd Γ.prog Γ.w) a kvs S h ∧ P S h) s' →
      Ex (((Γ.plus [a]).set y (.raw (.ref a))).set x d1) (execs rest (((Γ.plus [a]).set y (.raw (.ref a))).set x d1).env) Q s')
    (hx : asg Γ x = true := by rfl) (hy : asg Γ y = true := by rfl) (he1 : plainE e1 = true := by rfl) (he2 : plainE e2 = true := by rfl)
    (hs : swapsWithSole [.Tuple [.Name x px, .Name y py] kk tpos] (.Tuple [e1, e2] kk' vpos) pos.line Γ.env = pure false := by rfl) (hw : swappedStores [.Tuple [.Name x px, .Name y py] kk tpos] (.Tuple [e1, e2] kk' vpos) Γ.env = pure (some [x, y]) := by rfl) :
    Ex Γ (execs (.Assign [.Tuple [.Name x px, .Name y py] kk tpos] (.Tuple [e1, e2] kk' vpos) pos :: rest) Γ.env) Q s := by
  refine .mk <| wpAny_execs_cons (Assign_Tuple_swapped (wpAny_Tuple (wpAny_items_cons (h1.then' fun v1 s₁ k₁ r₁ => wpAny_items_cons ((h2.run s₁ (F.kp k₁).at_).then' fun v2 s₂ k₂ r₂ => wpAny_items_nil ?_) (starEach_plain he2)) (starEach_plain he1))) hs hw)
  have F₁ := F.kp k₁
  have F₂ := F₁.kp k₂
  obtain ⟨a, us, rfl, hn, hm, hd, hk⟩ := r₂
  refine ⟨by show 2 ≤ sizeLine; decide, ?_⟩
  have kp3 : Kp s₂ { s₂ with heap := s₂.heap.push { cls := .type "tuple", data := .seq [v1, .ref a].toArray } } := Kp.push s₂ _
  refine unpackItems_tuple (items := [v1, .ref a].toArray) F.at_.room.1 ⟨_, Heap.get?_push_size _ rfl, rfl, 0, rfl⟩ fun h' hx' => ?_
  have hk4 : ∀ b o, s₂.heap.get? b = some o → h'.get? b = some o := fun b o e => hx' b o (by
    have := Heap.lt_size e
    show b ≠ (s₂.heap.push _).objs.size
    rw [Heap.size_push]; exact Nat.ne_of_lt (Nat.lt_succ_of_lt this)) (Heap.get?_push_of_some _ e)
  have kp4 : Kp s₂ { s₂ with heap := h' } := Kp.heap s₂ h' hk4
  obtain ⟨f1, f2, f3, f4, f5, f6⟩ := F₁.fresh hn
  have live : (h'.get? a).isSome = true := by obtain ⟨o, _, _, e, _⟩ := hd; rw [hk4 _ _ e]; rfl
  have F₄ := F₁.plus (k₂.trans kp4) (wr := [a]) (fun b m => by rw [List.mem_singleton.mp m]; exact hn) (fun b m => by rw [List.mem_singleton.mp m]; exact live)
  have hP' : AccD Γ.prog Γ.w (κ.knd Γ.prog Γ.w) a kvs (Γ.plus [a]).S h' := ⟨.inr (.head _), hm, us, DictOf_at hd fun o e => hk4 _ _ e, hk⟩
  have F₅ : Fm L (Γ.plus [a]) (a :: os) (fun S h => AccD Γ.prog Γ.w (κ.knd Γ.prog Γ.w) a kvs S h ∧ P S h) { s₂ with heap := h' } := ⟨F₄.same, F₄.ext, F₄.at_, F₄.ns, F₄.lS, F₄.cS, ⟨fun m => (List.mem_cons.mp m).elim f1 F₄.ol.1, F₄.ol.2⟩, fun x c e => ⟨fun m => (List.mem_cons.mp m).elim (f2 x c e) (F₄.oc x c e).1, (F₄.oc x c e).2⟩,
    ⟨hP', F₄.own⟩, F₄.rest, fun b m => (List.mem_cons.mp m).elim (fun e => e ▸ f4) (F₄.oz b), F₄.zok, accD_ok.own.and F₄.pok, F₄.base⟩
  have rv1 : Rep Γ.prog Γ.w (Γ.plus [a]).S h' v1 d1 := ((r₁.avoid (S' := (Γ.plus [a]).S) fun b q => q.elim (fun z => .inl (F.at_.wd.held b z)) fun m => .inr (by rw [List.mem_singleton.mp m]; exact hn)).keep k₂.k).keep hk4
  show wpAny _ _ (assignInOrder [bindName Γ.env y, bindName Γ.env x] [.ref a, v1]) _ _ _
  refine wpAny_bind (wpAny_holding (wpAny_bindName (store_rule (Γ := Γ.plus [a]) F₅.at_ (F₅.slot (show asg (Γ.plus [a]) y = true from hy)) (.raw (.ref a)) fun s₅ w₅ C₅ => ?_)))
  have F₆ := F₅.wr (bs := [(y, .raw (.ref a))]) w₅ C₅
  have rv2 := rv1.ext w₅.ext
  refine wpAny_bind (wpAny_holding (wpAny_bindName (store_rule (Γ := (Γ.plus [a]).set y (.raw (.ref a))) F₆.at_ (F₆.slot (show asg ((Γ.plus [a]).set y (.raw (.ref a))) x = true from hx)) rv2 fun s₆ w₆ C₆ => wpAny_pure ?_)))
  exact (k a s₆ f5 f3 (F₆.wr (bs := [(x, d1)]) w₆ C₆)).run
end
-- part F8
theorem put_nodup {K : Type} [DecidableEq K] {kvs : List (K × Int)} {k : K} {i : Int} (h : (kvs.map (·.1)).Nodup) : ((put kvs k i).map (·.1)).Nodup := by
  unfold put
  split
  · have : (kvs.map fun kv => if kv.1 = k then (kv.1, i) else kv).map (·.1) = kvs.map (·.1) := by
      rw [List.map_map]; apply List.map_congr_left; intro a _; show (if a.1 = k then (a.1, i) else a).1 = a.1; split <;> rfl
    rw [this]; exact h
  · rename_i q
    rw [List.map_append, List.nodup_append]
    refine ⟨h, by simp, fun a ha b hb e => ?_⟩
    simp at hb
    subst hb; subst e
    obtain ⟨p, hp, rfl⟩ := List.mem_map.mp ha
    exact q (List.any_eq_true.mpr ⟨p, hp, by simp⟩)
theorem addAll_nodup {K : Type} [DecidableEq K] (t s : List (K × Int)) : ((addAll t s).map (·.1)).Nodup := by
  have h1 : ∀ (l acc : List (K × Int)), (acc.map (·.1)).Nodup → ((l.foldl (fun acc p => put acc p.1 p.2) acc).map (·.1)).Nodup := fun l => by
    induction l with
    | nil => exact fun _ h => h
    | cons p l ih => exact fun acc h => ih _ (put_nodup h)
  have h2 : ∀ (l acc : List (K × Int)), (acc.map (·.1)).Nodup → ((l.foldl addKV acc).map (·.1)).Nodup := fun l => by
    induction l with
    | nil => exact fun _ h => h
    | cons p l ih => exact fun acc h => ih _ (put_nodup h)
  exact h2 _ _ (h1 _ _ List.nodup_nil)

noncomputable def bkStep (k : Nat) (B : List (List (Int × Int))) (size : Nat) : List (List (Int × Int)) := B.set size (addAll (B.getD size []) [((k : Int), 2)])
noncomputable def bkRow (k : Nat) (B : List (List (Int × Int))) (row : List Nat) : List (List (Int × Int)) := row.foldl (bkStep k) B
noncomputable def books (rows : List (List Nat)) (m : Nat) : List (List (Int × Int)) := (List.range m).foldl (fun B k => bkRow k B (rows.getD k [])) (rows.map fun _ => [])
structure BkOk (m t : Nat) (B : List (List (Int × Int))) : Prop where
  len : B.length = m
  nod : ∀ b ∈ B, (b.map (·.1)).Nodup
  sz : ∀ b ∈ B, b.length ≤ t
theorem BkOk.step {m t k size : Nat} {B : List (List (Int × Int))} (h : BkOk m t B) : BkOk m (t + 1) (bkStep k B size) := by
  have hg : (B.getD size []).length ≤ t := by
    rcases Nat.lt_or_ge size B.length with q | q
    · rw [List.getD_eq_getElem?_getD, List.getElem?_eq_getElem q]; exact h.sz _ (List.getElem_mem q)
    · rw [List.getD_eq_getElem?_getD, List.getElem?_eq_none q]; exact Nat.zero_le _
  refine ⟨by unfold bkStep; rw [List.length_set]; exact h.len, fun b hb => ?_, fun b hb => ?_⟩
  · rcases List.mem_or_eq_of_mem_set hb with q | q
    · exact h.nod b q
    · rw [q]; exact addAll_nodup _ _
  · rcases List.mem_or_eq_of_mem_set hb with q | q
    · exact Nat.le_succ_of_le (h.sz b q)
    · rw [q]
      have a := addAll_len (B.getD size []) [((k : Int), 2)] (putAll (B.getD size []))
      have b := putAll_len (B.getD size [])
      unfold addAll
      simp only [List.length_singleton] at a
      omega
theorem BkOk.row {m k : Nat} : ∀ (row : List Nat) (t : Nat) (B : List (List (Int × Int))), BkOk m t B → BkOk m (t + row.length) (bkRow k B row)
  | [], _, _, h => h
  | x :: r, t, B, h => by
    have := BkOk.row (k := k) r (t + 1) (bkStep k B x) h.step
    rw [List.length_cons, show t + (r.length + 1) = t + 1 + r.length by omega]
    exact this
theorem books_succ (rows : List (List Nat)) (m : Nat) : books rows (m + 1) = bkRow m (books rows m) (rows.getD m []) := by
  unfold books; rw [List.range_succ, List.foldl_append]; rfl
theorem books_ok {rows : List (List Nat)} (hrow : ∀ r ∈ rows, r.length ≤ 100) : ∀ m, BkOk rows.length (m * 100) (books rows m)
  | 0 => ⟨by simp [books], fun b hb => by simp [books] at hb; rw [hb.2]; exact List.nodup_nil, fun b hb => by simp [books] at hb; rw [hb.2]; exact Nat.zero_le _⟩
  | m + 1 => by
    rw [books_succ]
    have h := BkOk.row (k := m) (rows.getD m []) _ _ (books_ok hrow m)
    have hl : (rows.getD m []).length ≤ 100 := by
      rcases Nat.lt_or_ge m rows.length with q | q
      · rw [List.getD_eq_getElem?_getD, List.getElem?_eq_getElem q]; exact hrow _ (List.getElem_mem q)
      · rw [List.getD_eq_getElem?_getD, List.getElem?_eq_none q]; exact Nat.zero_le _
    exact ⟨h.len, h.nod, fun b hb => Nat.le_trans (h.sz b hb) (by omega)⟩

section
variable {w : World} {prog : Program} {n : Nat}
noncomputable def dRows (rows : List (List Nat)) : D := .list (rows.map fun r => .list (r.map fun x : Nat => .int (x : Int)))
set_option maxHeartbeats 2000000 in
theorem fn_books {rows : List (List Nat)} (hr : rows.length ≤ 100) (hrow : ∀ r ∈ rows, r.length ≤ 100 ∧ ∀ x ∈ r, x < rows.length) : FnL (Kf w) prog w (n + 2) (.ref 92) [dRows rows] ((books rows rows.length).map .idict) :=
  fnL_of_body ok92 rfl fun A base S s₀ L s₁ F => by
    have hsz : sizeLine = 16777216 := by decide
    refine x_own_used (ds := (books rows 0).map .idict) F ?_ fun a _ ha _ F => ?_
    · have e : (books rows 0).map D.idict = rows.map fun _ => .idict [] := by simp [books]; 
      rw [e]
      exact evU_lcm (xs := rows) (inj := fun r => D.list (r.map fun x : Nat => .int (x : Int))) (ev_name rfl) iterable_list (by omega) fun r hr' Da C own wr => (ev_dict0 kdI).ev (κ := kdI)
    have okB : ∀ B : List D, OwnOk (fun S h => AccL prog w a B S h ∧ noOwn S h) [a] := fun B => (accL_ok.own).and noOwn_ok
    refine x_forN (d := .range 0 rows.length 1) (n := rows.length) (inj := fun j : Nat => D.int (j : Int)) (fun k => [("arrows", dRows rows), ("books", .raw (.ref a))]) (fun k S h => AccL prog w a ((books rows k).map .idict) S h ∧ noOwn S h) F (fun _ => okB _)
      ((c_range rfl rfl ((c_len rfl rfl (ev_name rfl) (fn_len_list (ds := rows.map fun r => D.list (r.map fun x : Nat => .int (x : Int))) (by simp; omega))).cast (congrArg D.int (by simp)))).on F.at_) (iter_range (n := (rows.length : Int)) (by omega) (by omega)) ⟨rfl, rfl, trivial⟩ (fun k hk L' wr _ hW hs₀ F => ?_) fun _ F => ?_
    · have hrk := hrow (rows.getD k []) (by rw [List.getD_eq_getElem?_getD, List.getElem?_eq_getElem hk]; exact List.getElem_mem hk)
      refine x_forI (d := .list ((rows.getD k []).map fun x : Nat => D.int (x : Int))) (xs := rows.getD k []) (inj := fun x : Nat => D.int (x : Int)) (fun j => [("arrows", dRows rows), ("books", .raw (.ref a)), ("k", .int (k : Int))])
        (fun j S h => AccL prog w a ((bkRow k (books rows k) ((rows.getD k []).take j)).map .idict) S h ∧ noOwn S h) F (fun _ => okB _)
        ((ev_sub (d1 := dRows rows) (ev_name rfl) (ev_name rfl) (sub_list (by intro _ _; rfl) (by omega) (by omega) (by simp [hk]))).on F.at_) iterable_list ⟨rfl, rfl, rfl, trivial⟩ (fun j x hx L'' wr2 _ hW2 hs2 F => ?_) fun _ F => ?_
      · have hxl : x < rows.length := hrk.2 x (List.mem_of_getElem? hx)
        have hB := BkOk.row (k := k) ((rows.getD k []).take j) _ _ (books_ok (fun r hr => (hrow r hr).1) k)
        generalize hBe : bkRow k (books rows k) ((rows.getD k []).take j) = B at hB F
        have hnext : bkRow k (books rows k) ((rows.getD k []).take (j + 1)) = bkStep k B x := by
          unfold bkRow at hBe ⊢; rw [foldl_take_succ _ _ _ j x hx, hBe]
        have hBl := hB.len
        have hbx : (B.map D.idict)[((x : Int)).toNat]? = some (.idict (B.getD x [])) := by simp [hBl, hxl]
        have hbm : B.getD x [] ∈ B := by rw [List.getD_eq_getElem?_getD, List.getElem?_eq_getElem (by omega)]; exact List.getElem_mem _
        have hbs := hB.sz _ hbm
        have hbn := hB.nod _ hbm
        have hlt : (k * 100 + ((rows.getD k []).take j).length) ≤ 20000 := by
          have : ((rows.getD k []).take j).length ≤ 100 := Nat.le_trans (by rw [List.length_take]; exact Nat.min_le_right ..) hrk.1
          omega
        have F0 := F
        refine x_swap_own kdI (d1 := .idict (B.getD x [])) (kvs := [((k : Int), 2)]) F (tr_view_old (as := [a]) (l := [("books", .list (B.map .idict))]) (EvND.new (κ := kdI) (ev_callD (κ := kdI) (f := .type "dict") (ev_blt topOk rfl g_dict b_dict) trivial (evs_cons (ev_sub (ev_name rfl) (ev_name rfl) (sub_list (by intro _ _; rfl) (by omega) (by omega) hbx)) evs_nil) (fn_dict kdI (by omega)))) (F.viewL rfl)) (ev_dict1 kdI (ev_name rfl) ev_int) fun a2 _ ha2 hne F => ?_
        have view2 : ∀ {Γ : Ctx} {s : Shared} {ds : List D} {kv : List (Int × Int)}, Fm L'' Γ [a2, a] (fun S h => AccD Γ.prog Γ.w (kdI.knd Γ.prog Γ.w) a2 kv S h ∧ AccL Γ.prog Γ.w a ds S h ∧ noOwn S h) s → Γ.ρ "laid" = some (.raw (.ref a2)) → Γ.ρ "books" = some (.raw (.ref a)) →
            (Γ.view [a2, a] [("laid", .idict kv), ("books", .list ds)]).At s.heap := fun F e1 e2 => At.view F.at_ fun y d e => by
          rcases look2 e with ⟨rfl, rfl⟩ | ⟨rfl, rfl⟩
          · exact ⟨a2, e1, F.own.1.rep kdI (.head _)⟩
          · exact ⟨a, e2, F.own.2.1.rep (.tail _ (.head _))⟩
        have hne' : a ≠ a2 := fun e => hne (by rw [e]; exact .head _)
        have okD : ∀ (kv : List (Int × Int)) (B : List D), OwnOk (fun S h => AccD prog w (kdI.knd prog w) a2 kv S h ∧ AccL prog w a B S h ∧ noOwn S h) [a2, a] := fun kv B => (accD_ok.own).and (okB B)
        refine x_assign F (d := .idict (addAll (B.getD x []) [((k : Int), 2)])) (tr_view_new (as := [a2, a]) (l := [("laid", .idict [((k : Int), 2)]), ("books", .list (B.map .idict))]) (EvND.new (κ := kdI) (ev_callD (κ := kdI) (f := .ref 56) (ev_glob topOk rfl g56) ok56.callable
          (evs_cons (ev_sub (ev_name rfl) (ev_name rfl) (sub_list (by intro _ _; rfl) (by omega) (by omega) hbx)) (evs_cons (ev_name rfl) evs_nil)) (fn_add_callers kdI (by show (B.getD x []).length + 1 ≤ 1000000; omega)))) (view2 F rfl rfl) F.at_.wd.held) fun _ F => ?_
        refine x_skip F (tr_view_T (as := [a2, a]) (l := [("laid", .idict [((k : Int), 2)]), ("books", .list (B.map .idict))]) (EvT.cast (evT_boolop (evTs_or (evT_cmp (ev_sub (ev_name rfl) (ev_name rfl) (sub_list (by intro _ _; rfl) (by omega) (by omega) hbx)) (ev_name rfl) (op_neD (EqD.idict 0 _ _) (by decide))) fun _ =>
          evTs_or (evT_cmp (ev_name rfl) (ev_dict1 kdI (ev_name rfl) ev_int).evI (op_neD (EqD.idict 0 _ _) (by decide))) fun _ => evTs_or_nil)) (by rw [eqKV_self hbn, eqKV_self (by simp)]; rfl)) (view2 F rfl rfl)) fun _ F => ?_
        refine x_clear kdI (kvs := [((k : Int), 2)]) (P' := fun S h => AccD prog w (kdI.knd prog w) a2 [] S h ∧ AccL prog w a (B.map .idict) S h ∧ noOwn S h) F (.head _) (.inr ha2) (okD _ _) (fun S h p => p.1) (fun S h h' hs hS p q => ⟨q, accL_ok.ext _ _ _ p.2.1 (Ext.sameBut hs hS) fun o e => hs.extBut a o hne' e, trivial⟩)
          (((ev_name (d := .raw (.ref a2)) rfl).on F.at_).mono fun v _ r => by (first | obtain ⟨_, rfl⟩ := r.atom | exact (nsE r).elim | exact (snE r).elim | exact (ftE r).elim | cases r); rfl) (by simp; omega) fun _ F => ?_
        refine x_setP (j := x) (d := .idict (addAll (B.getD x []) [((k : Int), 2)])) (ds := B.map .idict) (P' := fun S h => AccD prog w (kdI.knd prog w) a2 [] S h ∧ AccL prog w a ((bkStep k B x).map .idict) S h ∧ noOwn S h) F (.tail _ (.head _)) (.inr (hs2 ▸ hs₀ ▸ ha)) (okD _ _) (fun S h p => p.2.1)
          (fun S h h' hs hS p q => ⟨accD_ok.ext _ _ _ p.1 (Ext.sameBut hs hS) fun o e => hs.extBut a2 o (Ne.symm hne') e, by unfold bkStep; rw [List.map_set]; exact q, trivial⟩) ((ev_name rfl).on F.at_) (ev_name rfl) (ev_name rfl) (by simp; omega) (by simp; omega) fun _ F => ?_
        rw [hnext]
        exact ex_nil (.inl ⟨.inl rfl, (F0.drop F (okB _)).next rfl ⟨rfl, rfl, rfl, trivial⟩⟩)
      · rw [List.take_length, ← books_succ] at F
        exact ex_nil (.inl ⟨.inl rfl, F.next rfl ⟨rfl, rfl, trivial⟩⟩)
    · refine x_ret F (d := .raw (.ref a)) ((ev_name rfl).on F.at_) fun v _ F r => ⟨v, rfl, F.done rfl rfl, ?_⟩
      (first | obtain ⟨_, rfl⟩ := r.atom | exact (nsE r).elim | exact (snE r).elim | exact (ftE r).elim | cases r)
      obtain ⟨⟨hS, vs, hl, rs⟩, _⟩ := F.own
      exact ⟨a, vs, rfl, ha, hl, rs.less fun b q => q.elim (fun z => .inl (.inl z)) fun e => .inr (by rw [e]; exact .head _)⟩
end
-- part PL24
/-- an object that stands as it is -/
noncomputable def StandsAt (a : Addr) (o : Obj) (S : Addr → Prop) (h : Heap) : Prop := S a ∧ h.get? a = some o
theorem standsAt_ok {a : Addr} {o : Obj} : OwnOk (StandsAt a o) [a] := ⟨fun S h h' p _ k => ⟨p.1, k a (.head _) _ p.2⟩, fun S S' h p _ q => ⟨q a (.head _), p.2⟩, fun S h p b hb => by rw [List.mem_singleton.mp hb]; exact p.1⟩
/-- data made of objects that h₀ had not -/
noncomputable def RepN (prog : Program) (w : World) (h₀ : Heap) (v : Value) (d : D) (S : Addr → Prop) (h : Heap) : Prop := Rep prog w (fun b => S b ∨ isOld h₀ b) h v d
theorem repN_ok {prog : Program} {w : World} {h₀ : Heap} {v : Value} {d : D} : OwnOk (RepN prog w h₀ v d) [] :=
  ⟨fun S h h' p e _ => p.ext (S := fun b => S b ∨ isOld h₀ b) fun b o hb q => e b o (fun z => hb (.inl z)) q, fun S S' h p x _ => p.avoid fun b q => q.elim (fun z => (x b z).elim (fun y => .inl (.inl y)) .inr) fun z => .inl (.inr z), fun _ _ _ _ m => nomatch m⟩

section
variable {L : Lev} {Γ : Ctx} {os : List Addr} {P : (Addr → Prop) → Heap → Prop} {s s' : Shared}
/-- name = new data, held as it is -/
theorem x_bindN {x : Str} {px pos : Pos} {value : Expr} {rest : List Stmt} {d : D} {Q : Flow → Shared → Prop} (F : Fm L Γ os P s) (he : Tr Γ (eval value Γ.env) (fun v h => Rep Γ.prog Γ.w (isOld s.heap) h v d) s)
    (k : ∀ v s', Fm L (Γ.set x (.raw v)) os (fun S h => RepN Γ.prog Γ.w L.s₀.heap v d S h ∧ P S h) s' → Ex (Γ.set x (.raw v)) (execs rest (Γ.set x (.raw v)).env) Q s')
    (ha : asg Γ x = true := by rfl) (hs : swapsWith value (some (.Name x px)) pos.line Γ.env = pure false := by rfl) : Ex Γ (execs (.Assign [.Name x px] value pos :: rest) Γ.env) Q s := by
  refine .mk <| wpAny_execs_cons (wpAny_Assign_Name (he.then' fun v s₁ k₁ r₁ => ?_) hs)
  have F₁ := F.kp k₁
  have rn : RepN Γ.prog Γ.w L.s₀.heap v d Γ.S s₁.heap := r₁.less fun b q => q.elim (fun z => F.at_.wd.held b z) fun z => F.base b z
  have F₂ : Fm L Γ os (fun S h => RepN Γ.prog Γ.w L.s₀.heap v d S h ∧ P S h) s₁ := { F₁ with own := ⟨rn, F₁.own⟩, pok := by have := repN_ok (prog := Γ.prog) (w := Γ.w) (h₀ := L.s₀.heap) (v := v) (d := d) |>.and F₁.pok; exact this }
  exact store_rule F₂.at_ (F₂.slot ha) (.raw v) fun s' w C => (k v s' (F₂.wr (bs := [(x, .raw v)]) w C)).run
end
-- part F9
section
variable {w : World} {prog : Program} {n : Nat}
/-- an entry's tuple -/
noncomputable def tup5 (a b c d : Int) (ta tb tc td : Tok) (e : Addr) (m : Nat) : Obj := { cls := .type "tuple", data := .seq [Value.int a ta, .int b tb, .int c tc, .int d td, .ref e].toArray m }
theorem tup5_rep {KK : Type} [DecidableEq KK] (κ : KD KK) {S : Addr → Prop} {h : Heap} {t e : Addr} {a b c d : Int} {ta tb tc td : Tok} {m : Nat} {kvs : List (KK × Int)} {as : List Addr} (ht : t ∈ as) (he : e ∈ as) (o : StandsAt t (tup5 a b c d ta tb tc td e m) S h) (q : AccD prog w (κ.knd prog w) e kvs S h) :
    Rep prog w (fun b => S b ∧ b ∉ as) h (.ref t) (stats a b c d (κ.con kvs)) :=
  .tuple (fun z => z.2 ht) o.2 (.cons (.int _ _) (.cons (.int _ _) (.cons (.int _ _) (.cons (.int _ _) (.cons (q.rep κ he) .nil)))))
theorem tup5_raw {S : Addr → Prop} {h : Heap} {t e : Addr} {a b c d : Int} {ta tb tc td : Tok} {m : Nat} {as : List Addr} (ht : t ∈ as) (o : StandsAt t (tup5 a b c d ta tb tc td e m) S h) :
    Rep prog w (fun b => S b ∧ b ∉ as) h (.ref t) (.tuple [.int a, .int b, .int c, .int d, .raw (.ref e)]) :=
  .tuple (fun z => z.2 ht) o.2 (.cons (.int _ _) (.cons (.int _ _) (.cons (.int _ _) (.cons (.int _ _) (.cons (.raw _) .nil)))))

set_option maxHeartbeats 2000000 in
theorem run_added {A : Around} {base : Heap} {S : Addr → Prop} {s : Shared} {t u d1 d2 : Addr} {a b c d a' b' c' d' : Int} {ta tb tc td ta' tb' tc' td' : Tok} {m m' : Nat} {k1 k2 : List (Int × Int)} (hr : RoomA (n + 3) A) (hw : Wd (Kf w) base S s.heap)
    (ht : StandsAt t (tup5 a b c d ta tb tc td d1 m) S s.heap) (hu : StandsAt u (tup5 a' b' c' d' ta' tb' tc' td' d2 m') S s.heap) (h1 : AccD prog w (intKind prog w) d1 k1 S s.heap) (h2 : AccD prog w (intKind prog w) d2 k2 S s.heap) (hd : d1 ≠ d2) (hz : k1.length + k2.length ≤ 1000000)
    (hn1 : (k1.map (·.1)).Nodup) (hn2 : (k2.map (·.1)).Nodup) :
    wpAny (model prog w) A (call (.ref 99) [.ref t, .ref u]) (fun v s' => Sm s s' ∧ (∀ x o, x ≠ d1 → x ≠ d2 → s.heap.get? x = some o → s'.heap.get? x = some o) ∧ s'.heap.DictOf (intKind prog w) d1 [] ∧ (s'.heap.get? d2).isSome = true ∧
      Rep prog w (isOld s.heap) s'.heap v (stats (a' + a) (b' + b) (c' + c) (d' + d) (.idict (addAll k1 k2)))) (fun _ _ => False) s := by
  let P : List (Int × Int) → List (Int × Int) → (Addr → Prop) → Heap → Prop := fun k1 k2 S h => StandsAt t (tup5 a b c d ta tb tc td d1 m) S h ∧ StandsAt u (tup5 a' b' c' d' ta' tb' tc' td' d2 m') S h ∧ AccD prog w (kdI.knd prog w) d1 k1 S h ∧ AccD prog w (kdI.knd prog w) d2 k2 S h
  have okP : ∀ k1 k2, OwnOk (P k1 k2) [t, u, d1, d2] := fun k1 k2 => (standsAt_ok (a := t)).and ((standsAt_ok (a := u)).and ((accD_ok (Da := d1)).own.and (accD_ok (Da := d2)).own))
  have htd : ∀ (x y : Addr) (o : Obj) (k : List (Int × Int)), o.cls = .type "tuple" → StandsAt x o S s.heap → AccD prog w (intKind prog w) y k S s.heap → x ≠ y := fun x y o k hc p q e => by
    obtain ⟨_, _, us, ⟨o', es, ep, ho', hc', _⟩, _⟩ := q
    rw [← e, p.2] at ho'; (first | obtain ⟨_, rfl⟩ := ho'.atom | exact (nsE ho').elim | exact (snE ho').elim | exact (ftE ho').elim | cases ho')
    rw [hc'.1] at hc
    injection hc with hc
    exact absurd hc (by decide)
  have n1 := htd t d1 _ _ rfl ht h1
  have n2 := htd t d2 _ _ rfl ht h2
  have n3 := htd u d1 _ _ rfl hu h1
  have n4 := htd u d2 _ _ rfl hu h2
  refine fn_enter ok99 (n := n + 2) (ds := [.raw (.ref t), .raw (.ref u)]) hr hw (.cons (.raw _) (.cons (.raw _) .nil)) rfl (W := fun x => x = d1 ∨ x = d2) (os := [t, u, d1, d2]) (P := P k1 k2) (okP _ _) ⟨ht, hu, h1, h2⟩ fun Lc s₁ F => ?_
  have view : ∀ {Γ : Ctx} {s' : Shared} {L : Lev} {P1 : (Addr → Prop) → Heap → Prop}, Γ.prog = prog → Γ.w = w → Fm L Γ [t, u, d1, d2] P1 s' → (∀ S h, P1 S h → P k1 k2 S h) → Γ.ρ "target" = some (.raw (.ref t)) → Γ.ρ "source" = some (.raw (.ref u)) →
      (Γ.view [t, u, d1, d2] [("target", stats a b c d (.idict k1)), ("source", stats a' b' c' d' (.idict k2))]).At s'.heap := fun {Γ} {s'} {L} {P1} hp hw F hP e1 e2 => At.view F.at_ fun y dd e => by
    obtain ⟨q1, q2, q3, q4⟩ := hP _ _ F.own
    rw [hp, hw]
    rcases look2 e with ⟨rfl, rfl⟩ | ⟨rfl, rfl⟩
    · exact ⟨t, e1, tup5_rep kdI (.head _) (.tail _ (.tail _ (.head _))) q1 q3⟩
    · exact ⟨u, e2, tup5_rep kdI (.tail _ (.head _)) (.tail _ (.tail _ (.tail _ (.head _)))) q2 q4⟩
  have hsz : sizeLine = 16777216 := by decide
  have sub4 : ∀ {Γ : Ctx} {p1 p2 p3 : Pos} {kk : Nat} {x : Str} {a b c d : Int} {e : D}, Γ.ρ x = some (stats a b c d e) → (x == ("__debug__" : Str)) = false → Ev Γ (.Subscript (.Name x p1) (.Constant (.int 4) kk p2) p3) e := fun h hdb => ev_sub (ev_name h hdb) ev_int (sub_tuple (by intro _ _; rfl) (by decide) (by decide) rfl)
  refine x_assign F (d := .list [.idict k1, .idict k2]) (tr_view_new (as := [t, u, d1, d2]) (l := [("target", stats a b c d (.idict k1)), ("source", stats a' b' c' d' (.idict k2))])
    (new_list (newS_cons (EvND.new (κ := kdI) (ev_callD (κ := kdI) (f := .type "dict") (ev_blt topOk rfl g_dict b_dict) trivial (evs_cons (sub4 rfl (by decide)) evs_nil) (fn_dict kdI (by omega))))
      (newS_cons (EvND.new (κ := kdI) (ev_callD (κ := kdI) (f := .type "dict") (ev_blt topOk rfl g_dict b_dict) trivial (evs_cons (sub4 rfl (by decide)) evs_nil) (fn_dict kdI (by omega)))) newS_nil)) (by show 2 ≤ sizeLine; decide)) (view rfl rfl F (fun _ _ p => p) rfl rfl) F.at_.wd.held) fun _ F => ?_
  refine x_bindN F (d := stats (a' + a) (b' + b) (c' + c) (d' + d) (.idict (addAll k1 k2))) (tr_view_old (as := [t, u, d1, d2]) (l := [("target", stats a b c d (.idict k1)), ("source", stats a' b' c' d' (.idict k2))])
    (new_call (f := .ref 49) (ev_glob topOk rfl g49) ok49.callable (evs_cons (ev_name rfl) (evs_cons (ev_name rfl) evs_nil)) (fn_stats kdI hz)) (view rfl rfl F (fun _ _ p => p) rfl rfl)) fun v _ F => ?_
  refine x_skip F (tr_view_T (as := [t, u, d1, d2]) (l := [("target", stats a b c d (.idict k1)), ("source", stats a' b' c' d' (.idict k2))]) (evT_cmp (ev_list (evs_cons (sub4 rfl (by decide)) (evs_cons (sub4 rfl (by decide)) evs_nil)) (by show 2 ≤ sizeLine; decide)) (ev_name (d := .list [.idict k1, .idict k2]) rfl)
    (op_neD (EqD.list_true (n := 1) rfl fun j x y hx hy => ?_) (by decide))) (view rfl rfl F (fun _ _ p => p.2) rfl rfl)) fun _ F => ?_
  · rw [hx] at hy; (first | obtain ⟨_, rfl⟩ := hy.atom | exact (nsE hy).elim | exact (snE hy).elim | exact (ftE hy).elim | cases hy)
    match j, hx with
    | 0, hx => (first | obtain ⟨_, rfl⟩ := hx.atom | exact (nsE hx).elim | exact (snE hx).elim | exact (ftE hx).elim | cases hx); have := EqD.idict 0 k1 k1; rw [eqKV_self hn1] at this; exact this
    | 1, hx => (first | obtain ⟨_, rfl⟩ := hx.atom | exact (nsE hx).elim | exact (snE hx).elim | exact (ftE hx).elim | cases hx); have := EqD.idict 0 k2 k2; rw [eqKV_self hn2] at this; exact this
  have acc2 : ∀ (h h' : Heap) (S : Addr → Prop) (x y : Addr) (kv : List (Int × Int)), Heap.SameBut x h h' → S x → y ≠ x → AccD prog w (kdI.knd prog w) y kv S h → AccD prog w (kdI.knd prog w) y kv S h' := fun h h' S x y kv hs hS hne p => accD_ok.ext _ _ _ p (Ext.sameBut hs hS) fun o e => hs.extBut y o hne e
  have st2 : ∀ (h h' : Heap) (S : Addr → Prop) (x y : Addr) (o : Obj), Heap.SameBut x h h' → y ≠ x → StandsAt y o S h → StandsAt y o S h' := fun h h' S x y o hs hne p => ⟨p.1, hs.extBut y _ hne p.2⟩
  generalize hout : stats (a' + a) (b' + b) (c' + c) (d' + d) (.idict (addAll k1 k2)) = out at F
  have okR : ∀ k1 k2, OwnOk (fun S h => RepN prog w s.heap v out S h ∧ P k1 k2 S h) [t, u, d1, d2] := fun k1 k2 => repN_ok.and (okP k1 k2)
  have raw4 : ∀ {Γ : Ctx} {s' : Shared} {L : Lev} {P1 : (Addr → Prop) → Heap → Prop} {x : Str} {y e : Addr} {a b c d : Int} {ta tb tc td : Tok} {m : Nat} {p1 p2 p3 : Pos} {kk : Nat}, Γ.prog = prog → Γ.w = w → Fm L Γ [t, u, d1, d2] P1 s' → (∀ S h, P1 S h → StandsAt y (tup5 a b c d ta tb tc td e m) S h) → y ∈ [t, u, d1, d2] → Γ.ρ x = some (.raw (.ref y)) → (x == ("__debug__" : Str)) = false →
      Tr Γ (eval (.Subscript (.Name x p1) (.Constant (.int 4) kk p2) p3) Γ.env) (fun v _ => v = .ref e) s' := fun {Γ} {s'} {L} {P1} {x} {y} {e} {a} {b} {c} {d} {ta} {tb} {tc} {td} {m} {p1} {p2} {p3} {kk} hp hw F hP hy hx hdb => by
    have C : (Γ.view [t, u, d1, d2] [(x, .tuple [.int a, .int b, .int c, .int d, .raw (.ref e)])]).At s'.heap := At.view F.at_ fun z dd q => by
      obtain ⟨rfl, rfl⟩ := look1 q
      rw [hp, hw]
      exact ⟨y, hx, tup5_raw hy (hP _ _ F.own)⟩
    have hev : Ev (Γ.view [t, u, d1, d2] [(x, .tuple [.int a, .int b, .int c, .int d, .raw (.ref e)])]) (.Subscript (.Name x p1) (.Constant (.int 4) kk p2) p3) (.raw (.ref e)) :=
      ev_sub (d1 := .tuple [.int a, .int b, .int c, .int d, .raw (.ref e)]) (ev_name (by show (match List.lookup x [(x, _)] with | some d => some d | none => Γ.ρ x) = _; rw [List.lookup_cons, beq_self_eq_true]) hdb) ev_int (sub_tuple (by intro _ _; rfl) (by decide) (by decide) rfl)
    have := hev.on C
    show Tr (Γ.view [t, u, d1, d2] [(x, .tuple [.int a, .int b, .int c, .int d, .raw (.ref e)])]) (eval (.Subscript (.Name x p1) (.Constant (.int 4) kk p2) p3) (Γ.view [t, u, d1, d2] [(x, .tuple [.int a, .int b, .int c, .int d, .raw (.ref e)])]).env) (fun v _ => v = .ref e) s'
    exact this.mono fun v _ r => by (first | obtain ⟨_, rfl⟩ := r.atom | exact (nsE r).elim | exact (snE r).elim | exact (ftE r).elim | cases r); rfl
  refine x_clear kdI (kvs := k1) (P' := fun S h => RepN prog w s.heap v out S h ∧ P [] k2 S h) F (a := d1) (.tail _ (.tail _ (.head _))) (.inl (.inl rfl)) (okR _ _) (fun S h p => p.2.2.2.1)
    (fun S h h' hs hS p q => ⟨repN_ok.ext _ _ _ p.1 (Ext.sameBut hs hS) (fun _ m => nomatch m), st2 _ _ _ _ _ _ hs n1 p.2.1, st2 _ _ _ _ _ _ hs n3 p.2.2.1, q, acc2 _ _ _ _ _ _ hs hS (Ne.symm hd) p.2.2.2.2⟩)
    (raw4 rfl rfl F (fun S h p => p.2.1) (.head _) rfl (by decide)) (by omega) fun _ F => ?_
  refine x_clear kdI (kvs := k2) (P' := fun S h => RepN prog w s.heap v out S h ∧ P [] [] S h) F (a := d2) (.tail _ (.tail _ (.tail _ (.head _)))) (.inl (.inr rfl)) (okR _ _) (fun S h p => p.2.2.2.2)
    (fun S h h' hs hS p q => ⟨repN_ok.ext _ _ _ p.1 (Ext.sameBut hs hS) (fun _ m => nomatch m), st2 _ _ _ _ _ _ hs n2 p.2.1, st2 _ _ _ _ _ _ hs n4 p.2.2.1, acc2 _ _ _ _ _ _ hs hS hd p.2.2.2.1, q⟩)
    (raw4 rfl rfl F (fun S h p => p.2.2.1) (.tail _ (.head _)) rfl (by decide)) (by omega) fun _ F => ?_
  refine x_ret F (d := .raw v) ((ev_name rfl).on F.at_) fun v' s' F r => ⟨v', rfl, ?_⟩
  (first | obtain ⟨_, rfl⟩ := r.atom | exact (nsE r).elim | exact (snE r).elim | exact (ftE r).elim | cases r)
  refine ⟨F.same, fun x o hx1 hx2 e => F.ext x o (fun z => z.elim hx1 hx2) e, ?_, ?_, ?_⟩
  · obtain ⟨_, _, us, hd, hk⟩ := F.own.2.2.2.1; (first | obtain ⟨_, rfl⟩ := hk.atom | exact (nsE hk).elim | exact (snE hk).elim | exact (ftE hk).elim | cases hk); exact hd
  · obtain ⟨_, _, us, ⟨o, _, _, e, _⟩, _⟩ := F.own.2.2.2.2; rw [e]; rfl
  · exact Rep.less (S := fun b => _ ∨ isOld s.heap b) F.own.1 fun b q => .inr q
end
-- part PL25
/-- a list that is gathered of new data alone -/
noncomputable def AccN (prog : Program) (w : World) (h₁ : Heap) (Da : Addr) (outs : List D) (S : Addr → Prop) (h : Heap) : Prop := S Da ∧ ∃ vs, h.PlainList Da vs.toArray ∧ RepAll prog w (fun b => S b ∨ isOld h₁ b) h vs outs
theorem accN_ok {prog : Program} {w : World} {h₁ : Heap} {Da : Addr} {outs : List D} : AccOk (AccN prog w h₁ Da outs) Da where
  ext := fun S h h' ⟨a, vs, b, r⟩ e k => ⟨a, vs, b.at k, r.ext (S := fun b => S b ∨ isOld h₁ b) fun b o hb q => e b o (fun z => hb (.inl z)) q⟩
  move := fun S S' h ⟨a, vs, b, r⟩ x y => ⟨y, vs, b, r.avoid fun b q => q.elim (fun z => (x b z).elim (fun u => .inl (.inl u)) .inr) fun z => .inl (.inr z)⟩
  has := fun S h q => q.1
inductive NewN (Γ : Ctx) (h₀ : Heap) (ds : List D) (v : Value) (h : Heap) : Prop
  | mk (a : Addr) (vs : List Value) (e : v = .ref a) (n : h₀.get? a = none) (hl : h.PlainList a vs.toArray) (rs : RepAll Γ.prog Γ.w (fun b => (Γ.S b ∨ b = a) ∨ isOld h₀ b) h vs ds) : NewN Γ h₀ ds v h
section
variable {Γ : Ctx} {tg : List Str} {Da : Addr} {Sr : Addr → Prop} {hr : Heap} {s₁ s : Shared}
theorem emitN_rule {elt : Expr} {h₁ : Heap} {outs : List D} {y : D} {fp : List Addr} {c : Code} (L : Lay Γ tg Da Sr hr) (hfd : Da ∉ fp) (hc : Cst Γ tg Sr hr (AccN Γ.prog Γ.w h₁ Da outs) s₁ s) (h : EvNew Γ elt y) (hold : ∀ b, isOld h₁ b → isOld s.heap b) (hz : outs.length ≤ sizeLine) :
    wpAny (model Γ.prog Γ.w) Γ.A (emitL elt (.ref Da) Γ.env >>= fun _ => again c)
      (fun fin s' => fin = .again c ∧ Cst Γ tg Sr hr (AccN Γ.prog Γ.w h₁ Da (outs ++ [y])) s₁ s' ∧ ∀ b ∈ fp, ∀ o, s.heap.get? b = some o → s'.heap.get? b = some o) (fun _ _ => False) s := by
  refine wpAny_bind (wpAny_bind ((h.run s hc.at_).then' fun v s₂ k₂ r₂ => ?_))
  have c₂ := hc.kp accN_ok k₂
  obtain ⟨hS, vs, hl, rs⟩ := c₂.acc
  have e := rs.length
  refine wpAny_bind (wpAny_list_append_plain hl (fun h' hl' hs => wpAny_pure (wpAny_pure ⟨rfl, ?_, fun b hb o q => hs.extBut b o (fun z => hfd (z ▸ hb)) (k₂.k b o q)⟩)) (by simpa [e] using hz))
  have he : ∀ b o, b ∉ [Da] → s₂.heap.get? b = some o → h'.get? b = some o := fun b o m q => hs.extBut b o (fun z => m (by simp [z])) q
  have hx : Ext Γ.S s₂.heap h' := Ext.sameBut hs hS
  have hxN : Ext (fun b => Γ.S b ∨ isOld h₁ b) s₂.heap h' := fun b o hb e => hx b o (fun z => hb (.inl z)) e
  have hlive : ∀ b ∈ [Da], (h'.get? b).isSome = true := fun b hb => by
    simp at hb; subst hb
    obtain ⟨n, q⟩ := hl'; rw [q]; rfl
  have hlo : Γ.env.locals ∉ [Da] := fun m => L.dl (by simpa using (List.mem_singleton.mp m).symm)
  have hce : ∀ x c, Γ.env.cells.lookup x = some c → c ∉ [Da] := fun x c q m => L.dc x (by rw [q, List.mem_singleton.mp m])
  refine ⟨⟨c₂.same.1, c₂.same.2⟩, c₂.ext.more fun b o hb q => hs.extBut b o (fun z => hb (z ▸ L.fd)) q, At.wr (wr := [Da]) c₂.at_ he (fun b m => (List.mem_singleton.mp m) ▸ hS) hlive hlo hce, fun x hx => slot_wr (c₂.slots x hx) he hlo (hce x), ⟨hS, vs ++ [v], ?_, (rs.ext hxN).append (.cons ((r₂.less fun b q => q.elim (fun z => hc.at_.wd.held b z) fun z => hold b z).ext hxN) .nil)⟩, let ⟨m, q⟩ := c₂.ns; ⟨m, q.sameBut hs (fun z => L.dl z.symm)⟩⟩
  simpa using hl'

end
theorem listcompN_use {τ : Type} {xs : List τ} {inj : τ → D} {bs : τ → List (Str × D)} {p : τ → Bool} {g : τ → D} {Γ : Ctx} {scope : Scope} {tg : List Str} {d : D} {iter elt target : Expr} {ifs : List Expr} {pos : Pos}
    (hi : Ev Γ iter d) (hit : Iterable d (xs.map inj)) (Z : ScopeOk Γ scope tg) (hsz : xs.length ≤ sizeLine)
    (hb : ∀ x ∈ xs, Bnd target (inj x) (bs x)) (hn : ∀ x ∈ xs, ∀ b ∈ bs x, b.1 ∈ tg)
    (ht : ∀ x ∈ xs, ∀ Da C own wr, TestsOk (Γ.cx scope (bs x) Da C own wr) ifs (p x))
    (he : ∀ x ∈ xs, p x = true → ∀ Da C own wr, EvNew (Γ.cx scope (bs x) Da C own wr) elt (g x))
    {use : Option (Value → Sem Unit)} {Q : Value → Shared → Prop} {s : Shared} (hC : Γ.At s.heap)
    (fin : ∀ s₁ Da C own s', Kp s s₁ → Γ.At s₁.heap → s₁.heap.get? C = none → s₁.heap.get? Da = none → Da ≠ C → Cst (Γ.comp scope Da C own) tg (fun _ => False) s₁.heap (AccN Γ.prog Γ.w s₁.heap Da (pickOut p g xs)) s₁ s' →
      compPost (model Γ.prog Γ.w) Γ.A (fun _ _ => False) use Q (.ref Da) C (.ok .next) s')
    (hs : ∀ x, foldedSetIterable iter Γ.env x = pure x := by intro _; rfl) :
    wpAny (model Γ.prog Γ.w) Γ.A (comprehension (.ListComp elt [⟨target, iter, ifs, 0⟩] scope pos) scope Γ.env (firstIterPos [⟨target, iter, ifs, 0⟩] pos) (newList []) false (eval iter Γ.env) use) Q (fun _ _ => False) s := by
  refine wpAny_comprehension_free rfl hs (scope_clos Z) Z.kind (scope_names Z) ((hi.run s hC).then' fun xv s₁ k₁ r₁ => ?_)
  have C1 := hC.go k₁
  refine comp_core (P := fun Da t => AccN Γ.prog Γ.w s₁.heap Da t) (fun Da t => accN_ok) (ob := { cls := .type "list", data := .seq ([] : List Value).toArray }) rfl
    (fun M A s Q E q => wpAny_newObj_type q) (fun k => pickOut p g (xs.take k)) (fun Da S h hS _ e => ⟨hS, [], ⟨0, e⟩, ?_⟩) Z C1 r₁ hit (ip := iter.pos) (target := target) (ifs := ifs)
    (kt := fun I Da Γ' => emitL elt (.ref Da) Γ'.env >>= fun _ => again (.compLoop (.ListComp elt [⟨target, iter, ifs, 0⟩] scope pos) 0 (.ref I) (.ref Da) Γ'.env))
    (fun h h' => codeAny_compStart_list h h') (fun _ _ _ => rfl) (fun _ _ _ _ => rfl) ?_ ?_ ?_
  · rw [List.take_zero]; exact .nil
  · exact fun I Da C own => hden_list1 I Da C own
  · intro I Da C own fp wr L hfd _ _ _ _ k d hd
    rw [List.getElem?_map] at hd
    cases hx : xs[k]? with
    | none => rw [hx] at hd; (first | obtain ⟨_, rfl⟩ := hd.atom | exact (nsE hd).elim | exact (snE hd).elim | exact (ftE hd).elim | cases hd)
    | some x =>
      rw [hx] at hd
      (first | obtain ⟨_, rfl⟩ := hd.atom | exact (nsE hd).elim | exact (snE hd).elim | exact (ftE hd).elim | cases hd)
      have hm : x ∈ xs := List.mem_of_getElem? hx
      refine ⟨bs x, p x, hb x hm, hn x hm, ht x hm Da C own wr, fun e => ?_, fun e s c => ?_⟩
      · show pickOut p g (xs.take (k + 1)) = _
        rw [pickOut_take p g xs k x hx, e]; simp
      · have e2 : pickOut p g (xs.take (k + 1)) = pickOut p g (xs.take k) ++ [g x] := by rw [pickOut_take p g xs k x hx, e]; simp
        show wpAny _ _ _ (fun fin s' => fin = _ ∧ Cst _ tg _ s₁.heap (AccN Γ.prog Γ.w s₁.heap Da (pickOut p g (xs.take (k + 1)))) s₁ s' ∧ _) _ s
        rw [e2]
        obtain ⟨e1, -, e3, e4, e5, -⟩ := setAll_env (bs x) ((Γ.comp scope Da C own).plus wr)
        have := emitN_rule (h₁ := s₁.heap) (c := .compLoop (.ListComp elt [⟨target, iter, ifs, 0⟩] scope pos) 0 (.ref I) (.ref Da) (Γ.comp scope Da C own).env) (fp := fp) (Γ := Γ.cx scope (bs x) Da C own wr) (y := g x) (elt := elt) (outs := pickOut p g (xs.take k)) (lay_setAll L) hfd
          (by rw [e3, e4]; exact c) (he x hm e Da C own wr) (fun b q => some_keep q fun b o z => c.ext b o id z) (Nat.le_trans (pickOut_len p g _) (Nat.le_trans (by rw [List.length_take]; exact Nat.min_le_right ..) hsz))
        rw [e1, e3, e4, e5] at this
        exact this
  · intro Da C own s' h1 h2 h3 c
    refine fin s₁ Da C own s' k₁ C1 h1 h2 h3 ?_
    have : (xs.map inj).length = xs.length := List.length_map ..
    rw [this, List.take_length] at c
    exact c

theorem evUN_of {Γ : Ctx} {elt target iter : Expr} {gs : List Comprehension} {scope : Scope} {pos : Pos} {ds : List D}
    (h : ∀ (s : Shared) (use : Option (Value → Sem Unit)) (Q : Value → Shared → Prop), Γ.At s.heap → (∀ s₁ Da C own s', Kp s s₁ → Γ.At s₁.heap → s₁.heap.get? C = none → s₁.heap.get? Da = none → Da ≠ C → Cst (Γ.comp scope Da C own) tg (fun _ => False) s₁.heap (AccN Γ.prog Γ.w s₁.heap Da ds) s₁ s' →
      compPost (model Γ.prog Γ.w) Γ.A (fun _ _ => False) use Q (.ref Da) C (.ok .next) s') →
      wpAny (model Γ.prog Γ.w) Γ.A (comprehension (.ListComp elt (⟨target, iter, ifs, 0⟩ :: gs) scope pos) scope Γ.env (firstIterPos (⟨target, iter, ifs, 0⟩ :: gs) pos) (newList []) false (eval iter Γ.env) use) Q (fun _ _ => False) s) :
    EvU Γ (.ListComp elt (⟨target, iter, ifs, 0⟩ :: gs) scope pos) fun Γ h₀ v h => NewN Γ h₀ ds v h := .mk fun s use Q hC k => by
  show wpAny _ Γ.A (do let _ ← comprehension (.ListComp elt (⟨target, iter, ifs, 0⟩ :: gs) scope pos) scope Γ.env _ (newList []) false (eval iter Γ.env) (some use)) _ _ s
  refine wpAny_bind (wpAny_mono (h s (some use) (fun _ s' => Q s') hC ?_) (fun _ _ q => wpAny_pure q) fun _ _ x => x)
  intro s₁ Da C own s' k₁ C1 h1 h2 h3 c
  have kk := cst_kp c
  refine wpAny_mono (k s' (.ref Da) C (k₁.trans kk) (none_back k₁ h1) c.ns ?_ ⟨Da, rfl, h3, none_back k₁ h2⟩) (fun _ s'' q => q) fun _ _ x => x
  obtain ⟨_, vs, hl, rs⟩ := c.acc
  exact ⟨Da, vs, rfl, none_back k₁ h2, hl, rs.less fun b q => by
    rcases q with ((q | q) | q) | q
    · exact .inl (.inl q)
    · exact .inl (.inr (.inr (.inl (List.mem_singleton.mp q))))
    · exact .inl (.inr (.inl q))
    · exact .inr (isOld_mono k₁ q)⟩

theorem evUN_listcomp {τ : Type} {xs : List τ} {inj : τ → D} {bs : τ → List (Str × D)} {p : τ → Bool} {g : τ → D} {Γ : Ctx} {scope : Scope} {tg : List Str} {d : D} {iter elt target : Expr} {ifs : List Expr} {pos : Pos}
    (hi : Ev Γ iter d) (hit : Iterable d (xs.map inj)) (Z : ScopeOk Γ scope tg) (hsz : xs.length ≤ sizeLine)
    (hb : ∀ x ∈ xs, Bnd target (inj x) (bs x)) (hn : ∀ x ∈ xs, ∀ b ∈ bs x, b.1 ∈ tg)
    (ht : ∀ x ∈ xs, ∀ Da C own wr, TestsOk (Γ.cx scope (bs x) Da C own wr) ifs (p x))
    (he : ∀ x ∈ xs, p x = true → ∀ Da C own wr, EvNew (Γ.cx scope (bs x) Da C own wr) elt (g x))
    (hs : ∀ x, foldedSetIterable iter Γ.env x = pure x := by intro _; rfl) : EvU Γ (.ListComp elt [⟨target, iter, ifs, 0⟩] scope pos) fun Γ h₀ v h => NewN Γ h₀ (pickOut p g xs) v h :=
  evUN_of fun s use Q hC fin => listcompN_use hi hit Z hsz hb hn ht he hC fin hs


section
variable {L : Lev} {Γ : Ctx} {os : List Addr} {P : (Addr → Prop) → Heap → Prop} {s s' : Shared}
theorem x_own_usedN {x : Str} {px pos : Pos} {value : Expr} {rest : List Stmt} {ds : List D} {Q : Flow → Shared → Prop} (F : Fm L Γ os P s) (he : EvU Γ value fun Γ h₀ v h => NewN Γ h₀ ds v h)
    (k : ∀ a s', L.s₀.heap.get? a = none → a ∉ os → Fm L ((Γ.plus [a]).set x (.raw (.ref a))) (a :: os) (fun S h => AccN Γ.prog Γ.w L.s₀.heap a ds S h ∧ P S h) s' → Ex ((Γ.plus [a]).set x (.raw (.ref a))) (execs rest ((Γ.plus [a]).set x (.raw (.ref a))).env) Q s')
    (ha : asg Γ x = true := by rfl) (hs : swapsWith value (some (.Name x px)) pos.line Γ.env = pure true := by rfl) : Ex Γ (execs (.Assign [.Name x px] value pos :: rest) Γ.env) Q s := by
  refine .mk <| wpAny_execs_cons ?_
  rw [exec_Assign_Name_used _ _ _ _ hs]
  refine wpAny_bind (wpAny_standAt (wpAny_bind (wpAny_mono (he.run s (assign (.Name x px) Γ.env) (fun s' => Wx Γ (execs rest Γ.env) Q s') F.at_ ?_) (fun _ s' q => wpAny_pure q) fun _ _ x => x)))
  intro s' v C k₁ hC hns hv hva
  obtain ⟨f1, f2, f3, f4, f5, f6⟩ := F.fresh hC
  obtain ⟨m, hm⟩ := hns
  have hCl : (s'.heap.get? C).isSome = true := let ⟨o, _, _, e, _⟩ := hm; by rw [e]; rfl
  obtain ⟨a, vs, rfl, hn, hl, rs⟩ := hv
  obtain ⟨a', e', hne, _⟩ := hva
  (first | obtain ⟨_, rfl⟩ := e'.atom | exact (nsE e').elim | exact (snE e').elim | exact (ftE e').elim | cases e')
  obtain ⟨g1, g2, g3, g4, g5, g6⟩ := F.fresh hn
  have hal : (s'.heap.get? a).isSome = true := let ⟨n, e⟩ := hl; by rw [e]; rfl
  have F₁ := F.plus k₁ (wr := [a]) (fun b m => by rw [List.mem_singleton.mp m]; exact hn) (fun b m => by rw [List.mem_singleton.mp m]; exact hal)
  have F₁' := F.plus k₁ (wr := [a, C]) (fun b m => by rcases List.mem_cons.mp m with e | e; exact e ▸ hn; rw [List.mem_singleton.mp e]; exact hC) (fun b m => by rcases List.mem_cons.mp m with e | e; exact e ▸ hal; rw [List.mem_singleton.mp e]; exact hCl)
  have hSS : ∀ b, ((Γ.plus [a]).plus [C]).S b ↔ (Γ.plus [a, C]).S b := fun b => by
    show (Γ.S b ∨ b ∈ [a]) ∨ b ∈ [C] ↔ Γ.S b ∨ b ∈ [a, C]
    simp [or_assoc]
  have acc : AccN Γ.prog Γ.w L.s₀.heap a ds ((Γ.plus [a]).plus [C]).S s'.heap := ⟨.inl (.inr (.head _)), vs, hl, rs.less fun b q => by
    rcases q with ((q | q) | q) | q
    · exact .inl (.inl (.inl q))
    · exact .inl (.inr (List.mem_singleton.mp q))
    · exact .inl (.inl (.inr q))
    · exact .inr (F.base b q)⟩
  have atC : ((Γ.plus [a]).plus [C]).At s'.heap := by
    have X := F₁'.at_
    refine ⟨X.wd.less fun b q => (hSS b).mp q, X.kind, X.globals, X.builtins, X.room, X.sep, X.cin, fun y d e => ?_⟩
    obtain ⟨v, hv, r⟩ := X.vars y d e
    exact ⟨v, hv, r.less fun b q => (hSS b).mp q⟩
  have F₂ : Fm L ((Γ.plus [a]).plus [C]) (a :: os) (fun S h => AccN Γ.prog Γ.w L.s₀.heap a ds S h ∧ P S h) s' := by
    refine ⟨F₁'.same, F₁'.ext, atC, F₁'.ns, ⟨.inl (.inl F.lS.1), F.lS.2⟩, fun x c e => let ⟨p, q, r⟩ := F₁'.cS x c e; ⟨p, .inl (.inl (F.cS x c e).2.1), r⟩, ⟨fun m => (List.mem_cons.mp m).elim g1 F.ol.1, F.ol.2⟩, fun x c e => ⟨fun m => (List.mem_cons.mp m).elim (g2 x c e) (F.oc x c e).1, (F.oc x c e).2⟩,
      ⟨acc, ?_⟩, ?_, fun b m => (List.mem_cons.mp m).elim (fun e => e ▸ g4) (F.oz b), F.zok, accN_ok.own.and F.pok, F₁'.base⟩
    · exact F.pok.move _ _ _ F₁'.own (fun b q => .inl ((hSS b).mp q)) fun b m => .inl (.inl (F.pok.has _ _ F.own b m))
    · exact F.zok.move _ _ _ F₁'.rest (fun b q => .inl ((hSS b).mp q)) fun b m => .inl (.inl (F.zok.has _ _ F.rest b m))
  refine wpAny_assign_Name (store_rule (Γ := (Γ.plus [a]).plus [C]) F₂.at_ (F₂.slot (show asg ((Γ.plus [a]).plus [C]) x = true from ha)) (.raw (.ref a)) fun s'' w At' => ?_)
  have F₃ := F₂.wr (bs := [(x, .raw (.ref a))]) w At'
  have hm' : s''.heap.Ns C m := hm.at' fun o e => w.off C o (Ne.symm f1) (fun y _ q => f2 y C q rfl) e
  exact ⟨m, hm', fun h' hs' => Ex.run (Γ := (Γ.plus [a]).set x (.raw (.ref a))) (k a _ g5 g3 (Fm.sameBut (Γ := (Γ.plus [a]).set x (.raw (.ref a))) F₃ hs' f1 f2 (fun m => (List.mem_cons.mp m).elim (fun e => hne e.symm) f3) f4 f5 fun q => q.elim f6 fun m => hne (List.mem_singleton.mp m).symm))⟩

end
-- part F10
/-- data that no dict is part of -/
inductive FlatD : D → Prop
  | int (i : Int) : FlatD (.int i)
  | raw (v : Value) : FlatD (.raw v)
  | nums (ns : List Int) : FlatD (.list (ns.map .int))

theorem At.dictmut {Γ : Ctx} {s s' : Shared} {d1 d2 : Addr} {us : List (Int × Value)} (C : Γ.At s.heap) (hf : ∀ x d, Γ.ρ x = some d → FlatD d) (hl : Γ.S Γ.env.locals) (hc : ∀ x c, Γ.env.cells.lookup x = some c → Γ.S c)
    (hd1 : s.heap.DictOf (intKind Γ.prog Γ.w) d1 us) (hS1 : ¬ Γ.S d1) (hS2 : ¬ Γ.S d2) (hb1 : Γ.base.get? d1 = none) (hb2 : Γ.base.get? d2 = none) (hn2 : ∀ o, s.heap.get? d2 = some o → o.cls ≠ .type "list") (k : ∀ b o, b ≠ d1 → b ≠ d2 → s.heap.get? b = some o → s'.heap.get? b = some o) : Γ.At s'.heap := by
  have ne : ∀ {b : Addr}, Γ.S b → b ≠ d1 ∧ b ≠ d2 := fun h => ⟨fun e => hS1 (e ▸ h), fun e => hS2 (e ▸ h)⟩
  have live : ∀ {b : Addr}, b ≠ d1 → b ≠ d2 → (s.heap.get? b).isSome = true → (s'.heap.get? b).isSome = true := fun {b} h1 h2 h => by
    cases e : s.heap.get? b with
    | none => rw [e] at h; (first | obtain ⟨_, rfl⟩ := h.atom | exact (nsE h).elim | exact (snE h).elim | exact (ftE h).elim | cases h)
    | some o => rw [k b o h1 h2 e]; rfl
  refine ⟨⟨C.wd.gl, fun b o e => k b o (fun q => by rw [q, hb1] at e; (first | obtain ⟨_, rfl⟩ := e.atom | exact (nsE e).elim | exact (snE e).elim | exact (ftE e).elim | cases e)) (fun q => by rw [q, hb2] at e; (first | obtain ⟨_, rfl⟩ := e.atom | exact (nsE e).elim | exact (snE e).elim | exact (ftE e).elim | cases e)) (C.wd.up b o e), C.wd.off, fun a h => live (ne h).1 (ne h).2 (C.wd.held a h)⟩, C.kind, C.globals, C.builtins, C.room, C.sep, fun x c e => live (ne (hc x c e)).1 (ne (hc x c e)).2 (C.cin x c e), fun x d e => ?_⟩
  obtain ⟨v, hv, r⟩ := C.vars x d e
  refine ⟨v, ?_, ?_⟩
  · rcases hv with ⟨a, m, n, em⟩ | ⟨a, c, l, o, ho, hd⟩
    · exact .inl ⟨a, m, n.at' fun o q => k _ o (ne hl).1 (ne hl).2 q, em⟩
    · exact .inr ⟨a, c, l, o, k _ _ (ne (hc x c l)).1 (ne (hc x c l)).2 ho, hd⟩
  · cases hf x d e with
    | int i => (first | obtain ⟨_, rfl⟩ := r.atom | exact (nsE r).elim | exact (snE r).elim | exact (ftE r).elim | cases r); exact .int _ _
    | raw u => (first | obtain ⟨_, rfl⟩ := r.atom | exact (nsE r).elim | exact (snE r).elim | exact (ftE r).elim | cases r); exact .raw _
    | nums ns =>
      obtain ⟨l, vs, rfl, hS, ⟨n, hl⟩, rs⟩ := r.list_inv
      have h1 : l ≠ d1 := fun z => by
        obtain ⟨o, _, _, ho, hx, _⟩ := hd1
        rw [← z, hl] at ho; (first | obtain ⟨_, rfl⟩ := ho.atom | exact (nsE ho).elim | exact (snE ho).elim | exact (ftE ho).elim | cases ho)
        have := hx.1
        injection this with this
        exact absurd this (by decide)
      have h2 : l ≠ d2 := fun z => hn2 _ (z ▸ hl) rfl
      exact .list hS ⟨n, k _ _ h1 h2 hl⟩ (.of_ints rs.ints)
structure St where
  a : Int
  b : Int
  c : Int
  d : Int
  kv : List (Int × Int)
noncomputable def St.D (x : St) : D := stats x.a x.b x.c x.d (.idict x.kv)
section
variable {prog : Program} {w : World}
/-- an entry: its tuple and its dict, both made since h₀ -/
structure Ent (prog : Program) (w : World) (h₀ : Heap) (S : Addr → Prop) (h : Heap) (e : Addr × Addr) (x : St) : Prop where
  s1 : ¬ S e.1
  s2 : ¬ S e.2
  o1 : h₀.get? e.1 = none
  o2 : h₀.get? e.2 = none
  m : (e.2 == sysModules) = false
  ob : ∃ ta tb tc td m, h.get? e.1 = some (tup5 x.a x.b x.c x.d ta tb tc td e.2 m)
  di : ∃ us, h.DictOf (intKind prog w) e.2 us ∧ KV us x.kv
theorem DictOf_some {prog : Program} {w : World} {h : Heap} {d : Addr} {us : List (Int × Value)} (q : h.DictOf (intKind prog w) d us) : ∃ o, h.get? d = some o ∧ o.cls = .type "dict" :=
  let ⟨o, _, _, ho, hx, _⟩ := q; ⟨o, ho, hx.1⟩
theorem Ent.some1 {prog : Program} {w : World} {h₀ : Heap} {S : Addr → Prop} {h : Heap} {e : Addr × Addr} {x : St} (q : Ent prog w h₀ S h e x) : h.get? e.1 ≠ none := fun z =>
  let ⟨_, _, _, _, _, g⟩ := q.ob; nomatch z.symm.trans g
theorem Ent.some2 {prog : Program} {w : World} {h₀ : Heap} {S : Addr → Prop} {h : Heap} {e : Addr × Addr} {x : St} (q : Ent prog w h₀ S h e x) : h.get? e.2 ≠ none := fun z =>
  let ⟨_, i, _⟩ := q.di; let ⟨_, g, _⟩ := DictOf_some i; nomatch z.symm.trans g
structure PE (prog : Program) (w : World) (h₀ : Heap) (a : Addr) (st : List St) (S : Addr → Prop) (h : Heap) : Prop where
  own : S a
  ex : ∃ es : List (Addr × Addr), h.PlainList a (es.map fun e => Value.ref e.1).toArray ∧ es.length = st.length ∧ (∀ (k : Nat) (e : Addr × Addr) (x : St), es[k]? = some e → st[k]? = some x → Ent prog w h₀ S h e x) ∧
    ∀ (k k' : Nat) (e e' : Addr × Addr) (x x' : St), k ≠ k' → es[k]? = some e → es[k']? = some e' → st[k]? = some x → st[k']? = some x' → e.2 = e'.2 → x.kv = [] ∧ x'.kv = []
theorem Ent.ext {h₀ : Heap} {S : Addr → Prop} {h h' : Heap} {e : Addr × Addr} {x : St} (q : Ent prog w h₀ S h e x) (k1 : ∀ o, h.get? e.1 = some o → h'.get? e.1 = some o) (k2 : ∀ o, h.get? e.2 = some o → h'.get? e.2 = some o) : Ent prog w h₀ S h' e x :=
  ⟨q.s1, q.s2, q.o1, q.o2, q.m, let ⟨ta, tb, tc, td, m, g⟩ := q.ob; ⟨ta, tb, tc, td, m, k1 _ g⟩, let ⟨us, i, j⟩ := q.di; ⟨us, DictOf_at i k2, j⟩⟩
theorem Ent.move {h₀ : Heap} {S S' : Addr → Prop} {h : Heap} {e : Addr × Addr} {x : St} (q : Ent prog w h₀ S h e x) (m : ∀ b, S' b → S b ∨ h.get? b = none) : Ent prog w h₀ S' h e x :=
  ⟨fun z => (m _ z).elim q.s1 q.some1, fun z => (m _ z).elim q.s2 q.some2, q.o1, q.o2, q.m, q.ob, q.di⟩
theorem pe_ok {h₀ : Heap} {a : Addr} {st : List St} : OwnOk (PE prog w h₀ a st) [a] where
  ext := fun S h h' p x k => ⟨p.own, let ⟨es, p1, p2, p3, p4⟩ := p.ex; ⟨es, p1.at (k a (.head _)), p2, fun i e y he hy => (p3 i e y he hy).ext (fun o q => x _ o (p3 i e y he hy).s1 q) (fun o q => x _ o (p3 i e y he hy).s2 q), p4⟩⟩
  move := fun S S' h p x q => ⟨q a (.head _), let ⟨es, p1, p2, p3, p4⟩ := p.ex; ⟨es, p1, p2, fun i e y he hy => (p3 i e y he hy).move x, p4⟩⟩
  has := fun S h p b hb => by rw [List.mem_singleton.mp hb]; exact p.own

theorem ent_of {h₀ : Heap} {S : Addr → Prop} {h : Heap} {v : Value} {x : St} (r : Rep prog w (fun b => S b ∨ isOld h₀ b) h v x.D) : ∃ e : Addr × Addr, v = .ref e.1 ∧ Ent prog w h₀ S h e x := by
  obtain ⟨t, vs, m, rfl, hS, ho, rs⟩ := Rep.tuple_inv r
  have none_of : ∀ b, ¬ isOld h₀ b → h₀.get? b = none := fun b q => by
    cases z : h₀.get? b with
    | none => rfl
    | some o => exact absurd (by unfold isOld; rw [z]; rfl) q
  cases rs with
  | cons r1 rs =>
    cases rs with
    | cons r2 rs =>
      cases rs with
      | cons r3 rs =>
        cases rs with
        | cons r4 rs =>
          cases rs with
          | cons r5 rs =>
            (first | obtain ⟨_, rfl⟩ := rs.atom | exact (nsE rs).elim | exact (snE rs).elim | exact (ftE rs).elim | cases rs)
            (first | obtain ⟨_, rfl⟩ := r1.atom | exact (nsE r1).elim | exact (snE r1).elim | exact (ftE r1).elim | cases r1); (first | obtain ⟨_, rfl⟩ := r2.atom | exact (nsE r2).elim | exact (snE r2).elim | exact (ftE r2).elim | cases r2); (first | obtain ⟨_, rfl⟩ := r3.atom | exact (nsE r3).elim | exact (snE r3).elim | exact (ftE r3).elim | cases r3); (first | obtain ⟨_, rfl⟩ := r4.atom | exact (nsE r4).elim | exact (snE r4).elim | exact (ftE r4).elim | cases r4)
            cases r5 with
            | idict hS' hm hd hk =>
              rename_i d us
              exact ⟨(t, d), rfl, fun q => hS (.inl q), fun q => hS' (.inl q), none_of _ fun q => hS (.inr q), none_of _ fun q => hS' (.inr q), hm, ⟨_, _, _, _, m, ho⟩, us, hd, hk⟩
theorem ents_of {h₀ : Heap} {S : Addr → Prop} {h : Heap} : ∀ {st : List St} {vs : List Value}, RepAll prog w (fun b => S b ∨ isOld h₀ b) h vs (st.map St.D) →
    ∃ es : List (Addr × Addr), vs = es.map (fun e => Value.ref e.1) ∧ es.length = st.length ∧ ∀ (k : Nat) (e : Addr × Addr) (x : St), es[k]? = some e → st[k]? = some x → Ent prog w h₀ S h e x
  | [], vs, r => by (first | obtain ⟨_, rfl⟩ := r.atom | exact (nsE r).elim | exact (snE r).elim | exact (ftE r).elim | cases r); exact ⟨[], rfl, rfl, fun k e x he => by simp at he⟩
  | y :: st, vs, r => by
    cases r with
    | cons a r =>
      obtain ⟨e, rfl, he⟩ := ent_of a
      obtain ⟨es, rfl, hl, hes⟩ := ents_of r
      refine ⟨e :: es, rfl, by simp [hl], fun k e' x he' hx => ?_⟩
      cases k with
      | zero => simp at he' hx; subst he'; subst hx; exact he
      | succ k => simp at he' hx; exact hes k e' x he' hx
theorem pe_of {h₀ : Heap} {a : Addr} {st : List St} {S : Addr → Prop} {h : Heap} (q : AccN prog w h₀ a (st.map St.D) S h) (hst : ∀ x ∈ st, x.kv = []) : PE prog w h₀ a st S h := by
  obtain ⟨hS, vs, hl, rs⟩ := q
  obtain ⟨es, rfl, h1, h2⟩ := ents_of rs
  exact ⟨hS, es, hl, h1, h2, fun k k' e e' x x' _ _ _ hx hx' _ => ⟨hst _ (List.mem_of_getElem? hx), hst _ (List.mem_of_getElem? hx')⟩⟩
end
-- part PL26
/-- an iterator of numbers, which looks at itself alone -/
structure ItR (prog : Program) (w : World) (A : Around) (I : Addr) (wr : List Addr) (ds : List D) (St : Nat → Heap → Prop) : Prop where
  live : ∀ i h, St i h → ∀ b ∈ wr, (h.get? b).isSome = true
  frame : ∀ i h h', St i h → (∀ b ∈ wr, ∀ o, h.get? b = some o → h'.get? b = some o) → St i h'
  done : ∀ (s : Shared) (Q : Option Value → Shared → Prop) (E : Value → Shared → Prop), St ds.length s.heap →
    (∀ h' tk, (∀ b o, b ∉ wr → s.heap.get? b = some o → h'.get? b = some o) → Q none { s with heap := h', toks := tk }) → wpAny (model prog w) A (pyNext (.ref I)) Q E s
  step : ∀ i d target bs (s : Shared) (Q : Value → Shared → Prop), Bnd target d bs → ds[i]? = some d → St i s.heap →
    (∀ v h' tk, (∀ S' : Addr → Prop, Rep prog w S' h' v d) → St (i + 1) h' → (∀ b o, b ∉ wr → s.heap.get? b = some o → h'.get? b = some o) → Q v { s with heap := h', toks := tk }) →
    wpAny (model prog w) A (pyNext (.ref I)) (fun r s₁ => ∃ v, r = some v ∧ wpAny (model prog w) A (letOwnedTupleGo target (.ref I) v) (fun _ s₂ => Q v s₂) (fun _ _ => False) s₁) (fun _ _ => False) s
noncomputable def IterR (d : D) (ds : List D) : Prop := ∀ (prog : Program) (w : World) (A : Around) (S : Addr → Prop) (s : Shared) (v : Value) (Q : Value → Shared → Prop) (E : Value → Shared → Prop), A.handled = none → Rep prog w S s.heap v d →
  (∀ I wr St s₂, Kp s s₂ → ItR prog w A I wr ds St → St 0 s₂.heap → (∀ b ∈ wr, s.heap.get? b = none) → Q (.ref I) s₂) → wpAny (model prog w) A (pyIter v) Q E s
noncomputable def KeepZ (L : Lev) : Prop := ∀ S h h', L.Z S h → (∀ a ∈ L.zs, ∀ o, h.get? a = some o → h'.get? a = some o) → L.Z S h'
structure ZitR (St : Nat → Heap → Prop) (wr : List Addr) (k : Nat) (S : Addr → Prop) (h : Heap) : Prop where
  st : St k h
  z2 : ∀ b ∈ wr, (h.get? b).isSome = true
  z3 : ∀ b ∈ wr, S b
theorem zitR_ok {prog : Program} {w : World} {A : Around} {I : Addr} {wr : List Addr} {ds : List D} {St : Nat → Heap → Prop} (T : ItR prog w A I wr ds St) (k : Nat) : OwnOk (ZitR St wr k) wr where
  ext := fun S h h' ⟨z1, z2, z3⟩ _ q => ⟨T.frame k h h' z1 q, fun b hb => by
    have := z2 b hb
    cases e : h.get? b with
    | none => rw [e] at this; (first | obtain ⟨_, rfl⟩ := this.atom | exact (nsE this).elim | exact (snE this).elim | exact (ftE this).elim | cases this)
    | some o => rw [q b hb o e]; rfl, z3⟩
  move := fun S S' h ⟨z1, z2, z3⟩ _ q => ⟨z1, z2, q⟩
  has := fun S h z => z.z3
theorem iterR_range {a b c : Int} (hs : Builtin.Range.small a b c = true) (hn : 0 ≤ Builtin.Range.rangeSize a b c) : IterR (.range a b c) (rangeD a c (Builtin.Range.rangeSize a b c).toNat) := by
  intro prog w A S s v Q E hh r k
  cases r with
  | range hS hr =>
    refine wpAny_pyIter_range hr hs (k s.heap.objs.size [s.heap.objs.size] (fun i h => IsRangeIter h s.heap.objs.size (a + (i : Nat) * c) (((Builtin.Range.rangeSize a b c).toNat : Int) - (i : Nat)) c) _ (Kp.push s _) ?_ ?_ ?_)
    · have W := Walks.range (prog := prog) (w := w) (A := A) hh s.heap.objs.size a c (Builtin.Range.rangeSize a b c).toNat
      refine ⟨fun i h st b hb => ?_, W.frame, fun s' Q' E' st k' => W.done s' Q' E' (by rw [rangeD_length] at st; exact st) k', fun i d target bs s' Q' hbnd hd st k' => ?_⟩
      · simp at hb; subst hb
        have st' : h.get? s.heap.objs.size = some _ := st
        rw [st']; rfl
      · have hi : i < (Builtin.Range.rangeSize a b c).toNat := by
          rcases Nat.lt_or_ge i (Builtin.Range.rangeSize a b c).toNat with q | q
          · exact q
          · rw [List.getElem?_eq_none (by rw [rangeD_length]; exact q)] at hd; (first | obtain ⟨_, rfl⟩ := hd.atom | exact (nsE hd).elim | exact (snE hd).elim | exact (ftE hd).elim | cases hd)
        refine W.item i s' _ _ hi st fun v h' tk hv st' hk => ?_
        obtain ⟨t, rfl⟩ := hv
        have hdd : d = .int (a + (i : Int) * c) := by simpa [rangeD, hi] using hd.symm
        refine ⟨_, rfl, ?_⟩
        rcases bnd_target hbnd with ⟨x, p, rfl⟩ | ⟨es, k, p, rfl⟩
        · exact wpAny_pure (k' _ h' tk (fun S' => by rw [hdd]; exact .int _ _) st' hk)
        · exact wpAny_pure (k' _ h' tk (fun S' => by rw [hdd]; exact .int _ _) st' hk)
    · show IsRangeIter _ _ _ _ _
      have : (((Builtin.Range.rangeSize a b c).toNat : Int) - ((0 : Nat) : Int)) = Builtin.Range.rangeSize a b c := by omega
      rw [this]
      have h0 : a + ((0 : Nat) : Int) * c = a := by simp
      rw [h0]
      exact Heap.get?_push_size _ rfl
    · intro b hb
      simp at hb; subst hb
      exact get_size _ (Nat.le_refl _)
section
variable {L : Lev} {Γ : Ctx} {os : List Addr} {P : (Addr → Prop) → Heap → Prop} {s s' : Shared}
theorem x_forR {target iter : Expr} {body rest : List Stmt} {pos : Pos} {d : D} {ds : List D} {Q : Flow → Shared → Prop} (vars : Nat → List (Str × D)) (Pk : Nat → (Addr → Prop) → Heap → Prop) (F : Fm L Γ os (Pk 0) s) (pok : ∀ k, OwnOk (Pk k) os)
    (hi : Tr Γ (eval iter Γ.env) (fun v h => Γ.R h v d) s) (hit : IterR d ds) (hkz : KeepZ L) (h0 : Agree Γ (vars 0))
    (turn : ∀ k d', ds[k]? = some d' → ∃ bs, Bnd target d' bs ∧ (bs.all fun b => asg Γ b.1) = true ∧ ∀ (L' : Lev) (wr : List Addr) (s' : Shared), KeepZ L' → L'.W = L.W → L'.s₀ = L.s₀ → Fm L' (((Γ.plus wr).only (vars k)).setAll bs) os (Pk k) s' →
      Ex (((Γ.plus wr).only (vars k)).setAll bs) (execs body (((Γ.plus wr).only (vars k)).setAll bs).env) (fun f s'' => ((f = .next ∨ f = .cont) ∧ Fm L' ((Γ.plus wr).only (vars (k + 1))) os (Pk (k + 1)) s'') ∨ ((∃ v, f = .ret v) ∧ Q f s'')) s')
    (fin : ∀ s', Fm L (Γ.only (vars ds.length)) os (Pk ds.length) s' → Ex (Γ.only (vars ds.length)) (execs rest (Γ.only (vars ds.length)).env) Q s')
    (hs : ∀ x, foldedSetIterable iter Γ.env x = pure x := by intro _; rfl) : Ex Γ (execs (.For target iter body [] pos :: rest) Γ.env) Q s := by
  refine .mk <| wpAny_execs_cons (wpAny_For (hi.then' fun xv s₁ k₁ r₁ => ?_) hs)
  have F₁ := F.kp k₁
  refine hit _ _ _ _ _ _ _ _ F.at_.room.1 r₁ fun I wr St s₂ k₂ T st hwr => ?_
  have F₂ := F₁.plus k₂ hwr (fun b m => T.live 0 _ st b m)
  have held : ∀ b, Γ.S b → (s₁.heap.get? b).isSome = true := F₁.at_.wd.held
  have hwS : ∀ b ∈ wr, ¬ Γ.S b := fun b m q => by have := held b q; rw [hwr b m] at this; (first | obtain ⟨_, rfl⟩ := this.atom | exact (nsE this).elim | exact (snE this).elim | exact (ftE this).elim | cases this)
  have hlw : Γ.env.locals ∉ wr := fun m => hwS _ m F.lS.1
  have hcw : ∀ x c, Γ.env.cells.lookup x = some c → c ∉ wr := fun x c e m => hwS _ m (F.cS x c e).2.1
  have hosS : ∀ a ∈ os, Γ.S a := F.pok.has _ _ F.own
  have hzsS : ∀ a ∈ L.zs, Γ.S a := F.zok.has _ _ F.rest
  have hw₀ : ∀ b ∈ wr, L.s₀.heap.get? b = none := fun b m => by
    cases q : L.s₀.heap.get? b with
    | none => rfl
    | some o => have := F₁.base b (by rw [q]; rfl); rw [hwr b m] at this; (first | obtain ⟨_, rfl⟩ := this.atom | exact (nsE this).elim | exact (snE this).elim | exact (ftE this).elim | cases this)
  have zok : ∀ k, OwnOk (fun S h => L.Z S h ∧ ZitR St wr k S h) (L.zs ++ wr) := fun k => F.zok.and (zitR_ok T k)
  let Lk : Nat → Lev := fun k => { L with zs := L.zs ++ wr, Z := fun S h => L.Z S h ∧ ZitR St wr k S h }
  have keepK : ∀ k, KeepZ (Lk k) := fun k S h h' p q => ⟨hkz S h h' p.1 fun a m => q a (List.mem_append_left _ m), T.frame k h h' p.2.1 fun b m => q b (List.mem_append_right _ m), fun b m => by
    have := p.2.z2 b m
    cases e : h.get? b with
    | none => rw [e] at this; (first | obtain ⟨_, rfl⟩ := this.atom | exact (nsE this).elim | exact (snE this).elim | exact (ftE this).elim | cases this)
    | some o => rw [q b (List.mem_append_right _ m) o e]; rfl, p.2.z3⟩
  have F₃ : Fm (Lk 0) ((Γ.plus wr).only (vars 0)) os (Pk 0) s₂ := by
    refine Fm.only (l := vars 0) (Γ := Γ.plus wr) (show Agree (Γ.plus wr) (vars 0) from ?_) ⟨F₂.same, F₂.ext, F₂.at_, F₂.ns, F₂.lS, F₂.cS, ⟨F₂.ol.1, fun m => (List.mem_append.mp m).elim F₂.ol.2 hlw⟩, fun x c e => ⟨(F₂.oc x c e).1, fun m => (List.mem_append.mp m).elim (F₂.oc x c e).2 (hcw x c e)⟩,
      F₂.own, ⟨F₂.rest, st, fun b m => T.live 0 _ st b m, fun b m => .inr m⟩, fun a m q => (List.mem_append.mp q).elim (F.oz a m) fun z => hwS a z (hosS a m), zok 0, F₂.pok, F₂.base⟩
    · clear turn fin
      have agr : ∀ l, Agree Γ l → Agree (Γ.plus wr) l := fun l => by
        induction l with
        | nil => exact fun _ => trivial
        | cons p l ih => exact fun q => ⟨q.1, ih q.2⟩
      exact agr _ h0
  refine codeAny_forLoop_any (fun n s => ∃ k, k ≤ ds.length ∧ n = ds.length - k ∧ Fm (Lk k) ((Γ.plus wr).only (vars k)) os (Pk k) s) ?_ _ ⟨0, Nat.zero_le _, rfl, F₃⟩
  rintro n s ⟨k, hk, rfl, c⟩
  obtain ⟨zL, st', z2, z4⟩ := c.rest
  have moved : ∀ (h' : Heap) (tk : Nat), (∀ b o, b ∉ wr → s.heap.get? b = some o → h'.get? b = some o) → (∀ b ∈ wr, (h'.get? b).isSome = true) → ∀ (k' : Nat), St k' h' →
      Fm (Lk k') ((Γ.plus wr).only (vars k)) os (Pk k) { s with heap := h', toks := tk } := fun h' tk he hv k' hst' => by
    have hx : Ext (Γ.plus wr).S s.heap h' := fun b o hb e => he b o (fun m => hb (.inr m)) e
    have hnw : ∀ a, Γ.S a → a ∉ wr := fun a q m => hwS a m q
    refine ⟨⟨c.same.1, c.same.2⟩, fun b o hb e => he b o (fun m => by rw [show (Lk k').s₀ = L.s₀ from rfl, hw₀ b m] at e; (first | obtain ⟨_, rfl⟩ := e.atom | exact (nsE e).elim | exact (snE e).elim | exact (ftE e).elim | cases e)) (c.ext b o hb e), At.wr (wr := wr) c.at_ he (fun b m => .inr m) hv hlw hcw,
      let ⟨m, q⟩ := c.ns; ⟨m, q.at' fun o e => he _ o hlw e⟩, c.lS, fun x c' e => ?_, c.ol, c.oc, ?_, ⟨?_, hst', hv, z4⟩, c.oz, zok k', c.pok, fun b e => ?_⟩
    · obtain ⟨a, b, d', v, o, ho, hd⟩ := c.cS x c' e
      exact ⟨a, b, d', v, o, he _ _ (hcw x c' e) ho, hd⟩
    · exact c.pok.ext _ _ _ c.own hx fun a m o e => he a o (hnw a (hosS a m)) e
    · exact F.zok.ext _ _ _ zL hx fun a m o e => he a o (hnw a (hzsS a m)) e
    · have := c.base b e
      cases q : s.heap.get? b with
      | none => rw [q] at this; (first | obtain ⟨_, rfl⟩ := this.atom | exact (nsE this).elim | exact (snE this).elim | exact (ftE this).elim | cases this)
      | some o =>
        have nb : b ∉ wr := fun m => by
          have e' : (L.s₀.heap.get? b).isSome = true := e
          rw [hw₀ b m] at e'; (first | obtain ⟨_, rfl⟩ := e'.atom | exact (nsE e').elim | exact (snE e').elim | exact (ftE e').elim | cases e')
        show (h'.get? b).isSome = true
        rw [he b o nb q]; rfl
  rcases Nat.lt_or_ge k ds.length with hlt | hge
  · have hd : ds[k]? = some ds[k] := List.getElem?_eq_getElem hlt
    obtain ⟨bs, hb, hba, hbody⟩ := turn k _ hd
    refine wpAny_mono (T.step k _ target bs s (fun v s' => wpAny (model Γ.prog Γ.w) Γ.A (assign target Γ.env v) (fun _ s₂ => wpAny (model Γ.prog Γ.w) Γ.A (execs body Γ.env) (fun f s₃ => ((f = .next ∨ f = .cont) ∧ Fm (Lk (k + 1)) ((Γ.plus wr).only (vars (k + 1))) os (Pk (k + 1)) s₃) ∨ ((∃ v, f = .ret v) ∧ Q f s₃)) (fun _ _ => False) s₂) (fun _ _ => False) s')
      hb hd st' fun v h' tk hv stn he => ?_) (fun r s₁' h₁' => ?_) fun _ _ x => x.elim
    · have live : ∀ b ∈ wr, (h'.get? b).isSome = true := fun b m => T.live _ _ stn b m
      have c' := moved h' tk he live (k + 1) stn
      have rv := hv (Γ.plus wr).S
      refine assign_rule (Γ := (Γ.plus wr).only (vars k)) (prog := Γ.prog) (w := Γ.w) F.at_.room.1 c'.at_ hb (fun y hy => c'.slot (bnd_list_ok (Γ := (Γ.plus wr).only (vars k)) hba y hy)) rv fun s₂ W C₂ => ?_
      exact (ex_setAll (Γ := (Γ.plus wr).only (vars k)) (hbody (Lk (k + 1)) wr s₂ (keepK (k + 1)) rfl rfl (c'.wr W C₂))).run
    · obtain ⟨v, rfl, h₁'⟩ := h₁'
      refine wpAny_mono h₁' (fun _ s₂ h₂ => wpAny_mono h₂ (fun _ s₃ h₃ => wpAny_mono h₃ (fun f s₄ h₄ => ?_) fun _ _ x => x.elim) fun _ _ x => x.elim) fun _ _ x => x.elim
      rcases h₄ with ⟨rfl | rfl, h₄⟩ | ⟨⟨v, rfl⟩, h₄⟩
      · exact ⟨ds.length - (k + 1), by omega, k + 1, hlt, rfl, h₄⟩
      · exact ⟨ds.length - (k + 1), by omega, k + 1, hlt, rfl, h₄⟩
      · exact h₄
  · have hk' : k = ds.length := by omega
    subst hk'
    refine T.done _ _ _ st' fun h' tk he => wpAny_execs_nil ?_
    refine (fin _ ?_).run
    have hnw : ∀ a, Γ.S a → a ∉ wr := fun a q m => hwS a m q
    have hx : Ext (Γ.plus wr).S s.heap h' := fun b o hb e => he b o (fun m => hb (.inr m)) e
    have live : ∀ a, a ∉ wr → (s.heap.get? a).isSome = true → (h'.get? a).isSome = true := fun a m q => by
      cases e : s.heap.get? a with
      | none => rw [e] at q; (first | obtain ⟨_, rfl⟩ := q.atom | exact (nsE q).elim | exact (snE q).elim | exact (ftE q).elim | cases q)
      | some o => rw [he a o m e]; rfl
    refine ⟨⟨c.same.1, c.same.2⟩, fun b o hb e => he b o (fun m => by rw [hw₀ b m] at e; (first | obtain ⟨_, rfl⟩ := e.atom | exact (nsE e).elim | exact (snE e).elim | exact (ftE e).elim | cases e)) (c.ext b o hb e), ?_,
      let ⟨m, q⟩ := c.ns; ⟨m, q.at' fun o e => he _ o hlw e⟩, F.lS, fun x c' e => ?_, F.ol, F.oc, ?_, ?_, F.oz, F.zok, c.pok, fun b e => ?_⟩
    · have C := c.at_
      refine ⟨⟨C.wd.gl, fun b o e => he b o (fun m => by have this : Γ.base.get? b = none := C.wd.off b (.inr m); have e' : Γ.base.get? b = some o := e; rw [this] at e'; (first | obtain ⟨_, rfl⟩ := e'.atom | exact (nsE e').elim | exact (snE e').elim | exact (ftE e').elim | cases e')) (C.wd.up b o e), fun a q => C.wd.off a (.inl q), fun a q => live a (hnw a q) (C.wd.held a (.inl q))⟩,
        C.kind, C.globals, C.builtins, C.room, C.sep, fun x c' e => live c' (hcw x c' e) (C.cin x c' e), fun x d e => ?_⟩
      obtain ⟨v, hv, r⟩ := C.vars x d e
      refine ⟨v, ?_, (r.ext hx).less fun b q => .inl q⟩
      rcases hv with ⟨a, m, n, em⟩ | ⟨a, c', l, o, ho, hd⟩
      · exact .inl ⟨a, m, n.at' fun o q => he _ o hlw q, em⟩
      · exact .inr ⟨a, c', l, o, he _ _ (hcw x c' l) ho, hd⟩
    · obtain ⟨a, b, d', v, o, ho, hd⟩ := c.cS x c' e
      exact ⟨a, (F.cS x c' e).2.1, d', v, o, he _ _ (hcw x c' e) ho, hd⟩
    · exact c.pok.move _ _ _ (c.pok.ext _ _ _ c.own hx fun a m o e => he a o (hnw a (hosS a m)) e) (fun b q => .inl (.inl q)) hosS
    · exact F.zok.move _ _ _ (F.zok.ext _ _ _ zL hx fun a m o e => he a o (hnw a (hzsS a m)) e) (fun b q => .inl (.inl q)) hzsS
    · exact live b (fun m => by rw [hw₀ b m] at e; (first | obtain ⟨_, rfl⟩ := e.atom | exact (nsE e).elim | exact (snE e).elim | exact (ftE e).elim | cases e)) (c.base b e)
end
-- part F11
/-- tuples that are watched -/
noncomputable def TW (W : List (Addr × Obj)) (S : Addr → Prop) (h : Heap) : Prop := ∀ p ∈ W, ¬ S p.1 ∧ h.get? p.1 = some p.2 ∧ p.2.cls = .type "tuple"
theorem tw_ok {W : List (Addr × Obj)} : OwnOk (TW W) [] := ⟨fun S h h' p e _ => fun q hq => let ⟨a, b, c⟩ := p q hq; ⟨a, e _ _ a b, c⟩, fun S S' h p x _ => fun q hq => let ⟨a, b, c⟩ := p q hq; ⟨fun z => (x _ z).elim a fun n => (by rw [n] at b; (first | obtain ⟨_, rfl⟩ := b.atom | exact (nsE b).elim | exact (snE b).elim | exact (ftE b).elim | cases b)), b, c⟩, fun _ _ _ _ m => nomatch m⟩

theorem not_dict {prog : Program} {w : World} {h : Heap} {T : String} {d : Addr} {us : List (Int × Value)} {o : Obj} (hT : T ≠ "dict") (q : h.DictOf (intKind prog w) d us) (ho : h.get? d = some o) (hc : o.cls = .type T) : False := by
  obtain ⟨o', g, hx⟩ := DictOf_some q
  rw [ho] at g
  cases g
  rw [hc] at hx
  injection hx with hx
  exact hT hx
/-- the list between the call and the store -/
noncomputable def P3 (prog : Program) (w : World) (h₀ : Heap) (a : Addr) (es : List (Addr × Addr)) (st : List St) (i : Nat) (e3 : Addr × Addr) (y : St) (S : Addr → Prop) (h : Heap) : Prop :=
  S a ∧ h.PlainList a (es.map fun e => Value.ref e.1).toArray ∧ (∀ (k : Nat) (e' : Addr × Addr) (x' : St), k ≠ i → es[k]? = some e' → st[k]? = some x' → Ent prog w h₀ S h e' x') ∧ Ent prog w h₀ S h e3 y
theorem p3_ok {prog : Program} {w : World} {h₀ : Heap} {a : Addr} {es : List (Addr × Addr)} {st : List St} {i : Nat} {e3 : Addr × Addr} {y : St} : OwnOk (P3 prog w h₀ a es st i e3 y) [a] where
  ext := fun S h h' ⟨p1, p2, p3, p4⟩ x q => ⟨p1, p2.at (q a (.head _)), fun k e' x' hk he hx => (p3 k e' x' hk he hx).ext (fun o z => x _ o (p3 k e' x' hk he hx).s1 z) (fun o z => x _ o (p3 k e' x' hk he hx).s2 z), p4.ext (fun o z => x _ o p4.s1 z) (fun o z => x _ o p4.s2 z)⟩
  move := fun S S' h ⟨p1, p2, p3, p4⟩ x q => ⟨q a (.head _), p2, fun k e' x' hk he hx => (p3 k e' x' hk he hx).move x, p4.move x⟩
  has := fun S h p b hb => by rw [List.mem_singleton.mp hb]; exact p.1

theorem ne_get {h : Heap} {y : Addr} {o : Obj} (e : h.get? y = some o) (n : h.get? y = none) : False := nomatch n.symm.trans e
section
variable {Γ : Ctx}
theorem new_raw {e : Expr} {v : Value} (h : Ev Γ e (.raw v)) : EvNew Γ e (.raw v) := .mk fun s C => (h.run s C).mono fun _ _ r => by (first | obtain ⟨_, rfl⟩ := r.atom | exact (nsE r).elim | exact (snE r).elim | exact (ftE r).elim | cases r); exact .raw _
theorem spliced_argsN {s : Shared} {p q : Pos} {f : Value} {es : List Expr} {P : List Value → Heap → Prop} {Q : Value → Shared → Prop} (C : Γ.At s.heap) (hc : Callable Γ.K f) (h : Tr Γ (spliced (backTo q (starEach es Γ.env))) P s) (hp : es.all plainE = true)
    (k : ∀ vs s₁, Kp s s₁ → P vs s₁.heap → wpAny (model Γ.prog Γ.w) Γ.A (call f vs) Q (fun _ _ => False) s₁) :
    wpAny (model Γ.prog Γ.w) Γ.A (callWith p f [] (backTo q (starEach es Γ.env)) []) Q (fun _ _ => False) s :=
  callWith_of (P := fun h => Γ.K.In h) (by rw [backTo_plain, any_plain hp]; rfl) (fun h X => keeper_of hc h X)
    (evalArgs_any (by rw [backTo_plain, any_plain hp]) (h.then' fun vs s₁ k₁ r₁ => ⟨(C.go k₁).wd.glh.inn, k vs s₁ k₁ r₁⟩))
end

section
variable {L : Lev} {Γ : Ctx} {s : Shared} {n : Nat}
noncomputable def St.add (x : St) (a b c d : Int) (kv : List (Int × Int)) : St := ⟨a + x.a, b + x.b, c + x.c, d + x.d, addAll x.kv kv⟩
set_option maxHeartbeats 2000000 in
theorem x_added {o ie o' ie' X : Expr} {px p2 p3 p' pos : Pos} {rest : List Stmt} {a : Addr} {st : List St} {W : List (Addr × Obj)} {i : Nat} {x : St} {a' b' c' d' : Int} {k2 : List (Int × Int)} {Q : Flow → Shared → Prop}
    (F : Fm L Γ [a] (fun S h => PE Γ.prog Γ.w L.s₀.heap a st S h ∧ TW W S h) s) (hW : L.s₀.heap.get? a = none) (hLW : L.W = fun _ => False) (hb : ∀ b o, Γ.base.get? b = some o → L.s₀.heap.get? b = some o) (hkz : KeepZ L) (hn : Γ.n = n + 3) (hK : Γ.K = Kf Γ.w) (hflat : ∀ x d, Γ.ρ x = some d → FlatD d)
    (ho : Ev Γ o (.raw (.ref a))) (hi : Ev Γ ie (.int i)) (hps : PlainSub ie) (ho' : Ev Γ o' (.raw (.ref a))) (hi' : Ev Γ ie' (.int i)) (hf : Ev Γ (.Name "_law_added" px) (.raw (.ref 99))) (hz : st.length ≤ 1000) (hx : st[i]? = some x) (hxn : (x.kv.map (·.1)).Nodup) (hkn : (k2.map (·.1)).Nodup) (hlen : x.kv.length + k2.length ≤ 1000000)
    (hX : ∀ s', Fm L Γ [a] (fun S h => PE Γ.prog Γ.w L.s₀.heap a st S h ∧ TW W S h) s' → Tr Γ (eval X Γ.env) (fun v h => Rep Γ.prog Γ.w (isOld s'.heap) h v (stats a' b' c' d' (.idict k2))) s')
    (k : ∀ s', Fm L Γ [a] (fun S h => PE Γ.prog Γ.w L.s₀.heap a (st.set i (x.add a' b' c' d' k2)) S h ∧ TW W S h) s' → Ex Γ (execs rest Γ.env) Q s') (hpX : plainE X = true := by rfl) :
    Ex Γ (execs (.Assign [.Subscript o' ie' p'] (.Call (.Name "_law_added" px) [.Subscript o ie p2, X] [] p3) pos :: rest) Γ.env) Q s := by
  have hil : i < st.length := by
    rcases Nat.lt_or_ge i st.length with q | q
    · exact q
    · rw [List.getElem?_eq_none q] at hx; (first | obtain ⟨_, rfl⟩ := hx.atom | exact (nsE hx).elim | exact (snE hx).elim | exact (ftE hx).elim | cases hx)
  refine .mk <| wpAny_execs_cons (wpAny_Assign_Subscript ?_ rfl)
  refine wpAny_Call_Name_kw ((hf.run s F.at_).then' fun fv s₁ k₁ r₁ => ?_)
  (first | obtain ⟨_, rfl⟩ := r₁.atom | exact (nsE r₁).elim | exact (snE r₁).elim | exact (ftE r₁).elim | cases r₁)
  have F₁ := F.kp k₁
  show wpAny _ _ (callWith p3 (.ref 99) [] (backTo p3 (starEach [.Subscript o ie p2, X] Γ.env)) []) _ _ _
  obtain ⟨⟨hSa, es, hpl, hel, hent, hshare⟩, htw⟩ := F₁.own
  have hie : i < es.length := by omega
  have hei : es[i]? = some es[i] := List.getElem?_eq_getElem hie
  generalize es[i] = e at hei
  -- the arguments
  have hargs : Tr Γ (spliced (backTo p3 (starEach [.Subscript o ie p2, X] Γ.env))) (fun vs h => ∃ u, vs = [.ref e.1, u] ∧ Rep Γ.prog Γ.w (isOld s₁.heap) h u (stats a' b' c' d' (.idict k2))) s₁ := by
    refine wpAny_items_cons (Subscript_ ((ho.run s₁ F₁.at_).then' fun ov s₂ k₂ r₂ => (hi.run s₂ (F₁.kp k₂).at_).then' fun iv s₃ k₃ r₃ => ?_)) (starEach_plain rfl)
    (first | obtain ⟨_, rfl⟩ := r₂.atom | exact (nsE r₂).elim | exact (snE r₂).elim | exact (ftE r₂).elim | cases r₂); (first | obtain ⟨_, rfl⟩ := r₃.atom | exact (nsE r₃).elim | exact (snE r₃).elim | exact (ftE r₃).elim | cases r₃)
    have F₃ := (F₁.kp k₂).kp k₃
    have hl3 : s₃.heap.IsList a (es.map fun e => Value.ref e.1).toArray := (hpl.at fun o q => (k₂.trans k₃).k _ o q).isList
    refine tail_any hl3.typeIs slot_list_getitem.lookup (wpAny_getItem_list hl3 (by omega) (by omega) (x := .ref e.1) (by simp [hei]) ?_) (hps _ _)
    refine wpAny_items_cons ((hX s₃ F₃).then' fun u s₄ k₄ r₄ => wpAny_items_nil ⟨(k₂.trans k₃).trans k₄, u, rfl, r₄.less fun b q => isOld_mono (k₂.trans k₃) q⟩) (starEach_plain hpX)
  refine spliced_argsN F₁.at_ (by rw [hK]; exact ok99.callable) hargs (by rw [List.all_cons, List.all_cons, hpX]; rfl) fun vs s₂ k₂ hv => ?_
  obtain ⟨u, rfl, ru⟩ := hv
  have F₂ := F₁.kp k₂
  have hbn : ∀ y, L.s₀.heap.get? y = none → Γ.base.get? y = none := fun y h => by
    cases z : Γ.base.get? y with
    | none => rfl
    | some o => rw [hb y o z] at h; (first | obtain ⟨_, rfl⟩ := h.atom | exact (nsE h).elim | exact (snE h).elim | exact (ftE h).elim | cases h)
  have old0 : ∀ y, s₁.heap.get? y = none → L.s₀.heap.get? y = none := fun y h => by
    cases z : L.s₀.heap.get? y with
    | none => rfl
    | some o => have := F₁.base y (by rw [z]; rfl); rw [h] at this; (first | obtain ⟨_, rfl⟩ := this.atom | exact (nsE this).elim | exact (snE this).elim | exact (ftE this).elim | cases this)
  obtain ⟨e2, rfl, E2⟩ := ent_of (S := Γ.S) (h₀ := s₁.heap) (x := ⟨a', b', c', d', k2⟩) (ru.less fun y q => q.elim (fun z => F₁.at_.wd.held y z) id)
  have E1 := (hent i e x hei hx).ext (fun o q => k₂.k _ o q) (fun o q => k₂.k _ o q)
  have hdd : e.2 ≠ e2.2 := fun q => (hent i e x hei hx).some2 (q ▸ E2.o2)
  have hr : RoomA (n + 3) Γ.A := hn ▸ F₂.at_.room
  have hwd : Wd (Kf Γ.w) Γ.base (fun y => Γ.S y ∨ y = e.1 ∨ y = e2.1 ∨ y = e.2 ∨ y = e2.2) s₂.heap := by
    refine ⟨hK ▸ F₂.at_.wd.gl, F₂.at_.wd.up, fun y q => ?_, fun y q => ?_⟩
    · rcases q with q | rfl | rfl | rfl | rfl
      · exact F₂.at_.wd.off y q
      · exact hbn _ E1.o1
      · exact hbn _ (old0 _ E2.o1)
      · exact hbn _ E1.o2
      · exact hbn _ (old0 _ E2.o2)
    · rcases q with q | rfl | rfl | rfl | rfl
      · exact F₂.at_.wd.held y q
      · exact Option.isSome_iff_ne_none.mpr E1.some1
      · exact Option.isSome_iff_ne_none.mpr E2.some1
      · exact Option.isSome_iff_ne_none.mpr E1.some2
      · exact Option.isSome_iff_ne_none.mpr E2.some2
  obtain ⟨ta, tb, tc, td, m, c6⟩ := E1.ob
  obtain ⟨us1, c7, c8⟩ := E1.di
  obtain ⟨ta', tb', tc', td', m', b6⟩ := E2.ob
  obtain ⟨us2, b7, b8⟩ := E2.di
  refine wpAny_mono (run_added (n := n) hr hwd (t := e.1) (u := e2.1) (d1 := e.2) (d2 := e2.2) ⟨.inr (.inl rfl), c6⟩ ⟨.inr (.inr (.inl rfl)), b6⟩ ⟨.inr (.inr (.inr (.inl rfl))), E1.m, us1, c7, c8⟩ ⟨.inr (.inr (.inr (.inr rfl))), E2.m, us2, b7, b8⟩ hdd hlen hxn hkn) (fun v s₃ q => ?_) fun _ _ z => z
  obtain ⟨hsame, hkeep, hcl, hl2, hrep⟩ := q
  obtain ⟨e3, rfl, E3⟩ := ent_of (S := Γ.S) (h₀ := s₂.heap) (x := x.add a' b' c' d' k2) (hrep.less fun y q => q.elim (fun z => F₂.at_.wd.held y z) id)
  have hcS : ∀ x c, Γ.env.cells.lookup x = some c → Γ.S c := fun x c e => (F.cS x c e).2.1
  have neS : ∀ {y}, Γ.S y → y ≠ e.2 ∧ y ≠ e2.2 := fun h => ⟨fun q => E1.s2 (q ▸ h), fun q => E2.s2 (q ▸ h)⟩
  have notT : ∀ {T : String} {d : Addr} {us : List (Int × Value)} {y : Addr} {o : Obj}, T ≠ "dict" → s₂.heap.DictOf (intKind Γ.prog Γ.w) d us → s₂.heap.get? y = some o → o.cls = .type T → y ≠ d := fun hT q ho hc z =>
    not_dict hT q (z ▸ ho) hc
  have at3 : Γ.At s₃.heap := At.dictmut F₂.at_ hflat F.lS.1 hcS c7 E1.s2 E2.s2 (hbn _ E1.o2) (hbn _ (old0 _ E2.o2)) (fun o ho hc => not_dict (by decide) b7 ho hc) hkeep
  have keepS : ∀ y, Γ.S y → ∀ o, s₂.heap.get? y = some o → s₃.heap.get? y = some o := fun y h o ho => hkeep y o (neS h).1 (neS h).2 ho
  have own2 := F₂.own
  have hpl2 : s₂.heap.PlainList a (es.map fun e => Value.ref e.1).toArray := hpl.at fun o q => k₂.k _ o q
  have F₃ : Fm L Γ [a] (fun S h => P3 Γ.prog Γ.w L.s₀.heap a es st i e3 (x.add a' b' c' d' k2) S h ∧ TW W S h) s₃ := by
    refine ⟨F₂.same.trans hsame, fun y o _ ho => ?_, at3, let ⟨mm, q⟩ := F₂.ns; ⟨mm, q.at' fun o ho => keepS _ F.lS.1 o ho⟩, F₂.lS, fun y c q => ?_, F₂.ol, F₂.oc, ⟨⟨hSa, hpl2.at fun o ho => keepS a hSa o ho, fun kk e' x' hki he' hx' => ?_, ?_⟩, fun p hp => ?_⟩, hkz _ _ _ F₂.rest fun y hy o ho => keepS y (F₂.zok.has _ _ F₂.rest y hy) o ho, F₂.oz, F₂.zok, p3_ok.and tw_ok, fun y hy => ?_⟩
    · exact hkeep y o (fun q => ne_get ho (q ▸ E1.o2)) (fun q => ne_get ho (q ▸ old0 _ E2.o2)) (F₂.ext y o (by rw [hLW]; exact id) ho)
    · obtain ⟨p1, p2', p3', vv, o, ho, hd⟩ := F₂.cS y c q
      exact ⟨p1, p2', p3', vv, o, keepS c p2' o ho, hd⟩
    · have q0 := hent kk e' x' he' hx'
      have q2 := q0.ext (fun o z => k₂.k _ o z) (fun o z => k₂.k _ o z)
      refine ⟨q2.s1, q2.s2, q2.o1, q2.o2, q2.m, ?_, ?_⟩
      · obtain ⟨t1, t2, t3, t4, m4, a6⟩ := q2.ob
        exact ⟨t1, t2, t3, t4, m4, hkeep _ _ (notT (T := "tuple") (by decide) c7 a6 rfl) (notT (T := "tuple") (by decide) b7 a6 rfl) a6⟩
      · by_cases hsh : e'.2 = e.2
        · exact ⟨[], hsh ▸ hcl, by rw [(hshare kk i e' e x' x hki he' hei hx' hx hsh).1]; exact .nil⟩
        · obtain ⟨us4, a7, a8⟩ := q2.di
          exact ⟨us4, DictOf_at a7 fun o ho => hkeep _ o hsh (fun z => q0.some2 (z ▸ E2.o2)) ho, a8⟩
    · have o2 : ∀ y, s₂.heap.get? y = none → L.s₀.heap.get? y = none := fun y h => old0 y (none_back k₂ h)
      exact ⟨E3.s1, E3.s2, o2 _ E3.o1, o2 _ E3.o2, E3.m, E3.ob, E3.di⟩
    · obtain ⟨w1, w2, w3⟩ := own2.2 p hp
      exact ⟨w1, hkeep _ _ (notT (T := "tuple") (by decide) c7 w2 w3) (notT (T := "tuple") (by decide) b7 w2 w3) w2, w3⟩
    · obtain ⟨o, z⟩ := Option.isSome_iff_exists.mp (F₂.base y hy)
      have hy' := Option.isSome_iff_ne_none.mp hy
      rw [hkeep y o (fun q => hy' (q ▸ E1.o2)) (fun q => hy' (q ▸ old0 _ E2.o2)) z]; rfl
  refine (ho'.run s₃ F₃.at_).then' fun ov s₄ k₄ r₄ => (hi'.run s₄ (F₃.kp k₄).at_).then' fun iv s₅ k₅ r₅ => ?_
  (first | obtain ⟨_, rfl⟩ := r₄.atom | exact (nsE r₄).elim | exact (snE r₄).elim | exact (ftE r₄).elim | cases r₄); (first | obtain ⟨_, rfl⟩ := r₅.atom | exact (nsE r₅).elim | exact (snE r₅).elim | exact (ftE r₅).elim | cases r₅)
  have F₅ := (F₃.kp k₄).kp k₅
  obtain ⟨⟨hS5, hpl5, hent5, hnew5⟩, htw5⟩ := F₅.own
  obtain ⟨n', hl'⟩ := id hpl5
  refine ki_setAt (n := n') hl' (by omega) (by omega) (by simp; omega) ?_
  have hh := PySem.IsL.update (h := s₅.heap) hl' (·.setIfInBounds ((i : Int)).toNat (.ref e3.1))
  have hs' : Heap.SameBut a s₅.heap (s₅.heap.update a (Obj.mapSeq (·.setIfInBounds ((i : Int)).toNat (.ref e3.1)))) := Heap.SameBut.update ..
  have hpl6 : (s₅.heap.update a (Obj.mapSeq (·.setIfInBounds ((i : Int)).toNat (.ref e3.1)))).PlainList a ((es.map fun e => Value.ref e.1).toArray.setIfInBounds ((i : Int)).toNat (.ref e3.1)) := ⟨_, hh⟩
  rw [Int.toNat_natCast, List.setIfInBounds_toArray] at hpl6
  have hpl7 : (s₅.heap.update a (Obj.mapSeq (·.setIfInBounds ((i : Int)).toNat (.ref e3.1)))).PlainList a (((es.set i e3).map fun e => Value.ref e.1)).toArray := by rw [List.map_set]; simpa using hpl6
  refine (k _ (Fm.mut (tk := s₅.toks) F₅ (.head _) hs' (by rw [hh]; rfl) (.inr hW) (pe_ok.and tw_ok) ⟨⟨hS5, es.set i e3, hpl7, by simp [hel], fun kk e' x' he' hx' => ?_, fun kk kk' e' e'' x' x'' hkk he' he'' hx' hx'' hq => ?_⟩, fun p hp => ?_⟩)).run
  · have nea : ∀ {y : Addr}, ¬ Γ.S y → y ≠ a := fun h q => h (q ▸ hS5)
    by_cases hki : kk = i
    · subst hki
      rw [List.getElem?_set_self (by omega)] at he'; (first | obtain ⟨_, rfl⟩ := he'.atom | exact (nsE he').elim | exact (snE he').elim | exact (ftE he').elim | cases he')
      rw [List.getElem?_set_self (by omega)] at hx'; (first | obtain ⟨_, rfl⟩ := hx'.atom | exact (nsE hx').elim | exact (snE hx').elim | exact (ftE hx').elim | cases hx')
      exact hnew5.ext (fun o z => hs'.extBut _ o (nea hnew5.s1) z) (fun o z => hs'.extBut _ o (nea hnew5.s2) z)
    · rw [List.getElem?_set_ne (fun z => hki z.symm)] at he' hx'
      have q := hent5 kk e' x' hki he' hx'
      exact q.ext (fun o z => hs'.extBut _ o (nea q.s1) z) (fun o z => hs'.extBut _ o (nea q.s2) z)
  · have fresh : ∀ (j : Nat) (ej : Addr × Addr) (xj : St), es[j]? = some ej → st[j]? = some xj → ej.2 ≠ e3.2 := fun j ej xj h1 h2 z =>
      ((hent j ej xj h1 h2).ext (fun o z => k₂.k _ o z) (fun o z => k₂.k _ o z)).some2 (z ▸ E3.o2)
    by_cases h1 : kk = i
    · subst h1
      rw [List.getElem?_set_self (by omega)] at he'; (first | obtain ⟨_, rfl⟩ := he'.atom | exact (nsE he').elim | exact (snE he').elim | exact (ftE he').elim | cases he')
      rw [List.getElem?_set_ne hkk] at he'' hx''
      exact absurd hq.symm (fresh _ _ _ he'' hx'')
    · rw [List.getElem?_set_ne (fun z => h1 z.symm)] at he' hx'
      by_cases h2 : kk' = i
      · subst h2
        rw [List.getElem?_set_self (by omega)] at he''; (first | obtain ⟨_, rfl⟩ := he''.atom | exact (nsE he'').elim | exact (snE he'').elim | exact (ftE he'').elim | cases he'')
        exact absurd hq (fresh _ _ _ he' hx')
      · rw [List.getElem?_set_ne (fun z => h2 z.symm)] at he'' hx''
        exact hshare kk kk' e' e'' x' x'' hkk he' he'' hx' hx'' hq
  · obtain ⟨w1, w2, w3⟩ := htw5 p hp
    exact ⟨w1, hs'.extBut _ _ (fun q => w1 (q ▸ hS5)) w2, w3⟩
end
-- part F12
theorem flat_only {Γ : Ctx} {l : List (Str × D)} (h : ∀ p ∈ l, FlatD p.2) : ∀ x d, (Γ.only l).ρ x = some d → FlatD d := fun x d e => h (x, d) (mem_of_lookup e)

/-- what the run leaves -/
noncomputable def run0 (n : Nat) : List St := List.replicate (n + 1) ⟨0, 0, 0, 0, []⟩
noncomputable def upd (st : List St) (i : Nat) (a b c d : Int) (kv : List (Int × Int)) : List St := st.set i ((st.getD i ⟨0, 0, 0, 0, []⟩).add a b c d kv)
noncomputable def run1 (n : Nat) (q : Nat → Nat) : Nat → List St
  | 0 => run0 n
  | k + 1 => upd (run1 n q k) (q (k + 1)) 1 2 k (q (k + 1) : Nat) [(0, 2)]
noncomputable def run2 (n : Nat) (pi : Nat → Nat) (st : List St) : Nat → List St
  | 0 => st
  | j + 1 => let s := run2 n pi st j
    let one := s.getD (n - j) ⟨0, 0, 0, 0, []⟩
    upd s (pi (n - j - 1)) 0 one.b one.c one.d [(((n - j : Nat) : Int), one.b)]
theorem upd_len {st : List St} {i : Nat} {a b c d : Int} {kv : List (Int × Int)} : (upd st i a b c d kv).length = st.length := by simp [upd]
structure StOk (m t : Nat) (st : List St) : Prop where
  len : st.length = m
  nod : ∀ x ∈ st, (x.kv.map (·.1)).Nodup
  sz : ∀ x ∈ st, x.kv.length ≤ t
theorem getD_mem' {st : List St} {i : Nat} (h : i < st.length) : st[i]? = some (st.getD i ⟨0, 0, 0, 0, []⟩) := by
  rw [List.getD_eq_getElem?_getD, List.getElem?_eq_getElem h]; rfl
theorem StOk.upd {m t i : Nat} {st : List St} {a b c d : Int} {kv : List (Int × Int)} (h : StOk m t st) (hi : i < m) (hk : kv.length = 1) : StOk m (t + 1) (upd st i a b c d kv) := by
  have hg : (st.getD i ⟨0, 0, 0, 0, []⟩) ∈ st := List.mem_of_getElem? (getD_mem' (by rw [h.len]; exact hi))
  refine ⟨by rw [upd_len]; exact h.len, fun x hx => ?_, fun x hx => ?_⟩
  · rcases List.mem_or_eq_of_mem_set hx with z | z
    · exact h.nod x z
    · rw [z]; exact addAll_nodup _ _
  · rcases List.mem_or_eq_of_mem_set hx with z | z
    · exact Nat.le_succ_of_le (h.sz x z)
    · rw [z]
      have p := addAll_len (st.getD i ⟨0, 0, 0, 0, []⟩).kv kv (putAll (st.getD i ⟨0, 0, 0, 0, []⟩).kv)
      have p2 := putAll_len (st.getD i ⟨0, 0, 0, 0, []⟩).kv
      have p3 := h.sz _ hg
      show (addAll _ kv).length ≤ _
      unfold addAll
      omega
theorem run0_ok (n : Nat) : StOk (n + 1) 0 (run0 n) := ⟨by simp [run0], fun x hx => by rw [List.eq_of_mem_replicate hx]; exact List.nodup_nil, fun x hx => by rw [List.eq_of_mem_replicate hx]; exact Nat.le_refl _⟩
theorem run1_ok {n : Nat} {q : Nat → Nat} (hq : ∀ k, q k ≤ n) : ∀ k, StOk (n + 1) k (run1 n q k)
  | 0 => run0_ok n
  | k + 1 => (run1_ok hq k).upd (by have := hq (k + 1); omega) rfl
theorem run2_ok {n t : Nat} {pi : Nat → Nat} (hp : ∀ j, pi j ≤ j) {st : List St} (h : StOk (n + 1) t st) : ∀ j, StOk (n + 1) (t + j) (run2 n pi st j)
  | 0 => h
  | j + 1 => (run2_ok hp h j).upd (by have := hp (n - j - 1); omega) rfl

theorem iterR0 {n : Nat} (h1 : (n : Int) < 2 ^ 62) : IterR (.range 0 n 1) ((List.range n).map fun i : Nat => D.int (i : Int)) := by
  have := iterR_range (a := 0) (b := n) (c := 1) (small_one (by omega) (by omega) (by omega) h1) (by rw [rangeSize_one]; split <;> omega)
  have e : rangeD 0 1 (Builtin.Range.rangeSize 0 (n : Int) 1).toNat = (List.range n).map fun i : Nat => D.int (i : Int) := by
    have : (Builtin.Range.rangeSize 0 (n : Int) 1).toNat = n := by rw [rangeSize_one]; split <;> omega
    rw [this]; simp [rangeD]
  rw [e] at this; exact this
theorem iterR_down {n : Nat} (h1 : (n : Int) < 2 ^ 62) : IterR (.range n 0 (-1)) ((List.range n).map fun i : Nat => D.int ((n - i : Nat) : Int)) := by
  have := iterR_range (a := n) (b := 0) (c := -1) (small_down (by omega) h1 (by omega) (by omega)) (by rw [rangeSize_down]; split <;> omega)
  have e : rangeD n (-1) (Builtin.Range.rangeSize (n : Int) 0 (-1)).toNat = (List.range n).map fun i : Nat => D.int ((n - i : Nat) : Int) := by
    have : (Builtin.Range.rangeSize (n : Int) 0 (-1)).toNat = n := by rw [rangeSize_down]; split <;> omega
    rw [this]
    unfold rangeD
    apply List.map_congr_left
    intro i hi
    have : i < n := by simpa using hi
    congr 1
    omega
  rw [e] at this; exact this
section
variable {w : World} {prog : Program} {n : Nat}
theorem fn_range3 {K : Frag} {a b c : Int} (hc : c ≠ 0) (hp : Builtin.divisionGoesByPylong (b - a) c = false) : Fn K prog w n (.type "range") [.int a, .int b, .int c] (.range a b c) := .mk fun A base S s vals hr hw r => by
  cases r with
  | cons r1 r => cases r with
    | cons r2 r => cases r with
      | cons r3 r =>
        (first | obtain ⟨_, rfl⟩ := r.atom | exact (nsE r).elim | exact (snE r).elim | exact (ftE r).elim | cases r)
        (first | obtain ⟨_, rfl⟩ := r1.atom | exact (nsE r1).elim | exact (snE r1).elim | exact (ftE r1).elim | cases r1); (first | obtain ⟨_, rfl⟩ := r2.atom | exact (nsE r2).elim | exact (snE r2).elim | exact (ftE r2).elim | cases r2); (first | obtain ⟨_, rfl⟩ := r3.atom | exact (nsE r3).elim | exact (snE r3).elim | exact (ftE r3).elim | cases r3)
        exact call_range_3 hc ⟨Kp.both s _ _ fun _ _ e => Heap.get?_push_of_some _ e, .range (not_held hw.held (get_size _ (Nat.le_refl _))) (IsRange.new _ _ _ _ _ _ _)⟩ (.inl hp)

/-- the run's laws -/
structure RunLaw (word text : List Int) (pi : Nat → Nat) (q : Nat → Nat) : Prop where
  le : ∀ j, pi j ≤ j
  q0 : q 0 = 0
  qle : ∀ k, q k ≤ word.length
  next : ∀ k, k < text.length → ∃ nx, NextLaw word pi (text.getD k 0) nx ∧ q (k + 1) = nx (q k)
noncomputable def runOf (word text : List Int) (pi q : Nat → Nat) : List St := run2 word.length pi (run1 word.length q text.length) word.length


noncomputable def fcx (w : World) (prog : Program) (A : Around) (n : Nat) (base : Heap) (env : Env) (S : Addr → Prop) (l : List (Str × D)) : Ctx := { K := Kf w, prog := prog, w := w, A := A, n := n, base := base, env := env, S := S, ρ := look l }
theorem castP {L : Lev} {Γ : Ctx} {os : List Addr} {P P' : (Addr → Prop) → Heap → Prop} {s : Shared} (e : P = P') (F : Fm L Γ os P s) : Fm L Γ os P' s := e ▸ F

noncomputable def vars1 (word tab text : List Int) (m z : Nat) (k : Int) (a : Addr) : List (Str × D) := [("word", .list (word.map .int)), ("table", .list (tab.map .int)), ("text", .list (text.map .int)), ("n", .int (m : Int)), ("size", .int (z : Int)), ("place", .int k), ("entries", .raw (.ref a))]
theorem vars1_flat {word tab text : List Int} {m z : Nat} {k : Int} {a : Addr} {w : World} {prog : Program} {A : Around} {base : Heap} {env : Env} {S : Addr → Prop} : ∀ x d, (fcx w prog A n base env S (vars1 word tab text m z k a)).ρ x = some d → FlatD d :=
  flat_only (Γ := fcx w prog A n base env S []) fun p hp => by
    simp only [vars1, List.mem_cons, List.not_mem_nil, or_false] at hp
    rcases hp with rfl | rfl | rfl | rfl | rfl | rfl | rfl <;> first | exact .nums _ | exact .int _ | exact .raw _

set_option maxHeartbeats 400000 in
theorem run_turn1 {word tab text : List Int} {m z : Nat} {k : Int} {a : Addr} {A : Around} {base : Heap} {env : Env} {S : Addr → Prop} {L : Lev} {s : Shared} {st : List St} {x : St} {p1 p2 p3 p4 p5 p6 p7 p8 p9 p10 p11 p12 p13 p14 p15 p16 p17 : Pos} {k1 k2 k3 k4 k5 : Nat} {rest : List Stmt} {Q : Flow → Shared → Prop}
    (F : Fm L (fcx w prog A (n + 3) base env S (vars1 word tab text m z k a)) [a] (fun S h => PE prog w L.s₀.heap a st S h ∧ TW [] S h) s)
    (hW : L.s₀.heap.get? a = none) (hLW : L.W = fun _ => False) (hb : ∀ b o, base.get? b = some o → L.s₀.heap.get? b = some o) (hkz : KeepZ L) (hg : env.kindOf "_law_added" = some .globalImplicit)
    (hz : st.length ≤ 1000) (hx : st[z]? = some x) (hxn : (x.kv.map (·.1)).Nodup) (hlen : x.kv.length + 1 ≤ 1000000)
    (kont : ∀ s', Fm L (fcx w prog A (n + 3) base env S (vars1 word tab text m z k a)) [a] (fun S h => PE prog w L.s₀.heap a (st.set z (x.add 1 2 k z [(0, 2)])) S h ∧ TW [] S h) s' → Ex (fcx w prog A (n + 3) base env S (vars1 word tab text m z k a)) (execs rest env) Q s') :
    Ex (fcx w prog A (n + 3) base env S (vars1 word tab text m z k a)) (execs (.Assign [.Subscript (.Name "entries" p1) (.Name "size" p2) p3] (.Call (.Name "_law_added" p4) [.Subscript (.Name "entries" p5) (.Name "size" p6) p7,
      .Tuple [.Constant (.int 1) k1 p8, .Constant (.int 2) k2 p9, .Name "place" p10, .Name "size" p11, .Dict [some (.Constant (.int 0) k3 p12)] [.Constant (.int 2) k4 p13] p14] k5 p15] [] p16) p17 :: rest) env) Q s := by
  refine x_added (n := n) (a := a) (i := z) (x := x) (a' := 1) (b' := 2) (c' := k) (d' := z) (k2 := [(0, 2)]) F hW hLW hb hkz rfl rfl vars1_flat (ev_name rfl) (ev_name rfl) (by intro _ _; rfl) (ev_name rfl) (ev_name rfl) (ev_glob topOk hg g99) hz hx hxn (by simp) hlen (fun s' F' => ?_) kont
  exact (new_tuple (newS_cons (new_int ev_int) (newS_cons (new_int ev_int) (newS_cons (new_int (ev_name rfl)) (newS_cons (new_int (ev_name rfl)) (newS_cons (EvND.new (κ := kdI) (ev_dict1 kdI ev_int ev_int)) newS_nil))))) (by show 5 ≤ sizeLine; decide)).run _ F'.at_

noncomputable def vars2 (tab : List Int) (m z : Nat) (less : Int) (a e : Addr) : List (Str × D) := [("table", .list (tab.map .int)), ("n", .int (m : Int)), ("size", .int (z : Int)), ("one", .raw (.ref e)), ("less", .int less), ("entries", .raw (.ref a))]
theorem vars2_flat {tab : List Int} {m z : Nat} {k : Int} {a e : Addr} {w : World} {prog : Program} {A : Around} {base : Heap} {env : Env} {S : Addr → Prop} : ∀ x d, (fcx w prog A n base env S (vars2 tab m z k a e)).ρ x = some d → FlatD d :=
  flat_only (Γ := fcx w prog A n base env S []) fun p hp => by
    simp only [vars2, List.mem_cons, List.not_mem_nil, or_false] at hp
    rcases hp with rfl | rfl | rfl | rfl | rfl | rfl <;> first | exact .nums _ | exact .int _ | exact .raw _

set_option maxHeartbeats 400000 in
theorem run_turn2 {tab : List Int} {m z : Nat} {j : Nat} {a e : Addr} {A : Around} {base : Heap} {env : Env} {S : Addr → Prop} {L : Lev} {s : Shared} {st : List St} {x : St} {o1 o2 o3 o4 : Int} {ta tb tc td : Tok} {ed : Addr} {em : Nat} {p1 p2 p3 p4 p5 p6 p7 p8 p9 p10 p11 p12 p13 p14 p15 p16 p17 p18 p19 p20 p21 p22 p23 p24 p25 : Pos} {k1 k2 k3 k4 k5 k6 : Nat} {rest : List Stmt} {Q : Flow → Shared → Prop}
    (F : Fm L (fcx w prog A (n + 3) base env S (vars2 tab m z j a e)) [a] (fun S h => PE prog w L.s₀.heap a st S h ∧ TW [(e, tup5 o1 o2 o3 o4 ta tb tc td ed em)] S h) s)
    (hW : L.s₀.heap.get? a = none) (hLW : L.W = fun _ => False) (hb : ∀ b o, base.get? b = some o → L.s₀.heap.get? b = some o) (hkz : KeepZ L) (hg : env.kindOf "_law_added" = some .globalImplicit)
    (hz : st.length ≤ 1000) (hx : st[j]? = some x) (hxn : (x.kv.map (·.1)).Nodup) (hlen : x.kv.length + 1 ≤ 1000000)
    (kont : ∀ s', Fm L (fcx w prog A (n + 3) base env S (vars2 tab m z j a e)) [a] (fun S h => PE prog w L.s₀.heap a (st.set j (x.add 0 o2 o3 o4 [((z : Int), o2)])) S h ∧ TW [(e, tup5 o1 o2 o3 o4 ta tb tc td ed em)] S h) s' → Ex (fcx w prog A (n + 3) base env S (vars2 tab m z j a e)) (execs rest env) Q s') :
    Ex (fcx w prog A (n + 3) base env S (vars2 tab m z j a e)) (execs (.Assign [.Subscript (.Name "entries" p1) (.Name "less" p2) p3] (.Call (.Name "_law_added" p4) [.Subscript (.Name "entries" p5) (.Name "less" p6) p7,
      .Tuple [.Constant (.int 0) k1 p8, .Subscript (.Name "one" p9) (.Constant (.int 1) k2 p10) p11, .Subscript (.Name "one" p12) (.Constant (.int 2) k3 p13) p14, .Subscript (.Name "one" p15) (.Constant (.int 3) k4 p16) p17,
        .Dict [some (.Name "size" p18)] [.Subscript (.Name "one" p19) (.Constant (.int 1) k5 p20) p21] p22] k6 p23] [] p24) p25 :: rest) env) Q s := by
  refine x_added (n := n) (a := a) (i := j) (x := x) (a' := 0) (b' := o2) (c' := o3) (d' := o4) (k2 := [((z : Int), o2)]) F hW hLW hb hkz rfl rfl vars2_flat (ev_name rfl) (ev_name rfl) (by intro _ _; rfl) (ev_name rfl) (ev_name rfl) (ev_glob topOk hg g99) hz hx hxn (by simp) hlen (fun s' F' => ?_) kont
  have C : ((fcx w prog A (n + 3) base env S (vars2 tab m z j a e)).view [] [("one", .tuple [.int o1, .int o2, .int o3, .int o4, .raw (.ref ed)])]).At s'.heap := At.view F'.at_ fun y d h => by
    obtain ⟨rfl, rfl⟩ := look1 h
    refine ⟨e, rfl, ?_⟩
    obtain ⟨w1, w2, _⟩ := F'.own.2 _ (.head _)
    exact .tuple (fun q => w1 q.1) w2 (.cons (.int _ _) (.cons (.int _ _) (.cons (.int _ _) (.cons (.int _ _) (.cons (.raw _) .nil)))))
  have sub : ∀ {p q r : Pos} {kk : Nat} {c : Nat} {i : Int}, ([.int o1, .int o2, .int o3, .int o4, .raw (.ref ed)] : List D)[c]? = some (.int i) → c < 5 → Ev ((fcx w prog A (n + 3) base env S (vars2 tab m z j a e)).view [] [("one", .tuple [.int o1, .int o2, .int o3, .int o4, .raw (.ref ed)])]) (.Subscript (.Name "one" p) (.Constant (.int (c : Int)) kk q) r) (.int i) :=
    fun h hc => ev_sub (ev_name rfl) ev_int (sub_tuple (by intro _ _; rfl) (by omega) (by omega) (by simpa using h))
  exact tr_view_old (new_tuple (newS_cons (new_int ev_int) (newS_cons (new_int (sub (c := 1) rfl (by omega))) (newS_cons (new_int (sub (c := 2) rfl (by omega))) (newS_cons (new_int (sub (c := 3) rfl (by omega))) (newS_cons (EvND.new (κ := kdI) (ev_dict1 kdI (ev_name rfl) (sub (c := 1) rfl (by omega)))) newS_nil))))) (by show 5 ≤ sizeLine; decide)) C
end
-- part F13
theorem ex_next {Γ Γ' : Ctx} {l : List (Str × D)} {rest : List Stmt} {Q : Flow → Shared → Prop} {s : Shared} (e : Γ' = Γ.only l) (h : Ex Γ' (execs rest Γ'.env) Q s) : Ex Γ (execs rest Γ.env) Q s := by subst e; exact .mk h.run
/-- what is known of the owned objects, told in other words -/
theorem Fm.reown {L : Lev} {Γ : Ctx} {os : List Addr} {P P' : (Addr → Prop) → Heap → Prop} {s : Shared} (F : Fm L Γ os P s) (ok : OwnOk P' os) (h : P' Γ.S s.heap) : Fm L Γ os P' s := { F with own := h, pok := ok }

section
variable {w : World} {prog : Program} {n : Nat}
theorem raws {S : Addr → Prop} {h : Heap} : ∀ (es : List (Addr × Addr)), RepAll prog w S h (es.map fun e => Value.ref e.1) (es.map fun e => D.raw (Value.ref e.1))
  | [] => .nil
  | _ :: es => .cons (.raw _) (raws es)
theorem rep_ent {h₀ : Heap} {S S' : Addr → Prop} {h : Heap} {e : Addr × Addr} {x : St} (q : Ent prog w h₀ S h e x) (l : ∀ b, S' b → S b) : Rep prog w S' h (.ref e.1) x.D := by
  obtain ⟨t1, t2, t3, t4, m, a6⟩ := q.ob
  obtain ⟨us, a7, a8⟩ := q.di
  exact .tuple (fun z => q.s1 (l _ z)) a6 (.cons (.int _ _) (.cons (.int _ _) (.cons (.int _ _) (.cons (.int _ _) (.cons (.idict (fun z => q.s2 (l _ z)) q.m a7 a8) .nil)))))
theorem rep_ents {h₀ : Heap} {S S' : Addr → Prop} {h : Heap} (l : ∀ b, S' b → S b) : ∀ {es : List (Addr × Addr)} {st : List St}, es.length = st.length → (∀ (k : Nat) (e : Addr × Addr) (x : St), es[k]? = some e → st[k]? = some x → Ent prog w h₀ S h e x) → RepAll prog w S' h (es.map fun e => Value.ref e.1) (st.map St.D)
  | [], [], _, _ => .nil
  | [], _ :: _, h, _ => by (first | obtain ⟨_, rfl⟩ := h.atom | exact (nsE h).elim | exact (snE h).elim | exact (ftE h).elim | cases h)
  | _ :: _, [], h, _ => by (first | obtain ⟨_, rfl⟩ := h.atom | exact (nsE h).elim | exact (snE h).elim | exact (ftE h).elim | cases h)
  | e :: es, x :: st, hl, hx => .cons (rep_ent (hx 0 e x rfl rfl) l) (rep_ents l (by simpa using hl) fun k e' x' he hx' => hx (k + 1) e' x' (by simpa using he) (by simpa using hx'))
theorem PE.rep {h₀ : Heap} {a : Addr} {st : List St} {S S' : Addr → Prop} {h : Heap} (p : PE prog w h₀ a st S h) (l : ∀ b, S' b → S b) (ha : ¬ S' a) : Rep prog w S' h (.ref a) (.list (st.map St.D)) := by
  obtain ⟨es, p1, p2, p3, p4⟩ := p.ex
  exact .list ha p1 (rep_ents l p2 p3)

set_option maxHeartbeats 1000000 in
theorem fn_run {word text tab : List Int} {pi q : Nat → Nat} (T : RunLaw word text pi q) (hm : word.length ≤ 100) (hm2 : text.length ≤ 1000) (ht : ∀ j : Nat, j < word.length → tab[j]? = some (pi j : Int)) :
    Fn (Kf w) prog w (n + 4) (.ref 104) [.list (word.map .int), .list (tab.map .int), .list (text.map .int)] (.list ((runOf word text pi q).map St.D)) := .mk fun A base S s vals hr hw r => by
  refine fn_enter ok104 (n := n + 3) hr hw r rfl (W := fun _ => False) noOwn_ok trivial fun Lc s₁ F => ?_
  have hl1 : (word.map D.int).length ≤ 16384 := by simp; omega
  have hl2 : (text.map D.int).length ≤ 16384 := by simp; omega
  have hsz : sizeLine = 16777216 := by decide
  have hSs : ∀ y, s.heap.get? y = none → ¬ S y := fun y e => not_held hw.held e
  refine x_swap F (bs := [("n", .int word.length), ("size", .int 0)]) ((ev_tuple (evs_cons ((c_len rfl rfl (ev_name rfl) (fn_len_list hl1)).cast (congrArg D.int (by simp))) (evs_cons ev_int evs_nil)) (by show 2 ≤ sizeLine; decide)).on F.at_) fun _ F => ?_
  refine x_own_usedN (ds := (run0 word.length).map St.D) F ?_ fun a _ ha _ F => ?_
  · have e : (run0 word.length).map St.D = pickOut (fun _ => true) (fun _ : Nat => stats 0 0 0 0 (.idict [])) (List.range (word.length + 1)) := by
      rw [pickOut_all]; unfold run0; rw [List.map_replicate]; simp [List.map_const']; rfl
    rw [e]
    refine .mk fun s use Q hC => (evUN_listcomp (xs := List.range (word.length + 1)) (inj := fun k : Nat => D.int (k : Int)) (bs := fun k => [("k", .int (k : Int))]) (tg := ["k"]) (d := .range 0 ((word.length + 1 : Nat) : Int) 1) ((c_range rfl rfl (ev_binop (ev_name rfl) ev_int op_add)).cast rfl) ?_ (scopeOk_at hC rfl) (by simp; omega) (fun _ _ => .name) (fun k _ b hb => by simp at hb; simp [hb]) (fun _ _ _ _ _ _ => tests_nil)
      (fun k _ _ Da C own wr => new_tuple (newS_cons (new_int ev_int) (newS_cons (new_int ev_int) (newS_cons (new_int ev_int) (newS_cons (new_int ev_int) (newS_cons (EvND.new (κ := kdI) (ev_dict0 kdI)) newS_nil))))) (by show 5 ≤ sizeLine; decide))).run s use Q hC
    have := iter_range (n := ((word.length + 1 : Nat) : Int)) (by omega) (by omega)
    rw [Int.toNat_natCast] at this
    exact this
  have okE : ∀ (st : List St) (W : List (Addr × Obj)), OwnOk (fun S h => PE prog w s.heap a st S h ∧ TW W S h) [a] := fun st W => pe_ok.and tw_ok
  have F : Fm ⟨fun _ => False, [], noOwn, s⟩ _ [a] (fun S h => PE prog w s.heap a (run1 word.length q 0) S h ∧ TW [] S h) _ := F.reown (okE _ _) ⟨pe_of F.own.1 fun x hx => by rw [List.eq_of_mem_replicate hx], fun _ m => nomatch m⟩
  refine x_forR (d := .range 0 (text.length : Int) 1) (ds := (List.range text.length).map fun i : Nat => D.int (i : Int)) (fun k => [("word", .list (word.map .int)), ("table", .list (tab.map .int)), ("text", .list (text.map .int)), ("n", .int (word.length : Int)), ("size", .int (q k : Nat)), ("entries", .raw (.ref a))])
    (fun k S h => PE prog w s.heap a (run1 word.length q k) S h ∧ TW [] S h) F (fun _ => okE _ _) ((c_range rfl rfl ((c_len rfl rfl (ev_name rfl) (fn_len_list hl2)).cast (congrArg D.int (by simp)))).on F.at_) (iterR0 (by omega)) (fun _ _ _ _ _ => trivial) ⟨rfl, rfl, rfl, rfl, by rw [T.q0]; rfl, rfl, trivial⟩ (fun k d' hd => ?_) fun _ F => ?_
  · have hk : k < text.length := by
      have := (List.getElem?_eq_some_iff.mp hd).1
      simpa using this
    have hd' : d' = .int (k : Int) := by
      rw [List.getElem?_map, List.getElem?_range hk] at hd
      exact (Option.some.inj hd).symm
    subst hd'
    refine ⟨_, .name, rfl, fun L' wr _ hkz hWL hs₀ F => ?_⟩
    obtain ⟨nx, hnx, hq1⟩ := T.next k hk
    refine x_assign F (d := .int (q (k + 1) : Nat)) (((ev_call (f := .ref 82) (ev_glob topOk rfl g82) ok82.callable (evs_cons (ev_name rfl) (evs_cons (ev_name rfl) (evs_cons (ev_name rfl) (evs_cons (ev_sub (ev_name rfl) (ev_name rfl) (sub_list (d := .int (text.getD k 0)) (by intro _ _; rfl) (by omega) (by omega) (by simp [hk]))) evs_nil))))
      (fn_next hnx (by omega) ht (T.qle k))).cast (by rw [hq1])).on F.at_) fun _ F => ?_
    have hst := run1_ok (n := word.length) T.qle k
    have hqk := T.qle (k + 1)
    have hmem : (run1 word.length q k).getD (q (k + 1)) ⟨0, 0, 0, 0, []⟩ ∈ run1 word.length q k := List.mem_of_getElem? (getD_mem' (by rw [hst.len]; omega))
    have hs₁ : L'.s₀ = s := hs₀
    have F := F.next (Γ' := fcx w prog _ (n + 3) base (callEnvC (fn104 w).1 Lc 104) _ (vars1 word tab text word.length (q (k + 1)) k a)) rfl ⟨rfl, rfl, rfl, rfl, rfl, rfl, rfl, trivial⟩
    refine ex_next (Γ' := fcx w prog _ (n + 3) base (callEnvC (fn104 w).1 Lc 104) _ (vars1 word tab text word.length (q (k + 1)) k a)) rfl ?_
    refine run_turn1 (castP (by rw [hs₁]) F) (by rw [hs₁]; exact ha) hWL (fun b o e => by rw [hs₁]; exact hw.up b o e) hkz rfl (by rw [hst.len]; omega) (getD_mem' (by rw [hst.len]; omega)) (hst.nod _ hmem) (by have := hst.sz _ hmem; omega) fun _ F => ?_
    have F := castP (P' := fun S h => PE prog w s.heap a (run1 word.length q (k + 1)) S h ∧ TW [] S h) (by rw [hs₁]; rfl) F
    exact ex_nil (.inl ⟨.inl rfl, F.next rfl ⟨rfl, rfl, rfl, rfl, rfl, rfl, trivial⟩⟩)
  rw [List.length_map, List.length_range] at F ⊢
  refine x_forR (d := .range (word.length : Int) 0 (-1)) (ds := (List.range word.length).map fun i : Nat => D.int ((word.length - i : Nat) : Int)) (fun k => [("table", .list (tab.map .int)), ("n", .int (word.length : Int)), ("entries", .raw (.ref a))])
    (fun k S h => PE prog w s.heap a (run2 word.length pi (run1 word.length q text.length) k) S h ∧ TW [] S h) F (fun _ => okE _ _)
    ((ev_call (f := .type "range") (ev_blt topOk rfl g_range b_range) trivial (evs_cons (ev_name rfl) (evs_cons ev_int (evs_cons (ev_unop ev_int op_neg) evs_nil))) (fn_range3 (by decide) (PyProof.noPylong_small (by decide)))).on F.at_) (iterR_down (by omega)) (fun _ _ _ _ _ => trivial) ⟨rfl, rfl, rfl, trivial⟩ (fun k d' hd => ?_) fun _ F => ?_
  · have hk : k < word.length := by
      have := (List.getElem?_eq_some_iff.mp hd).1
      simpa using this
    have hd' : d' = .int ((word.length - k : Nat) : Int) := by
      rw [List.getElem?_map, List.getElem?_range hk] at hd
      exact (Option.some.inj hd).symm
    subst hd'
    refine ⟨_, .name, rfl, fun L' wr s' hkz hWL hs₀ F => ?_⟩
    have hs₁ : L'.s₀ = s := hs₀
    have F := F.next (Γ' := fcx w prog _ (n + 3) base (callEnvC (fn104 w).1 Lc 104) _ [("table", .list (tab.map .int)), ("n", .int (word.length : Int)), ("size", .int ((word.length - k : Nat) : Int)), ("entries", .raw (.ref a))]) rfl ⟨rfl, rfl, rfl, rfl, trivial⟩
    refine ex_next (Γ' := fcx w prog _ (n + 3) base (callEnvC (fn104 w).1 Lc 104) _ [("table", .list (tab.map .int)), ("n", .int (word.length : Int)), ("size", .int ((word.length - k : Nat) : Int)), ("entries", .raw (.ref a))]) rfl ?_
    have hst := run2_ok T.le (run1_ok (n := word.length) T.qle text.length) k
    have hnext : run2 word.length pi (run1 word.length q text.length) (k + 1) = upd (run2 word.length pi (run1 word.length q text.length) k) (pi (word.length - k - 1)) 0 ((run2 word.length pi (run1 word.length q text.length) k).getD (word.length - k) ⟨0, 0, 0, 0, []⟩).b ((run2 word.length pi (run1 word.length q text.length) k).getD (word.length - k) ⟨0, 0, 0, 0, []⟩).c
      ((run2 word.length pi (run1 word.length q text.length) k).getD (word.length - k) ⟨0, 0, 0, 0, []⟩).d [(((word.length - k : Nat) : Int), ((run2 word.length pi (run1 word.length q text.length) k).getD (word.length - k) ⟨0, 0, 0, 0, []⟩).b)] := rfl
    generalize run2 word.length pi (run1 word.length q text.length) k = st at hst hnext F
    have hpile := T.le (word.length - k - 1)
    have hx1 := getD_mem' (st := st) (i := word.length - k) (by rw [hst.len]; omega)
    generalize st.getD (word.length - k) ⟨0, 0, 0, 0, []⟩ = one at hx1 hnext
    have hx2 := getD_mem' (st := st) (i := pi (word.length - k - 1)) (by rw [hst.len]; omega)
    have hmem : st.getD (pi (word.length - k - 1)) ⟨0, 0, 0, 0, []⟩ ∈ st := List.mem_of_getElem? hx2
    obtain ⟨es, hpl, hel, hent, _⟩ := F.own.1.ex
    have hnk : word.length - k < es.length := by rw [hel, hst.len]; omega
    have hei : es[word.length - k]? = some es[word.length - k] := List.getElem?_eq_getElem hnk
    generalize es[word.length - k] = e at hei
    have a1 := (hent _ _ _ hei hx1).s1; obtain ⟨t1, t2, t3, t4, em, a6⟩ := (hent _ _ _ hei hx1).ob
    have F := F.reown (P' := fun S h => PE prog w s.heap a st S h ∧ TW [(e.1, tup5 one.a one.b one.c one.d t1 t2 t3 t4 e.2 em)] S h) (okE _ _) ⟨F.own.1, fun p hp => by rw [List.mem_singleton.mp hp]; exact ⟨a1, a6, rfl⟩⟩
    refine x_swap F (bs := [("one", .raw (.ref e.1)), ("less", .int (pi (word.length - k - 1) : Nat))]) (tr_view_new (as := [a]) (l := [("entries", .list (es.map fun e => .raw (.ref e.1)))]) (new_tuple (newS_cons (new_raw (ev_sub (ev_name rfl) (ev_name rfl) (sub_list (d := .raw (.ref e.1)) (by intro _ _; rfl) (by omega) (by omega) ?_)))
      (newS_cons (new_int (ev_sub (d := .int (pi (word.length - k - 1) : Nat)) (ev_name rfl) (ev_binop (ev_name rfl) ev_int op_sub) (sub_list (by intro _ _; rfl) (by omega) (by omega) ?_))) newS_nil)) (by show 2 ≤ sizeLine; omega)) (At.view F.at_ fun y d h => ?_) F.at_.wd.held) fun _ F => ?_
    · rw [Int.toNat_natCast, List.getElem?_map, hei]; rfl
    · rw [show (((word.length - k : Nat) : Int) - 1).toNat = word.length - k - 1 by omega, List.getElem?_map, ht _ (by omega)]; rfl
    · obtain ⟨rfl, rfl⟩ := look1 h
      refine ⟨a, rfl, .list (fun q => q.2 (.head _)) hpl (raws _)⟩
    have F := F.next (Γ' := fcx w prog _ (n + 3) base (callEnvC (fn104 w).1 Lc 104) _ (vars2 tab word.length (word.length - k) (pi (word.length - k - 1) : Nat) a e.1)) rfl ⟨rfl, rfl, rfl, rfl, rfl, rfl, trivial⟩
    refine ex_next (Γ' := fcx w prog _ (n + 3) base (callEnvC (fn104 w).1 Lc 104) _ (vars2 tab word.length (word.length - k) (pi (word.length - k - 1) : Nat) a e.1)) rfl ?_
    refine run_turn2 (castP (by rw [hs₁]) F) (by rw [hs₁]; exact ha) hWL (fun b o e => by rw [hs₁]; exact hw.up b o e) hkz rfl (by rw [hst.len]; omega) hx2 (hst.nod _ hmem) (by have := hst.sz _ hmem; omega) fun _ F => ?_
    have F := F.reown (P' := fun S h => PE prog w s.heap a (run2 word.length pi (run1 word.length q text.length) (k + 1)) S h ∧ TW [] S h) (okE _ _) ⟨by rw [hnext, ← hs₁]; exact F.own.1, fun _ m => nomatch m⟩
    exact ex_nil (.inl ⟨.inl rfl, F.next rfl ⟨rfl, rfl, rfl, trivial⟩⟩)
  · rw [List.length_map, List.length_range] at F
    refine x_ret F (d := .raw (.ref a)) ((ev_name rfl).on F.at_) fun v _ F r => ⟨v, rfl, F.done rfl rfl, ?_⟩
    (first | obtain ⟨_, rfl⟩ := r.atom | exact (nsE r).elim | exact (snE r).elim | exact (ftE r).elim | cases r)
    exact F.own.1.rep (fun b q => .inl (.inl q)) (hSs _ ha)
end
-- part PL27
/-- a new object's attribute is stored -/
theorem osa_own {K : Frag} {prog : Program} {w : World} {A : Around} {C x dx : Addr} {name : Str} {tk : Tok} {v : Value} {s : Shared} {R : Result → Shared → Prop} (X : K.In s.heap) (hx : s.heap.get? x = some (instObj C dx)) (hd : s.heap.get? dx = some emptyDict)
    (hp : plainOver K C = true) (ht : takerIn K C name = some none) (hh : (clsIn K C).any (·.hasDict) = true)
    (h : ∀ h' hs n, Heap.SameBut dx s.heap h' → h'.get? dx = some { cls := .type "dict", data := .dict #[⟨hs, .str name s.toks, v⟩] n } → R (.ok (.ret .none)) { s with heap := h', toks := s.toks + 1 }) :
    codeAny (model prog w) A (.call (.builtin "object.__setattr__") ⟨[.ref x, .str name tk, v], []⟩) R s := by
  have I : InstAt s.heap x (instObj C dx) C (some emptyDict) := ⟨hx, rfl, rfl, hd⟩
  refine osa_open X I hp ht fun b => ?_
  obtain ⟨cd, hc, hd'⟩ := any_some hh
  refine wpAny_bind (wpAny_pure (wpAny_bind (wpAny_bind (wpAny_loadPart hx (wpAny_bind ((looks_clsIn X hc).here ?_))))))
  rw [hd']
  refine wpAny_pure (a := some dx) (wpAny_bind (wpAny_pure (wpAny_bind ?_)))
  unfold nsSet
  refine wpAny_bind (wpAny_bind (wpAny_askSetting (wpAny_pure (wpAny_bind (wpAny_mkText (wpAny_bind (wpAny_loadPart hd ?_)))))))
  dsimp only
  rw [aRefKeyMayBeTheName_at, show (!(#[] : Array DictEntry).any (·.key.isStr name) && (#[] : Array DictEntry).any (·.refKey)) = false by simp]
  have e : ∀ (hs : Int), Obj.putName name hs (.str name s.toks) v emptyDict = { cls := .type "dict", data := .dict #[⟨hs, .str name s.toks, v⟩] 1 } := fun hs => rfl
  refine wpAny_updatePart hd ?_
  have D' := fun hs => Heap.get?_update_self (Obj.putName name hs (.str name s.toks) v) hd (by rw [e]; rfl)
  refine wpAny_bind (wpAny_lookBehind (D' _) (by rw [e]; exact pastItsLine_dict (by show 1 ≤ sizeLine + 1; decide)) ?_)
  exact wpAny_pure (h _ _ 1 (Heap.SameBut.update ..) (by rw [D', e]))

/-- what is to be seen of a class, by computation -/
structure ClsOk (K : Frag) (C fI : Addr) (nm : Str) : Prop where
  makes : makesIn K C = true
  init : findIn K (.ref C) "__init__" = some (some (.ref fI))
  fn : typeIn K (.ref fI) = some (.type "function")
  set_ : findIn K (.ref C) "__setattr__" = some (some (.builtin "object.__setattr__"))
  over : plainOver K C = true
  taker : takerIn K C nm = some none
  dict : (clsIn K C).any (·.hasDict) = true
  ga : findIn K (.ref C) "__getattribute__" = some (some (.builtin "object.__getattribute__"))
  gt : findIn K (.ref C) "__getattr__" = some none
  obj : ∀ hs t v n, findObj K C (some { cls := .type "dict", data := .dict #[⟨hs, .str nm t, v⟩] n }) nm = some (.value v)

theorem RoomA.under_make {n : Nat} {A : Around} {C : Addr} {vals : List Value} (r : RoomA (n + 1) A) : RoomA n (A.under (.builtin "type.__call__" ⟨.ref C :: vals, []⟩)) := by
  refine ⟨r.1, ?_, ?_⟩
  · have := r.2.1
    show A.depth + 1 + n < 900
    omega
  · have := r.2.2
    have e : (A.under (.builtin "type.__call__" ⟨.ref C :: vals, []⟩)).units = A.units + (Code.builtin "type.__call__" ⟨.ref C :: vals, []⟩).cUnits := rfl
    have e2 : (Code.builtin "type.__call__" ⟨.ref C :: vals, []⟩).cUnits ≤ 4 := by show Code.cUnits _ ≤ 4; show 1 + 3 * (Code.builtin "type.__call__" ⟨.ref C :: vals, []⟩).frames ≤ 4; have : (Code.builtin "type.__call__" ⟨.ref C :: vals, []⟩).frames ≤ 1 := (by rw [show (Code.builtin "type.__call__" ⟨.ref C :: vals, []⟩).frames = 0 from by with_unfolding_all rfl]; exact Nat.zero_le _); omega
    omega

section
variable {K : Frag} {prog : Program} {w : World} {n : Nat}
theorem fn_make {C fI : Addr} {nm p0 p1 : Str} {fd : FuncData} {q1 q2 q3 q4 : Pos} {ds : List D} (Y : ClsOk K C fI nm) (H : FnOk K fI fd [.Assign [.Attribute (.Name p0 q1) nm q2] (.Name p1 q3) q4] [p0, p1])
    (hs : swapsWith (.Name p1 q3) (some (.Attribute (.Name p0 q1) nm q2)) q4.line = fun _ => pure false) (h01 : (p1 == p0) = false) (hd0 : (p0 == ("__debug__" : Str)) = false) (hd1 : (p1 == ("__debug__" : Str)) = false) :
    Fn K prog w (n + 2) (.ref C) [.list ds] (.inst C nm (.list ds)) := .mk fun A base S s vals hr hw r => by
  obtain ⟨v, rfl, r₁⟩ := r.one
  obtain ⟨l, vs, rfl, hSl, hl, rs⟩ := r₁.list_inv
  have X := hw.glh.inn
  have hgl := hw.glh
  generalize hx0 : s.heap.objs.size = dx at *
  refine wpAny_call ?_
  obtain ⟨h, g, d, t, os⟩ := s
  dsimp only at hx0 X
  refine make_core (makes_of X Y.makes) (looks_findIn X Y.init) (fun self => bind_fn X self Y.fn) (.inl rfl) ?_
  rw [hx0]
  have hdn : h.get? dx = none := get_size _ (by rw [hx0]; exact Nat.le_refl _)
  have hxn : h.get? (dx + 1) = none := get_size _ (by rw [hx0]; exact Nat.le_succ _)
  have k2 : ∀ b o, h.get? b = some o → ((h.push emptyDict).push (instObj C dx)).get? b = some o := fun b o e => Heap.get?_push_of_some _ (Heap.get?_push_of_some _ e)
  have od : ((h.push emptyDict).push (instObj C dx)).get? dx = some emptyDict := Heap.get?_push_of_some _ (by rw [← hx0]; exact Heap.get?_push_size _ rfl)
  have ox : ((h.push emptyDict).push (instObj C dx)).get? (dx + 1) = some (instObj C dx) := by
    have := Heap.get?_push_size (h.push emptyDict) (o := instObj C dx) rfl
    rwa [Heap.size_push, hx0] at this
  let S' : Addr → Prop := fun b => S b ∨ b = dx + 1 ∨ b = dx
  have hw' : Wd K base S' ((h.push emptyDict).push (instObj C dx)) := ⟨hw.gl, fun b o e => k2 b o (hw.up b o e), fun b q => by
    rcases q with q | rfl | rfl
    · exact hw.off b q
    · exact hw.fresh hxn
    · exact hw.fresh hdn, fun b q => by
    rcases q with q | rfl | rfl
    · exact some_keep (hw.held b q) k2
    · rw [ox]; rfl
    · rw [od]; rfl⟩
  refine fn_enterC H (n := n) (S := S') (ds := [.raw (.ref (dx + 1)), .raw (.ref l)]) (RoomA.under_make hr) hw' (.cons (.raw _) (.cons (.raw _) .nil)) rfl (W := fun b => b = dx) (os := [dx + 1, dx]) (P := fun S h => StandsAt (dx + 1) (instObj C dx) S h ∧ StandsAt dx emptyDict S h)
    (standsAt_ok.and standsAt_ok) ⟨⟨.inr (.inl rfl), ox⟩, ⟨.inr (.inr rfl), od⟩⟩ fun Lc s₁ F => ?_
  refine .mk (wpAny_execs_cons (plainObj_wpAny_Assign_Attribute (((ev_name (d := .raw (.ref l)) (by show List.lookup p1 [(p0, _), (p1, _)] = _; rw [List.lookup_cons, h01, List.lookup_cons, beq_self_eq_true]) hd1).run s₁ F.at_).then' fun v1 s₂ k₂ r₂ =>
    ((ev_name (d := .raw (.ref (dx + 1))) (by show List.lookup p0 [(p0, _), (p1, _)] = _; rw [List.lookup_cons, beq_self_eq_true]) hd0).run s₂ (F.kp k₂).at_).then' fun v2 s₃ k₃ r₃ => ?_) (by rw [hs])))
  (first | obtain ⟨_, rfl⟩ := r₂.atom | exact (nsE r₂).elim | exact (snE r₂).elim | exact (ftE r₂).elim | cases r₂); (first | obtain ⟨_, rfl⟩ := r₃.atom | exact (nsE r₃).elim | exact (snE r₃).elim | exact (ftE r₃).elim | cases r₃)
  have F₃ := (F.kp k₂).kp k₃
  obtain ⟨⟨_, o1⟩, ⟨_, o2⟩⟩ := F₃.own
  have X3 := F₃.at_.wd.glh.inn
  refine set_plain (od := some emptyDict) X3 ⟨o1, rfl, rfl, o2⟩ Y.set_ (osa_own (s := { s₃ with toks := s₃.toks + 1 }) X3 o1 o2 Y.over Y.taker Y.dict fun h' hs n hsb hdx => wpAny_execs_nil ?_)
  refine ⟨rfl, ?_⟩
  have nx : dx + 1 ≠ dx := Nat.succ_ne_self dx
  have keep : ∀ b o, h.get? b = some o → h'.get? b = some o := fun b o e => hsb.extBut b o (fun q => by rw [q, hdn] at e; (first | obtain ⟨_, rfl⟩ := e.atom | exact (nsE e).elim | exact (snE e).elim | exact (ftE e).elim | cases e)) (F₃.ext b o (fun q => by
    have q' : b = dx := q
    rw [q', hdn] at e; (first | obtain ⟨_, rfl⟩ := e.atom | exact (nsE e).elim | exact (snE e).elim | exact (ftE e).elim | cases e)) (k2 b o e))
  refine ⟨?_, ?_⟩
  · exact ⟨⟨F₃.same.1, F₃.same.2⟩, keep⟩
  · exact .inst (not_held hw.held hxn) (not_held hw.held hdn) (hsb.extBut _ _ nx o1) hdx (r₁.keep keep)
end

theorem Rep.inst_inv {prog : Program} {w : World} {S : Addr → Prop} {h : Heap} {v : Value} {C : Addr} {nm : Str} {d : D} (r : Rep prog w S h v (.inst C nm d)) : ∃ x dx hs t u n, v = .ref x ∧ ¬ S x ∧ ¬ S dx ∧ h.get? x = some { cls := .ref C, dict := some dx, data := .plain } ∧ h.get? dx = some { cls := .type "dict", data := .dict #[⟨hs, .str nm t, u⟩] n } ∧ Rep prog w S h u d := by
  cases r with
  | inst a b c e f => exact ⟨_, _, _, _, _, _, rfl, a, b, c, e, f⟩
section
variable {Γ : Ctx}
theorem ev_methI {o : Expr} {name nm : Str} {apos pos : Pos} {args : List Expr} {C fI f : Addr} {d0 d : D} {ds : List D} {pl : Sem Bool} (Y : ClsOk Γ.K C fI nm) (ho : Ev Γ o (.inst C nm d0)) (ha : Evs Γ pos args ds) (hf : findIn Γ.K (.ref C) name = some (some (.ref f))) (ht : typeIn Γ.K (.ref f) = some (.type "function"))
    (hsh : ∀ hs t v n, shadowIn (some { cls := .type "dict", data := .dict #[⟨hs, .str nm t, v⟩] n }) name = some false) (hc : Callable Γ.K (.ref f)) (F : Fn Γ.K Γ.prog Γ.w Γ.n (.ref f) (.inst C nm d0 :: ds) d)
    (he : eval (.Call (.Attribute o name apos) args [] pos) Γ.env = (do
      let ov ← eval o Γ.env
      standAt apos.atName
      let (f, first) ← holding [ov] (getMethod ov name pl)
      callWith pos f first (backTo pos (starEach args Γ.env)) (backToKw pos (keywordEach [] Γ.env))) := by rfl) (hp : List.all args plainE = true := by rfl) : Ev Γ (.Call (.Attribute o name apos) args [] pos) d := .mk fun s C => by
  refine methodCall_KW ((ho.run s C).then' fun v s₁ k₁ r₁ => ?_) he
  obtain ⟨x, dx, hs, t, u, n, rfl, h1, h2, o1, o2, ru⟩ := r₁.inst_inv
  have X1 := (C.go k₁).wd.glh.inn
  refine method_fn X1 ⟨o1, rfl, rfl, o2⟩ Y.ga Y.gt hf ht (hsh _ _ _ _) ?_
  refine spliced_args (first := [.ref x]) (C.go k₁) hc ha (any_plain hp) fun vs s₂ k₂ r₂ => ?_
  have C₂ := (C.go k₁).go k₂
  exact wpAny_mono (F.run Γ.A Γ.base Γ.S s₂ (.ref x :: vs) C₂.room C₂.wd (.cons (r₁.keep k₂.k) r₂)) (fun _ _ q => ⟨(k₁.trans k₂).trans q.1, q.2⟩) fun _ _ x => x
end
-- part F14
section
variable {Γ : Ctx}
/-- an object's attribute -/
theorem ev_attrI {o : Expr} {nm : Str} {pos : Pos} {C fI : Addr} {ds : List D} (Y : ClsOk Γ.K C fI nm) (ho : Ev Γ o (.inst C nm (.list ds)))
    (he : eval (.Attribute o nm pos) Γ.env = (do
      let x ← eval o Γ.env
      standAt pos.atName
      let r ← holding [x] (getAttr x nm true)
      letTemporaryGo o x r
      pure r) := by with_unfolding_all rfl) : Ev Γ (.Attribute o nm pos) (.list ds) := .mk fun s C => by
  refine Attribute_any_ ((ho.run s C).then' fun v s₁ k₁ r₁ => ?_) he
  obtain ⟨x, dx, hs, t, u, n, rfl, h1, h2, o1, o2, ru⟩ := r₁.inst_inv
  have X1 := (C.go k₁).wd.glh.inn
  obtain ⟨l, vs, rfl, _, _, _⟩ := ru.list_inv
  exact get_value X1 ⟨o1, rfl, rfl, o2⟩ Y.ga (Y.obj _ _ _ _) rfl ⟨k₁.trans (Kp.toks s₁ _), ru⟩
end

/-- compare, as a law -/
noncomputable def cmpK : List (Nat × Int) → List Int → List Int → Int
  | [], _, _ => 0
  | p :: r, L, R => if L.getD p.1 0 < R.getD p.1 0 then -p.2 else if R.getD p.1 0 < L.getD p.1 0 then p.2 else cmpK r L R
noncomputable def dKeys (keys : List (Nat × Int)) : List D := keys.map fun p => .tuple [.int (p.1 : Int), .int p.2]

section
variable {w : World} {prog : Program} {n : Nat}
theorem cls38 : ClsOk (Kf w) 38 28 "comp_select_list" where
  makes := id rfl
  init := id rfl
  fn := id rfl
  set_ := id rfl
  over := id rfl
  taker := id rfl
  dict := id rfl
  ga := id rfl
  gt := id rfl
  obj := fun _ _ _ _ => id rfl

theorem fn_judge {ds : List D} : Fn (Kf w) prog w (n + 2) (.ref 38) [.list ds] (.inst 38 "comp_select_list" (.list ds)) :=
  fn_make (fI := 28) (p0 := "self") (p1 := "comp_select_list") cls38 ok28 rfl (by decide) (by decide) (by decide)

set_option maxHeartbeats 1000000 in
theorem fn_compare {keys : List (Nat × Int)} {X Y : List Int} (hk : ∀ p ∈ keys, p.1 < X.length ∧ p.1 < Y.length) (hX : X.length ≤ 1000) : Fn (Kf w) prog w (n + 1) (.ref 35) [.inst 38 "comp_select_list" (.list (dKeys keys)), .tuple (X.map .int), .tuple (Y.map .int)] (.int (cmpK keys X Y)) :=
  fn_of_body ok35 rfl fun A base S s₀ L s₁ F => by
    let J : Nat → Prop := fun k => cmpK (keys.drop k) X Y = cmpK keys X Y
    have F := F.reown (P' := fun _ _ => J 0) (fact_ok _) rfl
    refine x_for (d := .list (dKeys keys)) (ds := dKeys keys) (fun k => [("left", .tuple (X.map .int)), ("right", .tuple (Y.map .int))]) (fun k _ _ => J k) F (fun k => fact_ok _) ((ev_attrI cls38 (ev_name rfl)).on F.at_) iterable_list ⟨rfl, rfl, trivial⟩ (fun k d' hd => ?_) fun s F => ?_
    · unfold dKeys at hd
      rw [List.getElem?_map] at hd
      cases hx : keys[k]? with
      | none => rw [hx] at hd; (first | obtain ⟨_, rfl⟩ := hd.atom | exact (nsE hd).elim | exact (snE hd).elim | exact (ftE hd).elim | cases hd)
      | some p =>
        rw [hx] at hd; (first | obtain ⟨_, rfl⟩ := hd.atom | exact (nsE hd).elim | exact (snE hd).elim | exact (ftE hd).elim | cases hd)
        refine ⟨_, .t2, rfl, fun L' wr s hW hs₀ F => ?_⟩
        obtain ⟨hp1, hp2⟩ := hk p (List.mem_of_getElem? hx)
        have gX : (X.map D.int)[((p.1 : Int)).toNat]? = some (.int (X.getD p.1 0)) := by simp [hp1]
        have gY : (Y.map D.int)[((p.1 : Int)).toNat]? = some (.int (Y.getD p.1 0)) := by simp [hp2]
        have hdrop : keys.drop k = p :: keys.drop (k + 1) := by
          obtain ⟨hlt, e⟩ := List.getElem?_eq_some_iff.mp hx
          rw [List.drop_eq_getElem_cons hlt, e]
        have hJ : J k := F.own
        have hJ' : (if X.getD p.1 0 < Y.getD p.1 0 then -p.2 else if Y.getD p.1 0 < X.getD p.1 0 then p.2 else cmpK (keys.drop (k + 1)) X Y) = cmpK keys X Y := by
          rw [← hJ, hdrop]; rfl
        refine x_assign F ((ev_sub (ev_name rfl) (ev_name rfl) (sub_tuple (by intro _ _; rfl) (by omega) (by omega) gX)).on F.at_) fun s F => ?_
        refine x_assign F ((ev_sub (ev_name rfl) (ev_name rfl) (sub_tuple (by intro _ _; rfl) (by omega) (by omega) gY)).on F.at_) fun s F => ?_
        refine x_if F ((evT_cmp (ev_name rfl) (ev_name rfl) op_lt).on F.at_) (fun hb s F => ?_) fun hb s F => ?_
        · refine x_ret F ((ev_unop (ev_name rfl) op_neg).on F.at_) fun v s F r => .inr ⟨⟨_, rfl⟩, v, rfl, F.done hW hs₀, ?_⟩
          (first | obtain ⟨_, rfl⟩ := r.atom | exact (nsE r).elim | exact (snE r).elim | exact (ftE r).elim | cases r)
          rw [if_pos (by simpa using hb)] at hJ'
          rw [← hJ']; exact .int _ _
        · refine ex_nil ?_
          rw [if_neg (by simpa using hb)] at hJ'
          refine x_if F ((evT_cmp (ev_name rfl) (ev_name rfl) op_gt).on F.at_) (fun hb s F => ?_) fun hb s F => ?_
          · refine x_ret F ((ev_name rfl).on F.at_) fun v s F r => .inr ⟨⟨_, rfl⟩, v, rfl, F.done hW hs₀, ?_⟩
            (first | obtain ⟨_, rfl⟩ := r.atom | exact (nsE r).elim | exact (snE r).elim | exact (ftE r).elim | cases r)
            rw [if_pos (by simpa using hb)] at hJ'
            rw [← hJ']; exact .int _ _
          · rw [if_neg (by simpa using hb)] at hJ'
            have F := F.reown (P' := fun _ _ => J (k + 1)) (fact_ok _) hJ'
            exact ex_nil (ex_nil (.inl ⟨.inl rfl, F.next rfl ⟨rfl, rfl, trivial⟩⟩))
    · refine x_ret F (ev_int.on F.at_) fun v s F r => ⟨v, rfl, F.done rfl rfl, ?_⟩
      (first | obtain ⟨_, rfl⟩ := r.atom | exact (nsE r).elim | exact (snE r).elim | exact (ftE r).elim | cases r)
      have h : J (dKeys keys).length := F.own
      have : cmpK keys X Y = 0 := by rw [← h]; unfold dKeys; rw [List.length_map, List.drop_length]; rfl
      rw [this]; exact .int _ _
end
-- part PL28
section
variable {L : Lev} {Γ : Ctx} {os : List Addr} {P : (Addr → Prop) → Heap → Prop} {s s' : Shared}
/-- a comprehension's dict, stored and owned from now on -/
theorem x_own_usedD {KK : Type} [DecidableEq KK] (κ : KD KK) {x : Str} {px pos : Pos} {value : Expr} {rest : List Stmt} {kvs : List (KK × Int)} {Q : Flow → Shared → Prop} (F : Fm L Γ os P s) (he : EvU Γ value fun _ h₀ v h => NewD Γ (κ.knd Γ.prog Γ.w) h₀ kvs v h)
    (k : ∀ a s', L.s₀.heap.get? a = none → a ∉ os → ¬ Γ.S a → Fm L ((Γ.plus [a]).set x (.raw (.ref a))) (a :: os) (fun S h => AccD Γ.prog Γ.w (κ.knd Γ.prog Γ.w) a kvs S h ∧ P S h) s' → Ex ((Γ.plus [a]).set x (.raw (.ref a))) (execs rest ((Γ.plus [a]).set x (.raw (.ref a))).env) Q s')
    (ha : asg Γ x = true := by rfl) (hs : swapsWith value (some (.Name x px)) pos.line Γ.env = pure true := by rfl) : Ex Γ (execs (.Assign [.Name x px] value pos :: rest) Γ.env) Q s := by
  refine .mk <| wpAny_execs_cons ?_
  rw [exec_Assign_Name_used _ _ _ _ hs]
  refine wpAny_bind (wpAny_standAt (wpAny_bind (wpAny_mono (he.run s (assign (.Name x px) Γ.env) (fun s' => Wx Γ (execs rest Γ.env) Q s') F.at_ ?_) (fun _ s' q => wpAny_pure q) fun _ _ x => x)))
  intro s' v C k₁ hC hns hv hva
  obtain ⟨f1, f2, f3, f4, f5, f6⟩ := F.fresh hC
  obtain ⟨m, hm⟩ := hns
  have hCl : (s'.heap.get? C).isSome = true := let ⟨o, _, _, e, _⟩ := hm; by rw [e]; rfl
  obtain ⟨a, us, rfl, hn, hmod, hd, hk⟩ := hv
  obtain ⟨a', e', hne, _⟩ := hva
  (first | obtain ⟨_, rfl⟩ := e'.atom | exact (nsE e').elim | exact (snE e').elim | exact (ftE e').elim | cases e')
  obtain ⟨g1, g2, g3, g4, g5, g6⟩ := F.fresh hn
  have hal : (s'.heap.get? a).isSome = true := let ⟨o, _, _, e, _⟩ := hd; by rw [e]; rfl
  have F₁ := F.plus k₁ (wr := [a]) (fun b m => by rw [List.mem_singleton.mp m]; exact hn) (fun b m => by rw [List.mem_singleton.mp m]; exact hal)
  have F₁' := F.plus k₁ (wr := [a, C]) (fun b m => by rcases List.mem_cons.mp m with e | e; exact e ▸ hn; rw [List.mem_singleton.mp e]; exact hC) (fun b m => by rcases List.mem_cons.mp m with e | e; exact e ▸ hal; rw [List.mem_singleton.mp e]; exact hCl)
  have hSS : ∀ b, ((Γ.plus [a]).plus [C]).S b ↔ (Γ.plus [a, C]).S b := fun b => by
    show (Γ.S b ∨ b ∈ [a]) ∨ b ∈ [C] ↔ Γ.S b ∨ b ∈ [a, C]
    simp [or_assoc]
  have acc : AccD Γ.prog Γ.w (κ.knd Γ.prog Γ.w) a kvs ((Γ.plus [a]).plus [C]).S s'.heap := ⟨.inl (.inr (.head _)), hmod, us, hd, hk⟩
  have atC : ((Γ.plus [a]).plus [C]).At s'.heap := by
    have X := F₁'.at_
    refine ⟨X.wd.less fun b q => (hSS b).mp q, X.kind, X.globals, X.builtins, X.room, X.sep, X.cin, fun y d e => ?_⟩
    obtain ⟨v, hv, r⟩ := X.vars y d e
    exact ⟨v, hv, r.less fun b q => (hSS b).mp q⟩
  have F₂ : Fm L ((Γ.plus [a]).plus [C]) (a :: os) (fun S h => AccD Γ.prog Γ.w (κ.knd Γ.prog Γ.w) a kvs S h ∧ P S h) s' := by
    refine ⟨F₁'.same, F₁'.ext, atC, F₁'.ns, ⟨.inl (.inl F.lS.1), F.lS.2⟩, fun x c e => let ⟨p, q, r⟩ := F₁'.cS x c e; ⟨p, .inl (.inl (F.cS x c e).2.1), r⟩, ⟨fun m => (List.mem_cons.mp m).elim g1 F.ol.1, F.ol.2⟩, fun x c e => ⟨fun m => (List.mem_cons.mp m).elim (g2 x c e) (F.oc x c e).1, (F.oc x c e).2⟩,
      ⟨acc, ?_⟩, ?_, fun b m => (List.mem_cons.mp m).elim (fun e => e ▸ g4) (F.oz b), F.zok, accD_ok.own.and F.pok, F₁'.base⟩
    · exact F.pok.move _ _ _ F₁'.own (fun b q => .inl ((hSS b).mp q)) fun b m => .inl (.inl (F.pok.has _ _ F.own b m))
    · exact F.zok.move _ _ _ F₁'.rest (fun b q => .inl ((hSS b).mp q)) fun b m => .inl (.inl (F.zok.has _ _ F.rest b m))
  refine wpAny_assign_Name (store_rule (Γ := (Γ.plus [a]).plus [C]) F₂.at_ (F₂.slot (show asg ((Γ.plus [a]).plus [C]) x = true from ha)) (.raw (.ref a)) fun s'' w At' => ?_)
  have F₃ := F₂.wr (bs := [(x, .raw (.ref a))]) w At'
  have hm' : s''.heap.Ns C m := hm.at' fun o e => w.off C o (Ne.symm f1) (fun y _ q => f2 y C q rfl) e
  exact ⟨m, hm', fun h' hs' => Ex.run (Γ := (Γ.plus [a]).set x (.raw (.ref a))) (k a _ g5 g3 g6 (Fm.sameBut (Γ := (Γ.plus [a]).set x (.raw (.ref a))) F₃ hs' f1 f2 (fun m => (List.mem_cons.mp m).elim (fun e => hne e.symm) f3) f4 f5 fun q => q.elim f6 fun m => hne (List.mem_singleton.mp m).symm))⟩

/-- an owned dict becomes data -/
theorem Fm.release {KK : Type} [DecidableEq KK] (κ : KD KK) {a : Addr} {x : Str} {kvs : List (KK × Int)} {P0 : (Addr → Prop) → Heap → Prop} {ρ' : Str → Option D} (F0 : Fm L Γ os P0 s') (ha : ¬ Γ.S a) (F : Fm L { Γ with S := (Γ.plus [a]).S, ρ := ρ' } (a :: os) (fun S h => AccD Γ.prog Γ.w (κ.knd Γ.prog Γ.w) a kvs S h ∧ P S h) s) (pok : OwnOk P os) (hx : ρ' x = some (.raw (.ref a))) :
    Fm L { Γ with ρ := fun y => if y = x then some (κ.con kvs) else ρ' y } os P s := by
  have G := F0.drop F pok
  refine { G with at_ := ⟨G.at_.wd, G.at_.kind, G.at_.globals, G.at_.builtins, G.at_.room, G.at_.sep, G.at_.cin, fun y d e => ?_⟩ }
  have e' : (if y = x then some (κ.con kvs) else ρ' y) = some d := e
  by_cases hy : y = x
  · rw [if_pos hy] at e'
    (first | obtain ⟨_, rfl⟩ := e'.atom | exact (nsE e').elim | exact (snE e').elim | exact (ftE e').elim | cases e')
    obtain ⟨v, hv, r⟩ := G.at_.vars x _ hx
    (first | obtain ⟨_, rfl⟩ := r.atom | exact (nsE r).elim | exact (snE r).elim | exact (ftE r).elim | cases r)
    obtain ⟨_, hm, us, hd, hk⟩ := F.own.1
    exact ⟨_, hy ▸ hv, κ.rd _ _ _ _ _ _ _ ha hm hd hk⟩
  · rw [if_neg hy] at e'
    exact G.at_.vars y d e'

theorem ev_list0 {p : Pos} : EvNL Γ (.List [] p) [] := .mk fun s C =>
  wpAny_List (wpAny_items_nil ⟨by show 0 ≤ sizeLine; omega, Kp.push s _, s.heap.objs.size, [], rfl, get_size _ (Nat.le_refl _), ⟨0, Heap.get?_push_size _ rfl⟩, .nil⟩)

end
-- part F15
noncomputable def endsOf (word text : List Int) (tops : Nat → Nat) (size : Nat) : List Nat := (List.range text.length).filter fun p => decide (size ≤ tops p) && decide ((text.drop (p + 1 - size)).take size = word.take size)
noncomputable def endsI (word text : List Int) (tops : Nat → Nat) (size : Nat) : List Int := (endsOf word text tops size).map fun p : Nat => (p : Int)
noncomputable def topsI (text : List Int) (tops : Nat → Nat) : List Int := (List.range text.length).map fun p : Nat => (tops p : Int)
noncomputable def ownT (text : List Int) (tops : Nat → Nat) (size : Nat) : Nat := ((topsI text tops).filter fun t => t == (size : Int)).length
noncomputable def callK (word text : List Int) (tops bd : Nat → Nat) (size : Nat) : List (Int × Int) := ((List.range word.length).filter fun i : Nat => (size : Int) == (bd (i + 1) : Int)).map fun i : Nat => (1 + (i : Int), 2 * ((endsI word text tops (i + 1)).length : Int))
noncomputable def dueRow (word text : List Int) (tops bd : Nat → Nat) (size : Nat) : St :=
  ⟨ownT text tops size, 2 * ((endsI word text tops size).length : Int), (endsI word text tops size).sum, ((endsOf word text tops size).map fun p : Nat => (tops p : Int)).sum,
    if 0 < ownT text tops size then put (callK word text tops bd size) 0 (2 * (ownT text tops size : Int)) else callK word text tops bd size⟩

theorem mulOk2 {b : Int} : IntMulOk 2 b := IntMulOk.of_left (by decide)
theorem callK_len {word text : List Int} {tops bd : Nat → Nat} {size : Nat} : (callK word text tops bd size).length ≤ word.length := by
  unfold callK; rw [List.length_map]; exact Nat.le_trans (List.length_filter_le ..) (by rw [List.length_range]; exact Nat.le_refl _)

theorem ex_cut {Γ Γ' : Ctx} {rest : List Stmt} {Q : Flow → Shared → Prop} {s : Shared} (e1 : Γ'.prog = Γ.prog) (e2 : Γ'.w = Γ.w) (e3 : Γ'.A = Γ.A) (e4 : Γ'.env = Γ.env) (h : Ex Γ' (execs rest Γ'.env) Q s) : Ex Γ (execs rest Γ.env) Q s := by
  obtain ⟨_, _, _, _, _, _, _, _, _⟩ := Γ
  obtain ⟨_, _, _, _, _, _, _, _, _⟩ := Γ'
  dsimp only at e1 e2 e3 e4
  subst e1 e2 e3 e4
  exact .mk h.run
theorem ex_with {L : Lev} {Γ Γ' : Ctx} {os : List Addr} {P : (Addr → Prop) → Heap → Prop} {rest : List Stmt} {Q : Flow → Shared → Prop} {s : Shared} (F : Fm L Γ' os P s) (e1 : Γ'.prog = Γ.prog) (e2 : Γ'.w = Γ.w) (e3 : Γ'.A = Γ.A) (e4 : Γ'.env = Γ.env) (k : Fm L Γ' os P s → Ex Γ' (execs rest Γ'.env) Q s) : Ex Γ (execs rest Γ.env) Q s :=
  ex_cut e1 e2 e3 e4 (k F)
theorem keys_nodup {p : Nat → Bool} (n : Nat) : (((List.range n).filter p).map fun i : Nat => (1 + (i : Int))).Nodup :=
  List.pairwise_map.mpr ((List.nodup_range.filter _).imp fun h e => h (by omega))
section
variable {L : Lev} {Γ : Ctx} {os : List Addr} {s : Shared}
theorem x_if_own {a : Addr} {own : Nat} {kvs : List (Int × Int)} {P1 : (Addr → Prop) → Heap → Prop} {p1 p2 p3 p4 p5 p6 p7 p8 p9 p10 p11 : Pos} {k1 k2 k3 : Nat} {rest : List Stmt} {Q : Flow → Shared → Prop}
    (F : Fm L Γ os (fun S h => AccD Γ.prog Γ.w (kdI.knd Γ.prog Γ.w) a kvs S h ∧ P1 S h) s) (ha : a ∈ os) (hW : L.W a ∨ L.s₀.heap.get? a = none) (pok' : ∀ kv, OwnOk (fun S h => AccD Γ.prog Γ.w (kdI.knd Γ.prog Γ.w) a kv S h ∧ P1 S h) os) (hP1 : ∀ S h h', Heap.SameBut a h h' → S a → P1 S h → P1 S h')
    (h1 : Γ.ρ "own" = some (.int own)) (h2 : Γ.ρ "callers" = some (.raw (.ref a))) (hz : kvs.length ≤ sizeLine)
    (k : ∀ s', Fm L Γ os (fun S h => AccD Γ.prog Γ.w (kdI.knd Γ.prog Γ.w) a (if 0 < own then put kvs 0 (2 * (own : Int)) else kvs) S h ∧ P1 S h) s' → Ex Γ (execs rest Γ.env) Q s') :
    Ex Γ (execs (.If (.Compare (.Name "own" p1) [.Gt] [.Constant (.int 0) k1 p2] p3) [.Assign [.Subscript (.Name "callers" p4) (.Constant (.int 0) k2 p5) p6] (.BinOp (.Constant (.int 2) k3 p7) .Mult (.Name "own" p8) p9) p10] [] p11 :: rest) Γ.env) Q s := by
  refine x_if F (b := decide ((0 : Int) < (own : Int))) ((evT_cmp (ev_name h1) ev_int op_gt).on F.at_) (fun hb s F => ?_) fun hb s F => ?_
  · have hb' : 0 < own := by simpa using hb
    refine x_setD kdI (key := 0) (x := 2 * (own : Int)) F ha hW (pok' _) hP1 (ev_binop ev_int (ev_name h1) (op_mul mulOk2)) (ev_name h2) ev_int hz fun s F => ?_
    rw [if_pos hb'] at k
    exact ex_nil (k _ F)
  · have hb' : ¬ 0 < own := by simpa using hb
    rw [if_neg hb'] at k
    exact ex_nil (k _ F)
end

section
variable {w : World} {prog : Program} {n : Nat}
set_option maxHeartbeats 1000000 in
theorem fn_due {word text : List Int} {tops bd : Nat → Nat} (hT : ∀ p, p < text.length → IsLon word (text.take (p + 1)) (tops p)) (hle : ∀ p, p < text.length → tops p ≤ p + 1)
    (hB : ∀ m, 1 ≤ m → m ≤ word.length → IsMax (bd m : Int) (((List.range m).filter fun k => decide ((word.drop (m - k)).take k = word.take k)).map fun k : Nat => (k : Int))) (hm : word.length ≤ 100) (hm2 : text.length ≤ 900) :
    FnL (Kf w) prog w (n + 2) (.ref 109) [.list (word.map .int), .list (text.map .int)] (((List.range (word.length + 1)).map (dueRow word text tops bd)).map St.D) :=
  fnL_of_body ok109 rfl fun A base S s₀ L s₁ F => by
    have hl1 : (word.map D.int).length ≤ 16384 := by simp; omega
    have hl2 : (text.map D.int).length ≤ 16384 := by simp; omega
    have hsz : sizeLine = 16777216 := by decide
    have itT : Iterable (.range 0 (text.length : Int) 1) ((List.range text.length).map fun i : Nat => D.int (i : Int)) := by
      have := iter_range (n := (text.length : Int)) (by omega) (by omega)
      rw [Int.toNat_natCast] at this; exact this
    have itW : Iterable (.range 0 (word.length + 1 : Int) 1) ((List.range (word.length + 1)).map fun i : Nat => D.int (i : Int)) := by
      have := iter_range (n := (word.length + 1 : Int)) (by omega) (by omega)
      rw [show ((word.length : Int) + 1).toNat = word.length + 1 by omega] at this; exact this
    refine x_assign F (d := .int (word.length : Int)) (((c_len rfl rfl (ev_name rfl) (fn_len_list hl1)).cast (congrArg D.int (by simp))).on F.at_) fun s F => ?_
    refine x_assign F (d := .list ((topsI text tops).map .int)) (Ev.on ?_ F.at_) fun s F => ?_
    · unfold topsI
      rw [List.map_map]
      refine (ev_lcm (c_range rfl rfl ((c_len rfl rfl (ev_name rfl) (fn_len_list hl2)).cast (congrArg D.int (by simp)))) itT (by simp; omega) fun t ht Da C own wr => ?_).ev
      have ht' : t < text.length := by simpa using ht
      exact ev_call (f := .ref 87) (ev_glob topOk rfl g87) ok87.callable (evs_cons (ev_name rfl) (evs_cons ((ev_slice (ev_name rfl) part_none (part_some (ev_binop (ev_name rfl) ev_int op_add)) (by omega)).cast (congrArg D.list (show _ = (text.take (t + 1)).map D.int by
        rw [cut_to _ (by omega), List.map_take]; rfl))) evs_nil)) (fn_longest (hT t ht') (by omega) (by simp; omega))
    refine x_assign F (d := .list ((List.range (word.length + 1)).map fun size => D.list ((endsI word text tops size).map .int))) (Ev.on ?_ F.at_) fun s F => ?_
    · refine (ev_lcm (c_range rfl rfl (ev_binop (ev_name rfl) ev_int op_add)) itW (by simp; omega) fun size hsize Da C own wr => ?_).ev
      have hsize' : size ≤ word.length := by simp at hsize; omega
      refine Ev.cast (ev_lcf (xs := List.range text.length) (inj := fun i : Nat => D.int (i : Int)) (p := fun p => decide (size ≤ tops p) && decide ((text.drop (p + 1 - size)).take size = word.take size)) (g := fun p => .int (p : Int)) (c_range rfl rfl ((c_len rfl rfl (ev_name rfl) (fn_len_list hl2)).cast (congrArg D.int (by simp)))) itT (by simp; omega) (fun p hp Da C own wr => ?_) fun p hp _ Da C own wr => ev_name rfl).ev (by
        unfold endsI endsOf; rw [List.map_map]; rfl)
      have hp' : p < text.length := by simpa using hp
      refine EvT.cast (evT_boolop (evTs_and (a := decide ((size : Int) ≤ (tops p : Int))) (b := decide ((text.drop (p + 1 - size)).take size = word.take size) && true) (evT_cmp (ev_sub (ev_name rfl) (ev_name rfl) (sub_list (d := .int (tops p : Int)) (by intro _ _; rfl) (by omega) (by omega) (by unfold topsI; simp [hp']))) (ev_name rfl) op_ge) fun hge => evTs_and ?_ fun _ => evTs_and_nil)) (by
        simp)
      have hge' : size ≤ tops p := by simpa using hge
      have := hle p hp'
      exact evT_cmp ((ev_slice (ev_name rfl) (part_some (ev_binop (ev_binop (ev_name rfl) ev_int op_add) (ev_name rfl) op_sub)) (part_some (ev_binop (ev_name rfl) ev_int op_add)) (by omega)).cast (congrArg D.list (show _ = ((text.drop (p + 1 - size)).take size).map D.int by
          rw [cut_mid _ (by omega) (by omega) (by simp; omega), List.map_take, List.map_drop, show ((p : Int) + 1 - (size : Int)).toNat = p + 1 - size by omega, show ((p : Int) + 1).toNat - (p + 1 - size) = size by omega])))
        ((ev_slice (ev_name rfl) part_none (part_some (ev_name rfl)) (by omega)).cast (congrArg D.list (show _ = (word.take size).map D.int by rw [cut_to _ (by omega), List.map_take]; rfl))) (op_eqD (EqD.ints 0 _ _) (by decide))
    refine x_own_list (ds := []) F (ev_list0.run _ F.at_) fun a _ ha _ F => ?_
    have okA : ∀ ds : List D, OwnOk (fun S h => AccL prog w a ds S h ∧ noOwn S h) [a] := fun ds => (accL_ok.own).and noOwn_ok
    refine x_for (d := .range 0 (word.length + 1 : Int) 1) (ds := (List.range (word.length + 1)).map fun i : Nat => D.int (i : Int)) (fun k => [("word", .list (word.map .int)), ("text", .list (text.map .int)), ("n", .int (word.length : Int)), ("tops", .list ((topsI text tops).map .int)), ("ends", .list ((List.range (word.length + 1)).map fun size => D.list ((endsI word text tops size).map .int))), ("due", .raw (.ref a))])
      (fun k S h => AccL prog w a (((List.range k).map (dueRow word text tops bd)).map St.D) S h ∧ noOwn S h) F (fun _ => okA _) ((c_range rfl rfl (ev_binop (ev_name rfl) ev_int op_add)).on F.at_) itW ⟨rfl, rfl, rfl, rfl, rfl, rfl, trivial⟩ (fun k d' hd => ?_) fun _ F => ?_
    · have hk : k < word.length + 1 := by
        have := (List.getElem?_eq_some_iff.mp hd).1
        simpa using this
      have hd' : d' = .int (k : Int) := by
        rw [List.getElem?_map, List.getElem?_range hk] at hd
        exact (Option.some.inj hd).symm
      subst hd'
      refine ⟨_, .name, rfl, fun L' wr s' hWL hs₀ F => ?_⟩
      have gE : ∀ j : Nat, j ≤ word.length → ((List.range (word.length + 1)).map fun size => D.list ((endsI word text tops size).map .int))[((j : Int)).toNat]? = some (.list ((endsI word text tops j).map .int)) := fun j hj => by
        rw [Int.toNat_natCast, List.getElem?_map, List.getElem?_range (by omega)]; rfl
      have lE : ∀ j : Nat, (endsI word text tops j).length ≤ 900 := fun j => by
        unfold endsI endsOf; rw [List.length_map]; exact Nat.le_trans (List.length_filter_le ..) (by rw [List.length_range]; exact hm2)
      have hown : ((topsI text tops).filter fun t => t == (k : Int)).length ≤ 900 := Nat.le_trans (List.length_filter_le ..) (by unfold topsI; simp; exact hm2)
      refine x_assign F (d := .int (ownT text tops k : Nat)) (((c_len rfl rfl (ev_lcf (xs := topsI text tops) (inj := D.int) (p := fun t => t == (k : Int)) (g := fun t => .int t) (ev_name rfl) iter_ints (by unfold topsI; simp; omega) (fun t _ Da C own wr => evT_cmp (ev_name rfl) (ev_name rfl) op_eq) fun t _ _ Da C own wr => ev_name rfl).ev (fn_len_list (by rw [List.length_map]; omega))).cast
        (congrArg D.int (by rw [List.length_map]; rfl))).on F.at_) fun s F => ?_
      have F0 := F
      refine x_own_usedD kdI (kvs := callK word text tops bd k) F ?_ fun d _ hdn hda hdS F => ?_
      · have it2 := iter_range2 (a := 1) (b := (word.length : Int) + 1) (by omega) (by omega) (by omega) (by omega)
        rw [show ((word.length : Int) + 1 - 1).toNat = word.length by omega] at it2
        refine evU_dc kdI (xs := List.range word.length) (inj := fun i : Nat => D.int (1 + (i : Int))) (p := fun i : Nat => (k : Int) == (bd (i + 1) : Int)) (gk := fun i : Nat => 1 + (i : Int)) (gv := fun i : Nat => 2 * ((endsI word text tops (i + 1)).length : Int)) (c_range2 rfl rfl ev_int (ev_binop (ev_name rfl) ev_int op_add)) it2 (by simp; omega) (fun i hi Da C own wr => tests_one ?_) (fun i hi _ Da C own wr => ev_name rfl) (fun i hi _ Da C own wr => ?_) (keys_nodup _)
        · have hi' : i < word.length := by simpa using hi
          have it3 := iter_range (n := 1 + (i : Int)) (by omega) (by omega)
          rw [show (1 + (i : Int)).toNat = i + 1 by omega] at it3
          refine evT_cmp (ev_name rfl) (c_max rfl rfl (d1 := .list ((((List.range (i + 1)).filter fun k => decide ((word.drop (i + 1 - k)).take k = word.take k)).map fun k : Nat => (k : Int)).map .int)) ?_ (fn_max (hB (i + 1) (by omega) (by omega)))) op_eq
          rw [List.map_map]
          refine (ev_lcf (xs := List.range (i + 1)) (inj := fun i : Nat => D.int (i : Int)) (p := fun k => decide ((word.drop (i + 1 - k)).take k = word.take k)) (g := fun k : Nat => D.int (k : Int)) (c_range rfl rfl (ev_name rfl)) it3 (by simp; omega) (fun q hq Da C own wr => ?_) fun q hq _ Da C own wr => ev_name rfl).ev
          have hq' : q < i + 1 := by simpa using hq
          exact evT_cmp ((ev_slice (ev_name rfl) (part_some (ev_binop (ev_name rfl) (ev_name rfl) op_sub)) (part_some (ev_name rfl)) (by omega)).cast (congrArg D.list (show _ = ((word.drop (i + 1 - q)).take q).map D.int by
              rw [cut_mid _ (by omega) (by omega) (by simp; omega), List.map_take, List.map_drop, show (1 + (i : Int) - (q : Int)).toNat = i + 1 - q by omega, show (1 + (i : Int)).toNat - (i + 1 - q) = q by omega])))
            ((ev_slice (ev_name rfl) part_none (part_some (ev_name rfl)) (by omega)).cast (congrArg D.list (show _ = (word.take q).map D.int by rw [cut_to _ (by omega), List.map_take]; rfl))) (op_eqD (EqD.ints 0 _ _) (by decide))
        · have hi' : i < word.length := by simpa using hi
          exact (ev_binop ev_int (c_len rfl rfl (ev_sub (ev_name rfl) (ev_name rfl) (sub_list (d := .list ((endsI word text tops (i + 1)).map .int)) (by intro _ _; rfl) (by omega) (by omega) (by rw [show 1 + (i : Int) = ((i + 1 : Nat) : Int) by omega]; exact gE _ (by omega)))) (fn_len_list (by rw [List.length_map]; have := lE (i + 1); omega))) (op_mul mulOk2)).cast (congrArg D.int (by rw [List.length_map]))
      have hne : a ≠ d := fun e => hda (by rw [e]; exact .head _)
      refine x_if_own (a := d) (own := ownT text tops k) F (.head _) (.inr hdn) (fun kv => (accD_ok.own).and (okA _)) (fun S h h' hs hS p => ⟨accL_ok.ext _ _ _ p.1 (Ext.sameBut hs hS) fun o e => hs.extBut a o hne e, trivial⟩) rfl rfl (by have := callK_len (word := word) (text := text) (tops := tops) (bd := bd) (size := k); omega) fun _ F => ?_
      have F := Fm.release kdI (x := "callers") F0 hdS F (okA _) rfl
      have F := F.next (Γ' := fcx w prog _ (n + 1) base (callEnvC (fn109 w).1 L 109) _ [("word", .list (word.map .int)), ("text", .list (text.map .int)), ("n", .int (word.length : Int)), ("tops", .list ((topsI text tops).map .int)), ("ends", .list ((List.range (word.length + 1)).map fun size => D.list ((endsI word text tops size).map .int))), ("due", .raw (.ref a)), ("size", .int (k : Int)), ("own", .int (ownT text tops k : Nat)), ("callers", .idict (dueRow word text tops bd k).kv)]) rfl ⟨rfl, rfl, rfl, rfl, rfl, rfl, rfl, rfl, rfl, trivial⟩
      refine ex_with F rfl rfl rfl rfl fun F => ?_
      refine x_append F (d := (dueRow word text tops bd k).D) (.head _) (.inr (hs₀ ▸ ha)) (okA _) (fun _ _ _ _ _ _ => trivial) (ev_name rfl) ?_ (by simp; omega) fun _ F => ?_
      · refine ev_tuple (evs_cons (ev_name rfl) (evs_cons ((ev_binop ev_int (c_len rfl rfl (ev_sub (ev_name rfl) (ev_name rfl) (sub_list (d := .list ((endsI word text tops k).map .int)) (by intro _ _; rfl) (by omega) (by omega) (gE _ (by omega)))) (fn_len_list (by rw [List.length_map]; have := lE k; omega))) (op_mul mulOk2)).cast (congrArg D.int (by rw [List.length_map]; rfl)))
          (evs_cons (c_sum rfl rfl (ev_sub (ev_name rfl) (ev_name rfl) (sub_list (d := .list ((endsI word text tops k).map .int)) (by intro _ _; rfl) (by omega) (by omega) (gE _ (by omega)))) fn_sum) (evs_cons (c_sum rfl rfl (d1 := .list (((endsOf word text tops k).map fun p : Nat => (tops p : Int)).map .int)) ?_ fn_sum) (evs_cons (ev_name rfl) evs_nil))))) (by show 5 ≤ sizeLine; omega)
        rw [List.map_map]
        refine (ev_lcm (xs := endsOf word text tops k) (inj := fun p : Nat => D.int (p : Int)) (g := fun p : Nat => D.int (tops p : Int)) (d := .list ((endsI word text tops k).map .int)) (ev_sub (ev_name rfl) (ev_name rfl) (sub_list (d := .list ((endsI word text tops k).map .int)) (by intro _ _; rfl) (by omega) (by omega) (gE _ (by omega)))) ?_ ?_ fun p hp Da C own wr => ?_).ev
        · have := iter_ints (ns := endsI word text tops k)
          unfold endsI at this ⊢
          rw [List.map_map] at this ⊢
          exact this
        · have := lE k
          unfold endsI at this; rw [List.length_map] at this; omega
        · have hp' : p < text.length := by
            unfold endsOf at hp
            have := (List.mem_filter.mp hp).1
            simpa using this
          exact ev_sub (ev_name rfl) (ev_name rfl) (sub_list (d := .int (tops p : Int)) (by intro _ _; rfl) (by omega) (by omega) (by unfold topsI; simp [hp']))
      · rw [show ((List.range k).map (dueRow word text tops bd)).map St.D ++ [(dueRow word text tops bd k).D] = ((List.range (k + 1)).map (dueRow word text tops bd)).map St.D by rw [List.range_succ, List.map_append, List.map_append]; rfl] at F
        exact ex_nil (.inl ⟨.inl rfl, F.next rfl ⟨rfl, rfl, rfl, rfl, rfl, rfl, trivial⟩⟩)
    · rw [List.length_map, List.length_range] at F
      refine x_ret F (d := .raw (.ref a)) ((ev_name rfl).on F.at_) fun v _ F r => ⟨v, rfl, F.done rfl rfl, ?_⟩
      (first | obtain ⟨_, rfl⟩ := r.atom | exact (nsE r).elim | exact (snE r).elim | exact (ftE r).elim | cases r)
      obtain ⟨⟨hS, vs, hl, rs⟩, _⟩ := F.own
      exact ⟨a, vs, rfl, ha, hl, rs.less fun b q => q.elim (fun z => .inl (.inl z)) fun e => .inr (by rw [e]; exact .head _)⟩
end
-- part PS1
/-- places in rising order -/
noncomputable def Rise (xs : Array Nat) : Prop := xs.toList.Pairwise (· < ·)
theorem Rise.lt {xs : Array Nat} (h : Rise xs) {i j d e : Nat} (hij : i < j) (hj : j < xs.size) : xs.getD i d < xs.getD j e := by
  have hi : i < xs.size := Nat.lt_trans hij hj
  have := List.pairwise_iff_getElem.mp h i j (by simpa using hi) (by simpa using hj) hij
  simp only [Array.getElem_toList] at this
  simp only [Array.getD, hi, hj, dif_pos]
  exact this
theorem getD_eq {xs : Array Nat} {i d e : Nat} (hi : i < xs.size) : xs.getD i d = xs.getD i e := by simp [Array.getD, hi]

/-- where a place would go -/
structure Below (xs : Array Nat) (j r : Nat) : Prop where
  le : r ≤ xs.size
  lo : ∀ i, i < r → xs.getD i 0 < j
  hi : ∀ i, r ≤ i → i < xs.size → j ≤ xs.getD i 0
theorem below_go {xs : Array Nat} (h : Rise xs) (j : Nat) : ∀ (fuel lo hi : Nat), lo ≤ hi → hi ≤ xs.size → hi - lo ≤ fuel → (∀ i, i < lo → xs.getD i 0 < j) → (∀ i, hi ≤ i → i < xs.size → j ≤ xs.getD i 0) → Below xs j (SetTable.below.go xs j fuel lo hi)
  | 0, lo, hi, h1, h2, h3, h4, h5 => by
    have : lo = hi := by omega
    subst this
    exact ⟨h2, h4, h5⟩
  | fuel + 1, lo, hi, h1, h2, h3, h4, h5 => by
    unfold SetTable.below.go
    by_cases hl : lo < hi
    · rw [if_pos hl]
      have hm : (lo + hi) / 2 < xs.size := by omega
      dsimp only
      rw [getD_eq (e := 0) hm]
      by_cases hc : xs.getD ((lo + hi) / 2) 0 < j
      · rw [if_pos hc]
        refine below_go h j fuel _ _ (by omega) h2 (by omega) (fun i hi' => ?_) h5
        rcases Nat.lt_or_ge i ((lo + hi) / 2) with q | q
        · exact Nat.lt_trans (h.lt q hm) hc
        · have : i = (lo + hi) / 2 := by omega
          rw [this]; exact hc
      · rw [if_neg hc]
        refine below_go h j fuel _ _ (by omega) (by omega) (by omega) h4 (fun i hi' hi'' => ?_)
        rcases Nat.lt_or_ge ((lo + hi) / 2) i with q | q
        · have := h.lt (d := 0) (e := 0) q hi''
          omega
        · have : i = (lo + hi) / 2 := by omega
          rw [this]; omega
    · rw [if_neg hl]
      have : lo = hi := by omega
      subst this
      exact ⟨h2, h4, h5⟩
theorem below_is {xs : Array Nat} (h : Rise xs) (j : Nat) : Below xs j (SetTable.below xs j) :=
  below_go h j _ _ _ (Nat.zero_le _) (Nat.le_refl _) (by omega) (fun _ q => absurd q (Nat.not_lt_zero _)) fun i q q' => by omega
theorem Below.uniq {xs : Array Nat} {j r r' : Nat} (a : Below xs j r) (b : Below xs j r') : r = r' := by
  rcases Nat.lt_trichotomy r r' with q | q | q
  · have := b.lo r q
    have h2 := b.le
    have := a.hi r (Nat.le_refl _) (by omega)
    omega
  · exact q
  · have := a.lo r' q
    have h2 := a.le
    have := b.hi r' (Nat.le_refl _) (by omega)
    omega
theorem below_zero {xs : Array Nat} (h : Rise xs) : SetTable.below xs 0 = 0 := (below_is h 0).uniq ⟨Nat.zero_le _, fun _ q => absurd q (Nat.not_lt_zero _), fun _ _ _ => Nat.zero_le _⟩
theorem below_next {xs : Array Nat} (h : Rise xs) {i : Nat} (hi : i < xs.size) : SetTable.below xs (xs.getD i 0 + 1) = i + 1 :=
  (below_is h _).uniq ⟨hi, fun k q => by
    rcases Nat.lt_or_ge k i with z | z
    · have := h.lt (d := 0) (e := 0) z hi; omega
    · have : k = i := by omega
      rw [this]; omega, fun k q q' => by have := h.lt (d := 0) (e := 0) (show i < k by omega) q'; omega⟩

/-- a place put where it belongs -/
theorem rise_insert {xs : Array Nat} (h : Rise xs) {j : Nat} (hne : xs[SetTable.below xs j]? ≠ some j) : Rise (SetTable.insertAt xs (SetTable.below xs j) j) := by
  have B := below_is h j
  generalize hr : SetTable.below xs j = r at *
  unfold Rise
  rw [SetTable.toList_insertAt]
  have h' : (xs.toList.take r ++ xs.toList.drop r).Pairwise (· < ·) := by rw [List.take_append_drop]; exact h
  obtain ⟨p1, p2, p3⟩ := List.pairwise_append.mp h'
  have lo : ∀ a ∈ xs.toList.take r, a < j := fun a ha => by
    obtain ⟨i, hi, rfl⟩ := List.getElem_of_mem ha
    rw [List.length_take, Array.length_toList] at hi
    have := B.lo i (by omega)
    rw [List.getElem_take, Array.getElem_toList]
    simpa [Array.getD, show i < xs.size by omega] using this
  have hi : ∀ b ∈ xs.toList.drop r, j < b := fun b hb => by
    obtain ⟨i, hi, rfl⟩ := List.getElem_of_mem hb
    rw [List.length_drop, Array.length_toList] at hi
    rw [List.getElem_drop, Array.getElem_toList]
    have hri : r + i < xs.size := by omega
    have h1 := B.hi (r + i) (by omega) hri
    have e1 : xs.getD (r + i) 0 = xs[r + i] := by simp [Array.getD, hri]
    rw [e1] at h1
    rcases Nat.lt_or_ge j (xs[r + i]) with q | q
    · exact q
    · exfalso
      have hr0 : r < xs.size := by omega
      have h2 := B.hi r (Nat.le_refl _) hr0
      cases i with
      | zero =>
        apply hne
        rw [Array.getElem?_eq_getElem hr0]
        have : xs[r] = j := by simp at h1 q; omega
        rw [this]
      | succ i =>
        have h3 := h.lt (d := 0) (e := 0) (show r < r + (i + 1) by omega) hri
        rw [e1] at h3
        omega
  exact List.pairwise_append.mpr ⟨p1, List.pairwise_cons.mpr ⟨hi, p2⟩, fun a ha b hb => by
    rcases List.mem_cons.mp hb with e | e
    · rw [e]; exact lo a ha
    · exact p3 a ha b e⟩

/-- the table's invariant -/
noncomputable def TG (t : SetTable) : Prop := t.plain = true → Rise t.place
theorem TG.standIn (t : SetTable) (n : Nat) : TG (t.standIn n) := fun h => by simp [SetTable.standIn] at h
theorem TG.orStandIn {t : SetTable} {n : Nat} (h : TG t) : TG (t.orStandIn n) := by
  unfold SetTable.orStandIn; split
  · exact h
  · exact TG.standIn _ _
theorem led_orStandIn (t : SetTable) (n : Nat) : (t.orStandIn n).led = t.led := by unfold SetTable.orStandIn; split <;> rfl

noncomputable def FreeAt (t : SetTable) (d : Nat) : Prop := t.slot d = .empty ∨ t.slot d = .dummy
theorem probe_go {t : SetTable} {hashAt : Nat → Int} {h : Int} : ∀ (fuel : Nat) (p : SetTable.Probe), (∀ d, p.dummy = some d → FreeAt t d) → ∀ j dm, SetTable.probe.go t hashAt h fuel p = some (.empty j dm) → FreeAt t j ∧ ∀ d, dm = some d → FreeAt t d
  | 0, p, _, j, dm, e => by (first | obtain ⟨_, rfl⟩ := e.atom | exact (nsE e).elim | exact (snE e).elim | exact (ftE e).elim | cases e)
  | fuel + 1, p, hd, j, dm, e => by
    unfold SetTable.probe.go at e
    have hadv : ∀ q : SetTable.Probe, (t.advance q).dummy = q.dummy := fun q => by unfold SetTable.advance; split <;> rfl
    split at e
    · rename_i hs
      simp only [Option.some.injEq, SetTable.Met.empty.injEq] at e
      obtain ⟨rfl, rfl⟩ := e
      exact ⟨.inl hs, hd⟩
    · rename_i hs
      refine probe_go fuel _ (fun d q => ?_) j dm e
      rw [hadv] at q
      simp only [Option.some.injEq] at q
      subst q; exact .inr hs
    · split at e
      · (first | obtain ⟨_, rfl⟩ := e.atom | exact (nsE e).elim | exact (snE e).elim | exact (ftE e).elim | cases e)
      · refine probe_go fuel _ (fun d q => ?_) j dm e
        rw [hadv] at q
        exact hd d q
theorem free_slot {t : SetTable} {h : Int} {slot : Nat} {wd : Bool} (e : t.freeSlot h = some (slot, wd)) : FreeAt t slot := by
  unfold SetTable.freeSlot at e
  split at e
  · rename_i j dm hp
    simp only [Option.some.injEq, Prod.mk.injEq] at e
    obtain ⟨rfl, rfl⟩ := e
    obtain ⟨h1, h2⟩ := probe_go _ _ (fun d q => by simp [SetTable.probeStart] at q) j dm hp
    cases dm with
    | none => exact h1
    | some d => exact h2 d rfl
  · (first | obtain ⟨_, rfl⟩ := e.atom | exact (nsE e).elim | exact (snE e).elim | exact (ftE e).elim | cases e)
theorem free_not {t : SetTable} {d : Nat} (h : FreeAt t d) : t.place[SetTable.below t.place d]? ≠ some d := fun e => by
  have : t.slot d = .live (SetTable.below t.place d) := by unfold SetTable.slot; simp [e]
  rcases h with q | q <;> rw [this] at q <;> (first | obtain ⟨_, rfl⟩ := q.atom | exact (nsE q).elim | exact (snE q).elim | exact (ftE q).elim | cases q)

theorem layNew_tg {t : SetTable} (h : TG t) (es : Array (Int × Value)) (hs : Int) (x : Value) : TG (layNew t es hs x).2.1 := by
  unfold layNew
  split
  · rename_i slot wd e
    refine TG.orStandIn fun hp => ?_
    exact rise_insert (h hp) (free_not (free_slot e))
  · exact TG.standIn _ _
theorem layNew_led (t : SetTable) (es : Array (Int × Value)) (hs : Int) (x : Value) : (layNew t es hs x).2.1.led = t.led := by
  unfold layNew
  split
  · exact led_orStandIn _ _
  · rfl

theorem laid_rise {mask finger moves : Nat} {led plain : Bool} {hashes : Array Int} {t : SetTable} {o : Array Nat} (e : SetTable.laid mask finger moves led plain hashes = some (t, o)) : Rise t.place ∧ t.led = led := by
  unfold SetTable.laid at e
  obtain ⟨owner, h1, e⟩ := Option.bind_eq_some_iff.mp e
  simp only [Option.pure_def, Option.some.injEq, Prod.mk.injEq] at e
  obtain ⟨rfl, -⟩ := e
  refine ⟨?_, rfl⟩
  unfold Rise
  dsimp only
  have : ∀ l : List Nat, l.Pairwise (· < ·) → ((l.filterMap fun j => (owner.getD j none).map (j, ·)).map (·.1)).Pairwise (· < ·) := fun l hl => by
    have sub : (((l.filterMap fun j => (owner.getD j none).map (j, ·)).map (·.1))).Sublist l := by
      clear hl
      induction l with
      | nil => exact .slnil
      | cons j l ih =>
        rw [List.filterMap_cons]
        cases owner.getD j none with
        | none => exact ih.cons _
        | some k => exact ih.cons_cons _
    exact hl.sublist sub
  exact this _ List.pairwise_lt_range
theorem relaid_rise {t t' : SetTable} {hs : Array Int} {n : Nat} {o : Array Nat} (e : t.relaid hs n = some (t', o)) : Rise t'.place ∧ t'.led = t.led := laid_rise e
theorem relayAll_tg (t : SetTable) (es : Array (Int × Value)) (n : Nat) : TG (relayAll t es n).2.1 ∧ (relayAll t es n).2.1.led = t.led := by
  unfold relayAll
  split
  · rename_i t' order e
    obtain ⟨h1, h2⟩ := relaid_rise e
    dsimp only
    split
    · exact ⟨fun _ => h1, h2⟩
    · exact ⟨TG.standIn _ _, rfl⟩
  · exact ⟨TG.standIn _ _, rfl⟩
theorem TG.off {t : SetTable} : TG { t with plain := false } := fun h => by (first | obtain ⟨_, rfl⟩ := h.atom | exact (nsE h).elim | exact (snE h).elim | exact (ftE h).elim | cases h)
-- part PS2
noncomputable def setObj (es : Array (Int × Value)) (ep : Nat) (t : SetTable) : Obj := { cls := .type "set", dict := none, data := .set es ep t }
section
variable {prog : Program} {w : World} {K : Type} [DecidableEq K] (knd : KeyKind prog w K)
/-- a set's elements, by their keys -/
inductive ElK : List (Int × Value) → List K → Prop
  | nil : ElK [] []
  | cons {k : K} {v : Value} {es : List (Int × Value)} {l : List K} : knd.is k v = true → v.scannable = true → ElK es l → ElK ((knd.hash k, v) :: es) (k :: l)
/-- a set -/
noncomputable def SetG (h : Heap) (a : Addr) (l : List K) : Prop := ∃ es ep t l', h.get? a = some (setObj es ep t) ∧ t.fits es.size = true ∧ TG t ∧ (t.led = true ∨ w.params.followText "set-order" = true) ∧ ElK knd es.toList l' ∧ l'.Perm l ∧ l.Nodup ∧ l.length < scanBound
variable {knd}
theorem ElK.length {es : List (Int × Value)} {l : List K} (h : ElK knd es l) : es.length = l.length := by
  induction h with
  | nil => rfl
  | cons _ _ _ ih => simp [ih]
theorem ElK.perm {es es' : List (Int × Value)} (p : es'.Perm es) : ∀ {l : List K}, ElK knd es l → ∃ l', l'.Perm l ∧ ElK knd es' l' := by
  induction p with
  | nil => intro l h; exact ⟨l, .refl _, h⟩
  | cons x _ ih =>
    intro l h
    cases h with
    | cons h1 h2 h3 =>
      obtain ⟨l', p', h'⟩ := ih h3
      exact ⟨_, p'.cons _, .cons h1 h2 h'⟩
  | swap x y l₀ =>
    intro l h
    cases h with
    | cons h1 h2 h3 =>
      cases h3 with
      | cons h4 h5 h6 => exact ⟨_, .swap _ _ _, .cons h4 h5 (.cons h1 h2 h6)⟩
  | trans _ _ ih1 ih2 =>
    intro l h
    obtain ⟨l1, p1, h1⟩ := ih2 h
    obtain ⟨l2, p2, h2⟩ := ih1 h1
    exact ⟨l2, p2.trans p1, h2⟩
theorem ElK.snoc {es : List (Int × Value)} {l : List K} (h : ElK knd es l) {k : K} {v : Value} (hk : knd.is k v = true) (hv : v.scannable = true) : ElK knd (es ++ [(knd.hash k, v)]) (l ++ [k]) := by
  induction h with
  | nil => exact .cons hk hv .nil
  | cons a b _ ih => exact .cons a b ih
theorem ElK.elems {es : List (Int × Value)} {l : List K} (h : ElK knd es l) : ElemsOf knd es := by
  induction h with
  | nil => intro e he; (first | obtain ⟨_, rfl⟩ := he.atom | exact (nsE he).elim | exact (snE he).elim | exact (ftE he).elim | cases he)
  | cons a b _ ih =>
    intro e he
    rcases List.mem_cons.mp he with rfl | q
    · exact ⟨⟨_, a, rfl⟩, b⟩
    · exact ih e q
theorem ElK.find {es : List (Int × Value)} {l : List K} (h : ElK knd es l) (k : K) : (es.findIdx? (fun e => knd.is k e.2)).isSome = true ↔ k ∈ l := by
  induction h with
  | nil => simp
  | @cons k' v es l a b _ ih =>
    rw [List.findIdx?_cons]
    have hd : knd.is k v = decide (k = k') := KeyKind.is_eq_decide a k
    simp only [hd]
    by_cases e : k = k'
    · simp [e]
    · simp only [e, decide_false, Bool.false_eq_true, if_false, List.mem_cons, false_or, Option.isSome_map]
      exact ih
variable {A : Around} {E : Value → Shared → Prop} {s : Shared}
theorem store_set {a : Addr} {es es' : Array (Int × Value)} {ep : Nat} {t t' : SetTable} {Q : Unit → Shared → Prop} (ho : s.heap.get? a = some (setObj es ep t)) (hz : es'.size ≤ sizeLine)
    (h : ∀ h', Heap.SameBut a s.heap h' → h'.get? a = some (setObj es' (ep + 1) t') → Q () { s with heap := h' }) : wpAny (model prog w) A (storeSet a es' t') Q E s := by
  refine wpAny_storeSet_of ho rfl (h _ (Heap.SameBut.update ..) ?_) hz
  have := Heap.get?_update_self (Obj.putSet es' t') ho (by rw [putSet_of es' t' rfl]; rfl)
  rw [putSet_of es' t' rfl] at this
  exact this
theorem scan4 : scanBound = 4096 := rfl
theorem setAdd_rule {a : Addr} {l : List K} {k : K} {x : Value} {Q : Bool → Shared → Prop} (hk : knd.is k x = true) (hx : x.scannable = true) (hS : SetG knd s.heap a l) (hroom : l.length + 1 < scanBound)
    (h : ∀ h' b, Heap.SameBut a s.heap h' → SetG knd h' a (if k ∈ l then l else l ++ [k]) → Q b { s with heap := h', toks := s.toks + 1 }) : wpAny (model prog w) A (setAdd a x) Q E s := by
  unfold setAdd
  refine wpAny_holding (wpAny_bind (knd.pyHash hk ?_))
  obtain ⟨es, ep, t, l', ho, hf, hg, hled, hel, hp, hn, hb⟩ := hS
  have hlen : es.size = l.length := by rw [← Array.length_toList, hel.length, hp.length_eq]
  have hsz : sizeLine = 16777216 := by decide
  have hsc := scan4
  have hmem := hel.find k
  have hE := hel.elems
  unfold setAddHashed setAddHashedIn
  refine wpAny_holding (wpAny_bind (wpAny_setState_of (s := { s with toks := s.toks + 1 }) ho rfl hf ?_))
  dsimp only
  rw [byScan_of hx (by omega) hE]
  simp only [↓reduceIte]
  unfold setAddByScan
  refine wpAny_bind ?_
  refine wpAny_bind (wpAny_rule ?_)
  refine wpAny_bind (wpAny_setScan_of (s := { s with toks := s.toks + 1 }) hk ho rfl hf hE ?_)
  cases hr : List.findIdx? (fun e => knd.is k e.2) es.toList with
  | some j =>
    have hin : k ∈ l := hp.mem_iff.mp (hmem.mp (by rw [hr]; rfl))
    dsimp only
    refine wpAny_pure (wpAny_pure ?_)
    have := h s.heap false (Heap.SameBut.refl a s.heap)
    rw [if_pos hin] at this
    exact this ⟨es, ep, t, l', ho, hf, hg, hled, hel, hp, hn, hb⟩
  | none =>
    have hout : k ∉ l := fun q => by have := hmem.mpr (hp.mem_iff.mpr q); rw [hr] at this; (first | obtain ⟨_, rfl⟩ := this.atom | exact (nsE this).elim | exact (snE this).elim | exact (ftE this).elim | cases this)
    rw [if_neg hout] at h
    dsimp only
    have hgw : ∀ (b : Bool) {s₁ : Shared} {Q' : Unit → Shared → Prop}, Q' () s₁ → wpAny (model prog w) A (match b with | true => rule "set.scan.the-table-gave-way" | false => pure ()) Q' E s₁ :=
      fun b s₁ Q' hq => by (first | obtain ⟨_, rfl⟩ := b.atom | exact (nsE b).elim | exact (snE b).elim | exact (ftE b).elim | cases b) <;> first | exact wpAny_pure hq | exact wpAny_rule hq
    have hperm := layNew_perm t es (knd.hash k) x
    have hfits := layNew_fits t es (knd.hash k) x
    have htg := layNew_tg hg es (knd.hash k) x
    have hll := layNew_led t es (knd.hash k) x
    generalize layNew t es (knd.hash k) x = L at hperm hfits htg hll ⊢
    obtain ⟨es1, t1, wasDummy, gave⟩ := L
    dsimp only at hperm hfits htg hll ⊢
    rw [Array.toList_push] at hperm
    obtain ⟨l1, hp1, hel1⟩ := (hel.snoc hk hx).perm hperm
    have hp1' : l1.Perm (l ++ [k]) := hp1.trans (hp.append_right _)
    have hn1 : (l ++ [k]).Nodup := List.nodup_append.mpr ⟨hn, by simp, fun a ha b hb e => by simp at hb; subst hb; subst e; exact hout ha⟩
    have hb1 : (l ++ [k]).length < scanBound := by rw [List.length_append]; exact hroom
    have hs1 : es1.size = l.length + 1 := by rw [← Array.length_toList, hel1.length, hp1'.length_eq]; simp
    refine wpAny_bind (hgw _ ?_)
    have tail : ∀ (t2 : SetTable), t2.fits es1.size = true → TG t2 → t2.led = t.led → wpAny (model prog w) A (do
        storeSet a es1 t2
        if (!wasDummy && t2.tooFull) = true then do
            (match (relayAll t2 es1 (SetTable.grown es1.size)).2.2 with | true => rule "set.scan.the-table-gave-way" | false => pure ())
            storeSet a (relayAll t2 es1 (SetTable.grown es1.size)).1 (relayAll t2 es1 (SetTable.grown es1.size)).2.1
            pure (some true)
          else pure (some true)) (fun r s' => wpAny (model prog w) A (match r with | some added => pure added | none => setAddHashedIn a x (knd.hash k) 99999) Q E s') E { s with toks := s.toks + 1 } := by
      intro t2 f2 g2 e2
      refine wpAny_bind (store_set (s := { s with toks := s.toks + 1 }) ho (by omega) fun h1 sb1 o1 => ?_)
      have fin : ∀ h2 es2 ep2 t3, Heap.SameBut a s.heap h2 → h2.get? a = some (setObj es2 ep2 t3) → t3.fits es2.size = true → TG t3 → t3.led = t.led → es2.toList.Perm es1.toList → Q true { s with heap := h2, toks := s.toks + 1 } := by
        intro h2 es2 ep2 t3 sb o f g e p
        obtain ⟨l2, hp2, hel2⟩ := hel1.perm p
        exact h h2 true sb ⟨es2, ep2, t3, l2, o, f, g, by rw [e]; exact hled, hel2, hp2.trans hp1', hn1, hb1⟩
      split
      · have hp2 := relayAll_perm t2 es1 (SetTable.grown es1.size)
        have hf2 := relayAll_fits t2 es1 (SetTable.grown es1.size)
        obtain ⟨hg2, hl2⟩ := relayAll_tg t2 es1 (SetTable.grown es1.size)
        generalize relayAll t2 es1 (SetTable.grown es1.size) = R at hp2 hf2 hg2 hl2 ⊢
        obtain ⟨es2, t3, gave2⟩ := R
        dsimp only at hp2 hf2 hg2 hl2 ⊢
        have hs2 : es2.size = es1.size := by rw [← Array.length_toList, hp2.length_eq, Array.length_toList]
        refine wpAny_bind (hgw _ (wpAny_bind (store_set (s := { s with heap := h1, toks := s.toks + 1 }) o1 (by omega) fun h2 sb2 o2 => wpAny_pure (wpAny_pure ?_))))
        exact fin h2 es2 _ t3 (sb1.trans sb2) o2 hf2 hg2 (hl2.trans e2) hp2
      · exact wpAny_pure (wpAny_pure (fin h1 es1 _ t2 sb1 o1 f2 g2 e2 (.refl _)))
    split
    · refine wpAny_bind ?_
      rw [hashByValue_scannable 8 hx]
      refine wpAny_pure ?_
      refine tail _ ?_ ?_ ?_
      · split
        · exact hfits
        · exact SetTable.fits_plain_off hfits
      · split
        · exact htg
        · exact TG.off
      · split
        · exact hll
        · exact hll
    · refine wpAny_bind (wpAny_pure ?_)
      simp only [↓reduceIte]
      exact tail t1 hfits htg hll
end
-- part PS3
section
variable {prog : Program} {w : World} {K : Type} [DecidableEq K] {knd : KeyKind prog w K}
/-- every key once, at its first place -/
noncomputable def dd (ks : List K) : List K := ks.foldl (fun acc k => if k ∈ acc then acc else acc ++ [k]) []
theorem dd_take (ks : List K) (i : Nat) (k : K) (h : ks[i]? = some k) : dd (ks.take (i + 1)) = if k ∈ dd (ks.take i) then dd (ks.take i) else dd (ks.take i) ++ [k] := by
  unfold dd; rw [List.take_add_one, h, List.foldl_append]; rfl
theorem dd_len (ks : List K) : (dd ks).length ≤ ks.length := by
  have : ∀ (l acc : List K), (l.foldl (fun acc k => if k ∈ acc then acc else acc ++ [k]) acc).length ≤ acc.length + l.length := by
    intro l
    induction l with
    | nil => intro acc; exact Nat.le_refl _
    | cons k l ih =>
      intro acc
      rw [List.foldl_cons]
      refine Nat.le_trans (ih _) ?_
      split <;> simp <;> omega
  have := this ks []
  simpa [dd] using this
theorem dd_mem (ks : List K) (k : K) : k ∈ dd ks ↔ k ∈ ks := by
  have : ∀ (l acc : List K), k ∈ (l.foldl (fun acc k => if k ∈ acc then acc else acc ++ [k]) acc) ↔ k ∈ acc ∨ k ∈ l := by
    intro l
    induction l with
    | nil => intro acc; simp
    | cons k' l ih =>
      intro acc
      rw [List.foldl_cons, ih]
      split
      · rename_i h
        constructor
        · rintro (q | q)
          · exact .inl q
          · exact .inr (.tail _ q)
        · rintro (q | q)
          · exact .inl q
          · rcases List.mem_cons.mp q with e | q
            · exact .inl (e ▸ h)
            · exact .inr q
      · simp [or_assoc]
  have := this ks []
  simpa [dd] using this
variable {A : Around}
theorem set_loop {R : Result → Shared → Prop} {I : Addr} {fp wr : List Addr} {n : Nat} {P : Nat → Value → Prop} {St : Nat → Heap → Prop} (W : Walks prog w A.in1 I fp wr n P St) {a : Addr} (ha : a ∉ fp) {ks : List K} (hlen : ks.length = n)
    (hval : ∀ i v, P i v → ∃ k, ks[i]? = some k ∧ knd.is k v = true ∧ v.scannable = true) (hb : n + 1 < scanBound) :
    ∀ (m i : Nat) (s : Shared), n - i = m → i ≤ n → St i s.heap → SetG knd s.heap a (dd (ks.take i)) →
      (∀ h' tk, (∀ b o, b ≠ a → b ∉ wr → s.heap.get? b = some o → h'.get? b = some o) → SetG knd h' a (dd ks) → R (.ok (.ret .none)) { s with heap := h', toks := tk }) →
      codeAny (model prog w) A (.builtin "set.update.loop" ⟨[.ref a, .ref I], []⟩) R s := by
  have haw : a ∉ wr := fun h => ha (W.sub _ h)
  have keepG : ∀ {h h' : Heap} {l : List K}, (∀ b o, b ∉ wr → h.get? b = some o → h'.get? b = some o) → SetG knd h a l → SetG knd h' a l := fun k ⟨es, ep, t, l', ho, r⟩ => ⟨es, ep, t, l', k _ _ haw ho, r⟩
  intro m
  induction m with
  | zero =>
    intro i s hm hi hst hS hR
    have hin : i = n := by omega
    subst hin
    refine codeAny_builtin F.entry_set_update_loop ?_
    rw [Around.under_plainId F.plain_set_update_loop _]
    show wpAny _ A.in1 (pyNext (.ref I) >>= _) _ _ s
    refine wpAny_bind (W.done s _ _ hst fun h' tk hk => ?_)
    show wpAny _ A.in1 (ret Value.none) _ _ _
    have hS' := keepG hk hS
    rw [← hlen, List.take_length] at hS'
    exact wpAny_pure (hR h' tk (fun b o _ hb => hk b o hb) hS')
  | succ m ih =>
    intro i s hm hi hst hS hR
    have hlt : i < n := by omega
    refine codeAny_builtin F.entry_set_update_loop ?_
    rw [Around.under_plainId F.plain_set_update_loop _]
    show wpAny _ A.in1 (pyNext (.ref I) >>= _) _ _ s
    refine wpAny_bind (W.item i s _ _ hlt hst fun v h' tk hP hst' hk => ?_)
    obtain ⟨k, hki, hkv, hsc⟩ := hval i v hP
    show wpAny _ A.in1 (holding [v] (setAdd a v) >>= _) _ _ _
    refine wpAny_bind (wpAny_holding (setAdd_rule (s := { s with heap := h', toks := tk }) hkv hsc (keepG hk hS) ?_ fun h2 b sb hS2 => ?_))
    · have h1 := dd_len (ks.take i)
      have h2 : (ks.take i).length ≤ n := by rw [List.length_take]; omega
      omega
    · refine wpAny_pure ⟨plainId_quiet F.plain_set_update_loop _, ih (i + 1) _ (by omega) hlt (W.frame _ _ _ hst' fun b hb o e => ?_) (by rw [dd_take ks i k hki]; exact hS2) fun h3 tk3 hk3 hS3 => ?_⟩
      · exact sb.extBut b o (fun q => ha (q ▸ hb)) e
      · refine hR h3 tk3 (fun b o h1 hw e => hk3 b o h1 hw (sb.extBut b o h1 (hk b o hw e))) hS3

theorem set_fresh {h : Heap} {led : Bool} (hled : led = true ∨ w.params.followText "set-order" = true) : SetG knd (h.push (setObj #[] 0 (.fresh 0 0 led))) h.objs.size [] :=
  ⟨#[], 0, _, [], Heap.get?_push_size _ rfl, by (first | obtain ⟨_, rfl⟩ := led.atom | exact (nsE led).elim | exact (snE led).elim | exact (ftE led).elim | cases led) <;> decide, fun _ => by simp [Rise, SetTable.fresh], hled, .nil, .refl _, List.nodup_nil, by rw [scan4]; exact Nat.zero_lt_succ _⟩

variable {E : Value → Shared → Prop} {s : Shared}
theorem set_new_code (x : Value) {Q₁ : Value → Shared → Prop} (h : Q₁ (.ref s.heap.objs.size) { s with heap := s.heap.push (setObj #[] 0 (.fresh 0 0 (!(w.params.followText "set-order")))) }) :
    codeAny (model prog w) A (.call (.builtin "set.__new__") ⟨[.type "set", x], []⟩) (wants Q₁ E) s := by
  refine codeAny_of_tree ?_
  show wpAny _ A.in1 (do checkBuiltinCall "set.__new__" ⟨[.type "set", x], []⟩; again (.builtin "set.__new__" ⟨[.type "set", x], []⟩)) _ _ s
  refine wpAny_bind (wpAny_of_eq (F.newCall_set_1 x) (wpAny_pure ⟨plainId_quiet F.plain_set_new _, codeAny_builtin F.entry_set_new ?_⟩))
  rw [Around.under_plainId F.plain_set_new _]
  unfold Builtin.«set.__new__» Builtin.Frozenset.newClass
  have hsub := sub_set_self
  obtain ⟨hp, g, d, tk, os⟩ := s
  dsimp only
  wp_walk
  refine wpAny_askSetting (wpAny_pure ?_)
  dsimp only
  simp only [newObj]
  refine wpAny_bind (wpAny_alloc (wpAny_pure ?_))
  exact wpAny_pure h

set_option maxHeartbeats 3200000 in
theorem call_setL {l : Addr} {items : Array Value} {ks : List K} {Q : Value → Shared → Prop} (hh : A.handled = none) (hl : s.heap.IsList l items) (hlen : ks.length = items.size) (hval : ∀ (i : Nat) v, items[i]? = some v → ∃ k, ks[i]? = some k ∧ knd.is k v = true ∧ v.scannable = true) (hb : items.size + 1 < scanBound)
    (h : ∀ h' tk, SetG knd h' s.heap.objs.size (dd ks) → (∀ b o, s.heap.get? b = some o → h'.get? b = some o) → Q (.ref s.heap.objs.size) { s with heap := h', toks := tk }) : wpAny (model prog w) A (call (.type "set") [.ref l]) Q E s := by
  obtain ⟨c, tl, hmro⟩ := F.called_set.mro
  have hmade := F.called_set.made
  have hsub := F.called_set.sub
  refine wpAny_call (codeAny_of_tree ?_)
  show wpAny _ _ (callAny (.type "set") _) _ _ _
  refine wpAny_pure ⟨Code.quiet_builtin _ (by decide +kernel), codeAny_builtin F.entry_type_call ?_⟩
  rw [Around.under_plain (weight_type_call_type "set" [.ref l] []) rfl]
  have h1 := F.called_set.notType
  have h2 := F.called_set.canCreate
  have hct := F.typeCall_set_1 (.ref l)
  repeat (any_goals (first | assumption | wp_step))
  generalize hS0 : s.heap.objs.size = a at *
  refine codeAny_mono (set_new_code (.ref l) (E := E) (Q₁ := fun obj s₁ => obj = .ref a ∧ s₁ = { s with heap := s.heap.push (setObj #[] 0 (.fresh 0 0 (!(w.params.followText "set-order")))) }) ⟨by rw [hS0], rfl⟩) fun r s₁ hr => ?_
  cases r with
  | error e => exact hr
  | ok fl =>
    cases fl with
    | ret obj =>
      obtain ⟨rfl, rfl⟩ := hr
      have hg0 : SetG knd (s.heap.push (setObj #[] 0 (.fresh 0 0 (!(w.params.followText "set-order"))))) a [] := by
        have := set_fresh (knd := knd) (h := s.heap) (led := !(w.params.followText "set-order")) (by cases w.params.followText "set-order" <;> simp)
        rwa [hS0] at this
      have k1 : ∀ b o, s.heap.get? b = some o → (s.heap.push (setObj #[] 0 (.fresh 0 0 (!(w.params.followText "set-order"))))).get? b = some o := fun b o e => Heap.get?_push_of_some _ e
      have hz1 : (s.heap.push (setObj #[] 0 (.fresh 0 0 (!(w.params.followText "set-order"))))).objs.size = a + 1 := by rw [Heap.size_push, hS0]
      have hSo : (s.heap.push (setObj #[] 0 (.fresh 0 0 (!(w.params.followText "set-order"))))).get? a = some { cls := .type "set", dict := none, data := .set #[] 0 (.fresh 0 0 (!(w.params.followText "set-order"))) } := by rw [← hS0]; exact Heap.get?_push_size _ rfl
      generalize s.heap.push (setObj #[] 0 (.fresh 0 0 (!(w.params.followText "set-order")))) = H at *
      generalize (!(w.params.followText "set-order")) = led at hSo
      have hT : Shared.TypeIs { s with heap := H } (.ref a) "set" := ⟨_, hSo, rfl⟩
      have hli := F.called_set.init.lookup
      have hbi := F.called_set.init.bind (.ref a)
      repeat (any_goals (first | assumption | wp_step))
      refine codeAny_mono (codeAny_call_builtin (R := wants (fun r s₂ => r = .none ∧ ∃ h' tk, s₂ = { s with heap := h', toks := tk } ∧ SetG knd h' a (dd ks) ∧ (∀ b o, s.heap.get? b = some o → h'.get? b = some o)) E) F.called_set.init.plain F.entry_set_init (check_set_init_1 hT ?_)) fun r₂ s₂ hr₂ => ?_
      · obtain ⟨ol, hol, hcl, nl, hdl⟩ := hl
        obtain ⟨ocls, odict, odata, oslots⟩ := ol
        simp only at hcl hdl
        subst hcl; subst hdl
        have hol' := k1 _ _ hol
        have hsls := F.sub_list_set
        have hslf := F.sub_list_frozenset
        have hne : (Value.type "list" == Value.type "dict") = false := by decide
        have hl1 : H.IsList l items := ⟨_, hol', rfl, nl, rfl⟩
        unfold Builtin.«set.__init__» noKeywords Builtin.Frozenset.updateFrom
        generalize hPI : pyIter = PI
        wp_walk
        subst hPI
        refine wpAny_pyIter_list (s := { s with heap := H }) hl1 ?_
        refine wpAny_bind (wpAny_runValue ?_)
        have hlS : l < a := hS0 ▸ Heap.lt_size hol
        have hh3 : A.in1.in1.in1.handled = none := by simp [hh]
        have hneI : l ≠ H.objs.size := by rw [hz1]; exact Nat.ne_of_lt (Nat.lt_succ_of_lt hlS)
        have hSf : a ∉ [H.objs.size, l] := by
          rw [hz1]; simp only [List.mem_cons, List.not_mem_nil, or_false, not_or]
          exact ⟨Nat.ne_of_lt (Nat.lt_succ_self a), Nat.ne_of_gt hlS⟩
        have haI : (H.push { cls := .type "list_iterator", data := .fields #[.ref l, .int 0 0] }).get? H.objs.size = some { cls := .type "list_iterator", data := .fields #[.ref l, .int 0 0] } := Heap.get?_push_size _ rfl
        refine set_loop (Walks.list hh3 _ l hneI items) hSf hlen hval hb (items.size - 0) 0 _ (by omega) (Nat.zero_le _) ⟨⟨_, haI, rfl, rfl⟩, hl1.push _⟩ ?_ fun h' tk hk hS' => ?_
        · obtain ⟨es, ep, t, l', ho, r⟩ := hg0
          exact ⟨es, ep, t, l', Heap.get?_push_of_some _ ho, r⟩
        · refine wpAny_pure ?_
          show wpAny _ _ (ret Value.none) _ _ _
          refine wpAny_pure ⟨rfl, h', tk, rfl, hS', fun b o e => ?_⟩
          have hb1 : b < a := hS0 ▸ Heap.lt_size e
          exact hk b o (Nat.ne_of_lt hb1) (by rw [hz1]; simp only [List.mem_singleton]; exact Nat.ne_of_lt (Nat.lt_succ_of_lt hb1)) (Heap.get?_push_of_some _ (k1 b o e))
      · cases r₂ with
        | error e => exact hr₂
        | ok fl₂ =>
          cases fl₂ with
          | ret r =>
            obtain ⟨rfl, h', tk, rfl, hS', hk'⟩ := hr₂
            repeat (any_goals (first | assumption | wp_step))
            exact h h' tk hS' hk'
          | _ => exact hr₂.elim
    | _ => exact hr.elim
end
-- part PS4
theorem slot_setit_next : PySem.Slot "set_iterator" "__next__" "set_iterator.__next__" :=
  .of (owner := "set_iterator") (n := "__next__") (by rw [typeLookup_type, builtinLookup_eq_fast]; kernel_rfl) (by decide +kernel) (by decide +kernel) (by decide +kernel)
    (by first | exact .inl (by decide +kernel) | exact .inr (by decide +kernel)) (by rw [isSubtype_type]; kernel_rfl)
theorem entry_setit_next : entryFor table "set_iterator.__next__" = some Builtin.«set_iterator.__next__» := entryFor_of_tree (by kernel_rfl)
theorem args_setit_next (a : Value) : argsOk "set_iterator.__next__" ⟨[a], []⟩ := by unfold argsOk; kernel_rfl
theorem entry_set_iter : entryFor table "set.__iter__" = some Builtin.«frozenset.__iter__» :=
  entryFor_alias (id' := "frozenset.__iter__") (by kernel_rfl) rfl (by decide +kernel) (by kernel_rfl)

theorem wpAny_choose {M : Model} {A : Around} {E : Value → Shared → Prop} {s : Shared} {src : Source} {n : Nat} {Q : Nat → Shared → Prop} (hn : n ≠ 0) (h : ∀ i d, i < n → Q i { s with drawn := d }) : wpAny M A (choose src n) Q E s := fun Γ p _ => by
  unfold choose
  rw [Sem.wp_choose]
  refine ⟨hn, ?_⟩
  rw [Sem.wp]
  exact h _ _ (Nat.mod_lt _ (Nat.pos_of_ne_zero hn))
theorem erase_perm {α : Type} : ∀ {l : List α} {i : Nat} (h : i < l.length), (l[i] :: l.eraseIdx i).Perm l
  | _ :: _, 0, _ => .refl _
  | x :: l, i + 1, h => by
    simp only [List.getElem_cons_succ, List.eraseIdx_cons_succ]
    exact (List.Perm.swap _ _ _).trans ((erase_perm (by simpa using h)).cons x)
theorem drawOrder_rule {α : Type} {M : Model} {A : Around} {E : Value → Shared → Prop} : ∀ (n : Nat) (xs : List α) {s : Shared} {Q : List α → Shared → Prop}, xs.length = n → (∀ ys d, ys.Perm xs → Q ys { s with drawn := d }) → wpAny M A (drawOrder n xs) Q E s
  | 0, xs, s, Q, hl, h => by
    have : xs = [] := List.length_eq_zero_iff.mp hl
    subst this
    unfold drawOrder
    exact wpAny_pure (h [] s.drawn (.refl _))
  | n + 1, [], s, Q, hl, h => by (first | obtain ⟨_, rfl⟩ := hl.atom | exact (nsE hl).elim | exact (snE hl).elim | exact (ftE hl).elim | cases hl)
  | n + 1, x :: xs, s, Q, hl, h => by
    unfold drawOrder
    refine wpAny_bind (wpAny_choose (by simp) fun i d hi => ?_)
    rw [List.getElem?_eq_getElem hi]
    dsimp only
    refine wpAny_bind (drawOrder_rule n _ (by rw [List.length_eraseIdx_of_lt hi, hl]; rfl) fun ys d' hp => wpAny_pure ?_)
    exact h _ d' ((hp.cons _).trans (erase_perm hi))
theorem pickOrder_go {α : Type} (next : Nat → Nat) : ∀ (fuel k : Nat) (left : List α) (out : Array α), left.length = fuel → (pickOrder.go next fuel k left out).toList.Perm (out.toList ++ left)
  | 0, k, left, out, h => by
    have : left = [] := List.length_eq_zero_iff.mp h
    subst this
    simp [pickOrder.go]
  | fuel + 1, k, left, out, h => by
    unfold pickOrder.go
    have hi : next k % left.length < left.length := Nat.mod_lt _ (by omega)
    rw [List.getElem?_eq_getElem hi]
    dsimp only
    refine (pickOrder_go next fuel (k + 1) _ _ (by rw [List.length_eraseIdx_of_lt hi, h]; rfl)).trans ?_
    rw [Array.toList_push, List.append_assoc]
    exact (erase_perm hi).append_left _
theorem pickOrder_perm {α : Type} (next : Nat → Nat) (xs : Array α) : (pickOrder next xs).toList.Perm xs.toList := by
  unfold pickOrder
  have := pickOrder_go next xs.size 0 xs.toList #[] (by simp)
  simpa using this

/-- the set's iterator -/
noncomputable def setIt (first : Value) (i : Nat) (a : Addr) (n ep : Nat) : Obj := { cls := .type "set_iterator", data := .fields #[first, .int i 0, .ref a, .int n 0, .int ep 0] }

section
variable {prog : Program} {w : World} {A : Around} {E : Value → Shared → Prop} {s : Shared}
theorem state_of {a : Addr} {es : Array (Int × Value)} {ep : Nat} {t : SetTable} {Q : (Array (Int × Value) × Nat × SetTable) → Shared → Prop} (ho : s.heap.get? a = some (setObj es ep t)) (hf : t.fits es.size = true) (h : Q (es, ep, t) s) :
    wpAny (model prog w) A (setState a) Q E s := wpAny_setState_of ho rfl hf h
theorem byText_rule {Q : Bool → Shared → Prop} (h : Q (w.params.followText "set-order") s) : wpAny (model prog w) A setsByText Q E s := by
  unfold setsByText
  exact wpAny_bind (wpAny_askSetting (wpAny_pure h))


theorem set_field {I : Addr} {c : Value} {vs : Array Value} {k : Nat} {x : Value} {M : Model} {Q : Unit → Shared → Prop} (ho : s.heap.get? I = some { cls := c, data := .fields vs }) (hk : k < vs.size)
    (h : ∀ h', h'.get? I = some { cls := c, data := .fields (vs.setIfInBounds k x) } → Heap.SameBut I s.heap h' → Q () { s with heap := h' }) : wpAny M A (setField (.ref I) k x) Q E s :=
  wpAny_setField ho rfl hk (h _ (Heap.get?_update_self (Obj.mapFields (·.setIfInBounds k x)) ho rfl) (Heap.SameBut.update ..))
theorem stop_rule {I : Addr} {s₀ : Shared} {Q : Option Value → Shared → Prop} (hh : A.handled = none) (x : Heap.ExtBut I s₀.heap s.heap) (hs : ∃ h, s = { s₀ with heap := h }) (h : ∀ h', Heap.ExtBut I s₀.heap h' → Q none { s₀ with heap := h' }) :
    wpAny (model prog w) A.in1 (newExc (.type "StopIteration") [] >>= fun e => raiseNew e) (fun fin s' => ∃ v, fin = Fin.done (Flow.ret v) ∧ wpAny (model prog w) A (pure (some v)) Q E s') (fun e s' => wpAny (model prog w) A (do
      let b ← isInstance e (.type "StopIteration")
      if b = true then pure none else throw e) Q E s') s := by
  obtain ⟨hp, rfl⟩ := hs
  refine wpAny_bind ?_
  simp only [newExc, newTuple]
  refine wpAny_bind (wpAny_newObj_type ?_ (by size_fits))
  refine wpAny_bind (m := firstArgMember _ _) (wpAny_of_eq (a := Value.none) (by first | rfl | (simp only [firstArgMember]; rfl)) ?_)
  refine wpAny_newObj_type ?_ (by size_fits)
  simp only [raiseNew]
  refine wpAny_bind (wpAny_handled ?_)
  rw [show A.in1.handled = none from hh]
  refine wpAny_bind (wpAny_pure (wpAny_throw ?_))
  refine wpAny_bind (wpAny_isInstance (T := "StopIteration") (b := true) ⟨_, Heap.get?_push_size _ rfl, rfl⟩ isSubtype_stop ?_)
  exact wpAny_pure (h _ ((x.push _).push _))

theorem setit_item {I a : Addr} {slot i n ep nx : Nat} {es : Array (Int × Value)} {t : SetTable} {x : Value} {Q : Option Value → Shared → Prop} (ho : s.heap.get? I = some (setIt (.int slot 0) i a n ep)) (ha : s.heap.get? a = some (setObj es ep t)) (hf : t.fits es.size = true) (hn : es.size = n)
    (hx : ∀ (Q' : Option (Value × Nat) → Shared → Prop) (E' : Value → Shared → Prop) (A' : Around), Q' (some (x, nx)) s → wpAny (model prog w) A' (setNext a slot i ep) Q' E' s)
    (h : ∀ h', h'.get? I = some (setIt (.int nx 0) (i + 1) a n ep) → Heap.SameBut I s.heap h' → Q (some x) { s with heap := h' }) : wpAny (model prog w) A (pyNext (.ref I)) Q E s := by
  have hT : s.TypeIs (.ref I) "set_iterator" := ⟨_, ho, rfl⟩
  unfold pyNext
  refine wpAny_bind (wpAny_attempt (wpAny_callSpecial?_slot (name := Str.ofString "__next__") hT slot_setit_next (wpAny_call_entry slot_setit_next hT entry_setit_next ?_ (args_setit_next _))))
  unfold Builtin.«set_iterator.__next__»
  refine wpAny_bind (wpAny_pure ?_)
  refine wpAny_bind (wpAny_fieldsOf ho rfl ?_)
  dsimp only
  refine wpAny_bind (wpAny_bind (state_of ha hf (wpAny_pure ?_)))
  rw [if_neg (by simp [hn])]
  simp only [Int.toNat_natCast]
  refine wpAny_bind (hx _ _ _ ?_)
  dsimp only
  refine wpAny_bind (set_field ho (by simp) fun h1 o1 b1 => ?_)
  refine wpAny_bind (set_field (s := { s with heap := h1 }) o1 (by simp) fun h2 o2 b2 => wpAny_pure ⟨x, rfl, wpAny_pure (h h2 ?_ (b1.trans b2))⟩)
  rw [o2]; rfl
theorem setit_end {I a : Addr} {slot i n ep : Nat} {es : Array (Int × Value)} {t : SetTable} {Q : Option Value → Shared → Prop} (hh : A.handled = none) (ho : s.heap.get? I = some (setIt (.int slot 0) i a n ep)) (ha : s.heap.get? a = some (setObj es ep t)) (hf : t.fits es.size = true) (hn : es.size = n)
    (hx : ∀ (Q' : Option (Value × Nat) → Shared → Prop) (E' : Value → Shared → Prop) (A' : Around), Q' none s → wpAny (model prog w) A' (setNext a slot i ep) Q' E' s)
    (h : ∀ h', Heap.ExtBut I s.heap h' → Q none { s with heap := h' }) : wpAny (model prog w) A (pyNext (.ref I)) Q E s := by
  have hT : s.TypeIs (.ref I) "set_iterator" := ⟨_, ho, rfl⟩
  unfold pyNext
  refine wpAny_bind (wpAny_attempt (wpAny_callSpecial?_slot (name := Str.ofString "__next__") hT slot_setit_next (wpAny_call_entry slot_setit_next hT entry_setit_next ?_ (args_setit_next _))))
  unfold Builtin.«set_iterator.__next__»
  refine wpAny_bind (wpAny_pure ?_)
  refine wpAny_bind (wpAny_fieldsOf ho rfl ?_)
  dsimp only
  refine wpAny_bind (wpAny_bind (state_of ha hf (wpAny_pure ?_)))
  rw [if_neg (by simp [hn])]
  simp only [Int.toNat_natCast]
  refine wpAny_bind (hx _ _ _ ?_)
  dsimp only
  refine wpAny_bind (set_field ho (by simp) fun h1 o1 b1 => ?_)
  exact stop_rule hh b1.extBut ⟨_, rfl⟩ h
theorem setit_itemD {I a T : Addr} {i n ep p : Nat} {es : Array (Int × Value)} {t : SetTable} {ps : List Nat} {e : Int × Value} {Q : Option Value → Shared → Prop} (ho : s.heap.get? I = some (setIt (.ref T) i a n ep)) (ha : s.heap.get? a = some (setObj es ep t)) (hf : t.fits es.size = true) (hn : es.size = n)
    (hT' : s.heap.get? T = some { cls := .type "tuple", data := .seq (ps.map fun q : Nat => rawInt q).toArray }) (hp : ps[i]? = some p) (he : es[p]? = some e)
    (h : ∀ h', h'.get? I = some (setIt (.ref T) (i + 1) a n ep) → Heap.SameBut I s.heap h' → Q (some e.2) { s with heap := h' }) : wpAny (model prog w) A (pyNext (.ref I)) Q E s := by
  have hT : s.TypeIs (.ref I) "set_iterator" := ⟨_, ho, rfl⟩
  unfold pyNext
  refine wpAny_bind (wpAny_attempt (wpAny_callSpecial?_slot (name := Str.ofString "__next__") hT slot_setit_next (wpAny_call_entry slot_setit_next hT entry_setit_next ?_ (args_setit_next _))))
  unfold Builtin.«set_iterator.__next__»
  refine wpAny_bind (wpAny_pure ?_)
  refine wpAny_bind (wpAny_fieldsOf ho rfl ?_)
  dsimp only
  refine wpAny_bind (wpAny_bind (state_of ha hf (wpAny_pure ?_)))
  rw [if_neg (by simp [hn])]
  simp only [Int.toNat_natCast]
  refine wpAny_bind (wpAny_seqItems hT' rfl ?_)
  dsimp only
  have : (ps.map fun q : Nat => rawInt q).toArray[i]? = some (.int p 0) := by
    rw [List.getElem?_toArray, List.getElem?_map, hp]; rfl
  rw [this]
  dsimp only
  refine wpAny_bind ?_
  unfold setNextDrawn
  refine wpAny_bind (state_of ha hf ?_)
  dsimp only
  rw [if_neg (by simp)]
  simp only [Int.toNat_natCast, he]
  refine wpAny_pure ?_
  refine wpAny_bind (set_field ho (by simp) fun h1 o1 b1 => wpAny_pure ⟨e.2, rfl, wpAny_pure (h h1 ?_ b1)⟩)
  rw [o1]; rfl
theorem setit_endD {I a T : Addr} {i n ep : Nat} {es : Array (Int × Value)} {t : SetTable} {ps : List Nat} {Q : Option Value → Shared → Prop} (hh : A.handled = none) (ho : s.heap.get? I = some (setIt (.ref T) i a n ep)) (ha : s.heap.get? a = some (setObj es ep t)) (hf : t.fits es.size = true) (hn : es.size = n)
    (hT' : s.heap.get? T = some { cls := .type "tuple", data := .seq (ps.map fun q : Nat => rawInt q).toArray }) (hp : ps[i]? = none)
    (h : ∀ h', Heap.ExtBut I s.heap h' → Q none { s with heap := h' }) : wpAny (model prog w) A (pyNext (.ref I)) Q E s := by
  have hT : s.TypeIs (.ref I) "set_iterator" := ⟨_, ho, rfl⟩
  unfold pyNext
  refine wpAny_bind (wpAny_attempt (wpAny_callSpecial?_slot (name := Str.ofString "__next__") hT slot_setit_next (wpAny_call_entry slot_setit_next hT entry_setit_next ?_ (args_setit_next _))))
  unfold Builtin.«set_iterator.__next__»
  refine wpAny_bind (wpAny_pure ?_)
  refine wpAny_bind (wpAny_fieldsOf ho rfl ?_)
  dsimp only
  refine wpAny_bind (wpAny_bind (state_of ha hf (wpAny_pure ?_)))
  rw [if_neg (by simp [hn])]
  simp only [Int.toNat_natCast]
  refine wpAny_bind (wpAny_seqItems hT' rfl ?_)
  dsimp only
  have : (ps.map fun q : Nat => rawInt q).toArray[i]? = none := by
    rw [List.getElem?_toArray, List.getElem?_map, hp]; rfl
  rw [this]
  dsimp only
  refine wpAny_bind (set_field ho (by simp) fun h1 o1 b1 => ?_)
  refine wpAny_bind (set_field (s := { s with heap := h1 }) o1 (by simp) fun h2 o2 b2 => ?_)
  exact stop_rule hh (b1.trans b2).extBut ⟨_, rfl⟩ h
end
-- part PS5
section
variable {prog : Program} {w : World} {A : Around} {E : Value → Shared → Prop} {s : Shared}
theorem next_text {a : Addr} {slot i ep : Nat} {es : Array (Int × Value)} {t : SetTable} {Q : Option (Value × Nat) → Shared → Prop} (hb : w.params.followText "set-order" = true) (ha : s.heap.get? a = some (setObj es ep t)) (hf : t.fits es.size = true)
    (h : Q (((pickOrder (w.params.setOrder a ep) es)[i]?).map fun e => (e.2, slot)) s) : wpAny (model prog w) A (setNext a slot i ep) Q E s := by
  unfold setNext
  refine wpAny_bind (state_of ha hf ?_)
  dsimp only
  refine wpAny_bind (byText_rule ?_)
  rw [if_pos hb, if_neg (by simp)]
  refine wpAny_bind ?_
  unfold setWalk
  refine wpAny_bind (state_of ha hf ?_)
  dsimp only
  refine wpAny_bind (byText_rule ?_)
  rw [if_pos hb]
  exact wpAny_bind (wpAny_askSetting (wpAny_pure (wpAny_pure h)))
theorem next_open {a : Addr} {slot i ep : Nat} {es : Array (Int × Value)} {t : SetTable} {Q : Option (Value × Nat) → Shared → Prop} (hb : w.params.followText "set-order" = false) (hd : (!t.plain && decide (es.size > 1)) = false) (hl : t.led = true) (ha : s.heap.get? a = some (setObj es ep t)) (hf : t.fits es.size = true)
    (h1 : ∀ e j, es[SetTable.below t.place slot]? = some e → t.place[SetTable.below t.place slot]? = some j → Q (some (e.2, j + 1)) s) (h2 : es[SetTable.below t.place slot]? = none → Q none s) : wpAny (model prog w) A (setNext a slot i ep) Q E s := by
  have hfit : t.place.size = es.size := by
    have := hf
    unfold SetTable.fits at this
    simp only [Bool.and_eq_true, beq_iff_eq] at this
    exact this.1
  unfold setNext
  refine wpAny_bind (state_of ha hf ?_)
  dsimp only
  refine wpAny_bind (byText_rule ?_)
  rw [if_neg (by simp [hb])]
  show wpAny _ _ (if (!t.plain && decide (es.size > 1)) = true then _ else _) _ _ _
  rw [hd, if_neg (by decide)]
  show wpAny _ _ ((if (!t.led && !es.isEmpty) = true then unsupported "set:maker-not-led" else pure ()) >>= _) _ _ _
  rw [hl, if_neg (by simp)]
  refine wpAny_bind (wpAny_pure ?_)
  rcases Nat.lt_or_ge (SetTable.below t.place slot) es.size with q | q
  · have e1 : es[SetTable.below t.place slot]? = some es[SetTable.below t.place slot] := Array.getElem?_eq_getElem q
    have e2 : t.place[SetTable.below t.place slot]? = some (t.place[SetTable.below t.place slot]'(by omega)) := Array.getElem?_eq_getElem (by omega)
    have := h1 _ _ e1 e2
    rw [e1, e2]
    exact wpAny_pure this
  · have e1 : es[SetTable.below t.place slot]? = none := Array.getElem?_eq_none q
    rw [e1]
    exact wpAny_pure (h2 e1)

theorem iter_open {a : Addr} {es : Array (Int × Value)} {ep : Nat} {t : SetTable} {Q : Value → Shared → Prop} (ha : s.heap.get? a = some (setObj es ep t)) (hf : t.fits es.size = true) (hz : es.size ≤ sizeLine)
    (h1 : (!(w.params.followText "set-order") && (!t.plain && decide (es.size > 1))) = false → Q (.ref s.heap.objs.size) { s with heap := s.heap.push (setIt (.int 0 0) 0 a es.size ep) })
    (h2 : (!(w.params.followText "set-order") && (!t.plain && decide (es.size > 1))) = true → ∀ (ps : List Nat) d, ps.Perm (List.range es.size) → Q (.ref (s.heap.objs.size + 1)) { s with heap := (s.heap.push { cls := .type "tuple", data := .seq (ps.map fun q : Nat => rawInt q).toArray }).push (setIt (.ref s.heap.objs.size) 0 a es.size ep), drawn := d }) :
    wpAny (model prog w) A (pyIter (.ref a)) Q E s := by
  have hT : s.TypeIs (.ref a) "set" := ⟨_, ha, rfl⟩
  refine wpAny_pyIter_slot hT F.slot_set_iter (wpAny_call_entry F.slot_set_iter hT entry_set_iter ?_ (F.args_set_iter_1 _))
  unfold Builtin.«frozenset.__iter__» Builtin.Frozenset.slot0 slotArgs
  simp only [List.isEmpty_nil, Bool.not_true, Bool.false_eq_true, ↓reduceIte, List.length_nil, bne_self_eq_false]
  unfold Builtin.Frozenset.addrOf Builtin.Frozenset.sizeOf
  refine wpAny_bind (wpAny_bind (wpAny_pure (wpAny_pure ?_)))
  refine wpAny_bind (wpAny_bind (m := setEntries a) (wpAny_bind (state_of ha hf (wpAny_pure (wpAny_pure ?_)))))
  refine wpAny_bind (m := setDrawn a) (wpAny_bind (state_of ha hf ?_))
  dsimp only
  refine wpAny_bind (byText_rule (wpAny_pure ?_))
  show wpAny _ _ (if (!(w.params.followText "set-order") && (!t.plain && decide (es.size > 1))) = true then _ else _) _ _ _
  cases hb : (!(w.params.followText "set-order") && (!t.plain && decide (es.size > 1))) with
  | false =>
    rw [if_neg (by decide)]
    refine wpAny_bind (wpAny_pure (wpAny_bind (m := setEpoch a) (wpAny_bind (state_of ha hf (wpAny_pure ?_)))))
    refine wpAny_bind (m := newFields _ _) (wpAny_newObj_type ?_ (by size_fits))
    exact wpAny_pure ⟨_, rfl, "set_iterator", _, ⟨_, Heap.get?_push_size _ rfl, rfl⟩, slot_setit_next.lookup, h1 hb⟩
  | true =>
    rw [if_pos rfl]
    refine wpAny_bind (drawOrder_rule es.size (List.range es.size) (by simp) fun ps d hp => ?_)
    refine wpAny_bind (m := newTuple _) (wpAny_newObj_type ?_ (by show (ps.map fun i : Nat => rawInt i).toArray.size ≤ _; rw [List.size_toArray, List.length_map, hp.length_eq, List.length_range]; exact hz))
    refine wpAny_bind (m := setEpoch a) (wpAny_bind (state_of (s := { s with heap := s.heap.push { cls := .type "tuple", data := .seq (ps.map fun q : Nat => rawInt q).toArray }, drawn := d }) (Heap.get?_push_of_some _ ha) hf (wpAny_pure ?_)))
    refine wpAny_bind (m := newFields _ _) (wpAny_newObj_type ?_ (by size_fits))
    have hsz : (s.heap.push { cls := .type "tuple", data := .seq (ps.map fun q : Nat => rawInt q).toArray }).objs.size = s.heap.objs.size + 1 := Heap.size_push ..
    have hq := h2 hb ps d hp
    rw [← hsz] at hq
    exact wpAny_pure ⟨_, rfl, "set_iterator", _, ⟨_, Heap.get?_push_size _ rfl, rfl⟩, slot_setit_next.lookup, hq⟩
end
-- part PS6
section
variable {prog : Program} {w : World} {K : Type} [DecidableEq K] (knd : KeyKind prog w K)
/-- values, by their keys -/
inductive KeyL : List Value → List K → Prop
  | nil : KeyL [] []
  | cons {k : K} {v : Value} {vs : List Value} {l : List K} : knd.is k v = true → v.scannable = true → KeyL vs l → KeyL (v :: vs) (k :: l)
variable {knd}
theorem ElK.keyL {es : List (Int × Value)} {l : List K} (h : ElK knd es l) : KeyL knd (es.map (·.2)) l := by
  induction h with
  | nil => exact .nil
  | cons a b _ ih => exact .cons a b ih
theorem KeyL.perm {vs vs' : List Value} (p : vs'.Perm vs) : ∀ {l : List K}, KeyL knd vs l → ∃ l', l'.Perm l ∧ KeyL knd vs' l' := by
  induction p with
  | nil => intro l h; exact ⟨l, .refl _, h⟩
  | cons x _ ih =>
    intro l h
    cases h with
    | cons h1 h2 h3 =>
      obtain ⟨l', p', h'⟩ := ih h3
      exact ⟨_, p'.cons _, .cons h1 h2 h'⟩
  | swap x y l₀ =>
    intro l h
    cases h with
    | cons h1 h2 h3 =>
      cases h3 with
      | cons h4 h5 h6 => exact ⟨_, .swap _ _ _, .cons h4 h5 (.cons h1 h2 h6)⟩
  | trans _ _ ih1 ih2 =>
    intro l h
    obtain ⟨l1, p1, h1⟩ := ih2 h
    obtain ⟨l2, p2, h2⟩ := ih1 h1
    exact ⟨l2, p2.trans p1, h2⟩
theorem KeyL.length {vs : List Value} {l : List K} (h : KeyL knd vs l) : vs.length = l.length := by
  induction h with
  | nil => rfl
  | cons _ _ _ ih => simp [ih]

theorem rise_small {t : SetTable} {n : Nat} (hg : TG t) (hf : t.fits n = true) (hd : (!t.plain && decide (n > 1)) = false) : Rise t.place := by
  have hfit : t.place.size = n := by
    have := hf
    unfold SetTable.fits at this
    simp only [Bool.and_eq_true, beq_iff_eq] at this
    exact this.1
  by_cases hp : t.plain = true
  · exact hg hp
  · have : t.plain = false := by simpa using hp
    rw [this] at hd
    have hn : n ≤ 1 := by simpa using hd
    unfold Rise
    have hl : t.place.toList.length ≤ 1 := by rw [Array.length_toList]; omega
    match h : t.place.toList, hl with
    | [], _ => exact .nil
    | [_], _ => exact List.pairwise_singleton _ _

theorem slot_setit_iter : PySem.Slot "set_iterator" "__iter__" "set_iterator.__iter__" :=
  .of (owner := "set_iterator") (n := "__iter__") (by rw [typeLookup_type, builtinLookup_eq_fast]; kernel_rfl) (by decide +kernel) (by decide +kernel) (by decide +kernel)
    (by first | exact .inl (by decide +kernel) | exact .inr (by decide +kernel)) (by rw [isSubtype_type]; kernel_rfl)
theorem entry_setit_iter : entryFor table "set_iterator.__iter__" = some Builtin.«dict_keyiterator.__iter__» :=
  entryFor_alias (id' := "dict_keyiterator.__iter__") (by kernel_rfl) rfl (by decide +kernel) (by kernel_rfl)
theorem args_setit_iter (a : Value) : argsOk "set_iterator.__iter__" ⟨[a], []⟩ := by unfold argsOk; kernel_rfl
theorem setit_self {A : Around} {E : Value → Shared → Prop} {s : Shared} {I : Addr} {o : Obj} {Q : Value → Shared → Prop} (ho : s.heap.get? I = some o) (hc : o.cls = .type "set_iterator") (h : Q (.ref I) s) : wpAny (model prog w) A (pyIter (.ref I)) Q E s := by
  have hT : s.TypeIs (.ref I) "set_iterator" := ⟨_, ho, hc⟩
  refine wpAny_pyIter_slot hT slot_setit_iter (wpAny_call_entry slot_setit_iter hT entry_setit_iter ?_ (args_setit_iter _))
  show wpAny _ _ (ret (.ref I)) _ _ s
  exact wpAny_pure ⟨_, rfl, "set_iterator", _, hT, slot_setit_next.lookup, h⟩

theorem walk_text {I a : Addr} (hne : a ≠ I) {es : Array (Int × Value)} {ep : Nat} {t : SetTable} (hf : t.fits es.size = true) (hb : w.params.followText "set-order" = true) (A : Around) (hh : A.handled = none) :
    Walks prog w A I [I, a] [I] es.size (fun i v => ((pickOrder (w.params.setOrder a ep) es).toList.map (·.2))[i]? = some v) (fun i h => h.get? I = some (setIt (.int 0 0) i a es.size ep) ∧ h.get? a = some (setObj es ep t)) where
  sub := fun b hb => by simp at hb; simp [hb]
  frame := fun _ _ _ st hk => ⟨hk I (by simp) _ st.1, hk a (by simp) _ st.2⟩
  item := fun i s Q E hi st hQ => by
    have hsz : (pickOrder (w.params.setOrder a ep) es).toList.length = es.size := by rw [(pickOrder_perm _ es).length_eq, Array.length_toList]
    have he : (pickOrder (w.params.setOrder a ep) es).toList[i]? = some ((pickOrder (w.params.setOrder a ep) es).toList[i]'(by omega)) := List.getElem?_eq_getElem (by omega)
    generalize (pickOrder (w.params.setOrder a ep) es).toList[i]'(by omega) = e at he
    refine setit_item (slot := 0) (nx := 0) (x := e.2) st.1 st.2 hf rfl (fun Q' E' A' h => next_text hb st.2 hf (by rw [← Array.getElem?_toList, he]; exact h)) fun h' o b => hQ _ h' s.toks (by rw [List.getElem?_map, he]; rfl) ⟨o, b.extBut a _ hne st.2⟩ fun c o' hc e' => b.extBut c o' (fun q => hc (by simp [q])) e'
  done := fun s Q E st hQ => by
    have hsz : (pickOrder (w.params.setOrder a ep) es).toList.length = es.size := by rw [(pickOrder_perm _ es).length_eq, Array.length_toList]
    refine setit_end (slot := 0) hh st.1 st.2 hf rfl (fun Q' E' A' h => next_text hb st.2 hf (by rw [← Array.getElem?_toList, List.getElem?_eq_none (by omega)]; exact h)) fun h' b => hQ h' s.toks fun c o' hc e' => b c o' (fun q => hc (by simp [q])) e'
  self := fun i s Q E st hQ => setit_self st.1 rfl hQ

theorem fits_place {t : SetTable} {n : Nat} (hf : t.fits n = true) : t.place.size = n := by
  unfold SetTable.fits at hf
  simp only [Bool.and_eq_true, beq_iff_eq] at hf
  exact hf.1
noncomputable def slotAt (t : SetTable) : Nat → Nat
  | 0 => 0
  | i + 1 => t.place.getD i 0 + 1
theorem below_slotAt {t : SetTable} (h : Rise t.place) {i : Nat} (hi : i ≤ t.place.size) : SetTable.below t.place (slotAt t i) = i := by
  cases i with
  | zero => exact below_zero h
  | succ i => exact below_next h hi
theorem walk_plain {I a : Addr} (hne : a ≠ I) {es : Array (Int × Value)} {ep : Nat} {t : SetTable} (hf : t.fits es.size = true) (hb : w.params.followText "set-order" = false) (hd : (!t.plain && decide (es.size > 1)) = false) (hl : t.led = true) (hr : Rise t.place) (A : Around) (hh : A.handled = none) :
    Walks prog w A I [I, a] [I] es.size (fun i v => (es.toList.map (·.2))[i]? = some v) (fun i h => h.get? I = some (setIt (.int (slotAt t i : Nat) 0) i a es.size ep) ∧ h.get? a = some (setObj es ep t)) where
  sub := fun b hb => by simp at hb; simp [hb]
  frame := fun _ _ _ st hk => ⟨hk I (by simp) _ st.1, hk a (by simp) _ st.2⟩
  item := fun i s Q E hi st hQ => by
    have hp := fits_place hf
    have hbl := below_slotAt hr (i := i) (by omega)
    refine setit_item (slot := slotAt t i) (nx := slotAt t (i + 1)) (x := es[i].2) st.1 st.2 hf rfl (fun Q' E' A' h => next_open hb hd hl st.2 hf (fun e j h1 h2 => ?_) fun h1 => ?_) fun h' o b => hQ _ h' s.toks (by simp [hi]) ⟨o, b.extBut a _ hne st.2⟩ fun c o' hc e' => b.extBut c o' (fun q => hc (by simp [q])) e'
    · rw [hbl] at h1 h2
      rw [Array.getElem?_eq_getElem hi] at h1
      (first | obtain ⟨_, rfl⟩ := h1.atom | exact (nsE h1).elim | exact (snE h1).elim | exact (ftE h1).elim | cases h1)
      have : t.place.getD i 0 = j := by
        rw [Array.getElem?_eq_getElem (by omega)] at h2
        (first | obtain ⟨_, rfl⟩ := h2.atom | exact (nsE h2).elim | exact (snE h2).elim | exact (ftE h2).elim | cases h2)
        simp [Array.getD, show i < t.place.size by omega]
      rw [← this]; exact h
    · rw [hbl, Array.getElem?_eq_getElem hi] at h1; (first | obtain ⟨_, rfl⟩ := h1.atom | exact (nsE h1).elim | exact (snE h1).elim | exact (ftE h1).elim | cases h1)
  done := fun s Q E st hQ => by
    have hp := fits_place hf
    have hbl := below_slotAt hr (i := es.size) (by omega)
    refine setit_end (slot := slotAt t es.size) hh st.1 st.2 hf rfl (fun Q' E' A' h => next_open hb hd hl st.2 hf (fun e j h1 h2 => ?_) fun h1 => h) fun h' b => hQ h' s.toks fun c o' hc e' => b c o' (fun q => hc (by simp [q])) e'
    rw [hbl, Array.getElem?_eq_none (Nat.le_refl _)] at h1; (first | obtain ⟨_, rfl⟩ := h1.atom | exact (nsE h1).elim | exact (snE h1).elim | exact (ftE h1).elim | cases h1)
  self := fun i s Q E st hQ => setit_self st.1 rfl hQ
theorem walk_drawn {I a T : Addr} (hne : a ≠ I) (hT : T ≠ I) {es : Array (Int × Value)} {ep : Nat} {t : SetTable} {ps : List Nat} (hf : t.fits es.size = true) (hps : ps.Perm (List.range es.size)) (A : Around) (hh : A.handled = none) :
    Walks prog w A I [I, a, T] [I] es.size (fun i v => (ps.filterMap fun p => (es[p]?).map (·.2))[i]? = some v) (fun i h => h.get? I = some (setIt (.ref T) i a es.size ep) ∧ h.get? a = some (setObj es ep t) ∧ h.get? T = some { cls := .type "tuple", data := .seq (ps.map fun q : Nat => rawInt q).toArray }) where
  sub := fun b hb => by simp at hb; simp [hb]
  frame := fun _ _ _ st hk => ⟨hk I (by simp) _ st.1, hk a (by simp) _ st.2.1, hk T (by simp) _ st.2.2⟩
  item := fun i s Q E hi st hQ => by
    have hl : ps.length = es.size := by rw [hps.length_eq, List.length_range]
    have hp : ps[i]? = some (ps[i]'(by omega)) := List.getElem?_eq_getElem (by omega)
    have hm : ps[i]'(by omega) < es.size := List.mem_range.mp (hps.mem_iff.mp (List.getElem_mem (by omega)))
    generalize ps[i]'(by omega) = p at hp hm
    have hmap : (ps.filterMap fun p => (es[p]?).map (·.2)) = ps.map fun p => (es.getD p (0, .none)).2 := by
      have : ∀ l : List Nat, (∀ q ∈ l, q < es.size) → (l.filterMap fun p => (es[p]?).map (·.2)) = l.map fun p => (es.getD p (0, .none)).2 := fun l => by
        induction l with
        | nil => intro _; rfl
        | cons q l ih =>
          intro hq
          have := hq q (.head _)
          rw [List.filterMap_cons, Array.getElem?_eq_getElem this, List.map_cons, ih fun x hx => hq x (.tail _ hx)]
          simp [Array.getD, this]
      exact this ps fun q hq => List.mem_range.mp (hps.mem_iff.mp hq)
    refine setit_itemD (e := es[p]) st.1 st.2.1 hf rfl st.2.2 hp (Array.getElem?_eq_getElem hm) fun h' o b => hQ _ h' s.toks ?_ ⟨o, b.extBut a _ hne st.2.1, b.extBut T _ hT st.2.2⟩ fun c o' hc e' => b.extBut c o' (fun q => hc (by simp [q])) e'
    rw [hmap, List.getElem?_map, hp]
    simp [Array.getD, hm]
  done := fun s Q E st hQ => by
    have hl : ps.length = es.size := by rw [hps.length_eq, List.length_range]
    refine setit_endD hh st.1 st.2.1 hf rfl st.2.2 (by rw [List.getElem?_eq_none (by omega)]) fun h' b => hQ h' s.toks fun c o' hc e' => b c o' (fun q => hc (by simp [q])) e'
  self := fun i s Q E st hQ => setit_self st.1 rfl hQ

/-- iterating over a set: all its keys, in some order -/
theorem iter_set {A : Around} {E : Value → Shared → Prop} {s : Shared} {a : Addr} {l : List K} {Q : Value → Shared → Prop} (hS : SetG knd s.heap a l)
    (k : ∀ I fp St h' d vs ls, (∀ b o, s.heap.get? b = some o → h'.get? b = some o) → s.heap.get? I = none → (∀ b ∈ fp, b = a ∨ s.heap.get? b = none) → KeyL knd vs ls → ls.Perm l → (∀ A' : Around, A'.handled = none → Walks prog w A' I fp [I] l.length (fun i v => vs[i]? = some v) St) → St 0 h' → (h'.get? I).isSome = true →
      Q (.ref I) { s with heap := h', drawn := d }) : wpAny (model prog w) A (pyIter (.ref a)) Q E s := by
  obtain ⟨es, ep, t, l', ho, hf, hg, hled, hel, hp, hn, hb⟩ := hS
  have hlen : es.size = l.length := by rw [← Array.length_toList, hel.length, hp.length_eq]
  rw [← hlen] at k
  have hne : a ≠ s.heap.objs.size := Nat.ne_of_lt (Heap.lt_size ho)
  have hsz : sizeLine = 16777216 := by decide
  have hsc := scan4
  have hn1 : s.heap.get? s.heap.objs.size = none := get_size _ (Nat.le_refl _)
  refine iter_open ho hf (by omega) (fun hb1 => ?_) fun hb1 ps d hps => ?_
  · cases hbt : w.params.followText "set-order" with
    | true =>
      obtain ⟨ls, p2, hk⟩ := KeyL.perm ((pickOrder_perm (w.params.setOrder a ep) es).map (·.2)) hel.keyL
      refine k s.heap.objs.size [s.heap.objs.size, a] _ _ s.drawn _ ls (fun b o e => Heap.get?_push_of_some _ e) hn1 (fun b hb => ?_) hk (p2.trans hp) (fun A' hh => walk_text hne hf hbt A' hh) ⟨Heap.get?_push_size _ rfl, Heap.get?_push_of_some _ ho⟩ (by rw [Heap.get?_push_size _ rfl]; rfl)
      rcases List.mem_cons.mp hb with e | e
      · exact .inr (e ▸ hn1)
      · exact .inl (List.mem_singleton.mp e)
    | false =>
      rw [hbt] at hb1 hled
      have hd : (!t.plain && decide (es.size > 1)) = false := by simpa using hb1
      have hl : t.led = true := hled.elim id fun q => by (first | obtain ⟨_, rfl⟩ := q.atom | exact (nsE q).elim | exact (snE q).elim | exact (ftE q).elim | cases q)
      refine k s.heap.objs.size [s.heap.objs.size, a] _ _ s.drawn _ l' (fun b o e => Heap.get?_push_of_some _ e) hn1 (fun b hb => ?_) hel.keyL hp (fun A' hh => walk_plain hne hf hbt hd hl (rise_small hg hf hd) A' hh) ⟨Heap.get?_push_size _ rfl, Heap.get?_push_of_some _ ho⟩ (by rw [Heap.get?_push_size _ rfl]; rfl)
      rcases List.mem_cons.mp hb with e | e
      · exact .inr (e ▸ hn1)
      · exact .inl (List.mem_singleton.mp e)
  · have hn2 : s.heap.get? (s.heap.objs.size + 1) = none := get_size _ (Nat.le_succ _)
    have hpv : (ps.filterMap fun p => (es[p]?).map (·.2)).Perm (es.toList.map (·.2)) := by
      have h1 := hps.filterMap fun p => (es[p]?).map (·.2)
      refine h1.trans ?_
      have h2 := filterMap_getElem?_range es
      rw [← h2, List.map_filterMap]
    obtain ⟨ls, p2, hk⟩ := KeyL.perm hpv hel.keyL
    have hsz1 : (s.heap.push { cls := .type "tuple", data := .seq (ps.map fun q : Nat => rawInt q).toArray }).objs.size = s.heap.objs.size + 1 := Heap.size_push ..
    have hI : ((s.heap.push { cls := .type "tuple", data := .seq (ps.map fun q : Nat => rawInt q).toArray }).push (setIt (.ref s.heap.objs.size) 0 a es.size ep)).get? (s.heap.objs.size + 1) = some (setIt (.ref s.heap.objs.size) 0 a es.size ep) := by
      rw [← hsz1]; exact Heap.get?_push_size _ rfl
    refine k (s.heap.objs.size + 1) [s.heap.objs.size + 1, a, s.heap.objs.size] _ _ d _ ls (fun b o e => Heap.get?_push_of_some _ (Heap.get?_push_of_some _ e)) hn2 (fun b hb => ?_) hk (p2.trans hp) (fun A' hh => walk_drawn (Nat.ne_of_lt (Nat.lt_succ_of_lt (Heap.lt_size ho))) (Nat.ne_of_lt (Nat.lt_succ_self _)) hf hps A' hh)
      ⟨hI, Heap.get?_push_of_some _ (Heap.get?_push_of_some _ ho), Heap.get?_push_of_some _ (Heap.get?_push_size _ rfl)⟩ (by rw [hI]; rfl)
    rcases List.mem_cons.mp hb with e | e
    · exact .inr (e ▸ hn2)
    · rcases List.mem_cons.mp e with e | e
      · exact .inl e
      · exact .inr (by rw [List.mem_singleton.mp e]; exact hn1)
end
-- part PS7
section
variable {prog : Program} {w : World} {K : Type} [DecidableEq K] {knd : KeyKind prog w K} {A : Around} {E : Value → Shared → Prop} {s : Shared}
theorem hint_set {a : Addr} {Q : Bool → Shared → Prop} (hT : s.TypeIs (.ref a) "set") (h : Q false s) : wpAny (model prog w) A (Builtin.List.listLengthHint (.ref a)) Q E s := by
  unfold Builtin.List.listLengthHint
  refine wpAny_bind (wpAny_specialOf hT PySem.F.slot_set_len.lookup ?_)
  generalize hid : ("set.__len__" : String) = id0
  wp_delta
  rw [show splitId id0 = some ("set", "__len__") from by subst hid; decide +kernel]
  subst hid
  refine wpAny_bind (wpAny_isInstance (T := "set") (b := true) hT (by rw [isSubtype_type]; kernel_rfl) ?_)
  refine wpAny_ite_split (fun hab => absurd hab (by decide)) (fun _ => ?_)
  refine wpAny_ite_split (fun _ => ?_) (fun hab => absurd (by decide +kernel) hab)
  refine wpAny_bind (wpAny_typeOf hT ?_)
  exact wpAny_pure h

theorem SetG.keep {h h' : Heap} {a : Addr} {l : List K} (x : SetG knd h a l) (k : ∀ o, h.get? a = some o → h'.get? a = some o) : SetG knd h' a l := let ⟨es, ep, t, l', ho, r⟩ := x; ⟨es, ep, t, l', k _ ho, r⟩

theorem extend_set {R : Result → Shared → Prop} {a S : Addr} {l : List K} {res : Value} {c₀ : Nat} (hh : A.handled = none) (hG : SetG knd s.heap a l) (hSa : S ≠ a) (hS : s.heap.get? S = some { cls := .type "list", data := .seq #[] c₀ })
    (hR : ∀ h' tk d vs ls c', (∀ b o, b ≠ S → s.heap.get? b = some o → h'.get? b = some o) → h'.get? S = some { cls := .type "list", data := .seq vs.toArray c' } → KeyL knd vs ls → ls.Perm l → R (.ok (.ret res)) { s with heap := h', toks := tk, drawn := d }) :
    wpAny (model prog w) A.in1 (Builtin.List.listExtendWith (.ref S) (.ref a) res)
      (fun fin s' => match fin with | .done f => R (.ok f) s' | .again c' => c'.quiet = true ∧ codeAny (model prog w) A c' R s') (fun e s' => R (.error e) s') s := by
  have hTy : s.TypeIs (.ref a) "set" := let ⟨es, ep, t, l', ho, _⟩ := hG; ⟨_, ho, rfl⟩
  have hlb : l.length ≤ sizeLine := by
    obtain ⟨_, _, _, _, _, _, _, _, _, _, _, hb⟩ := hG
    have := scan4
    have : sizeLine = 16777216 := by decide
    omega
  unfold Builtin.List.listExtendWith
  refine wpAny_bind (wpAny_typeOf (T := "set") hTy ?_)
  have h1 : Builtin.List.listSameRef (.ref S) (.ref a) = false := by simp [Builtin.List.listSameRef, hSa]
  simp only [h1, show (Value.type "set" == Value.type "list") = false by decide, show (Value.type "set" == Value.type "tuple") = false by decide, Bool.or_false, Bool.false_eq_true, if_false]
  refine wpAny_bind (iter_set hG fun I fp St h1 d vs ls hk hI hfp hkl hp hW hst hIl => ?_)
  have hS1 := hk _ _ hS
  have hSfp : S ∉ fp := fun m => (hfp S m).elim (fun e => hSa e) fun e => by rw [hS] at e; (first | obtain ⟨_, rfl⟩ := e.atom | exact (nsE e).elim | exact (snE e).elim | exact (ftE e).elim | cases e)
  have W := hW A.in1 hh
  have key : ∀ (h : Heap) (c₁ : Nat), St 0 h → (∀ b o, b ≠ S → s.heap.get? b = some o → h.get? b = some o) → h.get? S = some { cls := .type "list", data := .seq #[] c₁ } →
      codeAny (model prog w) A (.builtin "list.extend.loop" ⟨[.ref S, .ref I, res], []⟩) R { s with heap := h, drawn := d } := fun h c₁ hst hk' hS₁ => by
    refine codeAny_extend_loopS W.toS hlb S hSfp res l.length 0 _ #[] c₁ rfl (Nat.zero_le _) hst hS₁ (ItemsOf.nil _) fun s' acc' c' hm hS' hacc => ?_
    rw [Moved.eq_with hm]
    have hvl : vs.length = l.length := by rw [hkl.length, hp.length_eq]
    have hacc2 : acc'.toList = vs := by
      apply List.ext_getElem?
      intro j
      rw [Array.getElem?_toList]
      rcases Nat.lt_or_ge j acc'.size with q | q
      · rw [Array.getElem?_eq_getElem q]
        exact (hacc.2 j _ (Array.getElem?_eq_getElem q)).symm
      · rw [Array.getElem?_eq_none q, List.getElem?_eq_none (by rw [hvl, ← hacc.1]; exact q)]
    refine hR s'.heap s'.toks d vs ls c' (fun b o hb e => hm.heap b o (fun hmem => ?_) (hk' b o hb e)) ?_ hkl hp
    · rcases List.mem_cons.mp hmem with e' | hmem
      · exact hb e'
      · rw [List.mem_singleton.mp hmem, hI] at e; (first | obtain ⟨_, rfl⟩ := e.atom | exact (nsE e).elim | exact (snE e).elim | exact (ftE e).elim | cases e)
    · rw [hS', ← hacc2]
  refine wpAny_bind (wpAny_holding (hint_set (s := { s with heap := h1, drawn := d }) (let ⟨es, ep, t, l', ho, _⟩ := hG; ⟨_, hk _ _ ho, rfl⟩) ?_))
  refine wpAny_ite_split (fun _ => ?_) (fun _ => wpAny_pure ⟨plainId_quiet PySem.F.plain_extend_loop _, key _ c₀ hst (fun b o _ e => hk b o e) hS1⟩)
  refine wpAny_bind (wpAny_rule ?_)
  refine wpAny_bind ?_
  show wpAny _ _ (updateSeq S (·.push .none) >>= fun _ => updateSeq S (·.pop)) _ _ _
  refine wpAny_bind (wpAny_updateSeq hS1 rfl ?_)
  have hS₂ := Heap.get?_update_self (Obj.mapSeq (·.push Value.none)) hS1 rfl
  refine wpAny_updateSeq (hz := by seq_fits) hS₂ rfl ?_
  have hS₃ := Heap.get?_update_self (Obj.mapSeq (·.pop)) hS₂ rfl
  have oth : ∀ b o, b ≠ S → h1.get? b = some o → ((h1.update S (Obj.mapSeq (·.push Value.none))).update S (Obj.mapSeq (·.pop))).get? b = some o := fun b o hb e =>
    (Heap.get?_update_other _ _ (Ne.symm hb)).trans ((Heap.get?_update_other _ _ (Ne.symm hb)).trans e)
  exact wpAny_pure ⟨plainId_quiet PySem.F.plain_extend_loop _, key _ _ (W.frame 0 _ _ hst fun b hb o e => oth b o (fun q => hSfp (q ▸ hb)) e) (fun b o hb e => oth b o hb (hk b o e)) hS₃⟩

theorem collect_set {a : Addr} {l : List K} {R : List Value → Shared → Prop} (hh : A.handled = none) (hG : SetG knd s.heap a l)
    (h : ∀ h' tk d vs ls, (∀ b o, s.heap.get? b = some o → h'.get? b = some o) → KeyL knd vs ls → ls.Perm l → R vs { s with heap := h', toks := tk, drawn := d }) : wpAny (model prog w) A (collect (.ref a)) R E s := by
  have ha : a < s.heap.objs.size := let ⟨es, ep, t, l', ho, _⟩ := hG; Heap.lt_size ho
  unfold collect
  refine wpAny_bind (wpAny_runValue (codeAny_builtin entry_proto_collect' ?_))
  rw [Around.under_plainId PySem.F.plain_proto_collect _]
  show wpAny _ A.in1 (newList [] >>= fun l => again (.builtin "list.__iadd__" ⟨[l, .ref a], []⟩)) _ _ s
  refine wpAny_bind (wpAny_newObj_type ?_)
  refine wpAny_pure ⟨plainId_quiet PySem.F.plain_list_iadd _, codeAny_builtin entry_list_iadd' ?_⟩
  rw [Around.under_plainId PySem.F.plain_list_iadd _]
  have hS₁ : (s.heap.push { cls := .type "list", data := .seq ([] : List Value).toArray }).get? s.heap.objs.size = some { cls := .type "list", data := .seq #[] } := Heap.get?_push_size _ rfl
  show wpAny _ A.in1 (Builtin.List.listExtendWith (.ref s.heap.objs.size) (.ref a) (.ref s.heap.objs.size)) _ _ _
  have key := extend_set (A := A) (s := { s with heap := s.heap.push { cls := .type "list", data := .seq ([] : List Value).toArray } })
    (R := fun (q : Result) (s' : Shared) => ∃ h' tk d vs ls c', q = .ok (.ret (.ref s.heap.objs.size)) ∧ s' = { s with heap := h', toks := tk, drawn := d } ∧ (∀ b o, s.heap.get? b = some o → h'.get? b = some o) ∧
      h'.get? s.heap.objs.size = some { cls := .type "list", data := .seq vs.toArray c' } ∧ KeyL knd vs ls ∧ ls.Perm l)
    (res := .ref s.heap.objs.size) hh (hG.keep fun o e => Heap.get?_push_of_some _ e) (Nat.ne_of_gt ha) hS₁
    (fun h' tk d vs ls c' hk hS' hkl hp => ⟨h', tk, d, vs, ls, c', rfl, rfl, fun b o e => hk b o (Nat.ne_of_lt (Heap.lt_size e)) (Heap.get?_push_of_some _ e), hS', hkl, hp⟩)
  refine wpAny_mono key (fun fin s' x => ?_) fun e s' x => ?_
  · cases fin with
    | done f =>
      obtain ⟨h', tk, d, vs, ls, c', e, rfl, hk, hS', hkl, hp⟩ := x
      (first | obtain ⟨_, rfl⟩ := e.atom | exact (nsE e).elim | exact (snE e).elim | exact (ftE e).elim | cases e)
      show wpAny _ A (load s.heap.objs.size >>= _) _ _ _
      refine wpAny_bind (wpAny_load hS' ?_)
      exact wpAny_pure (h h' tk d vs ls hk hkl hp)
    | again c₁ =>
      refine ⟨x.1, codeAny_mono x.2 fun q s₂ y => ?_⟩
      obtain ⟨h', tk, d, vs, ls, c', rfl, rfl, hk, hS', hkl, hp⟩ := y
      show wpAny _ A (load s.heap.objs.size >>= _) _ _ _
      refine wpAny_bind (wpAny_load hS' ?_)
      exact wpAny_pure (h h' tk d vs ls hk hkl hp)
  · obtain ⟨_, _, _, _, _, _, e', _⟩ := x
    (first | obtain ⟨_, rfl⟩ := e'.atom | exact (nsE e').elim | exact (snE e').elim | exact (ftE e').elim | cases e')

theorem KeyL.ints {vs : List Value} {ls : List Int} (h : KeyL (intKind prog w) vs ls) : IntsAre vs ls := by
  induction h with
  | nil => exact .nil
  | cons a _ _ ih =>
    obtain ⟨t, rfl⟩ := Value.isInt_shape a
    exact .cons _ _ ih

theorem sorted_set {a : Addr} {l : List Int} {Q : Value → Shared → Prop} (hh : A.handled = none) (hG : SetG (intKind prog w) s.heap a l) (h64 : l.length < 64)
    (h : ∀ h' tk d S vs ns, (∀ b o, s.heap.get? b = some o → h'.get? b = some o) → s.heap.get? S = none → h'.PlainList S vs.toArray → IntsAre vs ns → ns.Perm l → ns.Pairwise (· ≤ ·) → Q (.ref S) { s with heap := h', toks := tk, drawn := d }) :
    wpAny (model prog w) A (call (.builtin "sorted") [.ref a]) Q E s := by
  refine Calls.call_function_entry kind_sorted plain_sorted entry_sorted (args_sorted1 _) ?_
  unfold Builtin.«sorted»
  refine wpAny_bind (m := checkCount "sorted" 1 1 _) (wpAny_pure ?_)
  refine wpAny_bind (collect_set (A := A.in1) hh hG fun h1 tk d vs ls hk hkl hp => ?_)
  have hlen : vs.length = l.length := by rw [hkl.length, hp.length_eq]
  have hsz : sizeLine = 16777216 := by decide
  refine wpAny_bind (wpAny_newList ?_ (by omega))
  have hoL : (h1.push (seqObj "list" vs.toArray 0)).get? h1.objs.size = some (seqObj "list" vs.toArray 0) := Heap.get?_push_size _ rfl
  refine wpAny_bind (wpAny_holding (wpAny_call_entry slot_list_sort ⟨_, hoL, rfl⟩ entry_list_sort (list_sort_tree (s := { s with heap := h1.push (seqObj "list" vs.toArray 0), toks := tk, drawn := d }) hoL hkl.ints (by omega) fun out ns' a1 a2 a3 => ⟨_, rfl, ?_⟩) (args_list_sort _)))
  obtain ⟨e, he⟩ := sortedHeap_at (out := out) hoL
  refine wpAny_pure ⟨_, rfl, h _ tk d h1.objs.size out.toList ns' (fun b o q => ?_) ?_ ⟨e, by simpa using he⟩ a1 (a2.trans hp) a3⟩
  · have hb := Heap.lt_size (hk b o q)
    show (sortedHeap (h1.push (seqObj "list" vs.toArray 0)) h1.objs.size vs out).get? b = some o
    rw [sortedHeap_old (Nat.ne_of_lt hb) (by rw [Heap.size_push]; exact Nat.lt_succ_of_lt hb)]
    exact Heap.get?_push_of_some _ (hk b o q)
  · cases q : s.heap.get? h1.objs.size with
    | none => rfl
    | some o => exact absurd (Heap.lt_size (hk _ _ q)) (Nat.lt_irrefl _)
end
-- part PL29
section
variable {Γ : Ctx}
theorem spliced_argsP {s : Shared} {p q : Pos} {f : Value} {es : List Expr} {P : List Value → Heap → Prop} {Q : Value → Shared → Prop} (C : Γ.At s.heap) (hc : Callable Γ.K f) (h : Tr Γ (spliced (backTo q (starEach es Γ.env))) P s) (hp : es.all plainE = true)
    (k : ∀ vs s₁, Kp s s₁ → P vs s₁.heap → wpAny (model Γ.prog Γ.w) Γ.A (call f vs) Q (fun _ _ => False) s₁) :
    wpAny (model Γ.prog Γ.w) Γ.A (callWith p f [] (backTo q (starEach es Γ.env)) []) Q (fun _ _ => False) s :=
  callWith_of (P := fun h => Γ.K.In h) (by rw [backTo_plain, any_plain hp]; rfl) (fun h X => keeper_of hc h X)
    (evalArgs_any (by rw [backTo_plain, any_plain hp]) (h.then' fun vs s₁ k₁ r₁ => ⟨(C.go k₁).wd.glh.inn, k vs s₁ k₁ r₁⟩))
/-- set(x), of ints -/
theorem tr_set {x : Expr} {p2 p3 : Pos} {ns : List Int} (h2 : Ev Γ (.Name "set" p2) (.raw (.type "set"))) (hx : Ev Γ x (.list (ns.map .int))) (hz : ns.length < 64) (he : plainE x = true) (s : Shared) (C : Γ.At s.heap) :
    Tr Γ (eval (.Call (.Name "set" p2) [x] [] p3) Γ.env) (fun v h => ∃ a, v = .ref a ∧ SetG (intKind Γ.prog Γ.w) h a (dd ns)) s := by
  refine wpAny_Call_Name_kw ((h2.run s C).then' fun v s₁ k₁ r₁ => ?_)
  (first | obtain ⟨_, rfl⟩ := r₁.atom | exact (nsE r₁).elim | exact (snE r₁).elim | exact (ftE r₁).elim | cases r₁)
  show wpAny _ _ (callWith p3 (.type "set") [] (backTo p3 (starEach [x] Γ.env)) []) _ _ _
  refine spliced_args (C.go k₁) trivial (evs_cons hx evs_nil he) (any_plain (by rw [List.all_cons, he]; rfl)) fun vs s₂ k₂ r₂ => ?_
  obtain ⟨v, rfl, r⟩ := r₂.one
  obtain ⟨l, vs, rfl, _, hl, rs⟩ := r.list_inv
  have hlen := rs.length
  rw [List.length_map] at hlen
  have hsc := scan4
  refine call_setL (knd := intKind Γ.prog Γ.w) (items := vs.toArray) (ks := ns) C.room.1 hl.isList (by simp [hlen]) (fun i v hv => ?_) (by simp; omega) fun h' tk hS hk => ⟨(k₁.trans k₂).trans (Kp.both s₂ h' tk hk), _, rfl, hS⟩
  have hi := rs.ints.int_at i v (by simpa using hv)
  obtain ⟨t, rfl⟩ := hi
  have hlt : i < ns.length := by
    have := (Array.getElem?_eq_some_iff.mp hv).1
    simp at this; omega
  exact ⟨ns.getD i 0, by rw [List.getElem?_eq_getElem hlt]; simp [hlt], intKind_is _ _ _ _, rfl⟩
/-- sorted(set(x)), of ints -/
theorem ev_sortset {x : Expr} {p1 p2 p3 p4 : Pos} {ns out : List Int} (h1 : Ev Γ (.Name "sorted" p1) (.raw (.builtin "sorted"))) (h2 : Ev Γ (.Name "set" p2) (.raw (.type "set"))) (hx : Ev Γ x (.list (ns.map .int))) (hz : ns.length < 64)
    (ho : ∀ ns', ns'.Perm (dd ns) → ns'.Pairwise (· ≤ ·) → ns' = out) (he : plainE x = true := by rfl) : Ev Γ (.Call (.Name "sorted" p1) [.Call (.Name "set" p2) [x] [] p3] [] p4) (.list (out.map .int)) := .mk fun s C => by
  refine wpAny_Call_Name_kw ((h1.run s C).then' fun v s₁ k₁ r₁ => ?_)
  (first | obtain ⟨_, rfl⟩ := r₁.atom | exact (nsE r₁).elim | exact (snE r₁).elim | exact (ftE r₁).elim | cases r₁)
  show wpAny _ _ (callWith p4 (.builtin "sorted") [] (backTo p4 (starEach [.Call (.Name "set" p2) [x] [] p3] Γ.env)) []) _ _ _
  refine spliced_argsP (P := fun vs h => ∃ a, vs = [.ref a] ∧ SetG (intKind Γ.prog Γ.w) h a (dd ns)) (C.go k₁) trivial (wpAny_items_cons ((tr_set h2 hx hz he s₁ (C.go k₁)).then' fun v s₂ k₂ r₂ => wpAny_items_nil ?_) (starEach_plain rfl)) rfl fun vs s₂ k₂ r₂ => ?_
  · obtain ⟨a, rfl, hG⟩ := r₂
    exact ⟨k₂, a, rfl, hG⟩
  · obtain ⟨a, rfl, hG⟩ := r₂
    refine sorted_set C.room.1 hG (Nat.lt_of_le_of_lt (dd_len ns) hz) fun h' tk d S vs ns' hk hn hl hI hp hs => ?_
    have := ho ns' hp hs
    subst this
    refine ⟨(k₁.trans k₂).trans (Kp.all s₂ h' tk d hk), .list (not_held ((C.go k₁).go k₂).wd.held hn) hl (.of_ints hI)⟩

theorem evT_chain2 {l r1 r2 : Expr} {o1 o2 : CmpOp} {p : Pos} {d1 d2 d3 : D} {a b : Bool} (h1 : Ev Γ l d1) (h2 : Ev Γ r1 d2) (h3 : Ev Γ r2 d3) (ho1 : Op2 Γ (compareOp o1) d1 d2 (.bool a)) (ho2 : Op2 Γ (compareOp o2) d2 d3 (.bool b))
    (hm : lastMarks [o1, o2] [r1, r2] = false := by with_unfolding_all rfl) : EvT Γ (.Compare l [o1, o2] [r1, r2] p) (a && b) := .mk fun s C => by
  refine isTrue_chain (hm := hm) ((h1.run s C).then' fun v1 s₁ k₁ e1 => test_link ((h2.run s₁ (C.go k₁)).then' fun v2 s₂ k₂ e2 => (ho1.run v1 v2 s₂ ((C.go k₁).go k₂) (e1.keep k₂.k) e2).then' fun v s₃ k₃ e3 => ?_))
  (first | obtain ⟨_, rfl⟩ := e3.atom | exact (nsE e3).elim | exact (snE e3).elim | exact (ftE e3).elim | cases e3)
  refine wpAny_truthy_bool ?_
  cases a with
  | false => exact ⟨(k₁.trans k₂).trans k₃, rfl⟩
  | true =>
    have C₃ := ((C.go k₁).go k₂).go k₃
    refine test_last ((h3.run s₃ C₃).then' fun v3 s₄ k₄ e4 => (ho2.run v2 v3 s₄ (C₃.go k₄) ((e2.keep k₃.k).keep k₄.k) e4).then' fun v s₅ k₅ e5 => ?_)
    (first | obtain ⟨_, rfl⟩ := e5.atom | exact (nsE e5).elim | exact (snE e5).elim | exact (ftE e5).elim | cases e5)
    exact wpAny_truthy_bool ⟨(((k₁.trans k₂).trans k₃).trans k₄).trans k₅, rfl⟩
theorem op_neB {a b : Bool} : Op2 Γ (compareOp .NotEq) (.bool a) (.bool b) (.bool (a != b)) := .mk fun _ _ s _ r₁ r₂ => by (first | obtain ⟨_, rfl⟩ := r₁.atom | exact (nsE r₁).elim | exact (snE r₁).elim | exact (ftE r₁).elim | cases r₁); (first | obtain ⟨_, rfl⟩ := r₂.atom | exact (nsE r₂).elim | exact (snE r₂).elim | exact (ftE r₂).elim | cases r₂); exact ne_bool ⟨Kp.refl s, .bool _⟩
/-- a comparison as a value -/
theorem ev_cmpB {l r : Expr} {op : CmpOp} {p : Pos} {d1 d2 : D} {b : Bool} (h1 : Ev Γ l d1) (h2 : Ev Γ r d2) (ho : Op2 Γ (compareOp op) d1 d2 (.bool b)) (hm : behindInMarks op r = false := by with_unfolding_all rfl) : Ev Γ (.Compare l [op] [r] p) (.bool b) := ev_cmp h1 h2 ho hm
end
section
variable {K : Frag} {prog : Program} {w : World} {n : Nat}
theorem fn_list {ds : List D} (hz : ds.length ≤ 16384) : FnL K prog w n (.type "list") [.list ds] ds := .mk fun A base S s vals hr hw r => by
  obtain ⟨v, rfl, r₁⟩ := r.one
  obtain ⟨l, vs, rfl, _, ⟨c, hl⟩, rs⟩ := r₁.list_inv
  have e := rs.length
  have hsz : sizeLine = 16777216 := by decide
  refine call_list_seq (T := "list") (items := vs.toArray) (n := c) l (.inl rfl) hl rfl rfl (fun h' c' hk ho => ⟨Kp.heap s h' hk, _, vs, rfl, get_size _ (Nat.le_refl _), ⟨c', ho⟩, ?_⟩) (by simp; omega)
  exact (rs.avoid (S' := fun b => S b ∨ b = s.heap.objs.size) fun b q => q.elim .inl fun e => .inr (by rw [e]; exact get_size _ (Nat.le_refl _))).keep hk
end
theorem EqD.tints (n : Nat) (ns ms : List Int) (h : ns.length = ms.length) : EqD (n + 1) (.tuple (ns.map .int)) (.tuple (ms.map .int)) (decide (ns = ms)) := by
  rw [← range_all_get ns ms h, show ns.length = (ns.map D.int).length by simp]
  refine .tuple _ (by simpa using h) fun j d e hd he => ?_
  rw [List.getElem?_map] at hd he
  cases h1 : ns[j]? with
  | none => rw [h1] at hd; (first | obtain ⟨_, rfl⟩ := hd.atom | exact (nsE hd).elim | exact (snE hd).elim | exact (ftE hd).elim | cases hd)
  | some a =>
    cases h2 : ms[j]? with
    | none => rw [h2] at he; (first | obtain ⟨_, rfl⟩ := he.atom | exact (nsE he).elim | exact (snE he).elim | exact (ftE he).elim | cases he)
    | some b =>
      rw [h1] at hd; rw [h2] at he
      (first | obtain ⟨_, rfl⟩ := hd.atom | exact (nsE hd).elim | exact (snE hd).elim | exact (ftE hd).elim | cases hd); (first | obtain ⟨_, rfl⟩ := he.atom | exact (nsE he).elim | exact (snE he).elim | exact (ftE he).elim | cases he)
      have := EqD.int n a b
      simpa using this
-- part M1
/-- the longest beginning of w, no longer than k, that ends s -/
noncomputable def lonF (w s : List Int) : Nat → Nat
  | 0 => 0
  | k + 1 => if w.take (k + 1) <:+ s then k + 1 else lonF w s k
noncomputable def lon (w s : List Int) : Nat := lonF w s w.length
theorem lonF_le (w s : List Int) : ∀ k, lonF w s k ≤ k
  | 0 => Nat.le_refl _
  | k + 1 => by unfold lonF; split; exact Nat.le_refl _; exact Nat.le_succ_of_le (lonF_le w s k)
theorem lonF_suf (w s : List Int) : ∀ k, w.take (lonF w s k) <:+ s
  | 0 => by simp [lonF]
  | k + 1 => by unfold lonF; split; assumption; exact lonF_suf w s k
theorem lonF_max (w s : List Int) : ∀ k j, j ≤ k → w.take j <:+ s → j ≤ lonF w s k
  | 0, j, h, _ => by omega
  | k + 1, j, h, q => by
    unfold lonF
    split
    · exact h
    · rename_i hn
      rcases Nat.lt_or_ge j (k + 1) with z | z
      · exact lonF_max w s k j (by omega) q
      · exact absurd ((show j = k + 1 by omega) ▸ q) hn
section
variable {w s t : List Int}
theorem lon_le : lon w s ≤ w.length := lonF_le w s _
theorem lon_suf : w.take (lon w s) <:+ s := lonF_suf w s _
theorem lon_max {j : Nat} (h : j ≤ w.length) (q : w.take j <:+ s) : j ≤ lon w s := lonF_max w s _ j h q
theorem take_len {j : Nat} (h : j ≤ w.length) : (w.take j).length = j := by rw [List.length_take]; omega
theorem lon_le' : lon w s ≤ s.length := by
  have := lon_suf (w := w) (s := s) |>.length_le
  rwa [take_len lon_le] at this
/-- the same beginnings end both: the same longest one -/
theorem lon_eq {M : Nat} (h1 : M ≤ w.length) (h2 : w.take M <:+ s) (h3 : ∀ j, j ≤ w.length → w.take j <:+ s → j ≤ M) : lon w s = M := Nat.le_antisymm (h3 _ lon_le lon_suf) (lon_max h1 h2)
theorem lon_congr (h : ∀ j, j ≤ w.length → (w.take j <:+ s ↔ w.take j <:+ t)) : lon w s = lon w t := lon_eq lon_le ((h _ lon_le).mpr lon_suf) fun j hj q => lon_max hj ((h j hj).mp q)
theorem suf_lon {j : Nat} (hj : j ≤ w.length) : w.take j <:+ s ↔ w.take j <:+ w.take (lon w s) :=
  ⟨fun q => List.suffix_of_suffix_length_le q lon_suf (by rw [take_len hj, take_len lon_le]; exact lon_max hj q), fun q => q.trans lon_suf⟩
theorem take_snoc {j : Nat} (hj : j < w.length) : w.take (j + 1) = w.take j ++ [w.getD j 0] := by
  rw [List.take_add_one, List.getElem?_eq_getElem hj]; simp [hj]
theorem snoc_suf {j : Nat} {c : Int} (hj : j < w.length) : w.take (j + 1) <:+ s ++ [c] ↔ w.take j <:+ s ∧ w.getD j 0 = c := by
  rw [take_snoc hj, List.suffix_append_inj_of_length_eq (show [w.getD j 0].length = [c].length from rfl)]
  constructor
  · rintro ⟨a, b⟩; exact ⟨a, by simpa using b⟩
  · rintro ⟨a, b⟩; exact ⟨a, by rw [b]⟩
theorem snoc_iff {j : Nat} {c : Int} (hj : j ≤ w.length) : w.take j <:+ s ++ [c] ↔ j = 0 ∨ ∃ i, j = i + 1 ∧ w.take i <:+ s ∧ w.getD i 0 = c := by
  cases j with
  | zero => simp
  | succ i => rw [snoc_suf (by omega)]; simp
/-- a letter more: what was longest before tells what is longest now -/
theorem lon_snoc (c : Int) : lon w (s ++ [c]) = lon w (w.take (lon w s) ++ [c]) := lon_congr fun j hj => by
  rw [snoc_iff hj, snoc_iff hj]
  constructor
  · rintro (h | ⟨i, h1, h2, h3⟩)
    · exact .inl h
    · exact .inr ⟨i, h1, (suf_lon (by omega)).mp h2, h3⟩
  · rintro (h | ⟨i, h1, h2, h3⟩)
    · exact .inl h
    · exact .inr ⟨i, h1, (suf_lon (by omega)).mpr h2, h3⟩

/-- the longest proper beginning that ends the first m letters -/
noncomputable def bd (w : List Int) (m : Nat) : Nat := lon w ((w.take m).drop 1)
/-- the arrow -/
noncomputable def nx (w : List Int) (c : Int) (q : Nat) : Nat := lon w (w.take q ++ [c])
theorem bd_lt {m : Nat} (h : 1 ≤ m) (hm : m ≤ w.length) : bd w m < m := by
  have := lon_le' (w := w) (s := (w.take m).drop 1)
  rw [List.length_drop, take_len hm] at this
  unfold bd; omega
theorem bd_le {m : Nat} : bd w m ≤ m - 1 := by
  have := lon_le' (w := w) (s := (w.take m).drop 1)
  rw [List.length_drop, List.length_take] at this
  unfold bd; omega
theorem bd_suf {m : Nat} : w.take (bd w m) <:+ w.take m := lon_suf.trans (List.drop_suffix _ _)
theorem proper_suf {m j : Nat} (hm : m ≤ w.length) (hj : j < m) : w.take j <:+ (w.take m).drop 1 ↔ w.take j <:+ w.take m :=
  ⟨fun q => q.trans (List.drop_suffix _ _), fun q => List.suffix_of_suffix_length_le q (List.drop_suffix _ _) (by rw [List.length_drop, take_len hm, take_len (by omega)]; omega)⟩
theorem bd_max {m j : Nat} (hm : m ≤ w.length) (hj : j < m) (q : w.take j <:+ w.take m) : j ≤ bd w m := lon_max (by omega) ((proper_suf hm hj).mpr q)

theorem nx_le {c : Int} {q : Nat} : nx w c q ≤ w.length := lon_le
theorem nx_step {c : Int} {q : Nat} (hq : q ≤ w.length) : nx w c q = if q < w.length ∧ w.getD q 0 = c then q + 1 else if q = 0 then 0 else nx w c (bd w q) := by
  split
  · rename_i h
    refine lon_eq h.1 ((snoc_suf h.1).mpr ⟨List.suffix_refl _, h.2⟩) fun j hj s => ?_
    have := s.length_le
    rw [take_len hj, List.length_append, take_len hq] at this
    simpa using this
  · rename_i h
    split
    · rename_i h0
      subst h0
      refine lon_eq (Nat.zero_le _) (by simp) fun j hj s => ?_
      rcases (snoc_iff hj).mp s with e | ⟨i, rfl, e1, e2⟩
      · omega
      · have := e1.length_le
        rw [take_len (by omega)] at this
        simp at this
        subst this
        exact absurd ⟨by omega, e2⟩ h
    · rename_i h0
      show lon w _ = lon w _
      rw [show bd w q = lon w ((w.take q).drop 1) from rfl, ← lon_snoc]
      refine lon_congr fun j hj => ?_
      rw [snoc_iff hj, snoc_iff hj]
      constructor
      · rintro (e | ⟨i, rfl, e1, e2⟩)
        · exact .inl e
        · have hi := e1.length_le
          rw [take_len (by omega), take_len hq] at hi
          have : i ≠ q := fun z => h ⟨by omega, by rw [← z]; exact e2⟩
          exact .inr ⟨i, rfl, (proper_suf hq (by omega)).mpr e1, e2⟩
      · rintro (e | ⟨i, rfl, e1, e2⟩)
        · exact .inl e
        · exact .inr ⟨i, rfl, e1.trans (List.drop_suffix _ _), e2⟩
theorem bd_succ {i : Nat} (h1 : 1 ≤ i) (hi : i < w.length) : bd w (i + 1) = nx w (w.getD i 0) (bd w i) := by
  show lon w _ = lon w _
  rw [show bd w i = lon w ((w.take i).drop 1) from rfl, ← lon_snoc, take_snoc hi, List.drop_append_of_le_length (by rw [take_len (by omega)]; exact h1)]
theorem lon_nil : lon w [] = 0 := by have := lon_le' (w := w) (s := []); simpa using this
/-- along a text -/
theorem lon_text {text : List Int} {k : Nat} (hk : k < text.length) : lon w (text.take (k + 1)) = nx w (text.getD k 0) (lon w (text.take k)) := by
  rw [show text.take (k + 1) = text.take k ++ [text.getD k 0] from take_snoc hk, lon_snoc]; rfl
/-- arrows that do not lead to nought are written with the last letter -/
theorem nx_letter {c : Int} {q j : Nat} (h : nx w c q = j + 1) : w.getD j 0 = c ∧ w.take j <:+ w.take q ∧ j < w.length := by
  have hl := nx_le (w := w) (c := c) (q := q)
  have := lon_suf (w := w) (s := w.take q ++ [c])
  rw [show lon w (w.take q ++ [c]) = j + 1 from h] at this
  have hj : j < w.length := by omega
  have := (snoc_suf hj).mp this
  exact ⟨this.2, this.1, hj⟩
theorem nx_bound {c : Int} {q : Nat} (hq : q ≤ w.length) : nx w c q ≤ q + 1 := by
  have := lon_le' (w := w) (s := w.take q ++ [c])
  rw [List.length_append, take_len hq] at this
  exact this
theorem nx_full {c : Int} {q : Nat} (hq : q < w.length) : nx w c q = q + 1 ↔ w.getD q 0 = c := by
  constructor
  · exact fun h => (nx_letter h).1
  · intro h; rw [nx_step (by omega), if_pos ⟨hq, h⟩]
/-- Simon: no two arrows lead back by as much -/
theorem simon {c c' : Int} {k k' j j' : Nat} (hk' : k' ≤ w.length) (hlt : k < k') (h : nx w c k = j) (h' : nx w c' k' = j') (hj : 1 ≤ j) (hjk : j ≤ k) (hj' : 1 ≤ j') (e : k - j = k' - j') (hjk' : j' ≤ k') : False := by
  obtain ⟨i, rfl⟩ : ∃ i, j = i + 1 := ⟨j - 1, by omega⟩
  obtain ⟨i', rfl⟩ : ∃ i', j' = i' + 1 := ⟨j' - 1, by omega⟩
  obtain ⟨a1, a2, a3⟩ := nx_letter h
  obtain ⟨b1, b2, b3⟩ := nx_letter h'
  -- the letter at k stands at i too
  have hkl : k < w.length := by omega
  have e2 := List.suffix_iff_eq_drop.mp b2
  rw [take_len hk', take_len (by omega)] at e2
  have hk1 : (w.take i')[i]? = some (w.getD i 0) := by rw [List.getElem?_take_of_lt (by omega), List.getElem?_eq_getElem (by omega)]; simp [show i < w.length by omega]
  have hk2 : ((w.take k').drop (k' - i'))[i]? = some (w.getD k 0) := by
    rw [List.getElem?_drop, List.getElem?_take_of_lt (by omega), show k' - i' + i = k by omega, List.getElem?_eq_getElem hkl]; simp [hkl]
  rw [e2, hk2] at hk1
  have : w.getD k 0 = c := by rw [← a1]; simpa using hk1
  have := (nx_full (c := c) hkl).mpr this
  omega
end
-- part M2
section
variable {w : List Int}
theorem isLon_lon (w s : List Int) : IsLon w s (lon w s) := by
  refine ⟨by have := lon_le (w := w) (s := s); have := lon_le' (w := w) (s := s); omega, ?_, fun k hk e => lon_max (by omega) ?_⟩
  · have := List.suffix_iff_eq_drop.mp (lon_suf (w := w) (s := s))
    rw [take_len lon_le] at this
    exact this.symm
  · rw [← e]; exact List.drop_suffix _ _
/-- the table -/
noncomputable def piW (w : List Int) (j : Nat) : Nat := bd w (j + 1)
theorem piW_le (j : Nat) : piW w j ≤ j := by have := bd_le (w := w) (m := j + 1); unfold piW; omega
theorem piW_pred {m : Nat} (h : 1 ≤ m) : piW w (m - 1) = bd w m := by unfold piW; rw [show m - 1 + 1 = m by omega]
theorem tabLaw (w : List Int) : TabLaw w (piW w) (fun i idx => nx w (w.getD i 0) idx) where
  le := piW_le
  step := fun i idx h1 h2 => by
    show nx w (w.getD i 0) idx = _
    rw [nx_step (by omega)]
    by_cases e : w.getD i 0 = w.getD idx 0
    · rw [if_pos e, if_pos ⟨by omega, e.symm⟩]
    · rw [if_neg e, if_neg fun z => e z.2.symm]
      split
      · rfl
      · rename_i h; rw [piW_pred (by omega)]
  out := fun i h1 h2 => by
    show bd w (i + 1) = nx w (w.getD i 0) (piW w (i - 1))
    rw [piW_pred h1, bd_succ h1 h2]
theorem nextLaw (w : List Int) (c : Int) : NextLaw w (piW w) c (nx w c) where
  le := piW_le
  step := fun q hq => by
    rw [nx_step hq]
    split
    · rfl
    · split
      · rfl
      · rw [piW_pred (by omega)]
theorem runLaw (w text : List Int) : RunLaw w text (piW w) (fun k => lon w (text.take k)) where
  le := piW_le
  q0 := lon_nil
  qle := fun k => lon_le
  next := fun k hk => ⟨_, nextLaw w _, lon_text hk⟩
theorem tabAt_full (m : Nat) (pi : Nat → Nat) : tabAt m pi (m - 1) = (List.range m).map fun j : Nat => (pi j : Int) := by
  unfold tabAt
  apply List.map_congr_left
  intro j hj
  have : j < m := by simpa using hj
  rw [if_pos (by omega)]
theorem isMax_bd {m : Nat} (h1 : 1 ≤ m) (hm : m ≤ w.length) : IsMax (bd w m : Int) (((List.range m).filter fun k => decide ((w.drop (m - k)).take k = w.take k)).map fun k : Nat => (k : Int)) := by
  have key : ∀ k, k < m → ((w.drop (m - k)).take k = w.take k ↔ w.take k <:+ w.take m) := fun k hk => by
    rw [List.suffix_iff_eq_drop, take_len hm, take_len (by omega), List.drop_take, show m - (m - k) = k by omega]
    exact ⟨fun h => h.symm, fun h => h.symm⟩
  refine ⟨List.mem_map.mpr ⟨bd w m, List.mem_filter.mpr ⟨by simpa using bd_lt h1 hm, ?_⟩, rfl⟩, fun a ha => ?_⟩
  · rw [decide_eq_true_eq, key _ (bd_lt h1 hm)]; exact bd_suf
  · obtain ⟨k, hk, rfl⟩ := List.mem_map.mp ha
    obtain ⟨h2, h3⟩ := List.mem_filter.mp hk
    have hk' : k < m := by simpa using h2
    rw [decide_eq_true_eq, key _ hk'] at h3
    have := bd_max hm hk' h3
    omega

/-- in the tree of beginnings: between a beginning and what it ends lies one child -/
theorem child_ex {z : Nat} : ∀ (T : Nat), T ≤ w.length → z < T → w.take z <:+ w.take T → ∃ m, z < m ∧ m ≤ T ∧ bd w m = z ∧ w.take m <:+ w.take T := fun T => by
  induction T using Nat.strongRecOn with
  | _ T ih =>
    intro hT hz hs
    have h1 := bd_max hT hz hs
    rcases Nat.lt_or_ge z (bd w T) with q | q
    · have hlt := bd_lt (w := w) (m := T) (by omega) hT
      obtain ⟨m, a, b, c, d⟩ := ih (bd w T) hlt (by omega) q (List.suffix_of_suffix_length_le hs bd_suf (by rw [take_len (by omega), take_len (by omega)]; omega))
      exact ⟨m, a, by omega, c, d.trans bd_suf⟩
    · exact ⟨T, hz, Nat.le_refl _, by omega, List.suffix_refl _⟩
theorem child_uniq {z m m' T : Nat} (hm : m ≤ w.length) (hm' : m' ≤ w.length) (h1 : 1 ≤ m) (h1' : 1 ≤ m') (e : bd w m = z) (e' : bd w m' = z) (s : w.take m <:+ w.take T) (s' : w.take m' <:+ w.take T) : m = m' := by
  have aux : ∀ {a b : Nat}, a ≤ w.length → b ≤ w.length → 1 ≤ a → bd w a = z → bd w b = z → w.take a <:+ w.take T → w.take b <:+ w.take T → ¬ a < b := fun {a b} ha hb h ea eb sa sb hlt => by
    have := bd_max hb hlt (List.suffix_of_suffix_length_le sa sb (by rw [take_len ha, take_len hb]; omega))
    have := bd_lt h ha
    omega
  have := aux hm hm' h1 e e' s s'
  have := aux hm' hm h1' e' e s' s
  omega
end

-- sums
theorem sum_filter_if (l : List Nat) (P : Nat → Bool) (f : Nat → Int) : ((l.filter P).map f).sum = (l.map fun p => if P p = true then f p else 0).sum := by
  induction l with
  | nil => rfl
  | cons p l ih =>
    rw [List.filter_cons, List.map_cons, List.sum_cons, ← ih]
    by_cases h : P p = true
    · rw [if_pos h, if_pos h]; rfl
    · rw [if_neg h, if_neg h]; simp
theorem sum_map_add (l : List Nat) (f g : Nat → Int) : (l.map fun p => f p + g p).sum = (l.map f).sum + (l.map g).sum := by
  induction l with
  | nil => rfl
  | cons p l ih => simp only [List.map_cons, List.sum_cons, ih]; omega
theorem sum_zero (l : List Nat) : (l.map fun _ => (0 : Int)).sum = 0 := by
  induction l with
  | nil => rfl
  | cons p l ih => simp only [List.map_cons, List.sum_cons, ih]; rfl
theorem sum_swap (ms l : List Nat) (g : Nat → Nat → Int) : (ms.map fun m => (l.map fun p => g m p).sum).sum = (l.map fun p => (ms.map fun m => g m p).sum).sum := by
  induction ms with
  | nil => simp only [List.map_nil, List.sum_nil]; exact (sum_zero l).symm
  | cons m ms ih => simp only [List.map_cons, List.sum_cons, ih, sum_map_add]
theorem sum_none {ms : List Nat} {P : Nat → Bool} (x : Int) (h : ∀ m ∈ ms, P m = false) : (ms.map fun m => if P m = true then x else 0).sum = 0 := by
  rw [List.map_congr_left (g := fun _ => (0 : Int)) fun m hm => by rw [h m hm]; rfl]
  exact sum_zero ms
theorem sum_one {ms : List Nat} {P : Nat → Bool} {x : Int} {m₀ : Nat} (hn : ms.Nodup) (h0 : m₀ ∈ ms) (hp : P m₀ = true) (h : ∀ m ∈ ms, P m = true → m = m₀) : (ms.map fun m => if P m = true then x else 0).sum = x := by
  induction ms with
  | nil => (first | obtain ⟨_, rfl⟩ := h0.atom | exact (nsE h0).elim | exact (snE h0).elim | exact (ftE h0).elim | cases h0)
  | cons m ms ih =>
    rw [List.nodup_cons] at hn
    rw [List.map_cons, List.sum_cons]
    rcases List.mem_cons.mp h0 with e | e
    · subst e
      rw [if_pos hp, sum_none x fun m hm => ?_]; · omega
      cases q : P m with
      | false => rfl
      | true => exact absurd (h m (.tail _ hm) q ▸ hm) hn.1
    · have hne : P m = false := by
        cases q : P m with
        | false => rfl
        | true => exact absurd (h m (.head _) q ▸ e) hn.1
      rw [hne, ih hn.2 e fun a ha => h a (.tail _ ha)]
      simp

section
variable {w text : List Int}
noncomputable def topW (w text : List Int) (p : Nat) : Nat := lon w (text.take (p + 1))
theorem topW_le {p : Nat} : topW w text p ≤ w.length := lon_le
theorem topW_le' {p : Nat} : topW w text p ≤ p + 1 := by
  have := lon_le' (w := w) (s := text.take (p + 1))
  rw [List.length_take] at this
  unfold topW; omega
noncomputable def enB (w text : List Int) (m p : Nat) : Bool := decide (w.take m <:+ w.take (topW w text p))
theorem ends_is {size : Nat} (hs : size ≤ w.length) : endsOf w text (topW w text) size = (List.range text.length).filter (enB w text size) := by
  unfold endsOf
  apply List.filter_congr
  intro p hp
  have hp' : p < text.length := by simpa using hp
  unfold enB
  rw [Bool.eq_iff_iff]
  simp only [Bool.and_eq_true, decide_eq_true_eq]
  have hT := suf_lon (w := w) (s := text.take (p + 1)) hs
  have key : size ≤ p + 1 → ((text.drop (p + 1 - size)).take size = w.take size ↔ w.take size <:+ text.take (p + 1)) := fun h => by
    rw [List.suffix_iff_eq_drop, take_len hs, List.length_take, show min (p + 1) text.length = p + 1 by omega, List.drop_take, show p + 1 - (p + 1 - size) = size by omega]
    exact ⟨fun h => h.symm, fun h => h.symm⟩
  constructor
  · rintro ⟨h1, h2⟩
    have := topW_le' (w := w) (text := text) (p := p)
    exact hT.mp ((key (by omega)).mp h2)
  · intro h
    have h3 := hT.mpr h
    have h4 : size ≤ topW w text p := lon_max hs h3
    have := topW_le' (w := w) (text := text) (p := p)
    exact ⟨h4, (key (by omega)).mpr h3⟩
/-- the children taken from the greatest on -/
noncomputable def chl (w : List Int) (z j : Nat) : List Nat := ((List.range j).map fun i => w.length - i).filter fun m => decide (bd w m = z)
theorem chl_succ {z j : Nat} : chl w z (j + 1) = chl w z j ++ (if bd w (w.length - j) = z then [w.length - j] else []) := by
  unfold chl
  rw [List.range_succ, List.map_append, List.filter_append]
  congr 1
  by_cases h : bd w (w.length - j) = z <;> simp [h]
theorem chl_mem {z j m : Nat} (hj : j ≤ w.length) : m ∈ chl w z j ↔ w.length - j < m ∧ m ≤ w.length ∧ bd w m = z := by
  unfold chl
  rw [List.mem_filter, List.mem_map]
  simp only [List.mem_range, decide_eq_true_eq]
  constructor
  · rintro ⟨⟨i, h1, rfl⟩, h2⟩; exact ⟨by omega, by omega, h2⟩
  · rintro ⟨h1, h2, h3⟩; exact ⟨⟨w.length - m, by omega, by omega⟩, h3⟩
theorem chl_nodup {z j : Nat} (hj : j ≤ w.length) : (chl w z j).Nodup := by
  refine List.Pairwise.filter _ ?_
  rw [List.pairwise_map]
  refine List.Pairwise.imp_of_mem ?_ List.nodup_range
  intro a b ha hb h e
  simp at ha hb
  omega
theorem chl_full {z j : Nat} (hj : j ≤ w.length) (hz : w.length - j ≤ z) : chl w z w.length = chl w z j := by
  have : ∀ d, j + d ≤ w.length → chl w z (j + d) = chl w z j := fun d => by
    induction d with
    | zero => intro _; rfl
    | succ d ih =>
      intro h
      rw [show j + (d + 1) = j + d + 1 by omega, chl_succ, ih (by omega), if_neg, List.append_nil]
      have := bd_lt (w := w) (m := w.length - (j + d)) (by omega) (by omega)
      omega
  have h := this (w.length - j) (by omega)
  rwa [show j + (w.length - j) = w.length by omega] at h

theorem ends_sum {z : Nat} (hz : z ≤ w.length) (f : Nat → Int) : ((endsOf w text (topW w text) z).map f).sum = (((List.range text.length).filter fun p => decide (topW w text p = z)).map f).sum + ((chl w z w.length).map fun m => ((endsOf w text (topW w text) m).map f).sum).sum := by
  have h1 : ((chl w z w.length).map fun m => ((endsOf w text (topW w text) m).map f).sum) = (chl w z w.length).map fun m => ((List.range text.length).map fun p => if enB w text m p = true then f p else 0).sum := by
    apply List.map_congr_left
    intro m hm
    have := (chl_mem (Nat.le_refl _)).mp hm
    rw [ends_is (by omega), sum_filter_if]
  rw [h1, sum_swap, ends_is hz, sum_filter_if, sum_filter_if, ← sum_map_add]
  congr 1
  apply List.map_congr_left
  intro p _
  have hT := topW_le (w := w) (text := text) (p := p)
  by_cases he : topW w text p = z
  · rw [if_pos (by unfold enB; rw [he]; simp), if_pos (by simpa using he), sum_none _ fun m hm => ?_]; · omega
    have hm' := (chl_mem (Nat.le_refl _)).mp hm
    unfold enB
    rw [decide_eq_false_iff_not]
    intro s
    have := s.length_le
    rw [take_len hm'.2.1, take_len hT] at this
    have := bd_lt (w := w) (m := m) (by omega) hm'.2.1
    omega
  · have hz2 : (if decide (topW w text p = z) = true then f p else 0) = 0 := if_neg (by simpa using he)
    rw [hz2]
    by_cases hs : w.take z <:+ w.take (topW w text p)
    · rw [if_pos (by unfold enB; simpa using hs)]
      have hlt : z < topW w text p := by
        have := hs.length_le
        rw [take_len hz, take_len hT] at this
        omega
      obtain ⟨m, a, b, c, d⟩ := child_ex _ hT hlt hs
      rw [sum_one (m₀ := m) (chl_nodup (Nat.le_refl _)) ((chl_mem (Nat.le_refl _)).mpr ⟨by omega, by omega, c⟩) (by unfold enB; simpa using d) fun m' hm' q => ?_]; · omega
      have hm'' := (chl_mem (Nat.le_refl _)).mp hm'
      unfold enB at q
      exact child_uniq (z := z) hm''.2.1 (by omega) (by omega) (by omega) hm''.2.2 c (by simpa using q) d
    · rw [if_neg (by unfold enB; simpa using hs), sum_none _ fun m hm => ?_]; · rfl
      have hm' := (chl_mem (Nat.le_refl _)).mp hm
      unfold enB
      rw [decide_eq_false_iff_not]
      intro s
      exact hs (by rw [← hm'.2.2]; exact bd_suf.trans s)
end
-- part M3
theorem upd_map {N i : Nat} {g g' : Nat → St} {a b c d : Int} {kv : List (Int × Int)} (hi : i < N) (h1 : (g i).add a b c d kv = g' i) (h2 : ∀ z, z < N → z ≠ i → g z = g' z) : upd ((List.range N).map g) i a b c d kv = (List.range N).map g' := by
  unfold upd
  have e : ((List.range N).map g).getD i ⟨0, 0, 0, 0, []⟩ = g i := by simp [hi]
  rw [e, h1]
  apply List.ext_getElem?
  intro j
  rw [List.getElem?_set]
  by_cases hj : i = j
  · subst hj
    simp [hi]
  · rw [if_neg hj]
    rcases Nat.lt_or_ge j N with q | q
    · simp [q, h2 j q fun z => hj z.symm]
    · rw [List.getElem?_eq_none (by simpa using q), List.getElem?_eq_none (by simpa using q)]
theorem putAll_nodup {K : Type} [DecidableEq K] {kv : List (K × Int)} (h : (kv.map (·.1)).Nodup) : putAll kv = kv := by
  unfold putAll
  rw [foldl_put_new (fun p : K × Int => p.1) (fun p => p.2) kv [] (by simpa using h)]
  simp
theorem lookD_none {K : Type} [DecidableEq K] {kv : List (K × Int)} {k : K} (h : k ∉ kv.map (·.1)) : lookD kv k = none := by
  unfold lookD
  rw [List.find?_eq_none.mpr fun p hp e => h (List.mem_map.mpr ⟨p, hp, by simpa using e⟩)]
  rfl
theorem addAll_new {K : Type} [DecidableEq K] {kv : List (K × Int)} {k : K} {x : Int} (h : (kv.map (·.1)).Nodup) (hk : k ∉ kv.map (·.1)) : addAll kv [(k, x)] = kv ++ [(k, x)] := by
  unfold addAll
  rw [putAll_nodup h]
  show addKV kv (k, x) = _
  unfold addKV
  rw [lookD_none hk, put_new hk]
  simp
theorem eqKV_perm {K : Type} [DecidableEq K] {k1 k2 : List (K × Int)} (p : k1.Perm k2) (h : (k1.map (·.1)).Nodup) : eqKV k1 k2 = true := by
  have h2 : (k2.map (·.1)).Nodup := (p.map _).nodup_iff.mp h
  unfold eqKV
  rw [p.length_eq]
  simp only [beq_self_eq_true, Bool.true_and, List.all_eq_true]
  intro x hx
  rw [lookD_mem h2 x (p.mem_iff.mp hx)]; simp
theorem sum_ones (l : List Nat) : (l.map fun _ => (1 : Int)).sum = (l.length : Int) := by
  induction l with
  | nil => rfl
  | cons p l ih => simp only [List.map_cons, List.sum_cons, ih, List.length_cons]; omega
theorem sum_twice (l : List Nat) (f : Nat → Int) : (l.map fun p => 2 * f p).sum = 2 * (l.map f).sum := by
  induction l with
  | nil => rfl
  | cons p l ih => simp only [List.map_cons, List.sum_cons, ih]; omega

section
variable (w text : List Int)
noncomputable def plc (k z : Nat) : List Nat := (List.range k).filter fun p => decide (topW w text p = z)
noncomputable def kv0 (m : Nat) : List (Int × Int) := if m = 0 then [] else [(0, 2 * (m : Int))]
noncomputable def R1 (k z : Nat) : St := ⟨(plc w text k z).length, 2 * ((plc w text k z).length : Int), ((plc w text k z).map fun p : Nat => (p : Int)).sum, ((plc w text k z).map fun p => (topW w text p : Int)).sum, kv0 (plc w text k z).length⟩
noncomputable def EE (m : Nat) : List Nat := endsOf w text (topW w text) m
noncomputable def R2 (j z : Nat) : St := ⟨(plc w text text.length z).length, 2 * ((plc w text text.length z).length : Int) + ((chl w z j).map fun m => 2 * ((EE w text m).length : Int)).sum, ((plc w text text.length z).map fun p : Nat => (p : Int)).sum + ((chl w z j).map fun m => ((EE w text m).map fun p : Nat => (p : Int)).sum).sum,
  ((plc w text text.length z).map fun p => (topW w text p : Int)).sum + ((chl w z j).map fun m => ((EE w text m).map fun p => (topW w text p : Int)).sum).sum, kv0 (plc w text text.length z).length ++ (chl w z j).map fun m : Nat => ((m : Int), 2 * ((EE w text m).length : Int))⟩
variable {w text}
theorem plc_succ {k z : Nat} : plc w text (k + 1) z = plc w text k z ++ (if topW w text k = z then [k] else []) := by
  unfold plc
  rw [List.range_succ, List.filter_append]
  congr 1
  by_cases h : topW w text k = z <;> simp [h]
theorem kv0_add (m : Nat) : addAll (kv0 m) [(0, 2)] = kv0 (m + 1) := by
  cases m with
  | zero => rfl
  | succ m =>
    unfold kv0
    rw [if_neg (by omega), if_neg (by omega)]
    show [((0 : Int), 2 * ((m + 1 : Nat) : Int) + 2)] = _
    congr 2
theorem run1_is (k : Nat) : run1 w.length (fun k => lon w (text.take k)) k = (List.range (w.length + 1)).map (R1 w text k) := by
  induction k with
  | zero =>
    show run0 w.length = _
    unfold run0
    apply List.ext_getElem?
    intro j
    rcases Nat.lt_or_ge j (w.length + 1) with q | q
    · rw [List.getElem?_replicate, if_pos q, List.getElem?_map, List.getElem?_range q]; rfl
    · rw [List.getElem?_eq_none (by simpa using q), List.getElem?_eq_none (by simpa using q)]
  | succ k ih =>
    show upd (run1 w.length _ k) (topW w text k) 1 2 (k : Int) (topW w text k : Int) [(0, 2)] = _
    rw [ih]
    refine upd_map (by have := topW_le (w := w) (text := text) (p := k); omega) ?_ fun z _ hz => ?_
    · have e : plc w text (k + 1) (topW w text k) = plc w text k (topW w text k) ++ [k] := by rw [plc_succ, if_pos rfl]
      unfold R1 St.add
      rw [e]
      simp only [List.length_append, List.length_singleton, List.map_append, List.sum_append, List.map_cons, List.map_nil, List.sum_cons, List.sum_nil, kv0_add]
      congr 1 <;> omega
    · have e : plc w text (k + 1) z = plc w text k z := by rw [plc_succ, if_neg (Ne.symm hz), List.append_nil]
      unfold R1; rw [e]
theorem EE_len {z j : Nat} (hz : z ≤ w.length) (hj : j ≤ w.length) (h : w.length - j ≤ z) : 2 * ((EE w text z).length : Int) = 2 * ((plc w text text.length z).length : Int) + ((chl w z j).map fun m => 2 * ((EE w text m).length : Int)).sum := by
  have := ends_sum (text := text) hz fun _ => 1
  simp only [sum_ones] at this
  rw [sum_twice, ← chl_full hj h]
  unfold EE plc
  omega
theorem EE_sum {z j : Nat} (hz : z ≤ w.length) (hj : j ≤ w.length) (h : w.length - j ≤ z) (f : Nat → Int) : ((EE w text z).map f).sum = ((plc w text text.length z).map f).sum + ((chl w z j).map fun m => ((EE w text m).map f).sum).sum := by
  rw [← chl_full hj h]
  exact ends_sum hz f
theorem kv_nodup {z j : Nat} (hj : j ≤ w.length) : ((R2 w text j z).kv.map (·.1)).Nodup := by
  show ((kv0 _ ++ (chl w z j).map fun m : Nat => ((m : Int), 2 * ((EE w text m).length : Int))).map (·.1)).Nodup
  rw [List.map_append, List.map_map]
  refine List.nodup_append.mpr ⟨?_, ?_, fun a ha b hb e => ?_⟩
  · unfold kv0; split <;> simp
  · refine List.pairwise_map.mpr ((chl_nodup hj).imp fun h e => h (Int.ofNat.inj e))
  · obtain ⟨m, hm, rfl⟩ := List.mem_map.mp hb
    have hm' := (chl_mem hj).mp hm
    unfold kv0 at ha
    split at ha
    · simp at ha
    · simp at ha
      have e' : a = (m : Int) := e
      omega
theorem R2_zero : (List.range (w.length + 1)).map (R1 w text text.length) = (List.range (w.length + 1)).map (R2 w text 0) := by
  apply List.map_congr_left
  intro z _
  unfold R1 R2
  have : chl w z 0 = [] := rfl
  rw [this]
  simp
theorem run2_is {j : Nat} (hj : j ≤ w.length) : run2 w.length (piW w) (run1 w.length (fun k => lon w (text.take k)) text.length) j = (List.range (w.length + 1)).map (R2 w text j) := by
  induction j with
  | zero => rw [← R2_zero, ← run1_is]; rfl
  | succ j ih =>
    have ih := ih (by omega)
    show upd (run2 w.length _ _ j) (piW w (w.length - j - 1)) 0 ((run2 w.length (piW w) _ j).getD (w.length - j) ⟨0, 0, 0, 0, []⟩).b _ _ [(((w.length - j : Nat) : Int), _)] = _
    rw [ih]
    have e : ((List.range (w.length + 1)).map (R2 w text j)).getD (w.length - j) ⟨0, 0, 0, 0, []⟩ = R2 w text j (w.length - j) := by
      rw [List.getD_eq_getElem?_getD, List.getElem?_map, List.getElem?_range (by omega)]; rfl
    rw [e, piW_pred (by omega)]
    have hb : (R2 w text j (w.length - j)).b = 2 * ((EE w text (w.length - j)).length : Int) := (EE_len (by omega) (by omega) (Nat.le_refl _)).symm
    have hc : (R2 w text j (w.length - j)).c = ((EE w text (w.length - j)).map fun p : Nat => (p : Int)).sum := (EE_sum (by omega) (by omega) (Nat.le_refl _) _).symm
    have hd : (R2 w text j (w.length - j)).d = ((EE w text (w.length - j)).map fun p => (topW w text p : Int)).sum := (EE_sum (by omega) (by omega) (Nat.le_refl _) _).symm
    rw [hb, hc, hd]
    have hlt := bd_lt (w := w) (m := w.length - j) (by omega) (by omega)
    refine upd_map (by omega) ?_ fun z _ hz => ?_
    · have ec : chl w (bd w (w.length - j)) (j + 1) = chl w (bd w (w.length - j)) j ++ [w.length - j] := by rw [chl_succ, if_pos rfl]
      have ek : addAll (R2 w text j (bd w (w.length - j))).kv [(((w.length - j : Nat) : Int), 2 * ((EE w text (w.length - j)).length : Int))] = (R2 w text j (bd w (w.length - j))).kv ++ [(((w.length - j : Nat) : Int), 2 * ((EE w text (w.length - j)).length : Int))] := by
        refine addAll_new (kv_nodup (by omega)) fun hm => ?_
        have hm : ((w.length - j : Nat) : Int) ∈ (kv0 (plc w text text.length (bd w (w.length - j))).length ++ (chl w (bd w (w.length - j)) j).map fun m : Nat => ((m : Int), 2 * ((EE w text m).length : Int))).map (·.1) := hm
        rw [List.map_append, List.mem_append] at hm
        rcases hm with h | h
        · unfold kv0 at h
          split at h
          · simp at h
          · simp at h; omega
        · rw [List.map_map] at h
          obtain ⟨m, hm, em⟩ := List.mem_map.mp h
          have hm' := (chl_mem (by omega)).mp hm
          have em' : (m : Int) = ((w.length - j : Nat) : Int) := em
          omega
      unfold St.add
      rw [ek]
      unfold R2
      rw [ec]
      simp only [List.map_append, List.sum_append, List.map_cons, List.map_nil, List.sum_cons, List.sum_nil, List.append_assoc]
      congr 1 <;> omega
    · have ec : chl w z (j + 1) = chl w z j := by rw [chl_succ, if_neg (Ne.symm hz), List.append_nil]
      unfold R2; rw [ec]

/-- the run's entries are what is due -/
theorem own_is {z : Nat} : ownT text (topW w text) z = (plc w text text.length z).length := by
  unfold ownT topsI plc
  rw [List.filter_map, List.length_map]
  congr 1
  apply List.filter_congr
  intro p _
  rw [Bool.eq_iff_iff]
  simp only [Function.comp, beq_iff_eq, decide_eq_true_eq]
  omega
theorem endsI_len (m : Nat) : ((endsI w text (topW w text) m).length : Int) = (EE w text m).length := by unfold endsI EE; rw [List.length_map]
theorem due_kv {z : Nat} (hz : z ≤ w.length) : (R2 w text w.length z).kv.Perm (dueRow w text (topW w text) (bd w) z).kv := by
  have hc : ((chl w z w.length).map fun m : Nat => ((m : Int), 2 * ((EE w text m).length : Int))).Perm (callK w text (topW w text) (bd w) z) := by
    have h1 : (chl w z w.length).Perm (((List.range w.length).filter fun i : Nat => (z : Int) == (bd w (i + 1) : Int)).map fun i => i + 1) := by
      refine (List.perm_ext_iff_of_nodup (chl_nodup (Nat.le_refl _)) ?_).mpr fun m => ?_
      · exact List.pairwise_map.mpr ((List.nodup_range.filter _).imp fun h e => h (by omega))
      · rw [chl_mem (Nat.le_refl _), List.mem_map]
        constructor
        · rintro ⟨h1, h2, h3⟩
          exact ⟨m - 1, List.mem_filter.mpr ⟨by simp; omega, by rw [show m - 1 + 1 = m by omega, h3]; simp⟩, by omega⟩
        · rintro ⟨i, hi, rfl⟩
          obtain ⟨h1, h2⟩ := List.mem_filter.mp hi
          simp only [List.mem_range] at h1
          simp only [beq_iff_eq] at h2
          exact ⟨by omega, by omega, by omega⟩
    have h2 := h1.map fun m : Nat => ((m : Int), 2 * ((EE w text m).length : Int))
    rw [List.map_map] at h2
    refine h2.trans (List.Perm.of_eq ?_)
    unfold callK
    apply List.map_congr_left
    intro i _
    show (((i + 1 : Nat) : Int), _) = _
    rw [endsI_len]
    congr 1
    omega
  show (kv0 (plc w text text.length z).length ++ (chl w z w.length).map fun m : Nat => ((m : Int), 2 * ((EE w text m).length : Int))).Perm (if 0 < ownT text (topW w text) z then put (callK w text (topW w text) (bd w) z) 0 (2 * (ownT text (topW w text) z : Int)) else callK w text (topW w text) (bd w) z)
  rw [own_is]
  by_cases h : 0 < (plc w text text.length z).length
  · rw [if_pos h, put_new]
    · unfold kv0
      rw [if_neg (by omega)]
      refine List.perm_append_comm.trans (hc.append_right _)
    · intro hm
      obtain ⟨q, hq, e⟩ := List.mem_map.mp hm
      unfold callK at hq
      obtain ⟨i, _, rfl⟩ := List.mem_map.mp hq
      have e' : 1 + (i : Int) = 0 := e
      omega
  · rw [if_neg h]
    unfold kv0
    rw [if_pos (by omega)]
    exact hc
structure SameSt (x y : St) : Prop where
  a : x.a = y.a
  b : x.b = y.b
  c : x.c = y.c
  d : x.d = y.d
  kv : eqKV x.kv y.kv = true
  calls : (x.kv.map (·.2)).sum = x.b
theorem run_due {z : Nat} (hz : z ≤ w.length) : SameSt (R2 w text w.length z) (dueRow w text (topW w text) (bd w) z) where
  a := by show ((plc w text text.length z).length : Int) = (ownT text (topW w text) z : Int); rw [own_is]
  b := by show _ = 2 * ((endsI w text (topW w text) z).length : Int); rw [endsI_len]; exact (EE_len hz (Nat.le_refl _) (by omega)).symm
  c := (EE_sum hz (Nat.le_refl _) (by omega) _).symm
  d := (EE_sum hz (Nat.le_refl _) (by omega) _).symm
  kv := eqKV_perm (due_kv hz) (kv_nodup (Nat.le_refl _))
  calls := by
    show ((kv0 (plc w text text.length z).length ++ (chl w z w.length).map fun m : Nat => ((m : Int), 2 * ((EE w text m).length : Int))).map (·.2)).sum = 2 * ((plc w text text.length z).length : Int) + ((chl w z w.length).map fun m => 2 * ((EE w text m).length : Int)).sum
    rw [List.map_append, List.sum_append, List.map_map]
    congr 1
    unfold kv0
    split
    · rename_i h; rw [h]; rfl
    · simp
theorem runOf_is : runOf w text (piW w) (fun k => lon w (text.take k)) = (List.range (w.length + 1)).map (R2 w text w.length) := run2_is (Nat.le_refl _)
end
-- part M4
theorem dd_nodup {K : Type} [DecidableEq K] (ks : List K) : (dd ks).Nodup := by
  have : ∀ (l acc : List K), acc.Nodup → (l.foldl (fun acc k => if k ∈ acc then acc else acc ++ [k]) acc).Nodup := by
    intro l
    induction l with
    | nil => intro acc h; exact h
    | cons k l ih =>
      intro acc h
      rw [List.foldl_cons]
      refine ih _ ?_
      split
      · exact h
      · rename_i hk
        exact List.nodup_append.mpr ⟨h, by simp, fun a ha b hb e => by simp at hb; subst hb; subst e; exact hk ha⟩
  exact this ks [] List.nodup_nil
/-- the letters in order -/
noncomputable def lets (w : List Int) : List Int := (dd w).mergeSort fun a b => decide (a ≤ b)
theorem lets_perm (w : List Int) : (lets w).Perm (dd w) := List.mergeSort_perm _ _
theorem lets_sorted (w : List Int) : (lets w).Pairwise (· ≤ ·) := by
  have := List.pairwise_mergeSort (le := fun a b : Int => decide (a ≤ b)) (fun a b c h1 h2 => by simp at *; omega) (fun a b => by simp; omega) (dd w)
  exact this.imp fun h => by simpa using h
theorem lets_uniq (w : List Int) (ns : List Int) (p : ns.Perm (dd w)) (h : ns.Pairwise (· ≤ ·)) : ns = lets w :=
  List.Perm.eq_of_pairwise (fun a b _ _ h1 h2 => Int.le_antisymm h1 h2) h (lets_sorted w) (p.trans (lets_perm w).symm)
theorem lets_mem {w : List Int} {c : Int} : c ∈ lets w ↔ c ∈ w := by rw [(lets_perm w).mem_iff, dd_mem]
theorem lets_nodup (w : List Int) : (lets w).Nodup := (lets_perm w).nodup_iff.mpr (dd_nodup w)
theorem lets_len (w : List Int) : (lets w).length ≤ w.length := by rw [(lets_perm w).length_eq]; exact dd_len w
theorem lets_pos {w : List Int} (h : 0 < w.length) : 0 < (lets w).length := by
  have : w[0] ∈ lets w := lets_mem.mpr (List.getElem_mem h)
  exact List.length_pos_of_mem this

/-- the arrows back -/
noncomputable def tup4 (n k size : Nat) : List Int := [(k : Int), (size : Int), (k : Int) - (size : Int), (n : Int)]
noncomputable def isBack (k size : Nat) : Bool := decide (1 ≤ size) && decide (size ≤ k)
noncomputable def rowW (w : List Int) (k : Nat) : List Nat := (lets w).map fun c => nx w c k
noncomputable def backL (w : List Int) : List (List Int) := (List.range (w.length + 1)).flatMap fun k => ((rowW w k).filter (isBack k)).map (tup4 w.length k)
theorem back_mem {w : List Int} {t : List Int} (h : t ∈ backL w) : ∃ k size c, k ≤ w.length ∧ c ∈ w ∧ nx w c k = size ∧ 1 ≤ size ∧ size ≤ k ∧ t = tup4 w.length k size := by
  unfold backL at h
  obtain ⟨k, hk, h⟩ := List.mem_flatMap.mp h
  obtain ⟨size, hs, rfl⟩ := List.mem_map.mp h
  obtain ⟨h1, h2⟩ := List.mem_filter.mp hs
  unfold rowW at h1
  obtain ⟨c, hc, rfl⟩ := List.mem_map.mp h1
  unfold isBack at h2
  simp only [Bool.and_eq_true, decide_eq_true_eq] at h2
  exact ⟨k, _, c, by simp at hk; omega, lets_mem.mp hc, rfl, h2.1, h2.2, rfl⟩
noncomputable def far (t : List Int) : Int := t.getD 2 0
theorem back_far (w : List Int) : (backL w).Pairwise fun a b => far a ≠ far b := by
  unfold backL
  rw [List.pairwise_flatMap]
  refine ⟨fun k hk => ?_, ?_⟩
  · rw [List.pairwise_map]
    unfold rowW
    rw [List.filter_map, List.pairwise_map]
    refine List.Pairwise.imp_of_mem ?_ ((lets_nodup w).filter _)
    intro c c' hc hc' hne e
    have h1 := (List.mem_filter.mp hc).2
    have h2 := (List.mem_filter.mp hc').2
    simp only [Function.comp, isBack, Bool.and_eq_true, decide_eq_true_eq] at h1 h2
    have e' : (k : Int) - (nx w c k : Int) = (k : Int) - (nx w c' k : Int) := e
    obtain ⟨j, hj⟩ : ∃ j, nx w c k = j + 1 := ⟨nx w c k - 1, by omega⟩
    have hj' : nx w c' k = j + 1 := by omega
    exact hne ((nx_letter hj).1.symm.trans (nx_letter hj').1)
  · refine List.Pairwise.imp_of_mem ?_ List.pairwise_lt_range
    intro k k' hk hk' hlt a ha b hb e
    have hk'' : k' ≤ w.length := by simp at hk'; omega
    obtain ⟨s1, hs1, rfl⟩ := List.mem_map.mp ha
    obtain ⟨s2, hs2, rfl⟩ := List.mem_map.mp hb
    obtain ⟨p1, p2⟩ := List.mem_filter.mp hs1
    obtain ⟨q1, q2⟩ := List.mem_filter.mp hs2
    unfold rowW at p1 q1
    obtain ⟨c, _, rfl⟩ := List.mem_map.mp p1
    obtain ⟨c', _, rfl⟩ := List.mem_map.mp q1
    simp only [isBack, Bool.and_eq_true, decide_eq_true_eq] at p2 q2
    have e' : (k : Int) - (nx w c k : Int) = (k' : Int) - (nx w c' k' : Int) := e
    exact simon hk'' hlt rfl rfl p2.1 p2.2 q2.1 (by omega) q2.2

/-- compare by two columns -/
noncomputable def keys2 (turn : Int) : List (Nat × Int) := [(3, 5), (2, turn)]
noncomputable def cmpT (turn : Int) (a b : List Int) : Int := cmpK (keys2 turn) a b
theorem cmpT_eq {turn : Int} {a b : List Int} (h : a.getD 3 0 = b.getD 3 0) : cmpT turn a b = if far a < far b then -turn else if far b < far a then turn else 0 := by
  unfold cmpT keys2 cmpK
  rw [if_neg (by show ¬ (a.getD 3 0 < b.getD 3 0); omega), if_neg (by show ¬ (b.getD 3 0 < a.getD 3 0); omega)]
  rfl
noncomputable def ins (turn : Int) (order : List (List Int)) (one : List Int) : List (List Int) :=
  (order.filter fun two => decide (cmpT turn two one < 0)) ++ [one] ++ order.filter fun two => !((order.filter fun two => decide (cmpT turn two one < 0)).any fun t => decide (t = two))
noncomputable def ordL (turn : Int) (l : List (List Int)) : List (List Int) := l.foldl (ins turn) []
noncomputable def Less (turn : Int) (a b : List Int) : Prop := (0 < turn ∧ far a < far b) ∨ (turn < 0 ∧ far b < far a)
theorem cmp_less {turn : Int} {a b : List Int} (h : a.getD 3 0 = b.getD 3 0) : cmpT turn a b < 0 ↔ Less turn a b := by
  rw [cmpT_eq h]
  unfold Less
  split
  · omega
  · split <;> omega
structure OrdOk (turn : Int) (n : Int) (done order : List (List Int)) : Prop where
  perm : order.Perm done
  less : order.Pairwise (Less turn)
  last : ∀ t ∈ order, t.getD 3 0 = n
theorem ins_ok {turn n : Int} {done order : List (List Int)} {one : List Int} (ht : turn ≠ 0) (O : OrdOk turn n done order) (h1 : one.getD 3 0 = n) (hf : ∀ t ∈ order, far t ≠ far one) : OrdOk turn n (done ++ [one]) (ins turn order one) := by
  have hmem : ∀ two ∈ order, (!((order.filter fun two => decide (cmpT turn two one < 0)).any fun t => decide (t = two))) = !(decide (cmpT turn two one < 0)) := fun two h => by
    congr 1
    rw [Bool.eq_iff_iff, List.any_eq_true]
    constructor
    · rintro ⟨t, ht, e⟩
      have e' : t = two := by simpa using e
      rw [← e']; exact (List.mem_filter.mp ht).2
    · intro q
      exact ⟨two, List.mem_filter.mpr ⟨h, q⟩, by simp⟩
  have e : ins turn order one = (order.filter fun two => decide (cmpT turn two one < 0)) ++ [one] ++ order.filter fun two => !(decide (cmpT turn two one < 0)) := by
    unfold ins
    rw [List.filter_congr hmem]
  rw [e]
  have hless : ∀ t ∈ order, (cmpT turn t one < 0 ↔ Less turn t one) := fun t h => cmp_less (by rw [O.last t h, h1])
  have hmore : ∀ t ∈ order, ¬ cmpT turn t one < 0 → Less turn one t := fun t h q => by
    rw [hless t h] at q
    have := hf t h
    unfold Less at q ⊢
    omega
  have htr : ∀ a b c, Less turn a b → Less turn b c → Less turn a c := fun a b c x y => by unfold Less at *; omega
  refine ⟨?_, ?_, fun t h => ?_⟩
  · have p := List.filter_append_perm (fun two => decide (cmpT turn two one < 0)) order
    refine List.Perm.trans ?_ (O.perm.append_right [one])
    refine List.Perm.trans ?_ (p.append_right [one])
    rw [List.append_assoc, List.append_assoc]
    exact List.perm_append_comm.append_left _
  · refine List.pairwise_append.mpr ⟨List.pairwise_append.mpr ⟨O.less.filter _, List.pairwise_singleton _ _, fun a ha b hb => ?_⟩, O.less.filter _, fun a ha b hb => ?_⟩
    · rw [List.mem_singleton.mp hb]
      obtain ⟨p, q⟩ := List.mem_filter.mp ha
      exact (hless a p).mp (by simpa using q)
    · obtain ⟨p, q⟩ := List.mem_filter.mp hb
      have hb' := hmore b p (by simpa using q)
      rcases List.mem_append.mp ha with h | h
      · obtain ⟨p', q'⟩ := List.mem_filter.mp h
        exact htr _ _ _ ((hless a p').mp (by simpa using q')) hb'
      · rw [List.mem_singleton.mp h]; exact hb'
  · rcases List.mem_append.mp h with h | h
    · rcases List.mem_append.mp h with h | h
      · exact O.last t (List.mem_filter.mp h).1
      · rw [List.mem_singleton.mp h]; exact h1
    · exact O.last t (List.mem_filter.mp h).1
theorem ord_ok {turn n : Int} (ht : turn ≠ 0) (l : List (List Int)) (hn : ∀ t ∈ l, t.getD 3 0 = n) (hf : l.Pairwise fun a b => far a ≠ far b) : ∀ k, OrdOk turn n (l.take k) (ordL turn (l.take k))
  | 0 => ⟨.refl _, .nil, fun t h => nomatch h⟩
  | k + 1 => by
    have O := ord_ok ht l hn hf k
    rcases Nat.lt_or_ge k l.length with q | q
    · have hk : l[k]? = some l[k] := List.getElem?_eq_getElem q
      rw [List.take_add_one, hk]
      show OrdOk turn n (l.take k ++ [l[k]]) (ordL turn (l.take k ++ [l[k]]))
      unfold ordL at O ⊢
      rw [List.foldl_append]
      refine ins_ok ht O (hn _ (List.getElem_mem q)) fun t h => ?_
      obtain ⟨i, hi, rfl⟩ := List.getElem_of_mem (O.perm.mem_iff.mp h)
      rw [List.length_take] at hi
      rw [List.getElem_take]
      exact List.pairwise_iff_getElem.mp hf i k (by omega) q (by omega)
    · rw [List.take_of_length_le (by omega)]
      rw [List.take_of_length_le q] at O
      exact O
theorem ord_full {turn n : Int} (ht : turn ≠ 0) {l : List (List Int)} (hn : ∀ t ∈ l, t.getD 3 0 = n) (hf : l.Pairwise fun a b => far a ≠ far b) : OrdOk turn n l (ordL turn l) := by
  have := ord_ok ht l hn hf l.length
  rwa [List.take_length] at this
noncomputable def absI (i : Int) : Int := if i < 0 then -i else i
theorem ord_step {turn n : Int} (ht : turn ≠ 0) {l o : List (List Int)} (O : OrdOk turn n l o) {i : Nat} (hi : i + 1 < o.length) : cmpT turn (o.getD i []) (o.getD (i + 1) []) = -(absI turn) ∧ (decide (far (o.getD i []) < far (o.getD (i + 1) [])) != decide (0 < turn)) = false := by
  have h1 : o.getD i [] = o[i] := by simp [show i < o.length by omega]
  have h2 : o.getD (i + 1) [] = o[i + 1] := by simp [hi]
  have hl := List.pairwise_iff_getElem.mp O.less i (i + 1) (by omega) hi (by omega)
  rw [h1, h2, cmpT_eq (by rw [O.last _ (List.getElem_mem (by omega)), O.last _ (List.getElem_mem hi)])]
  unfold Less at hl
  unfold absI
  rcases hl with ⟨a, b⟩ | ⟨a, b⟩
  · rw [if_pos b, if_neg (by omega)]
    exact ⟨rfl, by simp [a, b]⟩
  · rw [if_neg (by omega), if_pos b, if_pos a]
    exact ⟨by omega, by simp; constructor <;> intro <;> omega⟩
theorem cmp_self {turn : Int} {a : List Int} : cmpT turn a a = 0 := by rw [cmpT_eq rfl, if_neg (Int.lt_irrefl _), if_neg (Int.lt_irrefl _)]
theorem back_last {w : List Int} : ∀ t ∈ backL w, t.getD 3 0 = (w.length : Int) := fun t h => by
  obtain ⟨k, size, c, _, _, _, _, _, rfl⟩ := back_mem h; rfl
-- part M5
noncomputable def arr (w : List Int) : List (List Nat) := (List.range (w.length + 1)).map (rowW w)
theorem row_lt {w : List Int} {k x : Nat} (h : x ∈ rowW w k) : x < w.length + 1 := by
  unfold rowW at h
  obtain ⟨c, _, rfl⟩ := List.mem_map.mp h
  have := nx_le (w := w) (c := c) (q := k)
  omega
theorem row_len (w : List Int) (k : Nat) : (rowW w k).length = (lets w).length := by unfold rowW; rw [List.length_map]
noncomputable def oneKV (k c : Nat) : List (Int × Int) := if c = 0 then [] else [((k : Int), 2 * (c : Int))]
noncomputable def bookOf (w : List Int) (m size : Nat) : List (Int × Int) := ((List.range m).filter fun k => decide (0 < (rowW w k).count size)).map fun k : Nat => ((k : Int), 2 * ((rowW w k).count size : Int))
theorem book_succ {w : List Int} {m size : Nat} : bookOf w (m + 1) size = bookOf w m size ++ oneKV m ((rowW w m).count size) := by
  unfold bookOf oneKV
  rw [List.range_succ, List.filter_append, List.map_append]
  congr 1
  by_cases h : (rowW w m).count size = 0
  · rw [if_pos h]; simp; exact List.count_eq_zero.mp h
  · rw [if_neg h]
    have : 0 < (rowW w m).count size := by omega
    rw [List.filter_cons_of_pos (by simpa using this)]
    rfl
theorem book_keys {w : List Int} {m size : Nat} {a : Int} (h : a ∈ (bookOf w m size).map (·.1)) : 0 ≤ a ∧ a < m := by
  unfold bookOf at h
  rw [List.map_map] at h
  obtain ⟨k, hk, rfl⟩ := List.mem_map.mp h
  have := (List.mem_filter.mp hk).1
  simp only [List.mem_range] at this
  show 0 ≤ (k : Int) ∧ (k : Int) < m
  omega
theorem book_nodup {w : List Int} {m size : Nat} : ((bookOf w m size).map (·.1)).Nodup := by
  unfold bookOf
  rw [List.map_map]
  exact List.pairwise_map.mpr ((List.nodup_range.filter _).imp fun h e => h (Int.ofNat.inj e))
theorem addAll_one {X : List (Int × Int)} {k c : Nat} (hn : (X.map (·.1)).Nodup) (hk : (k : Int) ∉ X.map (·.1)) : addAll (X ++ oneKV k c) [((k : Int), 2)] = X ++ oneKV k (c + 1) := by
  unfold oneKV
  by_cases h : c = 0
  · subst h
    rw [if_pos rfl, if_neg (by omega), List.append_nil, addAll_new hn hk]
    rfl
  · rw [if_neg h, if_neg (by omega)]
    have hn2 : ((X ++ [((k : Int), 2 * (c : Int))]).map (·.1)).Nodup := by
      rw [List.map_append]
      exact List.nodup_append.mpr ⟨hn, by simp, fun a ha b hb e => by simp at hb; subst hb; subst e; exact hk ha⟩
    unfold addAll
    rw [putAll_nodup hn2]
    show addKV (X ++ [((k : Int), 2 * (c : Int))]) ((k : Int), 2) = _
    unfold addKV
    have hl : lookD (X ++ [((k : Int), 2 * (c : Int))]) (k : Int) = some (2 * (c : Int)) := lookD_mem hn2 ((k : Int), 2 * (c : Int)) (by simp)
    rw [hl]
    unfold put
    rw [if_pos (by simp)]
    rw [List.map_append]
    congr 1
    · refine (List.map_congr_left fun p hp => ?_).trans (List.map_id X)
      rw [if_neg fun e => hk (List.mem_map.mpr ⟨p, hp, e⟩)]; rfl
    · simp; omega
theorem row_run {w : List Int} {k N : Nat} : ∀ (rest pre : List Nat), (∀ x ∈ rest, x < N) → bkRow k ((List.range N).map fun size => bookOf w k size ++ oneKV k (pre.count size)) rest = (List.range N).map fun size => bookOf w k size ++ oneKV k ((pre ++ rest).count size)
  | [], pre, _ => by rw [List.append_nil]; rfl
  | x :: rest, pre, h => by
    have hx : x < N := h x (.head _)
    show bkRow k (bkStep k _ x) rest = _
    have e : bkStep k ((List.range N).map fun size => bookOf w k size ++ oneKV k (pre.count size)) x = (List.range N).map fun size => bookOf w k size ++ oneKV k ((pre ++ [x]).count size) := by
      unfold bkStep
      have e1 : ((List.range N).map fun size => bookOf w k size ++ oneKV k (pre.count size)).getD x [] = bookOf w k x ++ oneKV k (pre.count x) := by simp [hx]
      rw [e1, addAll_one book_nodup fun m => by have := book_keys m; omega]
      apply List.ext_getElem?
      intro j
      rw [List.getElem?_set]
      by_cases hj : x = j
      · subst hj
        simp [hx, List.count_append]
      · rw [if_neg hj]
        rcases Nat.lt_or_ge j N with q | q
        · simp [q, List.count_append, List.count_singleton, hj]
        · rw [List.getElem?_eq_none (by simpa using q), List.getElem?_eq_none (by simpa using q)]
    rw [e, row_run rest (pre ++ [x]) fun y hy => h y (.tail _ hy)]
    simp
theorem books_is {w : List Int} : ∀ m, m ≤ w.length + 1 → books (arr w) m = (List.range (w.length + 1)).map (bookOf w m)
  | 0, _ => by
    unfold books
    rw [List.range_zero, List.foldl_nil]
    unfold arr
    rw [List.map_map]
    rfl
  | m + 1, h => by
    rw [books_succ, books_is m (by omega)]
    have hr : (arr w).getD m [] = rowW w m := by
      unfold arr
      rw [List.getD_eq_getElem?_getD, List.getElem?_map, List.getElem?_range (by omega)]; rfl
    rw [hr]
    have := row_run (w := w) (k := m) (N := w.length + 1) (rowW w m) [] fun x hx => row_lt hx
    simp only [List.count_nil, List.nil_append] at this
    have e0 : (fun size => bookOf w m size ++ oneKV m 0) = bookOf w m := by funext size; unfold oneKV; simp
    rw [e0] at this
    rw [this]
    apply List.map_congr_left
    intro size _
    rw [book_succ]

-- sums of counts
theorem count_sum {N : Nat} : ∀ (row : List Nat), (∀ x ∈ row, x < N) → ((List.range N).map fun s => (row.count s : Int)).sum = (row.length : Int)
  | [], _ => by simp only [List.count_nil]; exact sum_zero _
  | x :: row, h => by
    have ih := count_sum row fun y hy => h y (.tail _ hy)
    have e : (fun s => (((x :: row).count s : Nat) : Int)) = fun s => (row.count s : Int) + if decide (s = x) = true then 1 else 0 := by
      funext s
      rw [List.count_cons]
      by_cases q : x = s
      · subst q; simp
      · have q' : ¬ s = x := fun z => q z.symm
        simp [q, q']
    rw [e, sum_map_add, ih, sum_one (m₀ := x) List.nodup_range (by simpa using h x (.head _)) (by simp) fun m _ q => by simpa using q]
    simp
theorem book_sum {w : List Int} {m size : Nat} : ((bookOf w m size).map (·.2)).sum = 2 * ((List.range m).map fun k => ((rowW w k).count size : Int)).sum := by
  unfold bookOf
  rw [List.map_map, show ((fun x : Int × Int => x.2) ∘ fun k : Nat => ((k : Int), 2 * ((rowW w k).count size : Int))) = fun k => 2 * ((rowW w k).count size : Int) from rfl, sum_twice, sum_filter_if]
  congr 2
  apply List.map_congr_left
  intro k _
  by_cases h : 0 < (rowW w k).count size
  · rw [if_pos (by simpa using h)]
  · rw [if_neg (by simpa using h)]; omega
noncomputable def callsL (w : List Int) : List Int := (List.range (w.length + 1)).map fun size => ((bookOf w (w.length + 1) size).map (·.2)).sum
noncomputable def nought (w : List Int) : Int := ((List.range (w.length + 1)).map fun k => ((rowW w k).count 0 : Int)).sum
theorem calls_zero {w : List Int} : (callsL w).getD 0 0 = 2 * nought w := by
  have e : (callsL w).getD 0 0 = ((bookOf w (w.length + 1) 0).map (·.2)).sum := by unfold callsL; simp
  rw [e, book_sum]; rfl
theorem sum_const (l : List Nat) (c : Int) : (l.map fun _ => c).sum = (l.length : Int) * c := by
  induction l with
  | nil => simp
  | cons x l ih => rw [List.map_cons, List.sum_cons, ih, List.length_cons]; push_cast; rw [Int.add_mul]; omega
theorem calls_sum {w : List Int} : (callsL w).sum = 2 * (((w.length : Int) + 1) * ((lets w).length : Int)) := by
  unfold callsL
  rw [List.map_congr_left (g := fun size => 2 * ((List.range (w.length + 1)).map fun k => ((rowW w k).count size : Int)).sum) fun size _ => book_sum, sum_twice, sum_swap]
  rw [List.map_congr_left (g := fun _ => ((lets w).length : Int)) fun k _ => by rw [count_sum _ fun x hx => row_lt hx, row_len], sum_const]
  simp
theorem calls_rest {w : List Int} : ((callsL w).drop 1).sum = 2 * (((w.length : Int) + 1) * ((lets w).length : Int)) - 2 * nought w := by
  have h1 := calls_sum (w := w)
  have h2 := calls_zero (w := w)
  have e : callsL w = (callsL w).getD 0 0 :: (callsL w).drop 1 := by
    have : 0 < (callsL w).length := by unfold callsL; simp
    cases h : callsL w with
    | nil => rw [h] at this; simp at this
    | cons a l => simp
  rw [e, List.sum_cons] at h1
  omega

/-- where the arrows of a row lead -/
theorem row_parts (w : List Int) {k : Nat} (hk : k ≤ w.length) : (rowW w k).length = (rowW w k).count 0 + ((rowW w k).filter (isBack k)).length + (rowW w k).count (k + 1) := by
  have hb : ∀ x ∈ rowW w k, x ≤ k + 1 := fun x hx => by
    unfold rowW at hx
    obtain ⟨c, _, rfl⟩ := List.mem_map.mp hx
    exact nx_bound hk
  generalize rowW w k = row at hb
  induction row with
  | nil => rfl
  | cons x row ih =>
    have ih := ih fun y hy => hb y (.tail _ hy)
    have hx := hb x (.head _)
    rw [List.count_cons, List.count_cons, List.filter_cons, List.length_cons]
    by_cases h0 : x = 0
    · subst h0
      have : isBack k 0 = false := by simp [isBack]
      rw [this]
      simp
      omega
    · by_cases h1 : x = k + 1
      · subst h1
        have : isBack k (k + 1) = false := by simp [isBack]
        rw [this]
        simp
        omega
      · have : isBack k x = true := by simp [isBack]; omega
        rw [this]
        simp [h0, h1]
        omega
theorem count_letter {w : List Int} {k j : Nat} (hj : j < w.length) : (rowW w k).count (j + 1) = if nx w (w.getD j 0) k = j + 1 then 1 else 0 := by
  unfold rowW
  have hmem : w.getD j 0 ∈ lets w := by rw [lets_mem]; simp [hj]
  have hn := lets_nodup w
  have key : ∀ l : List Int, l.Nodup → (l.map fun c => nx w c k).count (j + 1) = if w.getD j 0 ∈ l ∧ nx w (w.getD j 0) k = j + 1 then 1 else 0 := fun l hl => by
    induction l with
    | nil => simp
    | cons c l ih =>
      rw [List.nodup_cons] at hl
      rw [List.map_cons, List.count_cons, ih hl.2]
      by_cases hc : nx w c k = j + 1
      · have e := (nx_letter hc).1
        subst e
        rw [if_neg (fun z => hl.1 z.1)]
        simp only [hc, List.mem_cons, true_or, and_self, if_true]
        simp
      · have hne : ¬ ((nx w c k == j + 1) = true) := by simpa using hc
        rw [if_neg hne, Nat.add_zero]
        by_cases e : w.getD j 0 = c
        · subst e
          rw [if_neg fun z => hc z.2, if_neg fun z => hc z.2]
        · by_cases q : w.getD j 0 ∈ l ∧ nx w (w.getD j 0) k = j + 1
          · rw [if_pos q, if_pos ⟨.tail _ q.1, q.2⟩]
          · rw [if_neg q, if_neg fun z => q ⟨(List.mem_cons.mp z.1).resolve_left e, z.2⟩]
  rw [key _ hn]
  by_cases q : nx w (w.getD j 0) k = j + 1
  · rw [if_pos ⟨hmem, q⟩, if_pos q]
  · rw [if_neg fun z => q z.2, if_neg q]
theorem count_full {w : List Int} {k : Nat} (hk : k ≤ w.length) : (rowW w k).count (k + 1) = if k < w.length then 1 else 0 := by
  by_cases h : k < w.length
  · rw [count_letter h, if_pos ((nx_full h).mpr rfl), if_pos h]
  · rw [if_neg h, List.count_eq_zero]
    intro hm
    have := row_lt hm
    omega
theorem back_count {w : List Int} : ((w.length : Int) + 1) * ((lets w).length : Int) = nought w + ((backL w).length : Int) + (w.length : Int) := by
  have h1 : ((List.range (w.length + 1)).map fun k => ((rowW w k).length : Int)).sum = ((w.length : Int) + 1) * ((lets w).length : Int) := by
    rw [List.map_congr_left (g := fun _ => ((lets w).length : Int)) fun k _ => by rw [row_len], sum_const]; simp
  have h2 : ((List.range (w.length + 1)).map fun k => ((rowW w k).length : Int)).sum = ((List.range (w.length + 1)).map fun k => ((rowW w k).count 0 : Int) + (((rowW w k).filter (isBack k)).length : Int) + if decide (k < w.length) = true then 1 else 0).sum := by
    congr 1
    apply List.map_congr_left
    intro k hk
    have hk' : k ≤ w.length := by simp at hk; omega
    have := row_parts w hk'
    rw [count_full hk'] at this
    by_cases q : k < w.length
    · rw [if_pos q] at this; rw [if_pos (by simpa using q)]; omega
    · rw [if_neg q] at this; rw [if_neg (by simpa using q)]; omega
  have h3 : ((List.range (w.length + 1)).map fun k => if decide (k < w.length) = true then (1 : Int) else 0).sum = (w.length : Int) := by
    rw [← sum_filter_if, sum_ones, List.range_succ, List.filter_append]
    have : (List.range w.length).filter (fun k => decide (k < w.length)) = List.range w.length := List.filter_eq_self.mpr fun k hk => by simpa using hk
    rw [this]
    simp
  have h4 : ((backL w).length : Int) = ((List.range (w.length + 1)).map fun k => (((rowW w k).filter (isBack k)).length : Int)).sum := by
    unfold backL
    rw [List.length_flatMap]
    generalize List.range (w.length + 1) = l
    induction l with
    | nil => rfl
    | cons k l ih => simp only [List.map_cons, List.sum_cons, List.length_map] at ih ⊢; push_cast; rw [ih]
  rw [← h1, h2, sum_map_add, sum_map_add, h3, ← h4]
  rfl
theorem calls_ok {w : List Int} : ((callsL w).drop 1).sum = 2 * ((w.length : Int) + ((backL w).length : Int)) ∧ (callsL w).getD 0 0 = 2 * (((w.length : Int) + 1) * ((lets w).length : Int) - (w.length : Int) - ((backL w).length : Int)) := by
  have h1 := back_count (w := w)
  have h2 := calls_rest (w := w)
  have h3 := calls_zero (w := w)
  constructor
  · rw [h2, h1]; omega
  · rw [h3, h1]; omega
/-- a book, by plain search -/
theorem book_search {w : List Int} {j : Nat} (hj : j < w.length) : bookOf w (w.length + 1) (j + 1) = ((List.range (w.length + 1)).filter fun k => decide (lon w (w.take k ++ [w.getD j 0]) = j + 1)).map fun k : Nat => ((k : Int), (2 : Int)) := by
  unfold bookOf
  have e : (List.range (w.length + 1)).filter (fun k => decide (0 < (rowW w k).count (j + 1))) = (List.range (w.length + 1)).filter fun k => decide (lon w (w.take k ++ [w.getD j 0]) = j + 1) := by
    apply List.filter_congr
    intro k _
    rw [count_letter hj]
    show _ = decide (nx w (w.getD j 0) k = j + 1)
    by_cases q : nx w (w.getD j 0) k = j + 1
    · rw [if_pos q, decide_eq_true q]; rfl
    · rw [if_neg q, decide_eq_false q]; rfl
  rw [e]
  apply List.map_congr_left
  intro k hk
  have h := (List.mem_filter.mp hk).2
  rw [decide_eq_true_eq] at h
  rw [count_letter hj, if_pos (show nx w (w.getD j 0) k = j + 1 from h)]
  rfl
-- part TopA
/-- the law's own call -/
noncomputable def LawRuns : Prop := ∀ (w : World) (prog : Program) (A : Around) (base : Heap) (s : Shared) (l : Addr) (vs : List Value) (ns : List Int), RoomA 20 A → Wd (Kf w) base (fun _ => False) s.heap → base.IsList l vs.toArray → IntsAre vs ns → ns.length ≤ 63 →
  wpAny (model prog w) A (call (.ref 114) [.ref l]) (fun v s' => Kp s s' ∧ v = .bool true) (fun _ _ => False) s
theorem g_law {w : World} : globOf (Kf w) "law" = some (.ref 114) := id rfl
set_option maxHeartbeats 8000000 in
theorem top_of (hlaw : LawRuns) : PySem.Challenge.rw_rw0016_02.Holds := Hd.hd (by
  intro w s₀ s₁ mg mb G Y fa o pm cd doc dV kV ho hd hcd hD hmg hg args vals as hpre hlay hrd hwl hlo
  have KX := kIn_of (K := Hd.frag) (as := Hd.addrs) (e := Hd.addrs_ok) Y
  refine Ground.open G ?_
  intro T B D TE TW
  clear hD B D TE TW Y G ho hd hcd
  wrow_args hpre hlay hrd hwl hlo
  rename_i ns _ _ _ _ _ _ _ l vs _ hL _ _ _ hI _ hlen _
  have GL : Gl (Kf w) s₁.heap := ⟨KX, T.nolimit, ⟨mg, T.g⟩, ⟨mb, T.b, T.builtins⟩⟩
  have hfa : some (.ref fa) = globOf (Kf w) "law" := hmg.symm.trans (glob_is topOk GL T.g "law")
  rw [g_law] at hfa
  cases hfa
  refine wpAny_mono (hlaw w _ callerA s₁.heap s₁ l vs ns (by refine ⟨rfl, ?_, ?_⟩ <;> decide) ⟨GL, fun _ _ e => e, fun _ h => h.elim, fun _ h => h.elim⟩ hL hI (by omega)) (fun v s' q => ?_) fun _ _ x => x.elim
  obtain ⟨⟨⟨k1, k2⟩, k⟩, rfl⟩ := q
  refine ⟨.inl ⟨_, .bool true, [], rfl, fun _ => rfl, .bool _, by with_unfolding_all rfl, fun _ => ⟨List.nodup_nil, fun _ m => nomatch m⟩⟩, .of_keep k, k2, .of_eq (k1.trans hg)⟩)
-- part F16
section
variable {Γ : Ctx}
/-- the script's own list, cut -/
theorem ev_slice_raw {value : Expr} {upper : Option Expr} {p q : Pos} {l : Addr} {vs : List Value} {ns : List Int} {hi : Option Int} (hl : Γ.base.IsList l vs.toArray) (hI : IntsAre vs ns) (h1 : Ev Γ value (.raw (.ref l))) (h3 : EvPart Γ upper hi) (hz : ns.length ≤ sizeLine) :
    Ev Γ (.Subscript value (.Slice none upper none q) p) (.list ((cut ns none hi).map .int)) := .mk fun s C => by
  refine Subscript_ ((h1.run s C).then' fun a s₁ k₁ r₁ => wpAny_Slice ?_)
  rw [evalPart_none]
  refine wpAny_pure ((h3.run s₁ (C.go k₁)).then' fun vu s₃ k₃ pu => ?_)
  refine wpAny_pure ?_
  (first | obtain ⟨_, rfl⟩ := r₁.atom | exact (nsE r₁).elim | exact (snE r₁).elim | exact (ftE r₁).elim | cases r₁)
  have C₃ := (C.go k₁).go k₃
  have hl3 : s₃.heap.IsList l vs.toArray := let ⟨o, ho, r⟩ := hl; ⟨o, C₃.wd.up _ _ ho, r⟩
  have hl' : (s₃.heap.push { cls := .type "slice", data := .fields #[.none, vu, .none] }).IsList l vs.toArray := hl3.push _
  have kp := Kp.push s₃ { cls := .type "slice", data := .fields #[.none, vu, .none] }
  have hn : vs.length = ns.length := hI.length
  refine tail_any hl'.typeIs slot_list_getitem.lookup (wpAny_getItem_list_slice hl' (Heap.IsSliceOf.new _ _ _ _) .none pu .none (by intro e; (first | obtain ⟨_, rfl⟩ := e.atom | exact (nsE e).elim | exact (snE e).elim | exact (ftE e).elim | cases e)) ⟨((k₁.trans k₃).trans kp).trans (Kp.push _ _), ?_⟩ (by simpa [hn] using hz)) (ops := [_, _]) rfl
  rw [kms_pick_eq]
  refine Rep.new_list (C₃.go kp).wd.held ?_
  have hr : RepAll Γ.prog Γ.w Γ.S (s₃.heap.push { cls := .type "slice", data := .fields #[.none, vu, .none] }) vs (ns.map .int) := .of_ints hI
  have := (hr.drop (kms_lo none vs.length)).take (kms_hi hi vs.length - kms_lo none vs.length)
  rw [← cut_map]
  unfold kms_pick cut
  rw [List.length_map, ← hn]
  exact this
end

noncomputable abbrev env114 (w : World) (L : Addr) : Env := callEnvC (fn114 w).1 L 114
noncomputable abbrev code114 (w : World) (k : Nat) : List Stmt := (bodyOf (fn114 w).1).drop k
section
variable {w : World} {prog : Program} {A : Around} {base : Heap} {L : Addr} {S : Addr → Prop} {Lv : Lev} {s : Shared} {Q : Flow → Shared → Prop}
noncomputable def varsA (nums word : List Int) : List (Str × D) := [("nums", .list (nums.map .int)), ("word", .list (word.map .int)), ("n", .int (word.length : Int)), ("letters", .list ((lets word).map .int)), ("kept", .list (word.map .int))]
theorem word2_len (nums : List Int) : (word2 nums).length = 4 + nums.length % 4 := by
  unfold word2 word02 size2
  split <;> simp
set_option maxHeartbeats 1000000 in
theorem segA {l : Addr} {vs : List Value} {ns : List Int} (hl : base.IsList l vs.toArray) (hI : IntsAre vs ns) (h63 : ns.length ≤ 63) (F : Fm Lv (fcx w prog A 19 base (env114 w L) S [("script", .raw (.ref l))]) [] noOwn s)
    (k : ∀ S' s', Fm Lv (fcx w prog A 19 base (env114 w L) S' (varsA (ns.take 60) (word2 (ns.take 60)))) [] noOwn s' → Ex (fcx w prog A 19 base (env114 w L) S' (varsA (ns.take 60) (word2 (ns.take 60)))) (execs (code114 w 3) (env114 w L)) Q s') :
    Ex (fcx w prog A 19 base (env114 w L) S [("script", .raw (.ref l))]) (execs (code114 w 0) (env114 w L)) Q s := by
  have hsz : sizeLine = 16777216 := by decide
  have hw := word2_len (ns.take 60)
  refine x_assign F (d := .list ((ns.take 60).map .int)) (((ev_slice_raw (Γ := fcx w prog A 19 base (env114 w L) S [("script", .raw (.ref l))]) hl hI (ev_name rfl) (part_some ev_int) (by omega)).cast (by rw [cut_to _ (by decide)]; rfl)).on F.at_) fun _ F => ?_
  refine x_assign F ((ev_call (f := .ref 75) (ev_glob topOk rfl g75) ok75.callable (evs_cons (ev_name rfl) evs_nil) (fn_word (by rw [List.length_take]; omega))).on F.at_) fun _ F => ?_
  refine x_unpack F (d := .tuple [.int ((word2 (ns.take 60)).length : Int), .list ((lets (word2 (ns.take 60))).map .int), .list ((word2 (ns.take 60)).map .int)]) ((ev_tuple (evs_cons ((c_len rfl rfl (ev_name rfl) (fn_len_list (by simp; omega))).cast (congrArg D.int (by simp)))
    (evs_cons (ev_sortset (ev_blt topOk rfl g_sorted b_sorted) (ev_blt topOk rfl g_set b_set) (ev_name rfl) (by omega) (lets_uniq _)) (evs_cons (ev_callL (f := .type "list") (ev_blt topOk rfl g_list b_list) trivial (evs_cons (ev_name rfl) evs_nil) (fn_list (by simp; omega))).ev evs_nil))) (by show 3 ≤ sizeLine; omega)).on F.at_) .t3 fun s' F => ?_
  have F := F.next (Γ' := fcx w prog A 19 base (env114 w L) S (varsA (ns.take 60) (word2 (ns.take 60)))) rfl ⟨rfl, rfl, rfl, rfl, rfl, trivial⟩
  exact ex_with F rfl rfl rfl rfl fun F => k _ _ F
end
-- part F17
section
variable {w : World} {prog : Program} {A : Around} {base : Heap} {L : Addr} {S : Addr → Prop} {Lv : Lev} {s : Shared} {Q : Flow → Shared → Prop}
noncomputable def tabI (word : List Int) : List Int := (List.range word.length).map fun j : Nat => (piW word j : Int)
theorem tabI_len (word : List Int) : (tabI word).length = word.length := by unfold tabI; simp
theorem tabI_get {word : List Int} {j : Nat} (h : j < word.length) : (tabI word)[j]? = some (piW word j : Int) := by
  unfold tabI; rw [List.getElem?_map, List.getElem?_range h]; rfl
noncomputable def varsB (nums word : List Int) : List (Str × D) := [("nums", .list (nums.map .int)), ("word", .list (word.map .int)), ("n", .int (word.length : Int)), ("letters", .list ((lets word).map .int)), ("table", .list ((tabI word).map .int))]
theorem fn_tab {n : Nat} {word : List Int} (h : word.length ≤ 1000) : FnL (Kf w) prog w (n + 1) (.ref 70) [.list (word.map .int)] ((tabI word).map .int) := by
  have := fn_table (w := w) (prog := prog) (n := n) (tabLaw word) h
  rw [tabAt_full] at this
  exact this
set_option maxHeartbeats 1000000 in
theorem segB {nums word : List Int} (hz : word.length ≤ 100) (hLW : Lv.W = fun _ => False) (F : Fm Lv (fcx w prog A 19 base (env114 w L) S (varsA nums word)) [] noOwn s)
    (k : ∀ S' s', Fm Lv (fcx w prog A 19 base (env114 w L) S' (varsB nums word)) [] noOwn s' → Ex (fcx w prog A 19 base (env114 w L) S' (varsB nums word)) (execs (code114 w 8) (env114 w L)) Q s') :
    Ex (fcx w prog A 19 base (env114 w L) S (varsA nums word)) (execs (code114 w 3) (env114 w L)) Q s := by
  have hsz : sizeLine = 16777216 := by decide
  have htl := tabI_len word
  have F0 := F
  refine x_own_list F ((ev_callL (f := .ref 70) (ev_glob topOk rfl g70) ok70.callable (evs_cons (ev_name rfl) evs_nil) (fn_tab (by omega))).run _ F.at_) fun a _ ha _ F => ?_
  have okL : ∀ ds : List D, OwnOk (fun S h => AccL prog w a ds S h ∧ noOwn S h) [a] := fun ds => (accL_ok.own).and noOwn_ok
  refine x_skip F (tr_view_T (as := [a]) (l := [("table", .list ((tabI word).map .int))]) (EvT.cast (evT_boolop (evTs_or (evT_not (evT_of (c_isi_list rfl rfl rfl (ev_name rfl) fn_isi_list_list) truth_bool)) fun _ => evTs_or (evT_cmp (c_len rfl rfl (ev_name rfl) (fn_len_list (ds := (tabI word).map .int) (by simp; omega))) (ev_name rfl) op_ne) fun _ =>
    evTs_or (evT_cmp (ev_name rfl) (ev_name rfl) (op_neD (EqD.ints 0 word word) (by decide))) fun _ => evTs_or_nil)) (by simp [htl])) (F.viewL rfl)) fun _ F => ?_
  refine x_append F (d := .int (word.length : Int)) (.head _) (.inr ha) (okL _) (fun _ _ _ _ _ _ => trivial) (ev_name rfl) (ev_name rfl) (by simp; omega) fun _ F => ?_
  refine x_assign F (d := .list ((tabI word).map .int)) ((ev_callL (f := .ref 70) (ev_glob topOk rfl g70) ok70.callable (evs_cons (ev_name rfl) evs_nil) (fn_tab (by omega))).ev.on F.at_) fun _ F => ?_
  have F := (F0.drop F noOwn_ok).next (Γ' := fcx w prog A 19 base (env114 w L) S (varsB nums word)) rfl ⟨rfl, rfl, rfl, rfl, rfl, trivial⟩
  refine ex_with F rfl rfl rfl rfl fun F => ?_
  have it : Iterable (.range 0 (word.length : Int) 1) ((List.range word.length).map fun i : Nat => D.int (i : Int)) := by
    have := iter_range (n := (word.length : Int)) (by omega) (by omega)
    rw [Int.toNat_natCast] at this; exact this
  have hget : ∀ j : Nat, j < word.length → ((tabI word).map D.int)[((j : Int)).toNat]? = some (.int (piW word j : Int)) := fun j hj => by
    rw [Int.toNat_natCast, List.getElem?_map, tabI_get hj]; rfl
  refine x_skip F (EvT.on (b := false) ?_ F.at_) fun s' F => k _ s' F
  refine EvT.cast (evT_boolop (evTs_or (evT_cmp (c_len rfl rfl (ev_name rfl) (fn_len_list (ds := (tabI word).map .int) (by simp; omega))) (ev_name rfl) op_ne) fun _ => evTs_or (b := false) (a := false) (evT_cmp (d1 := .list (([] : List Int).map .int)) ?_ (ev_list evs_nil (by decide)) ((op_neD (EqD.ints 0 [] []) (by decide)).cast rfl)) fun _ => evTs_or_nil)) (by simp [htl])
  refine Ev.cast (ev_lcf (xs := List.range word.length) (inj := fun i : Nat => D.int (i : Int)) (p := fun _ => false) (g := fun i : Nat => D.int (i : Int)) (c_range rfl rfl (ev_name rfl)) it (by simp; omega) (fun j hj Da C own wr => ?_) fun _ _ h => by (first | obtain ⟨_, rfl⟩ := h.atom | exact (nsE h).elim | exact (snE h).elim | exact (ftE h).elim | cases h)).ev (by simp)
  have hj' : j < word.length := by simpa using hj
  have hpi := piW_le (w := word) j
  have hsub : ∀ {Γ' : Ctx} {p1 p2 p3 : Pos}, Γ'.ρ "table" = some (.list ((tabI word).map .int)) → Γ'.ρ "k" = some (.int (j : Int)) → Ev Γ' (.Subscript (.Name "table" p1) (.Name "k" p2) p3) (.int (piW word j : Int)) := fun h1 h2 =>
    ev_sub (ev_name h1) (ev_name h2) (sub_list (by intro _ _; rfl) (by omega) (by omega) (hget j hj'))
  refine EvT.cast (evT_boolop (evTs_or (evT_of (c_isi_bool rfl rfl rfl (hsub rfl rfl) fn_isi_int_bool) truth_bool) fun _ => evTs_or (evT_not (evT_of (c_isi_int rfl rfl rfl (hsub rfl rfl) fn_isi_int_int) truth_bool)) fun _ =>
    evTs_or (evT_not (evT_chain2 ev_int (hsub rfl rfl) (ev_name rfl) op_le op_le)) fun _ => evTs_or_nil)) (by
      have h1 : decide ((0 : Int) ≤ (piW word j : Int)) = true := by simp
      have h2 : decide ((piW word j : Int) ≤ (j : Int)) = true := by simpa using hpi
      rw [h1, h2]; rfl)
end
-- part F18
theorem evU_lc2 {Γ : Ctx} {τ σ : Type} {xs : List τ} {inj : τ → D} {ys : τ → List σ} {inj2 : τ → σ → D} {p : τ → σ → Bool} {g : τ → σ → D} {d2 : τ → D} {scope : Scope} {d : D} {iter elt iter2 : Expr} {ifs2 : List Expr} {x y : Str} {px py pos : Pos}
    (hi : Ev Γ iter d) (hit : Iterable d (xs.map inj)) (hsz : (flatOut ys (fun _ _ => true) g xs).length ≤ sizeLine) (hi2 : ∀ t ∈ xs, ∀ Da C own wr, Ev (Γ.cx scope [(x, inj t)] Da C own wr) iter2 (d2 t)) (hit2 : ∀ t ∈ xs, Iterable (d2 t) ((ys t).map (inj2 t)))
    (ht : ∀ t ∈ xs, ∀ u ∈ ys t, ∀ Da C own wr wr2, TestsOk (((Γ.cx scope [(x, inj t)] Da C own wr).plus wr2).setAll [(y, inj2 t u)]) ifs2 (p t u))
    (he : ∀ t ∈ xs, ∀ u ∈ ys t, p t u = true → ∀ Da C own wr wr2, Ev (((Γ.cx scope [(x, inj t)] Da C own wr).plus wr2).setAll [(y, inj2 t u)]) elt (g t u))
    (hxy : x ≠ y := by decide) (hz : scopeB Γ scope [x, y] = true := by rfl) (hs : ∀ x, foldedSetIterable iter Γ.env x = pure x := by intro _; rfl) (hs2 : ∀ env x, foldedSetIterable iter2 env x = pure x := by intro _ _; rfl) :
    EvU Γ (.ListComp elt [⟨.Name x px, iter, [], 0⟩, ⟨.Name y py, iter2, ifs2, 0⟩] scope pos) fun Γ h₀ v h => NewL Γ h₀ (flatOut ys p g xs) v h := .mk fun s use Q hC =>
  (evU_listcomp2 (bs := fun t => [(x, inj t)]) (bs2 := fun t u => [(y, inj2 t u)]) (tg := [x, y]) hi hit (scopeOk_at hC hz) hsz (fun t _ => .name) (fun t _ b hb => by simp at hb; simp [hb]) hi2 hit2 (fun t _ u _ => .name) (fun t _ u _ b hb => by simp at hb; simp [hb]; exact hxy) ht he hs hs2).run s use Q hC
section
variable {w : World} {prog : Program} {A : Around} {base : Heap} {L : Addr} {S : Addr → Prop} {Lv : Lev} {s : Shared} {Q : Flow → Shared → Prop}
noncomputable def turns2 : List Int := [1, -1, 2, -3]
noncomputable def turnOf (nums : List Int) : Int := turns2.getD ((nums.sum.fdiv 2).fmod 4).toNat 0
theorem turn_ne (nums : List Int) : turnOf nums ≠ 0 := by
  have h := fmod_range (nums.sum.fdiv 2) (b := 4) (by decide)
  unfold turnOf
  rcases lt_cases4 h.1 h.2 with e | e | e | e <;> rw [e] <;> decide
noncomputable def dTup (t : List Int) : D := .tuple (t.map .int)
noncomputable def dRow (r : List Nat) : D := .list (r.map fun x : Nat => .int (x : Int))
noncomputable def dJudge (turn : Int) : D := .inst 38 "comp_select_list" (.list (dKeys (keys2 turn)))
noncomputable def varsC (nums word : List Int) (order : List (List Int)) : List (Str × D) := [("nums", .list (nums.map .int)), ("word", .list (word.map .int)), ("n", .int (word.length : Int)), ("letters", .list ((lets word).map .int)), ("table", .list ((tabI word).map .int)), ("arrows", dRows (arr word)), ("back", .list ((backL word).map dTup)), ("turn", .int (turnOf nums)), ("judge", dJudge (turnOf nums)), ("order", .list (order.map dTup))]
theorem flat_len {α β : Type} {f : α → List β} {M : Nat} : ∀ (l : List α), (∀ x ∈ l, (f x).length ≤ M) → (l.flatMap f).length ≤ l.length * M
  | [], _ => by simp
  | x :: l, h => by
    rw [List.flatMap_cons, List.length_append, List.length_cons, Nat.add_mul, Nat.one_mul]
    have a := h x (.head _)
    have b := flat_len l fun y hy => h y (.tail _ hy)
    omega
theorem call38 {w : World} : Callable (Kf w) (.ref 38) := by show keepIn (Kf w) (.ref 38) = true; exact id rfl
theorem back_flat (w : List Int) : flatOut (fun k => rowW w k) (fun k x => isBack k x) (fun k x => dTup (tup4 w.length k x)) (List.range (w.length + 1)) = (backL w).map dTup := by
  unfold flatOut backL pickOut
  rw [List.map_flatMap]
  congr 1
  funext k
  rw [List.map_map]; rfl
theorem backL_len (w : List Int) : (backL w).length ≤ (w.length + 1) * w.length := by
  unfold backL
  refine Nat.le_trans (flat_len (M := w.length) _ fun k _ => ?_) (by simp)
  rw [List.length_map]
  refine Nat.le_trans (List.length_filter_le ..) ?_
  rw [row_len]; exact lets_len w
set_option maxHeartbeats 2000000 in
theorem segC {nums word : List Int} (hz : word.length ≤ 100) (F : Fm Lv (fcx w prog A 19 base (env114 w L) S (varsB nums word)) [] noOwn s)
    (k : ∀ S' s', Fm Lv (fcx w prog A 19 base (env114 w L) S' (varsC nums word [])) [] noOwn s' → Ex (fcx w prog A 19 base (env114 w L) S' (varsC nums word [])) (execs (code114 w 13) (env114 w L)) Q s') :
    Ex (fcx w prog A 19 base (env114 w L) S (varsB nums word)) (execs (code114 w 8) (env114 w L)) Q s := by
  have hsz : sizeLine = 16777216 := by decide
  have htl := tabI_len word
  have hll := lets_len word
  have itN : Iterable (.range 0 ((word.length : Int) + 1) 1) ((List.range (word.length + 1)).map fun i : Nat => D.int (i : Int)) := by
    have := iter_range (n := (word.length : Int) + 1) (by omega) (by omega)
    rw [show ((word.length : Int) + 1).toNat = word.length + 1 by omega] at this; exact this
  refine x_assign F (d := dRows (arr word)) (Ev.on ?_ F.at_) fun _ F => ?_
  · refine Ev.cast (ev_lcm (xs := List.range (word.length + 1)) (inj := fun i : Nat => D.int (i : Int)) (g := fun k => dRow (rowW word k)) (c_range rfl rfl (ev_binop (ev_name rfl) ev_int op_add)) itN (by simp; omega) fun k hk Da C own wr => ?_).ev (by unfold dRows arr; rw [List.map_map]; rfl)
    have hk' : k ≤ word.length := by simp at hk; omega
    refine Ev.cast (ev_lcm (xs := lets word) (inj := D.int) (g := fun c => .int (nx word c k : Nat)) (ev_name rfl) iter_ints (by omega) fun c hc Da C own wr => ?_).ev (by unfold dRow rowW; rw [List.map_map]; rfl)
    exact ev_call (f := .ref 82) (ev_glob topOk rfl g82) ok82.callable (evs_cons (ev_name rfl) (evs_cons (ev_name rfl) (evs_cons (ev_name rfl) (evs_cons (ev_name rfl) evs_nil)))) (fn_next (nextLaw word c) (by omega) (fun j hj => tabI_get hj) hk')
  refine x_used_list F (ds := (backL word).map dTup) ?_ fun _ F => ?_
  · rw [← back_flat]
    refine evU_lc2 (xs := List.range (word.length + 1)) (inj := fun i : Nat => D.int (i : Int)) (ys := fun k => rowW word k) (inj2 := fun _ x : Nat => D.int (x : Int)) (p := fun k x => isBack k x) (g := fun k x => dTup (tup4 word.length k x)) (d2 := fun k => dRow (rowW word k))
      (c_range rfl rfl (ev_binop (ev_name rfl) ev_int op_add)) itN ?_ (fun k hk Da C own wr => ?_) (fun k _ => iterable_list) (fun k hk x hx Da C own wr wr2 => tests_one ?_) fun k hk x hx _ Da C own wr wr2 => ?_
    · unfold flatOut pickOut
      refine Nat.le_trans (flat_len (M := word.length) _ fun k _ => ?_) (by simp; exact Nat.le_trans (Nat.mul_le_mul (show word.length + 1 ≤ 101 by omega) hz) (by omega))
      rw [List.length_map]
      refine Nat.le_trans (List.length_filter_le ..) ?_
      rw [row_len]; exact hll
    · have hk' : k < word.length + 1 := by simpa using hk
      exact ev_sub (d1 := dRows (arr word)) (ev_name rfl) (ev_name rfl) (sub_list (by intro _ _; rfl) (by omega) (by omega) (by unfold arr dRow; simp [hk']))
    · exact EvT.cast (evT_chain2 ev_int (ev_name rfl) (ev_name rfl) op_le op_le) (by unfold isBack; rw [Bool.eq_iff_iff]; simp only [Bool.and_eq_true, decide_eq_true_eq]; omega)
    · exact ev_tuple (evs_cons (ev_name rfl) (evs_cons (ev_name rfl) (evs_cons (ev_binop (ev_name rfl) (ev_name rfl) op_sub) (evs_cons (ev_name rfl) evs_nil)))) (by show 4 ≤ sizeLine; omega)
  have hr := fmod_range (nums.sum.fdiv 2) (b := 4) (by decide)
  refine x_assign F (d := .int (turnOf nums)) ((ev_sub (d1 := .tuple (turns2.map .int)) (ev_tuple (evs_cons ev_int (evs_cons (ev_unop ev_int op_neg) (evs_cons ev_int (evs_cons (ev_unop ev_int op_neg) evs_nil)))) (by show 4 ≤ sizeLine; omega))
    (ev_binop (ev_binop (c_sum rfl rfl (ev_name rfl) fn_sum) ev_int (op_fdiv (by decide) (PyProof.noPylong_small (by decide)))) ev_int (op_mod (by decide))) (sub_tuple (by intro _ _; rfl) hr.1 (by omega) ?_)).on F.at_) fun _ F => ?_
  · unfold turnOf
    rcases lt_cases4 hr.1 hr.2 with e | e | e | e <;> rw [e] <;> rfl
  refine x_assign F (d := dJudge (turnOf nums)) ((ev_call (f := .ref 38) (ev_glob topOk rfl g38) call38 (evs_cons (Ev.cast (ev_list (evs_cons (ev_tuple (evs_cons ev_int (evs_cons ev_int evs_nil)) (by show 2 ≤ sizeLine; omega)) (evs_cons (ev_tuple (evs_cons ev_int (evs_cons (ev_name rfl) evs_nil)) (by show 2 ≤ sizeLine; omega)) evs_nil)) (by show 2 ≤ sizeLine; omega)) (show _ = D.list (dKeys (keys2 (turnOf nums))) from rfl)) evs_nil) fn_judge).on F.at_) fun _ F => ?_
  refine x_assign F (d := .list []) ((ev_list evs_nil (by decide)).on F.at_) fun s' F => ?_
  have F := F.next (Γ' := fcx w prog A 19 base (env114 w L) S (varsC nums word [])) rfl ⟨rfl, rfl, rfl, rfl, rfl, rfl, rfl, rfl, rfl, rfl, trivial⟩
  exact ex_with F rfl rfl rfl rfl fun F => k _ s' F
end
-- part F19
theorem dTup_inj {a b : List Int} (h : dTup a = dTup b) : a = b := by
  unfold dTup at h
  injection h with h
  have : ∀ (a b : List Int), a.map D.int = b.map D.int → a = b := fun a => by
    induction a with
    | nil => intro b h; cases b with
      | nil => rfl
      | cons y b => (first | obtain ⟨_, rfl⟩ := h.atom | exact (nsE h).elim | exact (snE h).elim | exact (ftE h).elim | cases h)
    | cons x a ih =>
      intro b h
      cases b with
      | nil => (first | obtain ⟨_, rfl⟩ := h.atom | exact (nsE h).elim | exact (snE h).elim | exact (ftE h).elim | cases h)
      | cons y b =>
        rw [List.map_cons, List.map_cons] at h
        injection h with h1 h2
        injection h1 with h1
        rw [h1, ih b h2]
  exact this a b h
open Classical in
theorem op_notin_tups {Γ : Ctx} {ahead : List (List Int)} {two : List Int} (h : ∀ t ∈ ahead, t.length = two.length) : Op2 Γ (compareOp .NotIn) (dTup two) (.list (ahead.map dTup)) (.bool (!(ahead.any fun t => decide (t = two)))) := by
  have := op_notin_list (Γ := Γ) (n := 1) (dx := dTup two) (ds := ahead.map dTup) (fun d => decide (d = dTup two)) (fun d hd => by
    obtain ⟨t, ht, rfl⟩ := List.mem_map.mp hd
    have e : decide (dTup t = dTup two) = decide (t = two) := by
      rw [Bool.eq_iff_iff]; simp only [decide_eq_true_eq]; exact ⟨dTup_inj, fun h => by rw [h]⟩
    rw [e]
    exact EqD.tints 0 t two (h t ht)) (by decide)
  refine this.cast (congrArg D.bool (congrArg (!·) ?_))
  rw [List.any_map]
  congr 1
  funext t
  simp only [Function.comp]
  rw [Bool.eq_iff_iff]; simp only [decide_eq_true_eq]; exact ⟨dTup_inj, fun h => by rw [h]⟩
section
variable {w : World}
theorem find35 : findIn (Kf w) (.ref 38) "compare" = some (some (.ref 35)) := id rfl
theorem type35 : typeIn (Kf w) (.ref 35) = some (.type "function") := id rfl
theorem shadow35 : ∀ hs t v n, shadowIn (some { cls := .type "dict", data := .dict #[⟨hs, .str "comp_select_list" t, v⟩] n }) "compare" = some false := fun _ _ _ _ => id rfl
/-- judge.compare(a, b) -/
theorem ev_judge {Γ : Ctx} {w : World} {m : Nat} {o x y : Expr} {apos pos : Pos} {turn : Int} {a b : List Int} {pl : Sem Bool} (hK : Γ.K = Kf w) (hw : Γ.w = w) (hn : Γ.n = m + 1) (ho : Ev Γ o (dJudge turn)) (hx : Ev Γ x (dTup a)) (hy : Ev Γ y (dTup b)) (ha : a.length = 4) (hb : b.length = 4)
    (he : eval (.Call (.Attribute o "compare" apos) [x, y] [] pos) Γ.env = (do
      let ov ← eval o Γ.env
      standAt apos.atName
      let (f, first) ← holding [ov] (getMethod ov "compare" pl)
      callWith pos f first (backTo pos (starEach [x, y] Γ.env)) (backToKw pos (keywordEach [] Γ.env))) := by rfl) (hpx : plainE x = true := by rfl) (hpy : plainE y = true := by rfl) :
    Ev Γ (.Call (.Attribute o "compare" apos) [x, y] [] pos) (.int (cmpT turn a b)) :=
  ev_methI (C := 38) (fI := 28) (f := 35) (hK ▸ cls38) ho (evs_cons hx (evs_cons hy evs_nil hpy) hpx) (hK ▸ find35) (hK ▸ type35) shadow35 (hK ▸ ok35.callable) (by
    rw [hK, hn, hw]
    exact fn_compare (keys := keys2 turn) (X := a) (Y := b) (fun p hp => by
      unfold keys2 at hp
      simp only [List.mem_cons, List.not_mem_nil, or_false] at hp
      rcases hp with rfl | rfl <;> simp [ha, hb]) (by omega)) he (by rw [List.all_cons, List.all_cons, hpx, hpy]; rfl)

variable {prog : Program} {A : Around} {base : Heap} {L : Addr} {S : Addr → Prop} {Lv : Lev} {s : Shared} {Q : Flow → Shared → Prop}
theorem back_len4 {word : List Int} {t : List Int} (h : t ∈ backL word) : t.length = 4 := by
  obtain ⟨k, size, c, _, _, _, _, _, rfl⟩ := back_mem h; rfl
theorem ord_mem {turn : Int} (ht : turn ≠ 0) {word : List Int} {k : Nat} {t : List Int} (h : t ∈ ordL turn ((backL word).take k)) : t ∈ backL word :=
  List.mem_of_mem_take ((ord_ok ht (backL word) back_last (back_far word) k).perm.mem_iff.mp h)
set_option maxHeartbeats 2000000 in
theorem segD {nums word : List Int} (hz : word.length ≤ 100) (F : Fm Lv (fcx w prog A 19 base (env114 w L) S (varsC nums word [])) [] noOwn s)
    (k : ∀ S' s', Fm Lv (fcx w prog A 19 base (env114 w L) S' (varsC nums word (ordL (turnOf nums) (backL word)))) [] noOwn s' → Ex (fcx w prog A 19 base (env114 w L) S' (varsC nums word (ordL (turnOf nums) (backL word)))) (execs (code114 w 14) (env114 w L)) Q s') :
    Ex (fcx w prog A 19 base (env114 w L) S (varsC nums word [])) (execs (code114 w 13) (env114 w L)) Q s := by
  have hsz : sizeLine = 16777216 := by decide
  have hbl := backL_len word
  have hbl2 : (word.length + 1) * word.length ≤ 101 * 100 := Nat.mul_le_mul (by omega) hz
  have ht := turn_ne nums
  refine x_for (d := .list ((backL word).map dTup)) (ds := (backL word).map dTup) (fun j => varsC nums word (ordL (turnOf nums) ((backL word).take j))) (fun _ => noOwn) F (fun _ => noOwn_ok) ((ev_name rfl).on F.at_) iterable_list ⟨rfl, rfl, rfl, rfl, rfl, rfl, rfl, rfl, rfl, rfl, trivial⟩ (fun j d' hd => ?_) fun s' F => ?_
  · rw [List.getElem?_map] at hd
    cases hx : (backL word)[j]? with
    | none => rw [hx] at hd; (first | obtain ⟨_, rfl⟩ := hd.atom | exact (nsE hd).elim | exact (snE hd).elim | exact (ftE hd).elim | cases hd)
    | some one =>
      rw [hx] at hd; (first | obtain ⟨_, rfl⟩ := hd.atom | exact (nsE hd).elim | exact (snE hd).elim | exact (ftE hd).elim | cases hd)
      have h1 : one.length = 4 := back_len4 (List.mem_of_getElem? hx)
      have hO : ∀ t ∈ ordL (turnOf nums) ((backL word).take j), t.length = 4 := fun t h => back_len4 (ord_mem ht h)
      have hOl : (ordL (turnOf nums) ((backL word).take j)).length ≤ 101 * 100 := by
        rw [(ord_ok ht (backL word) back_last (back_far word) j).perm.length_eq, List.length_take]; omega
      have hnext : ordL (turnOf nums) ((backL word).take (j + 1)) = ins (turnOf nums) (ordL (turnOf nums) ((backL word).take j)) one := by
        unfold ordL; rw [List.take_add_one, hx, List.foldl_append]; rfl
      generalize ordL (turnOf nums) ((backL word).take j) = O at hO hOl hnext
      refine ⟨_, .name, rfl, fun L' wr s' hWL hs₀ F => ?_⟩
      have hfl : (O.filter fun two => decide (cmpT (turnOf nums) two one < 0)).length ≤ O.length := List.length_filter_le ..
      refine x_assign F (d := .list ((O.filter fun two => decide (cmpT (turnOf nums) two one < 0)).map dTup)) (Ev.on ?_ F.at_) fun _ F => ?_
      · refine (ev_lcf (xs := O) (inj := dTup) (p := fun two => decide (cmpT (turnOf nums) two one < 0)) (g := dTup) (ev_name rfl) iterable_list (by omega) (fun two h Da C own wr => ?_) fun two h _ Da C own wr => ev_name rfl).ev
        exact evT_cmp (ev_judge (m := 18) rfl rfl rfl (ev_name rfl) (ev_name rfl) (ev_name rfl) (hO two h) h1) ev_int op_lt
      refine x_assign F (d := .list ((ins (turnOf nums) O one).map dTup)) (Ev.on ?_ F.at_) fun _ F => ?_
      · unfold ins
        rw [List.map_append, List.map_append]
        refine ev_binop (ev_binop (ev_name rfl) (ev_list (evs_cons (ev_name rfl) evs_nil) (by show 1 ≤ sizeLine; omega)) (op_addL (by simp; omega))) (ev_lcf (xs := O) (inj := dTup) (g := dTup) (ev_name rfl) iterable_list (by omega) (fun two h Da C own wr => ?_) fun two h _ Da C own wr => ev_name rfl).ev (op_addL ?_)
        · exact evT_cmp (ev_name rfl) (ev_name rfl) (op_notin_tups fun t h' => by rw [hO two h, hO t (List.mem_filter.mp h').1])
        · have := List.length_filter_le (fun two => !((O.filter fun two => decide (cmpT (turnOf nums) two one < 0)).any fun t => decide (t = two))) O
          simp only [List.length_append, List.length_map, List.length_singleton, List.length_cons, List.length_nil]
          omega
      rw [hnext]
      exact ex_nil (.inl ⟨.inl rfl, F.next rfl ⟨rfl, rfl, rfl, rfl, rfl, rfl, rfl, rfl, rfl, rfl, trivial⟩⟩)
  · rw [List.length_map, List.take_length] at F ⊢
    have F := F.next (Γ' := fcx w prog A 19 base (env114 w L) S (varsC nums word (ordL (turnOf nums) (backL word)))) rfl ⟨rfl, rfl, rfl, rfl, rfl, rfl, rfl, rfl, rfl, rfl, trivial⟩
    exact ex_with F rfl rfl rfl rfl fun F => k _ s' F
end
-- part F20
section
variable {w : World} {prog : Program} {A : Around} {base : Heap} {L : Addr} {S : Addr → Prop} {Lv : Lev} {s : Shared} {Q : Flow → Shared → Prop}
/-- a list that stays empty -/
theorem evT_none {Γ : Ctx} {e : Expr} {p1 p2 : Pos} (h : Ev Γ e (.list [])) : EvT Γ (.Compare e [.NotEq] [.List [] p1] p2) false :=
  evT_cmp (d1 := .list (([] : List Int).map .int)) h (ev_list evs_nil (by decide)) ((op_neD (EqD.ints 0 [] []) (by decide)).cast rfl)
theorem ev_lcno {Γ : Ctx} {τ : Type} {xs : List τ} {inj : τ → D} {scope : Scope} {d : D} {iter elt test : Expr} {x : Str} {px pos : Pos} (hi : Ev Γ iter d) (hit : Iterable d (xs.map inj)) (hsz : xs.length ≤ sizeLine)
    (ht : ∀ t ∈ xs, ∀ Da C own wr, EvT (Γ.cx scope [(x, inj t)] Da C own wr) test false) (hz : scopeB Γ scope [x] = true := by rfl) (hs : ∀ x, foldedSetIterable iter Γ.env x = pure x := by intro _; rfl) : Ev Γ (.ListComp elt [⟨.Name x px, iter, [test], 0⟩] scope pos) (.list []) :=
  Ev.cast (ev_lcf (p := fun _ => false) (g := fun _ => D.none) hi hit hsz ht (fun _ _ h => by (first | obtain ⟨_, rfl⟩ := h.atom | exact (nsE h).elim | exact (snE h).elim | exact (ftE h).elim | cases h)) hz hs).ev (by simp)
set_option maxHeartbeats 2000000 in
theorem segE {nums word : List Int} (hz : word.length ≤ 100) (F : Fm Lv (fcx w prog A 19 base (env114 w L) S (varsC nums word (ordL (turnOf nums) (backL word)))) [] noOwn s)
    (k : ∀ s', Fm Lv (fcx w prog A 19 base (env114 w L) S (varsC nums word (ordL (turnOf nums) (backL word)))) [] noOwn s' → Ex (fcx w prog A 19 base (env114 w L) S (varsC nums word (ordL (turnOf nums) (backL word)))) (execs (code114 w 17) (env114 w L)) Q s') :
    Ex (fcx w prog A 19 base (env114 w L) S (varsC nums word (ordL (turnOf nums) (backL word)))) (execs (code114 w 14) (env114 w L)) Q s := by
  have hsz : sizeLine = 16777216 := by decide
  have hbl := backL_len word
  have hbl2 : (word.length + 1) * word.length ≤ 101 * 100 := Nat.mul_le_mul (by omega) hz
  have ht := turn_ne nums
  have O := ord_full ht (l := backL word) back_last (back_far word)
  have hlen := O.perm.length_eq
  have hmem : ∀ t ∈ ordL (turnOf nums) (backL word), t.length = 4 := fun t h => back_len4 (O.perm.mem_iff.mp h)
  refine x_skip F (EvT.on ?_ F.at_) fun _ F => ?_
  · refine evT_none (ev_lcno (xs := backL word) (inj := dTup) (ev_name rfl) iterable_list (by omega) fun one h Da C own wr => ?_)
    refine EvT.cast (evT_cmp (ev_judge (m := 18) rfl rfl rfl (ev_name rfl) (ev_name (d := dTup one) rfl) (ev_name rfl) (back_len4 h) (back_len4 h)) ev_int op_ne) ?_
    rw [cmp_self]; rfl
  generalize hOe : ordL (turnOf nums) (backL word) = ord at O hlen hmem F ⊢
  rw [hOe] at k
  have it2 := iter_range2 (a := 1) (b := ((backL word).length : Int)) (by omega) (by omega) (by omega) (by omega)
  have lenB : ∀ {Γ : Ctx} {p1 p2 p3 : Pos}, Γ.K = Kf w → Γ.env.kindOf "len" = some .globalImplicit → Γ.ρ "back" = some (.list ((backL word).map dTup)) → Ev Γ (.Call (.Name "len" p1) [.Name "back" p2] [] p3) (.int ((backL word).length : Int)) := fun h1 h2 h3 =>
    (c_len h1 h2 (ev_name h3) (fn_len_list (by simp; omega))).cast (congrArg D.int (by simp))
  have ordA : ∀ {Γ : Ctx} {i : Nat} {p1 p2 p3 p4 p5 : Pos} {kk : Nat}, i + 1 < ord.length → Γ.ρ "order" = some (.list (ord.map dTup)) → Γ.ρ "i" = some (.int (1 + (i : Int))) → Ev Γ (.Subscript (.Name "order" p1) (.BinOp (.Name "i" p2) .Sub (.Constant (.int 1) kk p3) p4) p5) (dTup (ord.getD i [])) := fun {Γ i p1 p2 p3 p4 p5 kk} hi h1 h2 =>
    ev_sub (d1 := .list (ord.map dTup)) (ev_name h1) (ev_binop (ev_name h2) ev_int op_sub) (sub_list (by intro _ _; rfl) (by omega) (by omega) (by rw [show (1 + (i : Int) - 1).toNat = i by omega]; simp [show i < ord.length by omega]))
  have ordB : ∀ {Γ : Ctx} {i : Nat} {p1 p2 p3 : Pos}, i + 1 < ord.length → Γ.ρ "order" = some (.list (ord.map dTup)) → Γ.ρ "i" = some (.int (1 + (i : Int))) → Ev Γ (.Subscript (.Name "order" p1) (.Name "i" p2) p3) (dTup (ord.getD (i + 1) [])) := fun {Γ i p1 p2 p3} hi h1 h2 =>
    ev_sub (d1 := .list (ord.map dTup)) (ev_name h1) (ev_name h2) (sub_list (by intro _ _; rfl) (by omega) (by omega) (by rw [show (1 + (i : Int)).toNat = i + 1 by omega]; simp [hi]))
  have mA : ∀ i, i < ord.length → (ord.getD i []).length = 4 := fun i hi => hmem _ (by simp [hi])
  refine x_skip F (EvT.on ?_ F.at_) fun _ F => ?_
  · refine evT_none (ev_lcno (xs := List.range (((backL word).length : Int) - 1).toNat) (inj := fun i : Nat => D.int (1 + (i : Int))) (c_range2 rfl rfl ev_int (lenB rfl rfl rfl)) it2 (by simp; omega) fun i hi Da C own wr => ?_)
    have hi' : i + 1 < ord.length := by simp at hi; omega
    refine EvT.cast (evT_cmp (ev_judge (m := 18) rfl rfl rfl (ev_name rfl) (ordA hi' rfl rfl) (ordB hi' rfl rfl) (mA i (by omega)) (mA (i + 1) hi')) (ev_unop (c_abs rfl rfl (ev_name rfl) fn_abs) op_neg) op_ne) ?_
    rw [(ord_step ht O hi').1]
    unfold absI; simp
  refine x_skip F (EvT.on ?_ F.at_) fun s' F => k s' F
  · refine evT_none (ev_lcno (xs := List.range (((backL word).length : Int) - 1).toNat) (inj := fun i : Nat => D.int (1 + (i : Int))) (c_range2 rfl rfl ev_int (lenB rfl rfl rfl)) it2 (by simp; omega) fun i hi Da C own wr => ?_)
    have hi' : i + 1 < ord.length := by simp at hi; omega
    have g2 : ∀ t : List Int, t.length = 4 → (t.map D.int)[((2 : Int)).toNat]? = some (.int (far t)) := fun t h => by
      show (t.map D.int)[2]? = _
      unfold far; simp [h]
    refine EvT.cast (evT_cmp (ev_cmpB (ev_sub (d1 := dTup (ord.getD i [])) (ordA hi' rfl rfl) ev_int (sub_tuple (by intro _ _; rfl) (by decide) (by decide) (g2 _ (mA i (by omega))))) (ev_sub (d1 := dTup (ord.getD (i + 1) [])) (ordB hi' rfl rfl) ev_int (sub_tuple (by intro _ _; rfl) (by decide) (by decide) (g2 _ (mA (i + 1) hi')))) op_lt)
      (ev_cmpB (ev_name rfl) ev_int op_gt) op_neB) ?_
    exact (ord_step ht O hi').2
end
-- part F21
section
variable {w : World} {prog : Program} {A : Around} {base : Heap} {L : Addr} {S : Addr → Prop} {Lv : Lev} {s : Shared} {Q : Flow → Shared → Prop}
noncomputable def booksD (word : List Int) : List D := ((List.range (word.length + 1)).map (bookOf word (word.length + 1))).map .idict
noncomputable def varsF (nums word : List Int) : List (Str × D) := [("nums", .list (nums.map .int)), ("word", .list (word.map .int)), ("n", .int (word.length : Int)), ("letters", .list ((lets word).map .int)), ("table", .list ((tabI word).map .int)), ("arrows", dRows (arr word)), ("books", .list (booksD word))]
theorem arr_len (word : List Int) : (arr word).length = word.length + 1 := by unfold arr; simp
theorem callsL_len (word : List Int) : (callsL word).length = word.length + 1 := by unfold callsL; simp
theorem mulOk_small {a b : Int} (h1 : -(2 ^ 64) < a) (h2 : a < 2 ^ 64) : IntMulOk a b := IntMulOk.of_left (intBits_le_64 h1 h2)
set_option maxHeartbeats 2000000 in
theorem segF {nums word : List Int} {order : List (List Int)} (hz : word.length ≤ 90) (h1 : 1 ≤ word.length) (F : Fm Lv (fcx w prog A 19 base (env114 w L) S (varsC nums word order)) [] noOwn s)
    (k : ∀ s', Fm Lv (fcx w prog A 19 base (env114 w L) S (varsF nums word)) [] noOwn s' → Ex (fcx w prog A 19 base (env114 w L) S (varsF nums word)) (execs (code114 w 20) (env114 w L)) Q s') :
    Ex (fcx w prog A 19 base (env114 w L) S (varsC nums word order)) (execs (code114 w 17) (env114 w L)) Q s := by
  have hsz : sizeLine = 16777216 := by decide
  have hal := arr_len word
  have hll := lets_len word
  have hcl := callsL_len word
  have hbl := backL_len word
  have hbl2 : (word.length + 1) * word.length ≤ 91 * 90 := Nat.mul_le_mul (by omega) hz
  have hbk : FnL (Kf w) prog w 19 (.ref 92) [dRows (arr word)] (booksD word) := by
    have := fn_books (w := w) (prog := prog) (n := 17) (rows := arr word) (by omega) fun r hr => by
      unfold arr at hr
      obtain ⟨k, hk, rfl⟩ := List.mem_map.mp hr
      refine ⟨by rw [row_len]; omega, fun x hx => by rw [hal]; exact row_lt hx⟩
    rw [hal, books_is _ (Nat.le_refl _)] at this
    exact this
  refine x_assign F (d := .list (booksD word)) ((ev_callL (f := .ref 92) (ev_glob topOk rfl g92) ok92.callable (evs_cons (ev_name rfl) evs_nil) hbk).ev.on F.at_) fun _ F => ?_
  refine x_used_list F (ds := (callsL word).map .int) ?_ fun _ F => ?_
  · unfold callsL
    rw [List.map_map]
    refine evU_lcm (xs := List.range (word.length + 1)) (inj := fun size : Nat => D.idict (bookOf word (word.length + 1) size)) (d := .list (booksD word)) (ev_name rfl) ?_ (by simp; omega) fun size hs Da C own wr => ?_
    · have := iterable_list (ds := booksD word)
      unfold booksD at this ⊢
      rw [List.map_map] at this ⊢
      exact this
    · exact ev_call (f := .ref 63) (ev_glob topOk rfl g63) ok63.callable (evs_cons (ev_name rfl) evs_nil) (fn_count_calls kdI)
  obtain ⟨c1, c2⟩ := calls_ok (w := word)
  have hd : (callsL word).drop 1 ≠ [] := fun e => by
    have := congrArg List.length e
    rw [List.length_drop, hcl] at this
    change word.length + 1 - 1 = 0 at this
    omega
  have sl : ∀ {Γ : Ctx} {p1 p2 p3 p4 : Pos} {kk : Nat}, Γ.ρ "calls" = some (.list ((callsL word).map .int)) → Ev Γ (.Subscript (.Name "calls" p1) (.Slice (some (.Constant (.int 1) kk p2)) none none p3) p4) (.list (((callsL word).drop 1).map .int)) := fun h =>
    (ev_slice (ev_name h) (part_some ev_int) part_none (by simp; omega)).cast (congrArg D.list (by rw [cut_from _ (by decide), List.map_drop]; rfl))
  have lenB : ∀ {Γ : Ctx} {p1 p2 p3 : Pos}, Γ.K = Kf w → Γ.env.kindOf "len" = some .globalImplicit → Γ.ρ "back" = some (.list ((backL word).map dTup)) → Ev Γ (.Call (.Name "len" p1) [.Name "back" p2] [] p3) (.int ((backL word).length : Int)) := fun h1 h2 h3 =>
    (c_len h1 h2 (ev_name h3) (fn_len_list (by simp; omega))).cast (congrArg D.int (by simp))
  refine x_skip F (EvT.on (b := false) ?_ F.at_) fun s' F => ?_
  · refine EvT.cast (evT_boolop (evTs_or (evT_cmp (d2 := .list (([] : List Int).map .int)) (sl rfl) (ev_list evs_nil (by decide)) (op_eqD (EqD.ints 0 _ _) (by decide))) fun _ => evTs_or (evT_cmp (c_sum rfl rfl (sl rfl) fn_sum) (ev_binop ev_int (ev_binop (ev_name rfl) (lenB rfl rfl rfl) op_add) (op_mul mulOk2)) op_ne) fun _ =>
      evTs_or (evT_cmp (d1 := .int ((callsL word).getD 0 0)) (ev_sub (ev_name rfl) ev_int (sub_list (by intro _ _; rfl) (by decide) (by decide) ?_))
        (ev_binop ev_int (ev_binop (ev_binop (ev_binop (ev_binop (ev_name rfl) ev_int op_add) ((c_len rfl rfl (ev_name rfl) (fn_len_list (by simp; omega))).cast (congrArg D.int (show _ = ((lets word).length : Int) by simp))) (op_mul (mulOk_small (by omega) (by omega)))) (ev_name rfl) op_sub) (lenB rfl rfl rfl) op_sub) (op_mul mulOk2)) op_ne) fun _ => evTs_or_nil)) ?_
    · show ((callsL word).map D.int)[0]? = _
      rw [List.getElem?_map, List.getD_eq_getElem?_getD, List.getElem?_eq_getElem (by omega)]; rfl
    · rw [c1, c2, decide_eq_false hd]; simp
  have F := F.next (Γ' := fcx w prog A 19 base (env114 w L) S (varsF nums word)) rfl ⟨rfl, rfl, rfl, rfl, rfl, rfl, rfl, trivial⟩
  exact ex_with F rfl rfl rfl rfl fun F => k s' F
end
-- part F22
open Classical in
theorem op_in_zero {Γ : Ctx} (row : List Nat) : Op2 Γ (compareOp .In) (.int 0) (dRow row) (.bool (decide (0 ∈ row))) := by
  have := op_in_list (Γ := Γ) (n := 0) (dx := .int 0) (ds := row.map fun x : Nat => .int (x : Int)) (fun d => decide (d = .int 0)) (fun d hd => by
    obtain ⟨x, hx, rfl⟩ := List.mem_map.mp hd
    have e : decide (D.int (x : Int) = D.int 0) = ((x : Int) == 0) := by
      rw [Bool.eq_iff_iff]; simp
    rw [e]
    exact EqD.int 0 _ _) (by decide)
  refine this.cast (congrArg D.bool ?_)
  rw [Bool.eq_iff_iff, List.any_eq_true, decide_eq_true_eq]
  constructor
  · rintro ⟨d, hd, q⟩
    obtain ⟨x, hx, rfl⟩ := List.mem_map.mp hd
    have : x = 0 := by simpa using q
    exact this ▸ hx
  · intro h
    exact ⟨.int ((0 : Nat) : Int), List.mem_map.mpr ⟨0, h, rfl⟩, by simp⟩
theorem count_cast (row : List Nat) (x : Nat) : ((row.map fun y : Nat => (y : Int)).count (x : Int)) = row.count x := by
  induction row with
  | nil => rfl
  | cons y row ih =>
    rw [List.map_cons, List.count_cons, List.count_cons, ih]
    congr 1
    by_cases h : y = x
    · subst h; simp
    · have : ¬ ((y : Int) = (x : Int)) := fun e => h (by omega)
      simp [h, this]
section
variable {w : World} {prog : Program} {A : Around} {base : Heap} {L : Addr} {S : Addr → Prop} {Lv : Lev} {s : Shared} {Q : Flow → Shared → Prop}
theorem book_zero {word : List Int} : bookOf word (word.length + 1) 0 = ((List.range (word.length + 1)).filter fun k => decide (0 ∈ rowW word k)).map fun k : Nat => ((k : Int), 2 * ((rowW word k).count 0 : Int)) := by
  unfold bookOf
  congr 1
  apply List.filter_congr
  intro k _
  rw [Bool.eq_iff_iff]
  simp only [decide_eq_true_eq]
  exact List.count_pos_iff
set_option maxHeartbeats 2000000 in
theorem segG {nums word : List Int} (hz : word.length ≤ 90) (F : Fm Lv (fcx w prog A 19 base (env114 w L) S (varsF nums word)) [] noOwn s)
    (k : ∀ S' s', Fm Lv (fcx w prog A 19 base (env114 w L) S' (varsF nums word)) [] noOwn s' → Ex (fcx w prog A 19 base (env114 w L) S' (varsF nums word)) (execs (code114 w 22) (env114 w L)) Q s') :
    Ex (fcx w prog A 19 base (env114 w L) S (varsF nums word)) (execs (code114 w 20) (env114 w L)) Q s := by
  have hsz : sizeLine = 16777216 := by decide
  have hal := arr_len word
  have itN : Iterable (.range 0 ((word.length : Int) + 1) 1) ((List.range (word.length + 1)).map fun i : Nat => D.int (i : Int)) := by
    have := iter_range (n := (word.length : Int) + 1) (by omega) (by omega)
    rw [show ((word.length : Int) + 1).toNat = word.length + 1 by omega] at this; exact this
  have it2 := iter_range2 (a := 1) (b := (word.length : Int) + 1) (by omega) (by omega) (by omega) (by omega)
  rw [show ((word.length : Int) + 1 - 1).toNat = word.length by omega] at it2
  have gB : ∀ j : Nat, j ≤ word.length → (booksD word)[((j : Int)).toNat]? = some (.idict (bookOf word (word.length + 1) j)) := fun j hj => by
    unfold booksD
    rw [Int.toNat_natCast, List.getElem?_map, List.getElem?_map, List.getElem?_range (by omega)]; rfl
  have gR : ∀ j : Nat, j ≤ word.length → ((arr word).map dRow)[((j : Int)).toNat]? = some (dRow (rowW word j)) := fun j hj => by
    unfold arr
    rw [Int.toNat_natCast, List.getElem?_map, List.getElem?_map, List.getElem?_range (by omega)]; rfl
  refine x_for (d := .range 1 ((word.length : Int) + 1) 1) (ds := (List.range word.length).map fun i : Nat => D.int (1 + (i : Int))) (fun _ => varsF nums word) (fun _ => noOwn) F (fun _ => noOwn_ok) ((c_range2 rfl rfl ev_int (ev_binop (ev_name rfl) ev_int op_add)).on F.at_) it2 ⟨rfl, rfl, rfl, rfl, rfl, rfl, rfl, trivial⟩ (fun j d' hd => ?_) fun s' F => ?_
  · have hj : j < word.length := by
      have := (List.getElem?_eq_some_iff.mp hd).1
      simpa using this
    have hd' : d' = .int (1 + (j : Int)) := by
      rw [List.getElem?_map, List.getElem?_range hj] at hd
      exact (Option.some.inj hd).symm
    subst hd'
    refine ⟨_, .name, rfl, fun L' wr s' hWL hs₀ F => ?_⟩
    refine x_skip F (EvT.on ?_ F.at_) fun s' F => ex_nil (.inl ⟨.inl rfl, F.next rfl ⟨rfl, rfl, rfl, rfl, rfl, rfl, rfl, trivial⟩⟩)
    refine EvT.cast (evT_cmp (ev_sub (d1 := .list (booksD word)) (ev_name rfl) (ev_name rfl) (sub_list (d := .idict (bookOf word (word.length + 1) (j + 1))) (by intro _ _; rfl) (by omega) (by omega) (by rw [show 1 + (j : Int) = ((j + 1 : Nat) : Int) by omega]; exact gB _ (by omega))))
      (EvND.evI (kvs := ((List.range (word.length + 1)).filter fun k => decide (lon word (word.take k ++ [word.getD j 0]) = j + 1)).map fun k : Nat => ((k : Int), (2 : Int))) ?_) (op_neD (EqD.idict 0 _ _) (by decide))) (by rw [← book_search hj, eqKV_self book_nodup]; rfl)
    refine ev_dc kdI (xs := List.range (word.length + 1)) (inj := fun i : Nat => D.int (i : Int)) (p := fun k => decide (lon word (word.take k ++ [word.getD j 0]) = j + 1)) (gk := fun k : Nat => (k : Int)) (gv := fun _ => 2) (c_range rfl rfl (ev_binop (ev_name rfl) ev_int op_add)) itN (by simp; omega) (fun q hq Da C own wr => tests_one ?_) (fun q hq _ Da C own wr => ev_name rfl) (fun q hq _ Da C own wr => ev_int) ?_
    · have hq' : q ≤ word.length := by simp at hq; omega
      refine EvT.cast (evT_cmp (ev_call (f := .ref 87) (ev_glob topOk rfl g87) ok87.callable (evs_cons (ev_name rfl) (evs_cons (Ev.cast (ev_binop ((ev_slice (ev_name rfl) part_none (part_some (ev_name rfl)) (by simp; omega)).cast (congrArg D.list (show _ = (word.take q).map D.int by rw [cut_to _ (by omega), List.map_take]; rfl)))
        (ev_list (evs_cons (ev_sub (ev_name rfl) (ev_binop (ev_name rfl) ev_int op_sub) (sub_list (d := .int (word.getD j 0)) (by intro _ _; rfl) (by omega) (by omega) (by rw [show (1 + (j : Int) - 1).toNat = j by omega]; simp [hj]))) evs_nil) (by show 1 ≤ sizeLine; omega)) (op_addL (by simp; omega))) (show _ = D.list ((word.take q ++ [word.getD j 0]).map .int) by rw [List.map_append]; rfl)) evs_nil))
        (fn_longest (isLon_lon word (word.take q ++ [word.getD j 0])) (by omega) (by simp; omega))) (ev_name rfl) op_eq) ?_
      rw [Bool.eq_iff_iff]
      simp only [beq_iff_eq, decide_eq_true_eq]
      omega
    · exact List.pairwise_map.mpr ((List.nodup_range.filter _).imp fun h e => h (Int.ofNat.inj e))
  · have F := F.next (Γ' := fcx w prog A 19 base (env114 w L) S (varsF nums word)) rfl ⟨rfl, rfl, rfl, rfl, rfl, rfl, rfl, trivial⟩
    refine ex_with F rfl rfl rfl rfl fun F => ?_
    refine x_skip F (EvT.on ?_ F.at_) fun s' F => k S s' F
    refine EvT.cast (evT_cmp (ev_sub (d1 := .list (booksD word)) (ev_name rfl) ev_int (sub_list (d := .idict (bookOf word (word.length + 1) 0)) (by intro _ _; rfl) (by decide) (by decide) (gB 0 (by omega))))
      (EvND.evI (kvs := ((List.range (word.length + 1)).filter fun k => decide (0 ∈ rowW word k)).map fun k : Nat => ((k : Int), 2 * ((rowW word k).count 0 : Int))) ?_) (op_neD (EqD.idict 0 _ _) (by decide))) (by rw [← book_zero, eqKV_self book_nodup]; rfl)
    refine ev_dc kdI (xs := List.range (word.length + 1)) (inj := fun i : Nat => D.int (i : Int)) (p := fun k => decide (0 ∈ rowW word k)) (gk := fun k : Nat => (k : Int)) (gv := fun k => 2 * ((rowW word k).count 0 : Int)) (c_range rfl rfl (ev_binop (ev_name rfl) ev_int op_add)) itN (by simp; omega) (fun q hq Da C own wr => tests_one ?_) (fun q hq _ Da C own wr => ev_name rfl) (fun q hq _ Da C own wr => ?_) ?_
    · have hq' : q ≤ word.length := by simp at hq; omega
      exact evT_cmp ev_int (ev_sub (d1 := dRows (arr word)) (ev_name rfl) (ev_name rfl) (sub_list (by intro _ _; rfl) (by omega) (by omega) (gR q hq'))) (op_in_zero _)
    · have hq' : q ≤ word.length := by simp at hq; omega
      refine ev_binop ev_int (ev_meth (T := "list") (id := "list.count") (d0 := .list (((rowW word q).map fun y : Nat => (y : Int)).map .int)) (d := .int ((rowW word q).count 0 : Nat)) ((ev_sub (d1 := dRows (arr word)) (ev_name rfl) (ev_name rfl) (sub_list (by intro _ _; rfl) (by omega) (by omega) (gR q hq'))).cast (by unfold dRow; rw [List.map_map]; rfl)) (evs_cons ev_int evs_nil) hasT_list PySem.F.plainAttrs_list PySem.F.slot_list_count PySem.F.type_list_count ?_) (op_mul mulOk2)
      have := fn_count (K := Kf w) (prog := prog) (w := w) (n := 19) (ns := (rowW word q).map fun y : Nat => (y : Int)) (k := ((0 : Nat) : Int))
      rw [count_cast] at this
      exact this
    · exact List.pairwise_map.mpr ((List.nodup_range.filter _).imp fun h e => h (Int.ofNat.inj e))
end
-- part F23
noncomputable def cutI (nums : List Int) (n : Nat) (k : Nat) : Int := (([6, 3, 5, 2] : List Int).getD k 0 + (cutBy nums (some (k : Int)) none (some 4)).sum).fmod ((n : Int) + 1)
theorem cutI_range (nums : List Int) (n k : Nat) : 0 ≤ cutI nums n k ∧ cutI nums n k ≤ n := by
  have := fmod_range (([6, 3, 5, 2] : List Int).getD k 0 + (cutBy nums (some (k : Int)) none (some 4)).sum) (b := (n : Int) + 1) (by omega)
  unfold cutI; omega
noncomputable def cutsI (nums : List Int) (n : Nat) : List Int := (List.range 4).map fun k => cutI nums n k
noncomputable def textOf (nums word : List Int) : List Int :=
  word.take (cutI nums word.length 0).toNat ++ word.take (cutI nums word.length 1).toNat ++ [(lets word).getD ((lets word).length - 1) 0 + 1] ++ word.take (cutI nums word.length 2).toNat ++ word.take (cutI nums word.length 3).toNat ++ word.take ((word.length : Int) - nums.sum.fmod 2).toNat
theorem cut_len {α : Type} (xs : List α) (i : Nat) : (xs.take i).length ≤ xs.length := by rw [List.length_take]; exact Nat.min_le_right ..
theorem textOf_len (nums word : List Int) : (textOf nums word).length ≤ 5 * word.length + 1 := by
  unfold textOf
  have h := cut_len word
  rw [List.length_append, List.length_append, List.length_append, List.length_append, List.length_append]
  have h0 := h (cutI nums word.length 0).toNat
  have h1 := h (cutI nums word.length 1).toNat
  have h2 := h (cutI nums word.length 2).toNat
  have h3 := h (cutI nums word.length 3).toNat
  have h4 := h ((word.length : Int) - nums.sum.fmod 2).toNat
  rw [show [(lets word).getD ((lets word).length - 1) 0 + 1].length = 1 from rfl]
  clear h
  generalize (word.take (cutI nums word.length 0).toNat).length = a at *
  generalize (word.take (cutI nums word.length 1).toNat).length = b at *
  generalize (word.take (cutI nums word.length 2).toNat).length = c at *
  generalize (word.take (cutI nums word.length 3).toNat).length = d at *
  generalize (word.take ((word.length : Int) - nums.sum.fmod 2).toNat).length = e at *
  generalize word.length = m at *
  omega
theorem one_len (x : Int) : [x].length ≤ 1 := Nat.le_refl 1
theorem add_len {xs ys : List Int} {a b : Nat} (h1 : xs.length ≤ a) (h2 : ys.length ≤ b) : (xs ++ ys).length ≤ a + b := by rw [List.length_append]; exact Nat.add_le_add h1 h2
theorem op_addI {Γ : Ctx} {xs ys : List Int} (a b : Nat) (h1 : xs.length ≤ a) (h2 : ys.length ≤ b) (h : a + b ≤ 1000) : Op2 Γ (binaryOp .Add) (.list (xs.map .int)) (.list (ys.map .int)) (.list ((xs ++ ys).map .int)) :=
  (op_addL (by rw [List.length_map, List.length_map]; have : sizeLine = 16777216 := by decide
               omega)).cast (by rw [List.map_append])
section
variable {w : World} {prog : Program} {A : Around} {base : Heap} {L : Addr} {S : Addr → Prop} {Lv : Lev} {s : Shared} {Q : Flow → Shared → Prop}
set_option maxHeartbeats 2000000 in
theorem segH {nums word : List Int} (hz : word.length ≤ 90) (h1 : 1 ≤ word.length) (hnn : nums.length ≤ 100) (F : Fm Lv (fcx w prog A 19 base (env114 w L) S (varsF nums word)) [] noOwn s)
    (k : ∀ Γ' s', Fm Lv Γ' [] noOwn s' → Q (.ret (.bool true)) s') :
    Ex (fcx w prog A 19 base (env114 w L) S (varsF nums word)) (execs (code114 w 22) (env114 w L)) Q s := by
  have hsz : sizeLine = 16777216 := by decide
  have htl := tabI_len word
  have hll := lets_len word
  have hlp := lets_pos (w := word) (by omega)
  have htx := textOf_len nums word
  refine x_used_list F (ds := (cutsI nums word.length).map .int) ?_ fun _ F => ?_
  · unfold cutsI
    rw [List.map_map]
    refine evU_lcm (xs := List.range 4) (inj := fun i : Nat => D.int (i : Int)) (c_range rfl rfl ev_int) (iter_range (n := 4) (by omega) (by omega)) (by simp; omega) fun t ht Da C own wr => ?_
    have ht' : t < 4 := by simpa using ht
    refine ev_binop (ev_binop (ev_sub (ev_tuple (evs_cons ev_int (evs_cons ev_int (evs_cons ev_int (evs_cons ev_int evs_nil)))) (by decide)) (ev_name rfl) (sub_tuple (d := .int (([6, 3, 5, 2] : List Int).getD t 0)) (by intro _ _; rfl) (by omega) (by omega) ?_))
        (c_sum rfl rfl ((ev_sliceBy (ev_name rfl) (part_some (ev_name rfl)) part_none ev_int (by omega) (by simp; omega)).cast (by rw [cutBy_map])) fn_sum) op_add) (ev_binop (ev_name rfl) ev_int op_add) (op_mod (by omega))
    simp only [Int.toNat_natCast]
    match t, ht' with
    | 0, _ | 1, _ | 2, _ | 3, _ => rfl
  have hc := cutI_range nums word.length
  have gC : ∀ j : Nat, j < 4 → ((cutsI nums word.length).map D.int)[((j : Int)).toNat]? = some (.int (cutI nums word.length j)) := fun j hj => by
    unfold cutsI
    rw [Int.toNat_natCast, List.getElem?_map, List.getElem?_map, List.getElem?_range hj]; rfl
  have cutK : ∀ {Γ : Ctx} {p1 p2 p3 p4 p5 p6 : Pos} {kk : Nat} (j : Nat), j < 4 → Γ.ρ "word" = some (.list (word.map .int)) → Γ.ρ "cuts" = some (.list ((cutsI nums word.length).map .int)) → Ev Γ (.Subscript (.Name "word" p1) (.Slice none (some (.Subscript (.Name "cuts" p2) (.Constant (.int (j : Int)) kk p3) p4)) none p5) p6) (.list ((word.take (cutI nums word.length j).toNat).map .int)) := fun {Γ p1 p2 p3 p4 p5 p6 kk} j hj e1 e2 =>
    (ev_slice (ev_name e1) part_none (part_some (ev_sub (d1 := .list ((cutsI nums word.length).map .int)) (ev_name e2) ev_int (sub_list (by intro _ _; rfl) (by omega) (by omega) (gC j hj)))) (by simp; omega)).cast (congrArg D.list (show _ = (word.take _).map D.int by rw [cut_to _ (hc j).1, List.map_take]))
  have hm2 := fmod_range nums.sum (b := 2) (by decide)
  refine x_assign F (d := .list ((textOf nums word).map .int)) (Ev.on ?_ F.at_) fun _ F => ?_
  · have tk := fun i => Nat.le_trans (cut_len word i) hz
    unfold textOf
    refine ev_binop (ev_binop (ev_binop (ev_binop (ev_binop (cutK 0 (by omega) rfl rfl) (cutK 1 (by omega) rfl rfl) (op_addI 90 90 (tk _) (tk _) (by decide))) ((ev_list (ds := [.int ((lets word).getD ((lets word).length - 1) 0 + 1)]) (evs_cons (ev_binop (ev_sub (d1 := .list ((lets word).map .int)) (ev_name rfl) (ev_unop ev_int op_neg) (sub_list_neg (d := .int ((lets word).getD ((lets word).length - 1) 0)) (by intro _ _; rfl) (by decide) ?_ (by decide) ?_)) ev_int op_add) evs_nil) (by show 1 ≤ sizeLine; decide)).cast rfl) (op_addI (ys := [(lets word).getD ((lets word).length - 1) 0 + 1]) 180 1 ?_ (Nat.le_refl 1) (by decide))) (cutK 2 (by omega) rfl rfl) (op_addI 181 90 ?_ (tk _) (by decide))) (cutK 3 (by omega) rfl rfl) (op_addI 271 90 ?_ (tk _) (by decide)))
      ((ev_slice (ev_name rfl) part_none (part_some (ev_binop (ev_name rfl) (ev_binop (c_sum rfl rfl (ev_name rfl) fn_sum) ev_int (op_mod (by decide))) op_sub)) (by rw [List.length_map]; omega)).cast (congrArg D.list (show _ = (word.take _).map D.int by rw [cut_to _ (by omega), List.map_take]))) (op_addI 361 90 ?_ (tk _) (by decide))
    · rw [List.length_map]; omega
    · rw [List.length_map, show ((-1 : Int) + ((lets word).length : Int)).toNat = (lets word).length - 1 by omega, List.getElem?_map, List.getD_eq_getElem?_getD, List.getElem?_eq_getElem (by omega)]; rfl
    · exact add_len (tk _) (tk _)
    · exact add_len (add_len (tk _) (tk _)) (one_len _)
    · exact add_len (add_len (add_len (tk _) (tk _)) (one_len _)) (tk _)
    · exact add_len (add_len (add_len (add_len (tk _) (tk _)) (one_len _)) (tk _)) (tk _)
  refine x_assign F (d := .list ((List.range (word.length + 1)).map fun z => (R2 word (textOf nums word) word.length z).D)) (((ev_call (f := .ref 104) (ev_glob topOk rfl g104) ok104.callable (evs_cons (ev_name rfl) (evs_cons (ev_name rfl) (evs_cons (ev_name rfl) evs_nil)))
    (fn_run (n := 15) (runLaw word (textOf nums word)) (by omega) (by omega) fun j hj => tabI_get hj)).cast (by rw [runOf_is, List.map_map]; rfl)).on F.at_) fun _ F => ?_
  have hst := fun z (hz : z ≤ word.length) => run_due (w := word) (text := textOf nums word) hz
  refine x_used_list F (ds := (List.range (word.length + 1)).map fun z => D.int (R2 word (textOf nums word) word.length z).b) ?_ fun _ F => ?_
  · refine evU_lcm (xs := List.range (word.length + 1)) (inj := fun z : Nat => (R2 word (textOf nums word) word.length z).D) (ev_name rfl) iterable_list (by simp; omega) fun z hs Da C own wr => ?_
    · have hz' : z ≤ word.length := by simp at hs; omega
      exact (ev_call (f := .ref 63) (ev_glob topOk rfl g63) ok63.callable (evs_cons (ev_sub (ev_name rfl) ev_int (sub_tuple (d := .idict (R2 word (textOf nums word) word.length z).kv) (by intro _ _; rfl) (by decide) (by decide) rfl)) evs_nil) (fn_count_calls kdI)).cast (congrArg D.int (hst z hz').calls)
  have hdue := fn_due (w := w) (prog := prog) (n := 17) (word := word) (text := textOf nums word) (tops := topW word (textOf nums word)) (bd := bd word) (fun p _ => isLon_lon _ _) (fun p _ => topW_le') (fun m a b => isMax_bd a b) (by omega) (by omega)
  refine x_ret F (d := .bool true) (Ev.on ?_ F.at_) fun v s' F r => ?_
  · refine ev_and2 (a := true) ?_ (fun _ => ?_) fun h => by (first | obtain ⟨_, rfl⟩ := h.atom | exact (nsE h).elim | exact (snE h).elim | exact (ftE h).elim | cases h)
    · refine ev_cmpB (ev_name rfl) (ev_callL (f := .ref 109) (ev_glob topOk rfl g109) ok109.callable (evs_cons (ev_name rfl) (evs_cons (ev_name rfl) evs_nil)) hdue).ev (op_eqD (n := 3) (EqD.list_true (by simp) fun j d e hd he => ?_) (by decide))
      rw [List.getElem?_map] at hd he
      rw [List.getElem?_map] at he
      rcases Nat.lt_or_ge j (word.length + 1) with q | q
      · rw [List.getElem?_range q] at hd he
        (first | obtain ⟨_, rfl⟩ := hd.atom | exact (nsE hd).elim | exact (snE hd).elim | exact (ftE hd).elim | cases hd); (first | obtain ⟨_, rfl⟩ := he.atom | exact (nsE he).elim | exact (snE he).elim | exact (ftE he).elim | cases he)
        have X := hst j (by omega)
        show EqD 2 (R2 word (textOf nums word) word.length j).D (dueRow word (textOf nums word) (topW word (textOf nums word)) (bd word) j).D true
        generalize R2 word (textOf nums word) word.length j = x at X
        generalize dueRow word (textOf nums word) (topW word (textOf nums word)) (bd word) j = y at X
        unfold St.D stats
        rw [X.a, X.b, X.c, X.d]
        have hi : ∀ i : Int, EqD 1 (.int i) (.int i) true := fun i => by
          have := EqD.int 1 i i
          simpa using this
        have hk : EqD 1 (.idict x.kv) (.idict y.kv) true := by
          have := EqD.idict 0 x.kv y.kv
          rw [X.kv] at this; exact this
        refine EqD.tuple_true rfl fun j d e hd he => ?_
        match j with
        | 0 | 1 | 2 | 3 => (first | obtain ⟨_, rfl⟩ := hd.atom | exact (nsE hd).elim | exact (snE hd).elim | exact (ftE hd).elim | cases hd); (first | obtain ⟨_, rfl⟩ := he.atom | exact (nsE he).elim | exact (snE he).elim | exact (ftE he).elim | cases he); exact hi _
        | 4 => (first | obtain ⟨_, rfl⟩ := hd.atom | exact (nsE hd).elim | exact (snE hd).elim | exact (ftE hd).elim | cases hd); (first | obtain ⟨_, rfl⟩ := he.atom | exact (nsE he).elim | exact (snE he).elim | exact (ftE he).elim | cases he); exact hk
        | j + 5 => (first | obtain ⟨_, rfl⟩ := hd.atom | exact (nsE hd).elim | exact (snE hd).elim | exact (ftE hd).elim | cases hd)
      · rw [List.getElem?_eq_none (by simpa using q)] at hd; (first | obtain ⟨_, rfl⟩ := hd.atom | exact (nsE hd).elim | exact (snE hd).elim | exact (ftE hd).elim | cases hd)
    · refine ev_cmpB (ev_name rfl) (ev_lcm (xs := List.range (word.length + 1)) (inj := fun z : Nat => (R2 word (textOf nums word) word.length z).D) (g := fun z : Nat => D.int (R2 word (textOf nums word) word.length z).b) (ev_name rfl) iterable_list (by simp; omega) fun z hs Da C own wr => ?_).ev ?_
      · exact ev_sub (ev_name rfl) ev_int (sub_tuple (by intro _ _; rfl) (by decide) (by decide) rfl)
      · have e := EqD.ints 0 ((List.range (word.length + 1)).map fun z => (R2 word (textOf nums word) word.length z).b) ((List.range (word.length + 1)).map fun z => (R2 word (textOf nums word) word.length z).b)
        rw [decide_eq_true rfl, List.map_map] at e
        exact op_eqD (n := 1) e (by decide)
  · (first | obtain ⟨_, rfl⟩ := r.atom | exact (nsE r).elim | exact (snE r).elim | exact (ftE r).elim | cases r)
    exact k _ _ F
end
-- part TopB
set_option maxHeartbeats 2000000 in
theorem law_runs : LawRuns := fun w prog A base s l vs ns hr hw hl hI h63 => by
  have hlen := word2_len (ns.take 60)
  have htk : (ns.take 60).length ≤ 60 := by rw [List.length_take]; omega
  refine fn_enter (ds := [.raw (.ref l)]) ok114 (n := 19) hr hw (.cons (.raw _) .nil) rfl (W := fun _ => False) noOwn_ok trivial fun L s₁ F => ?_
  have F := F.next (Γ' := fcx w prog _ 19 base (env114 w L) _ [("script", .raw (.ref l))]) rfl ⟨rfl, trivial⟩
  refine ex_with F rfl rfl rfl rfl fun F => ?_
  refine segA hl hI h63 F fun S s F => ?_
  refine segB (by omega) rfl F fun S s F => ?_
  refine segC (by omega) F fun S s F => ?_
  refine segD (by omega) F fun S s F => ?_
  refine segE (by omega) F fun s F => ?_
  refine segF (by omega) (by omega) F fun s F => ?_
  refine segG (by omega) F fun S s F => ?_
  refine segH (by omega) (by omega) (by omega) F fun Γ s F => ⟨_, rfl, F.done rfl rfl, rfl⟩
end Own16

theorem PySem.Challenge.cw_rw0016_02_holds : PySem.Challenge.rw_rw0016_02.Holds :=
  Own16.top_of Own16.law_runs
