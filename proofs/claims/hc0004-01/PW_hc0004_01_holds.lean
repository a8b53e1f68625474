import PyProof.Rows.All
import Wide.All
import OpenK.AllK
import Wide.FinOn
import PySem.Challenge.RW_hc0004_01
open PySem PySem.W PyProof.Rows
set_option Elab.async false
set_option linter.unusedVariables false

namespace Mine

/-- a part of a tuple key: an int or a text -/
inductive Ky where
  | i (n : Int)
  | s (x : Str)
  deriving DecidableEq

/-- data as trees -/
inductive D where
  | int (i : Int)
  | str (x : Str)
  | bool (b : Bool)
  | none
  | tup (l : List D)
  | lst (l : List D)
  | dct (l : List (List Ky × D))
  | rng (n : Int)
  | any

noncomputable def kyIs : Ky → Value → Bool
  | .i n, v => Value.isInt n v
  | .s x, v => Value.isStrOf x v

theorem kyIs_i {n : Int} {v : Value} (h : kyIs (.i n) v = true) : ∃ t, v = .int n t := Value.isInt_shape h
theorem kyIs_s {x : Str} {v : Value} (h : kyIs (.s x) v = true) : ∃ t, v = .str x t := Value.isStrOf_shape h

section
variable {prog : Program} {w : World} {A : Around} {E : Value → Shared → Prop} {s : Shared}

theorem eqBool_int_str {a : Int} {x : Str} {t u : Tok} {Q : Bool → Shared → Prop} (h : Q false s) :
    wpAny (model prog w) A (eqBool (.int a t) (.str x u)) Q E s := by
  unfold eqBool
  refine wpAny_holding ?_
  rw [if_neg (by simp)]
  exact wpAny_bind (EqMixed.eq_int_str (wpAny_truthy_bool h))
theorem eqBool_str_int {a : Int} {x : Str} {t u : Tok} {Q : Bool → Shared → Prop} (h : Q false s) :
    wpAny (model prog w) A (eqBool (.str x u) (.int a t)) Q E s := by
  unfold eqBool
  refine wpAny_holding ?_
  rw [if_neg (by simp)]
  exact wpAny_bind (EqMixed.eq_str_int (wpAny_truthy_bool h))
end

noncomputable def kyKind (prog : Program) (w : World) : KeyKind prog w Ky where
  is := kyIs
  hash := fun k => match k with
    | .i n => hashInt n
    | .s x => hashStr w x
  inj := fun v a b ha hb => by
    cases a with
    | i n =>
      obtain ⟨t, rfl⟩ := kyIs_i ha
      cases b with
      | i m => obtain ⟨u, e⟩ := kyIs_i hb; cases e; rfl
      | s y => obtain ⟨u, e⟩ := kyIs_s hb; cases e
    | s x =>
      obtain ⟨t, rfl⟩ := kyIs_s ha
      cases b with
      | i m => obtain ⟨u, e⟩ := kyIs_i hb; cases e
      | s y => obtain ⟨u, e⟩ := kyIs_s hb; cases e; rfl
  byValue := fun k v h => by
    cases k with
    | i n => obtain ⟨t, rfl⟩ := kyIs_i h; rfl
    | s x => obtain ⟨t, rfl⟩ := kyIs_s h; rfl
  pyHash := fun {A E s k v Q} hv h => by
    cases k with
    | i n => obtain ⟨t, rfl⟩ := kyIs_i hv; exact wpAny_pyHash_int h
    | s x => obtain ⟨t, rfl⟩ := kyIs_s hv; exact wpAny_pyHash_str h
  eqBool := fun {A E s a b u v Q} hu hv h => by
    cases a with
    | i n =>
      obtain ⟨t, rfl⟩ := kyIs_i hu
      cases b with
      | i m => obtain ⟨t2, rfl⟩ := kyIs_i hv; refine wpAny_eqBool_int ?_; have e : (n == m) = decide (Ky.i n = Ky.i m) := by by_cases q : n = m <;> simp [q]
               rw [e]; exact h
      | s y => obtain ⟨t2, rfl⟩ := kyIs_s hv; exact eqBool_int_str (by simpa using h)
    | s x =>
      obtain ⟨t, rfl⟩ := kyIs_s hu
      cases b with
      | i m => obtain ⟨t2, rfl⟩ := kyIs_i hv; exact eqBool_str_int (by simpa using h)
      | s y => obtain ⟨t2, rfl⟩ := kyIs_s hv; refine wpAny_eqBool_str ?_; simpa using h
  «strs» := fun k x t v h => by
    cases k with
    | i n => obtain ⟨u, e⟩ := kyIs_i h; cases e
    | s y =>
      obtain ⟨u, e⟩ := kyIs_s h
      cases e
      cases v <;> rfl

noncomputable abbrev tkKind (prog : Program) (w : World) : HeapKind prog w (List Ky) := tupleKind (kyKind prog w)
end Mine

namespace Mine

/-- the frozen objects -/
abbrev Gh := Addr → Option Obj
noncomputable def Gh.le (G G' : Gh) : Prop := ∀ b o, G b = some o → G' b = some o
theorem Gh.le_refl (G : Gh) : G.le G := fun _ _ e => e
theorem Gh.le_trans {G₁ G₂ G₃ : Gh} (x : G₁.le G₂) (y : G₂.le G₃) : G₁.le G₃ := fun b o e => y b o (x b o e)
noncomputable def Gh.add (G : Gh) (a : Addr) (o : Obj) : Gh := fun b => if b = a then some o else G b
theorem Gh.add_self (G : Gh) (a : Addr) (o : Obj) : G.add a o a = some o := by simp [Gh.add]
theorem Gh.add_ne (G : Gh) {a b : Addr} (o : Obj) (h : b ≠ a) : G.add a o b = G b := by simp [Gh.add, h]
theorem Gh.le_add {G : Gh} {a : Addr} (o : Obj) (h : G a = none) : G.le (G.add a o) := fun b o' e => by
  by_cases hb : b = a
  · subst hb; rw [h] at e; cases e
  · rw [Gh.add_ne G o hb]; exact e

section
variable (prog : Program) (w : World)

noncomputable def KeyG (G : Gh) (k : List Ky) (a : Addr) : Prop := (a == sysModules) = false ∧ ∃ o items n, G a = some o ∧ o.cls = .type "tuple" ∧ o.data = .seq items n ∧ ItemsAre (kyKind prog w) k items.toList

mutual
inductive Is (G : Gh) : Value → D → Prop
  | int (i : Int) (t : Tok) : Is G (.int i t) (.int i)
  | str (x : Str) (t : Tok) : Is G (.str x t) (.str x)
  | bool (b : Bool) : Is G (.bool b) (.bool b)
  | none : Is G .none .none
  | any (v : Value) : Is G v .any
  | ref {a : Addr} {o : Obj} {d : D} : G a = some o → (a == sysModules) = false → Body G o d → Is G (.ref a) d
inductive Body (G : Gh) : Obj → D → Prop
  | tup {o : Obj} {vs : List Value} {n : Nat} {ds : List D} : o.cls = .type "tuple" → o.data = .seq vs.toArray n → IsAll G vs ds → Body G o (.tup ds)
  | lst {o : Obj} {vs : List Value} {n : Nat} {ds : List D} : o.cls = .type "list" → o.data = .seq vs.toArray n → IsAll G vs ds → Body G o (.lst ds)
  | dct {o : Obj} {es : Array DictEntry} {ep : Nat} {xs : List (List Ky × Addr × Value)} {l : List (List Ky × D)} : o.ExactDict → o.data = .dict es ep →
      es.toList = xs.map (entryOfKey (tkKind prog w)) → (xs.map (·.1)).Nodup → IsEnt G xs l → Body G o (.dct l)
  | rng {n : Int} {t u v : Tok} : Body G { cls := .type "range", dict := none, data := .fields #[.int 0 t, .int n u, .int 1 v], slots := #[] } (.rng n)
inductive IsAll (G : Gh) : List Value → List D → Prop
  | nil : IsAll G [] []
  | cons {v : Value} {vs : List Value} {d : D} {ds : List D} : Is G v d → IsAll G vs ds → IsAll G (v :: vs) (d :: ds)
inductive IsEnt (G : Gh) : List (List Ky × Addr × Value) → List (List Ky × D) → Prop
  | nil : IsEnt G [] []
  | cons {k : List Ky} {a : Addr} {v : Value} {d : D} {xs : List (List Ky × Addr × Value)} {l : List (List Ky × D)} : KeyG prog w G k a → Is G v d → IsEnt G xs l → IsEnt G ((k, a, v) :: xs) ((k, d) :: l)
end
end

section
variable {prog : Program} {w : World} {G G' : Gh}
theorem KeyG.mono (hs : G.le G') {k : List Ky} {a : Addr} (x : KeyG prog w G k a) : KeyG prog w G' k a :=
  let ⟨m, o, items, n, e, r⟩ := x; ⟨m, o, items, n, hs _ _ e, r⟩
mutual
theorem Is.mono (hs : G.le G') : ∀ {v : Value} {d : D}, Is prog w G v d → Is prog w G' v d
  | _, _, .int i t => .int i t
  | _, _, .str x t => .str x t
  | _, _, .bool b => .bool b
  | _, _, .none => .none
  | _, _, .any v => .any v
  | _, _, .ref h m b => .ref (hs _ _ h) m (Body.mono hs b)
theorem Body.mono (hs : G.le G') : ∀ {o : Obj} {d : D}, Body prog w G o d → Body prog w G' o d
  | _, _, .tup c e r => .tup c e (IsAll.mono hs r)
  | _, _, .lst c e r => .lst c e (IsAll.mono hs r)
  | _, _, .dct c e x n r => .dct c e x n (IsEnt.mono hs r)
  | _, _, .rng => .rng
theorem IsAll.mono (hs : G.le G') : ∀ {vs : List Value} {ds : List D}, IsAll prog w G vs ds → IsAll prog w G' vs ds
  | _, _, .nil => .nil
  | _, _, .cons h r => .cons (Is.mono hs h) (IsAll.mono hs r)
theorem IsEnt.mono (hs : G.le G') : ∀ {xs : List (List Ky × Addr × Value)} {l : List (List Ky × D)}, IsEnt prog w G xs l → IsEnt prog w G' xs l
  | _, _, .nil => .nil
  | _, _, .cons k h r => .cons (k.mono hs) (Is.mono hs h) (IsEnt.mono hs r)
end

theorem IsAll.length {vs : List Value} {ds : List D} (h : IsAll prog w G vs ds) : vs.length = ds.length := by
  induction vs generalizing ds with
  | nil => cases h; rfl
  | cons v vs ih => cases h with | cons _ r => simp [ih r]
theorem IsAll.append {vs ws : List Value} {ds es : List D} (h : IsAll prog w G vs ds) (k : IsAll prog w G ws es) : IsAll prog w G (vs ++ ws) (ds ++ es) := by
  induction vs generalizing ds with
  | nil => cases h; exact k
  | cons v vs ih => cases h with | cons h r => exact .cons h (ih r)
theorem IsAll.get {vs : List Value} {ds : List D} (h : IsAll prog w G vs ds) : ∀ {i : Nat} {d : D}, ds[i]? = some d → ∃ v, vs[i]? = some v ∧ Is prog w G v d := by
  induction vs generalizing ds with
  | nil => cases h; intro i d e; simp at e
  | cons v vs ih =>
    cases h with
    | cons h r =>
      intro i d e
      cases i with
      | zero => simp at e; subst e; exact ⟨v, rfl, h⟩
      | succ i => simp at e; obtain ⟨u, hu, hi⟩ := ih r e; exact ⟨u, by simpa using hu, hi⟩
theorem IsAll.get' {vs : List Value} {ds : List D} (h : IsAll prog w G vs ds) : ∀ {i : Nat} {v : Value}, vs[i]? = some v → ∃ d, ds[i]? = some d ∧ Is prog w G v d := by
  induction vs generalizing ds with
  | nil => intro i d e; simp at e
  | cons v vs ih =>
    cases h with
    | cons h r =>
      intro i d e
      cases i with
      | zero => simp at e; subst e; exact ⟨_, rfl, h⟩
      | succ i => simp at e; obtain ⟨u, hu, hi⟩ := ih r e; exact ⟨u, by simpa using hu, hi⟩
theorem IsAll.take {vs : List Value} {ds : List D} (h : IsAll prog w G vs ds) (n : Nat) : IsAll prog w G (vs.take n) (ds.take n) := by
  induction n generalizing vs ds with
  | zero => simp; exact .nil
  | succ n ih => cases h with
    | nil => exact .nil
    | cons h r => exact .cons h (ih r)
theorem IsAll.set {vs : List Value} {ds : List D} (h : IsAll prog w G vs ds) {v : Value} {d : D} (hv : Is prog w G v d) : ∀ (i : Nat), IsAll prog w G (vs.set i v) (ds.set i d) := by
  induction vs generalizing ds with
  | nil => cases h; intro i; exact .nil
  | cons u vs ih =>
    cases h with
    | cons h r =>
      intro i
      cases i with
      | zero => exact .cons hv r
      | succ i => exact .cons h (ih r i)
theorem IsAll.reverse {vs : List Value} {ds : List D} (h : IsAll prog w G vs ds) : IsAll prog w G vs.reverse ds.reverse := by
  induction vs generalizing ds with
  | nil => cases h; exact .nil
  | cons u vs ih =>
    cases h with
    | cons h r => rw [List.reverse_cons, List.reverse_cons]; exact (ih r).append (.cons h .nil)
end

/-- all but W is kept -/
noncomputable def Kp (W : List Addr) (h h' : Heap) : Prop := ∀ b o, b ∉ W → h.get? b = some o → h'.get? b = some o
theorem Kp.refl (W : List Addr) (h : Heap) : Kp W h h := fun _ _ _ e => e
theorem Kp.trans {W : List Addr} {h₁ h₂ h₃ : Heap} (x : Kp W h₁ h₂) (y : Kp W h₂ h₃) : Kp W h₁ h₃ := fun b o hb e => y b o hb (x b o hb e)
theorem Kp.weak {W W' : List Addr} {h h' : Heap} (x : Kp W h h') (hs : ∀ b ∈ W, b ∈ W') : Kp W' h h' := fun b o hb e => x b o (fun q => hb (hs b q)) e
theorem Kp.all {W : List Addr} {h h' : Heap} (x : ∀ b o, h.get? b = some o → h'.get? b = some o) : Kp W h h' := fun b o _ e => x b o e
theorem Kp.ext {W : List Addr} {a : Addr} {h h' : Heap} (x : Heap.ExtBut a h h') (ha : a ∈ W) : Kp W h h' := fun b o hb e => x b o (fun q => hb (q ▸ ha)) e
theorem Kp.push (W : List Addr) (h : Heap) (o : Obj) : Kp W h (h.push o) := fun _ _ _ e => Heap.get?_push_of_some _ e
/-- what the new address alone may lose is no loss -/
theorem Kp.drop {W : List Addr} {a : Addr} {h h' : Heap} (x : Kp (a :: W) h h') (ha : h.get? a = none) : Kp W h h' := fun b o hb e =>
  x b o (fun q => (List.mem_cons.mp q).elim (fun e' => by rw [e', ha] at e; cases e) hb) e

/-- the frozen part grows by what is new against h -/
structure GX (G G' : Gh) (h : Heap) : Prop where
  le : G.le G'
  new : ∀ b o, G' b = some o → G b = some o ∨ h.get? b = none
theorem GX.refl (G : Gh) (h : Heap) : GX G G h := ⟨G.le_refl, fun _ _ e => .inl e⟩
theorem GX.trans {G₁ G₂ G₃ : Gh} {h₁ h₂ : Heap} {W : List Addr} (x : GX G₁ G₂ h₁) (y : GX G₂ G₃ h₂) (k : Kp W h₁ h₂) (hW : ∀ b ∈ W, (∃ o, h₂.get? b = some o) ∨ h₁.get? b = none) : GX G₁ G₃ h₁ := by
  refine ⟨Gh.le_trans x.le y.le, fun b o e => ?_⟩
  rcases y.new b o e with q | q
  · exact x.new b o q
  · refine .inr ?_
    cases r : h₁.get? b with
    | none => rfl
    | some o' =>
      by_cases hb : b ∈ W
      · rcases hW b hb with ⟨o2, h2⟩ | h2
        · rw [h2] at q; cases q
        · rw [h2] at r; cases r
      · rw [k b o' hb r] at q; cases q
theorem GX.off {G G' : Gh} {h : Heap} (x : GX G G' h) {b : Addr} {o : Obj} (hg : G b = none) (hb : h.get? b = some o) : G' b = none := by
  cases q : G' b with
  | none => rfl
  | some o' =>
    rcases x.new b o' q with r | r
    · rw [hg] at r; cases r
    · rw [hb] at r; cases r
theorem GX.add {G : Gh} {h : Heap} {a : Addr} (o : Obj) (hg : G a = none) (ha : h.get? a = none) : GX G (G.add a o) h := by
  refine ⟨Gh.le_add o hg, fun b o' e => ?_⟩
  by_cases hb : b = a
  · subst hb; exact .inr ha
  · rw [Gh.add_ne G o hb] at e; exact .inl e

/-- what a table may hold: abstract, kept while the tables and the frozen objects are -/
structure Tabs where
  tb : List Addr
  tc : Heap → Gh → Prop
  there : ∀ {h G}, tc h G → ∀ b ∈ tb, (∃ o, h.get? b = some o ∧ o.cls = .none ∧ ∃ vs, o.data = .fields vs) ∧ G b = none
  mono : ∀ {h h' G G'}, tc h G → G.le G' → (∀ b o, G' b = some o → h'.get? b = some o) → (∀ b ∈ tb, ∀ o, h.get? b = some o → h'.get? b = some o) → (∀ b ∈ tb, G' b = none) → tc h' G'

structure Good (T : Tabs) (g₀ : Heap) (G : Gh) (h : Heap) : Prop where
  sub : ∀ b o, G b = some o → h.get? b = some o
  base : ∀ b o, g₀.get? b = some o → G b = some o
  tab : T.tc h G
  mods : ∃ o, g₀.get? sysModules = some o
section
variable {T : Tabs} {g₀ h h' : Heap} {G G' : Gh}
theorem Good.keep (x : Good T g₀ G h) (k : ∀ b o, h.get? b = some o → h'.get? b = some o) : Good T g₀ G h' :=
  ⟨fun b o e => k b o (x.sub b o e), x.base, T.mono x.tab G.le_refl (fun b o e => k b o (x.sub b o e)) (fun b _ o e => k b o e) fun b hb => (T.there x.tab b hb).2, x.mods⟩
theorem Good.kp {W : List Addr} (x : Good T g₀ G h) (k : Kp W h h') (hW : ∀ b ∈ W, G b = none ∧ b ∉ T.tb) : Good T g₀ G h' := by
  have s : ∀ b o, G b = some o → h'.get? b = some o := fun b o e => k b o (fun q => by rw [(hW b q).1] at e; cases e) (x.sub b o e)
  exact ⟨s, x.base, T.mono x.tab G.le_refl s (fun b hb o e => k b o (fun q => (hW b q).2 hb) e) fun b hb => (T.there x.tab b hb).2, x.mods⟩
theorem Good.ext {a : Addr} (x : Good T g₀ G h) (k : Heap.ExtBut a h h') (ha : G a = none) (ht : a ∉ T.tb) : Good T g₀ G h' :=
  x.kp (W := [a]) (Kp.ext k (.head _)) fun b hb => by rw [List.mem_singleton.mp hb]; exact ⟨ha, ht⟩
theorem Good.add {a : Addr} {o : Obj} (x : Good T g₀ G h) (ho : h.get? a = some o) (ha : G a = none) (ht : a ∉ T.tb) : Good T g₀ (G.add a o) h := by
  have s : ∀ b o', G.add a o b = some o' → h.get? b = some o' := fun b o' e => by
    by_cases hb : b = a
    · subst hb; rw [Gh.add_self] at e; cases e; exact ho
    · rw [Gh.add_ne G o hb] at e; exact x.sub b o' e
  refine ⟨s, fun b o' e => Gh.le_add o ha b o' (x.base b o' e), T.mono x.tab (Gh.le_add o ha) s (fun b _ o' e => e) (fun b hb => ?_), x.mods⟩
  have hne : b ≠ a := fun q => ht (by rw [← q]; exact hb)
  rw [Gh.add_ne G o hne]
  exact (T.there x.tab b hb).2
theorem Good.push (x : Good T g₀ G h) (o : Obj) : Good T g₀ G (h.push o) := x.keep fun _ _ e => Heap.get?_push_of_some _ e
theorem Good.new (x : Good T g₀ G h) {a : Addr} (ha : h.get? a = none) : G a = none ∧ a ∉ T.tb := by
  constructor
  · cases q : G a with
    | none => rfl
    | some o => rw [x.sub a o q] at ha; cases ha
  · intro q
    obtain ⟨⟨o, e, _⟩, _⟩ := T.there x.tab a q
    rw [e] at ha; cases ha
theorem Good.newMods (x : Good T g₀ G h) {a : Addr} (ha : h.get? a = none) : (a == sysModules) = false := by
  cases q : a == sysModules with
  | false => rfl
  | true =>
    obtain ⟨o, e⟩ := x.mods
    have e2 := x.sub _ _ (x.base _ _ e)
    rw [← eq_of_beq q, ha] at e2
    cases e2
theorem Good.get (x : Good T g₀ G h) {b : Addr} {o : Obj} (e : g₀.get? b = some o) : h.get? b = some o := x.sub _ _ (x.base _ _ e)
theorem Good.tabThere (x : Good T g₀ G h) {b : Addr} (hb : b ∈ T.tb) : ∃ o, h.get? b = some o := let ⟨⟨o, e, _⟩, _⟩ := T.there x.tab b hb; ⟨o, e⟩
end
theorem size_none (h : Heap) : h.get? h.objs.size = none := by
  cases e : h.get? h.objs.size with
  | none => rfl
  | some o => exact absurd (Heap.lt_size e) (Nat.lt_irrefl _)
end Mine

namespace Mine

/-- how an activation may nest: n calls more -/
structure AOk (n : Nat) (A : Around) : Prop where
  handled : A.handled = none
  depth : A.depth + n < recursionLimit
  units : A.units + 200 + 3 * n < cLine
theorem AOk.deeper {n : Nat} {A : Around} (x : AOk (n + 1) A) (env : Env) : AOk n (A.deeper env) :=
  ⟨x.handled, by have := x.depth; show A.depth + 1 + n < _; omega, by have := x.units; show A.units + 3 + 200 + 3 * n < _; omega⟩
theorem AOk.less {n m : Nat} {A : Around} (x : AOk n A) (h : m ≤ n) : AOk m A := ⟨x.handled, by have := x.depth; omega, by have := x.units; omega⟩
theorem AOk.room {n : Nat} {A : Around} (x : AOk n A) : A.depth < recursionLimit := by have := x.depth; omega
theorem AOk.u0 {n : Nat} {A : Around} (x : AOk n A) : A.units < cLine := by have := x.units; omega
theorem AOk.u64 {n : Nat} {A : Around} (x : AOk n A) : A.units + 64 < cLine := by have := x.units; omega

inductive Slot where
  | val (d : D)
  | live (d : D)

noncomputable def Holds (env : Env) (h : Heap) (x : Str) (v : Value) : Prop :=
  (env.kindOf x = some .local ∧ ∃ m, h.Ns env.locals m ∧ m x = some v) ∨
  ((env.kindOf x = some .cell ∨ env.kindOf x = some .free) ∧ ∃ c, env.cells.lookup x = some c ∧ h.IsCell c (some v))

structure EnvOk (sc : Scope) (env : Env) : Prop where
  scope : env.scope = sc
  kind : sc.kind = .function
  globals : env.globals = mainGlobals
  builtins : env.builtins = builtinsNs

/-- texts compared, and looked for, cheaply in the kernel -/
noncomputable def seqL : List Nat → List Nat → Bool
  | [], [] => true
  | a :: l, b :: r => if Nat.beq a b then seqL l r else false
  | _, _ => false
theorem seqL_iff : ∀ (a b : List Nat), seqL a b = true ↔ a = b
  | [], [] => by simp [seqL]
  | [], b :: r => by simp [seqL]
  | a :: l, [] => by simp [seqL]
  | a :: l, b :: r => by
    unfold seqL
    by_cases h : a = b
    · subst h; rw [if_pos (Nat.beq_refl a), seqL_iff l r]; simp
    · rw [if_neg (fun q => h (Nat.eq_of_beq_eq_true q))]; simp [h]
noncomputable def sEq (a b : Str) : Bool := seqL a.cps.toList b.cps.toList
theorem sEq_true {a b : Str} (h : sEq a b = true) : a = b := by
  obtain ⟨⟨x⟩⟩ := a
  obtain ⟨⟨y⟩⟩ := b
  have : x = y := (seqL_iff x y).mp h
  rw [this]
theorem sEq_self (a : Str) : sEq a a = true := (seqL_iff _ _).mpr rfl
theorem sEq_eq (a b : Str) : sEq a b = (a == b) := by
  by_cases h : a = b
  · subst h; rw [sEq_self]; simp
  · have h1 : sEq a b = false := by
      cases q : sEq a b with
      | false => rfl
      | true => exact absurd (sEq_true q) h
    rw [h1]; symm; simpa using h
noncomputable def lk {β : Type} (x : Str) : List (Str × β) → Option β
  | [] => none
  | (y, v) :: r => match sEq x y with
    | true => some v
    | false => lk x r
theorem lk_eq {β : Type} (x : Str) : ∀ (l : List (Str × β)), lk x l = l.lookup x
  | [] => rfl
  | (y, v) :: r => by
    unfold lk
    rw [List.lookup_cons, sEq_eq, lk_eq x r]
    cases x == y <;> rfl
/-- names that eval treats apart -/
noncomputable def odd (x : Str) : Bool := sEq x ("__debug__" : Str) || sEq x ("__classdict__" : Str)
theorem odd_debug {x : Str} (h : odd x = false) : (x == ("__debug__" : Str)) = false := by rw [← sEq_eq]; exact (Bool.or_eq_false_iff.mp h).1
theorem odd_classdict {x : Str} (h : odd x = false) : (x == ("__classdict__" : Str)) = false := by rw [← sEq_eq]; exact (Bool.or_eq_false_iff.mp h).2

section
variable (prog : Program) (w : World) (T : Tabs) (g₀ : Heap)

noncomputable def SlotIs (G : Gh) (h : Heap) (v : Value) : Slot → Prop
  | .val d => Is prog w G v d
  | .live d => ∃ l o, v = .ref l ∧ h.get? l = some o ∧ (l == sysModules) = false ∧ o.cls ≠ .none ∧ Body prog w G o d

structure SE (env : Env) (σ : List (Str × Slot)) (G : Gh) (h : Heap) : Prop where
  good : Good T g₀ G h
  rd : ∀ x sl, σ.lookup x = some sl → ∃ v, Holds env h x v ∧ SlotIs prog w G h v sl

/-- from s with G to s' with G': only new objects, but for the tables -/
structure St (G : Gh) (s : Shared) (G' : Gh) (s' : Shared) : Prop where
  same : ∃ h' tk, s' = { s with heap := h', toks := tk }
  kp : Kp T.tb s.heap s'.heap
  gx : GX G G' s.heap
  good : Good T g₀ G' s'.heap
noncomputable def EvR (G : Gh) (s : Shared) (d : D) (v : Value) (s' : Shared) : Prop := ∃ G', St T g₀ G s G' s' ∧ Is prog w G' v d
end

section
variable {prog : Program} {w : World} {T : Tabs} {g₀ : Heap} {G G₁ G₂ : Gh} {s s₁ s₂ : Shared}

theorem St.refl (x : Good T g₀ G s.heap) : St T g₀ G s G s := ⟨⟨s.heap, s.toks, rfl⟩, Kp.refl _ _, GX.refl _ _, x⟩
theorem St.trans (x : St T g₀ G s G₁ s₁) (y : St T g₀ G₁ s₁ G₂ s₂) : St T g₀ G s G₂ s₂ := by
  refine ⟨?_, x.kp.trans y.kp, x.gx.trans y.gx x.kp fun b hb => .inl (x.good.tabThere hb), y.good⟩
  obtain ⟨h₁, t₁, rfl⟩ := x.same
  obtain ⟨h₂, t₂, rfl⟩ := y.same
  exact ⟨h₂, t₂, rfl⟩
theorem St.toks (x : Good T g₀ G s.heap) (tk : Nat) : St T g₀ G s G { s with toks := tk } := ⟨⟨s.heap, tk, rfl⟩, Kp.refl _ _, GX.refl _ _, x⟩
/-- all is kept -/
theorem St.keep (x : Good T g₀ G s.heap) {h' : Heap} {tk : Nat} (k : ∀ b o, s.heap.get? b = some o → h'.get? b = some o) : St T g₀ G s G { s with heap := h', toks := tk } :=
  ⟨⟨h', tk, rfl⟩, Kp.all k, GX.refl _ _, x.keep k⟩
/-- all is kept, and a new object is frozen -/
theorem St.made (x : Good T g₀ G s.heap) {h' : Heap} {tk : Nat} {a : Addr} {o : Obj} (k : ∀ b o, s.heap.get? b = some o → h'.get? b = some o) (hn : s.heap.get? a = none) (ho : h'.get? a = some o) :
    St T g₀ G s (G.add a o) { s with heap := h', toks := tk } := by
  obtain ⟨h1, h2⟩ := x.new hn
  exact ⟨⟨h', tk, rfl⟩, Kp.all k, GX.add o h1 hn, (x.keep k).add ho h1 h2⟩

theorem Good.notTab {h : Heap} (x : Good T g₀ G h) {b : Addr} {o : Obj} (e : h.get? b = some o) (hc : o.cls ≠ .none ∨ ∀ vs, o.data ≠ .fields vs) : b ∉ T.tb := fun hb => by
  obtain ⟨⟨o', e', c, vs, d⟩, _⟩ := T.there x.tab b hb
  rw [e] at e'
  cases e'
  exact hc.elim (fun q => q c) fun q => q vs d
theorem Good.notTabNs {h : Heap} (x : Good T g₀ G h) {b : Addr} {m : Str → Option Value} (e : h.Ns b m) : b ∉ T.tb := by
  obtain ⟨o, es, ep, ho, hd, _⟩ := e
  exact x.notTab ho (.inr fun vs q => by rw [hd] at q; cases q)
theorem Good.notTabCell {h : Heap} (x : Good T g₀ G h) {b : Addr} {v : Option Value} (e : h.IsCell b v) : b ∉ T.tb := by
  obtain ⟨o, ho, hd⟩ := e
  exact x.notTab ho (.inr fun vs q => by rw [hd] at q; cases q)
theorem Holds.kp {env : Env} {h h' : Heap} {x : Str} {v : Value} (H : Holds env h x v) (g : Good T g₀ G h) (k : Kp T.tb h h') : Holds env h' x v := by
  rcases H with ⟨hl, m, hn, hm⟩ | ⟨hk, c, hc, hv⟩
  · exact .inl ⟨hl, m, hn.at' fun o e => k _ o (g.notTabNs hn) e, hm⟩
  · have hv' := hv
    obtain ⟨o, ho, hd⟩ := hv
    exact .inr ⟨hk, c, hc, o, k _ o (g.notTabCell hv') ho, hd⟩
theorem SlotIs.kp {h h' : Heap} {v : Value} {sl : Slot} (H : SlotIs prog w G h v sl) (g : Good T g₀ G h) (k : Kp T.tb h h') (le : G.le G₁) : SlotIs prog w G₁ h' v sl := by
  cases sl with
  | val d => exact Is.mono le H
  | live d =>
    obtain ⟨l, o, e, ho, hm, hc, b⟩ := H
    exact ⟨l, o, e, k _ o (g.notTab ho (.inl hc)) ho, hm, hc, Body.mono le b⟩
theorem SE.st {env : Env} {σ : List (Str × Slot)} (x : SE prog w T g₀ env σ G s.heap) (y : St T g₀ G s G₁ s₁) : SE prog w T g₀ env σ G₁ s₁.heap :=
  ⟨y.good, fun n sl e => let ⟨v, hv, hs⟩ := x.rd n sl e; ⟨v, hv.kp x.good y.kp, hs.kp x.good y.kp y.gx.le⟩⟩
theorem EvR.pre {d : D} {v : Value} (x : St T g₀ G s G₁ s₁) (y : EvR prog w T g₀ G₁ s₁ d v s₂) : EvR prog w T g₀ G s d v s₂ :=
  let ⟨G', a, b⟩ := y; ⟨G', x.trans a, b⟩
end
end Mine

namespace Mine

section
variable (prog : Program) (w : World) (T : Tabs) (g₀ : Heap)
/-- the expression gives d -/
noncomputable def EVs (n : Nat) (sc : Scope) (σ : List (Str × Slot)) (e : PySem.Expr) (d : D) : Prop :=
  ∀ (A : Around) (env : Env) (s : Shared) (G : Gh), AOk n A → EnvOk sc env → SE prog w T g₀ env σ G s.heap → wpAny (model prog w) A (eval e env) (EvR prog w T g₀ G s d) (fun _ _ => False) s
/-- the test gives b -/
noncomputable def TRs (n : Nat) (sc : Scope) (σ : List (Str × Slot)) (e : PySem.Expr) (b : Bool) : Prop :=
  ∀ (A : Around) (env : Env) (s : Shared) (G : Gh), AOk n A → EnvOk sc env → SE prog w T g₀ env σ G s.heap → wpAny (model prog w) A (isTrue e env (eval e env)) (fun c s' => c = b ∧ ∃ G', St T g₀ G s G' s') (fun _ _ => False) s
/-- the expressions give ds -/
noncomputable def ELs (n : Nat) (sc : Scope) (σ : List (Str × Slot)) (es : List PySem.Expr) (ds : List D) : Prop :=
  ∀ (A : Around) (env : Env) (s : Shared) (G : Gh) (pos : Pos), AOk n A → EnvOk sc env → SE prog w T g₀ env σ G s.heap →
    wpAny (model prog w) A (spliced (backTo pos (starEach es env))) (fun vs s' => ∃ G', St T g₀ G s G' s' ∧ IsAll prog w G' vs ds) (fun _ _ => False) s
end

section
variable {prog : Program} {w : World} {T : Tabs} {g₀ : Heap} {n : Nat} {sc : Scope} {σ : List (Str × Slot)} {e l r : PySem.Expr} {d d₁ d₂ : D} {es : List PySem.Expr} {ds : List D} {pos : Pos}
variable {A : Around} {env : Env} {s : Shared} {G : Gh} {E : Value → Shared → Prop}

theorem EVs.use {Q : Value → Shared → Prop} (H : EVs prog w T g₀ n sc σ e d) (a : AOk n A) (v : EnvOk sc env) (x : SE prog w T g₀ env σ G s.heap)
    (k : ∀ u s₁ G₁, St T g₀ G s G₁ s₁ → Is prog w G₁ u d → SE prog w T g₀ env σ G₁ s₁.heap → Q u s₁) : wpAny (model prog w) A (eval e env) Q E s :=
  wpAny_mono (H A env s G a v x) (fun u s₁ ⟨G₁, y, z⟩ => k u s₁ G₁ y z (x.st y)) fun _ _ f => f.elim
theorem TRs.use {b : Bool} {Q : Bool → Shared → Prop} (H : TRs prog w T g₀ n sc σ e b) (a : AOk n A) (v : EnvOk sc env) (x : SE prog w T g₀ env σ G s.heap)
    (k : ∀ s₁ G₁, St T g₀ G s G₁ s₁ → SE prog w T g₀ env σ G₁ s₁.heap → Q b s₁) : wpAny (model prog w) A (isTrue e env (eval e env)) Q E s :=
  wpAny_mono (H A env s G a v x) (fun c s₁ ⟨hc, G₁, y⟩ => by subst hc; exact k s₁ G₁ y (x.st y)) fun _ _ f => f.elim
theorem ELs.use {Q : List Value → Shared → Prop} (H : ELs prog w T g₀ n sc σ es ds) (a : AOk n A) (v : EnvOk sc env) (x : SE prog w T g₀ env σ G s.heap)
    (k : ∀ us s₁ G₁, St T g₀ G s G₁ s₁ → IsAll prog w G₁ us ds → SE prog w T g₀ env σ G₁ s₁.heap → Q us s₁) : wpAny (model prog w) A (spliced (backTo pos (starEach es env))) Q E s :=
  wpAny_mono (H A env s G pos a v x) (fun u s₁ ⟨G₁, y, z⟩ => k u s₁ G₁ y z (x.st y)) fun _ _ f => f.elim
theorem EVs.less {m : Nat} (H : EVs prog w T g₀ m sc σ e d) (h : m ≤ n) : EVs prog w T g₀ n sc σ e d := fun A env s G a => H A env s G (a.less h)

theorem Is.int_inv {v : Value} {i : Int} (h : Is prog w G v (.int i)) : ∃ t, v = .int i t := by
  cases h with
  | int i t => exact ⟨t, rfl⟩
  | ref _ _ b => cases b
theorem Is.bool_inv {v : Value} {b : Bool} (h : Is prog w G v (.bool b)) : v = .bool b := by
  cases h with
  | bool => rfl
  | ref _ _ b => cases b
theorem Is.str_inv {v : Value} {x : Str} (h : Is prog w G v (.str x)) : ∃ t, v = .str x t := by
  cases h with
  | str i t => exact ⟨t, rfl⟩
  | ref _ _ b => cases b
theorem Is.lst_inv {v : Value} {l : List D} (h : Is prog w G v (.lst l)) : ∃ a o vs n, v = .ref a ∧ G a = some o ∧ (a == sysModules) = false ∧ o.cls = .type "list" ∧ o.data = .seq (List.toArray vs) n ∧ IsAll prog w G vs l := by
  cases h with
  | ref e m b => cases b with | lst c dd r => exact ⟨_, _, _, _, rfl, e, m, c, dd, r⟩
theorem Is.tup_inv {v : Value} {l : List D} (h : Is prog w G v (.tup l)) : ∃ a o vs n, v = .ref a ∧ G a = some o ∧ (a == sysModules) = false ∧ o.cls = .type "tuple" ∧ o.data = .seq (List.toArray vs) n ∧ IsAll prog w G vs l := by
  cases h with
  | ref e m b => cases b with | tup c dd r => exact ⟨_, _, _, _, rfl, e, m, c, dd, r⟩

/-- a step that keeps the heap -/
theorem evR_toks {v : Value} {tk : Nat} (x : Good T g₀ G s.heap) (h : Is prog w G v d) : EvR prog w T g₀ G s d v { s with toks := tk } := ⟨G, St.toks x tk, h⟩
theorem evR_here {v : Value} (x : Good T g₀ G s.heap) (h : Is prog w G v d) : EvR prog w T g₀ G s d v s := ⟨G, St.refl x, h⟩

theorem ev_int {i : Int} {k : Nat} : EVs prog w T g₀ n sc σ (.Constant (.int i) k pos) (.int i) := fun A env s G a v x => by
  show wpAny _ A (mkInt i) _ _ s
  exact wpAny_mkInt (evR_toks x.good (.int i _))
theorem ev_str {i : Str} {k : Nat} : EVs prog w T g₀ n sc σ (.Constant (.str i) k pos) (.str i) := fun A env s G a v x => by
  show wpAny _ A (mkText i) _ _ s
  exact wpAny_mkText (evR_toks x.good (.str i _))
theorem ev_bool {i : Bool} {k : Nat} : EVs prog w T g₀ n sc σ (.Constant (.bool i) k pos) (.bool i) := fun A env s G a v x =>
  Constant_bool (evR_here x.good (.bool i))

theorem load_name {x : Str} {v : Value} {Q : Value → Shared → Prop} (hv : EnvOk sc env) (H : Holds env s.heap x v) (ho : odd x = false) (h : Q v s) : wpAny (model prog w) A (loadName env x) Q E s := by
  have hk : env.scope.kind = .function := by rw [hv.scope]; exact hv.kind
  rcases H with ⟨hl, m, hn, hm⟩ | ⟨hl | hl, c, hc, hx⟩
  · exact wpAny_loadName_local hk hl hn hm h
  · exact wpAny_loadName_cell hk hl hc hx h
  · exact wpAny_loadName_free hk hl hc hx h (odd_classdict ho)
theorem name_at {x : Str} {v : Value} {Q : Value → Shared → Prop} (hv : EnvOk sc env) (H : Holds env s.heap x v) (ho : odd x = false) (h : Q v s) : wpAny (model prog w) A (eval (.Name x pos) env) Q E s :=
  wpAny_Name (load_name hv H ho h) (odd_debug ho)
theorem ev_name {x : Str} (hx : σ.lookup x = some (.val d)) (ho : odd x = false) : EVs prog w T g₀ n sc σ (.Name x pos) d := fun A env s G a v y => by
  obtain ⟨u, hu, hs⟩ := y.rd x _ hx
  exact name_at v hu ho (evR_here y.good hs)

theorem ev_bin {op : Operator} (hl : EVs prog w T g₀ n sc σ l d₁) (hr : EVs prog w T g₀ n sc σ r d₂)
    (h : ∀ (A : Around) (s : Shared) (G : Gh) (a b : Value), AOk n A → Good T g₀ G s.heap → Is prog w G a d₁ → Is prog w G b d₂ → wpAny (model prog w) A (binaryOp op a b) (EvR prog w T g₀ G s d) (fun _ _ => False) s) :
    EVs prog w T g₀ n sc σ (.BinOp l op r pos) d := fun A env s G a v x => by
  refine wpAny_BinOp (hl.use a v x fun u s₁ G₁ y z x₁ => hr.use a v x₁ fun u' s₂ G₂ y' z' x₂ => ?_)
  refine wpAny_mono (h A s₂ G₂ u u' a x₂.good (Is.mono y'.gx.le z) z') (fun r s₃ q => EvR.pre (y.trans y') q) fun _ _ f => f
theorem ev_add {i j : Int} (hl : EVs prog w T g₀ n sc σ l (.int i)) (hr : EVs prog w T g₀ n sc σ r (.int j)) : EVs prog w T g₀ n sc σ (.BinOp l .Add r pos) (.int (i + j)) :=
  ev_bin hl hr fun A s G a b _ x ha hb => by obtain ⟨t, rfl⟩ := ha.int_inv; obtain ⟨u, rfl⟩ := hb.int_inv; exact PyProof.Rows.add_int (evR_toks x (.int _ _))
theorem ev_sub {i j : Int} (hl : EVs prog w T g₀ n sc σ l (.int i)) (hr : EVs prog w T g₀ n sc σ r (.int j)) : EVs prog w T g₀ n sc σ (.BinOp l .Sub r pos) (.int (i - j)) :=
  ev_bin hl hr fun A s G a b _ x ha hb => by obtain ⟨t, rfl⟩ := ha.int_inv; obtain ⟨u, rfl⟩ := hb.int_inv; exact PyProof.Rows.sub_int (evR_toks x (.int _ _))
theorem ev_mod {i j : Int} (h0 : j ≠ 0) (hl : EVs prog w T g₀ n sc σ l (.int i)) (hr : EVs prog w T g₀ n sc σ r (.int j)) : EVs prog w T g₀ n sc σ (.BinOp l .Mod r pos) (.int (i.fmod j)) :=
  ev_bin hl hr fun A s G a b _ x ha hb => by obtain ⟨t, rfl⟩ := ha.int_inv; obtain ⟨u, rfl⟩ := hb.int_inv; exact PyProof.Rows.mod_int h0 (evR_toks x (.int _ _))
theorem ev_mul {i j : Int} (h0 : IntMulOk i j) (hl : EVs prog w T g₀ n sc σ l (.int i)) (hr : EVs prog w T g₀ n sc σ r (.int j)) : EVs prog w T g₀ n sc σ (.BinOp l .Mult r pos) (.int (i * j)) :=
  ev_bin hl hr fun A s G a b _ x ha hb => by obtain ⟨t, rfl⟩ := ha.int_inv; obtain ⟨u, rfl⟩ := hb.int_inv; exact PyProof.Rows.mul_int (evR_toks x (.int _ _)) h0
theorem ev_shl {i j : Int} (h0 : 0 ≤ j) (h1 : j ≤ 1000000) (h2 : i.natAbs < 2 ^ 64) (hl : EVs prog w T g₀ n sc σ l (.int i)) (hr : EVs prog w T g₀ n sc σ r (.int j)) : EVs prog w T g₀ n sc σ (.BinOp l .LShift r pos) (.int (i * 2 ^ j.toNat)) :=
  ev_bin hl hr fun A s G a b _ x ha hb => by obtain ⟨t, rfl⟩ := ha.int_inv; obtain ⟨u, rfl⟩ := hb.int_inv; exact lshift_int_small h0 h1 h2 (evR_toks x (.int _ _))
theorem ev_inv {i : Int} (hl : EVs prog w T g₀ n sc σ l (.int i)) : EVs prog w T g₀ n sc σ (.UnaryOp .Invert l pos) (.int (Builtin.bitNot i)) := fun A env s G a v x =>
  UnaryOp_ (hl.use a v x fun u s₁ G₁ y z x₁ => by obtain ⟨t, rfl⟩ := z.int_inv; exact invert_int (EvR.pre y (evR_toks x₁.good (.int _ _))))
theorem ev_ite {t b o : PySem.Expr} {c : Bool} (ht : TRs prog w T g₀ n sc σ t c) (h : EVs prog w T g₀ n sc σ (if c then b else o) d) : EVs prog w T g₀ n sc σ (.IfExp t b o pos) d := fun A env s G a v x => by
  refine wpAny_IfExp (ht.use a v x fun s₁ G₁ y x₁ => ?_)
  cases c with
  | true => exact h.use a v x₁ fun u s₂ G₂ y₂ z₂ _ => EvR.pre y ⟨G₂, y₂, z₂⟩
  | false => exact h.use a v x₁ fun u s₂ G₂ y₂ z₂ _ => EvR.pre y ⟨G₂, y₂, z₂⟩

noncomputable def star? : PySem.Expr → Bool
  | .Starred _ _ => true
  | _ => false
theorem starEach_cons {e : PySem.Expr} (h : star? e = false) (rest : List PySem.Expr) (env : Env) : starEach (e :: rest) env = (false, eval e env) :: starEach rest env := by
  cases e <;> first | rfl | (simp [star?] at h)
theorem el_nil : ELs prog w T g₀ n sc σ [] [] := fun A env s G pos a v x => spliced_none ⟨G, St.refl x.good, .nil⟩
theorem el_cons (hs : star? e = false) (h : EVs prog w T g₀ n sc σ e d) (hr : ELs prog w T g₀ n sc σ es ds) : ELs prog w T g₀ n sc σ (e :: es) (d :: ds) := fun A env s G pos a v x =>
  spliced_more (h.use a v x fun u s₁ G₁ y z x₁ => hr.use a v x₁ fun us s₂ G₂ y₂ z₂ x₂ => ⟨G₂, y.trans y₂, .cons (Is.mono y₂.gx.le z) z₂⟩) (starEach_cons hs es env)

theorem ev_tuple {k : Nat} (h : ELs prog w T g₀ n sc σ es ds) (hz : ds.length ≤ 1000) : EVs prog w T g₀ n sc σ (.Tuple es k pos) (.tup ds) := fun A env s G a v x => by
  refine Tuple_ (h.use a v x fun us s₁ G₁ y z x₁ => ?_)
  have hl : us.length ≤ sizeLine := by rw [z.length, sizeLine_eq]; omega
  refine wpAny_newObj_type ⟨_, y.trans (St.made x₁.good (fun _ _ e => Heap.get?_push_of_some _ e) (size_none _) (Heap.get?_push_size _ rfl)), ?_⟩ (by show us.toArray.size ≤ _; simpa using hl)
  exact .ref (Gh.add_self _ _ _) (x₁.good.newMods (size_none _)) (.tup rfl rfl (IsAll.mono (Gh.le_add _ (x₁.good.new (size_none _)).1) z))
end
end Mine

namespace Mine

mutual
noncomputable def py : D → PyData
  | .int i => .int i
  | .str x => .str x
  | .bool b => .bool b
  | .none => .none
  | .tup l => .tuple (pys l)
  | .lst l => .list (pys l)
  | .dct _ => .none
  | .rng _ => .none
  | .any => .none
noncomputable def pys : List D → List PyData
  | [] => []
  | d :: l => py d :: pys l
end
mutual
noncomputable def pyOk : D → Bool
  | .int _ => true
  | .str _ => true
  | .bool _ => true
  | .none => true
  | .tup l => pysOk l
  | .lst l => pysOk l
  | .dct _ => false
  | .rng _ => false
  | .any => false
noncomputable def pysOk : List D → Bool
  | [] => true
  | d :: l => pyOk d && pysOk l
end

section
variable {prog : Program} {w : World} {T : Tabs} {g₀ : Heap} {n : Nat} {sc : Scope} {σ : List (Str × Slot)} {e l r : PySem.Expr} {d d₁ d₂ : D} {es : List PySem.Expr} {ds : List D} {pos : Pos}
variable {A : Around} {env : Env} {s : Shared} {G : Gh} {E : Value → Shared → Prop}

mutual
theorem reads_of {h : Heap} (g : ∀ b o, G b = some o → h.get? b = some o) : ∀ {v : Value} {d : D}, Is prog w G v d → pyOk d = true → ∃ as, Reads h v (py d) as
  | _, _, .int i t, _ => ⟨_, Reads.int i t⟩
  | _, _, .str x t, _ => ⟨_, Reads.str x t⟩
  | _, _, .bool b, _ => ⟨_, Reads.bool b⟩
  | _, _, .none, _ => ⟨_, Reads.none⟩
  | _, _, .any v, k => by simp [pyOk] at k
  | _, _, .ref e _ b, k => readsBody_of g b (g _ _ e) k
theorem readsBody_of {h : Heap} (g : ∀ b o, G b = some o → h.get? b = some o) : ∀ {o : Obj} {d : D}, Body prog w G o d → ∀ {a : Addr}, h.get? a = some o → pyOk d = true → ∃ as, Reads h (.ref a) (py d) as
  | _, _, .tup c dd r, _, e, k => by
    obtain ⟨as, q⟩ := readsAll_of g r (by simpa [pyOk] using k)
    exact ⟨_, by rw [py]; exact reads_tuple_at e c dd (by simpa using q)⟩
  | _, _, .lst c dd r, _, e, k => by
    obtain ⟨as, q⟩ := readsAll_of g r (by simpa [pyOk] using k)
    exact ⟨_, by rw [py]; exact reads_list_at e c dd (by simpa using q)⟩
  | _, _, .dct _ _ _ _ _, _, e, k => by simp [pyOk] at k
  | _, _, .rng, _, e, k => by simp [pyOk] at k
theorem readsAll_of {h : Heap} (g : ∀ b o, G b = some o → h.get? b = some o) : ∀ {vs : List Value} {ds : List D}, IsAll prog w G vs ds → pysOk ds = true → ∃ as, ReadsAll h vs (pys ds) as
  | _, _, .nil, _ => ⟨_, ReadsAll.nil⟩
  | _, _, .cons x r, k => by
    simp only [pysOk, Bool.and_eq_true] at k
    obtain ⟨as, q⟩ := reads_of g x k.1
    obtain ⟨bs, p⟩ := readsAll_of g r k.2
    rw [pys]
    exact ⟨_, ReadsAll.cons q p⟩
end

/-- two data compared -/
noncomputable def CmpOk (prog : Program) (w : World) (T : Tabs) (g₀ : Heap) (n : Nat) (op : CmpOp) (a b : D) (c : Bool) : Prop :=
  ∀ (A : Around) (s : Shared) (G : Gh) (u v : Value), AOk n A → Good T g₀ G s.heap → Is prog w G u a → Is prog w G v b → wpAny (model prog w) A (compareOp op u v) (fun x s' => x = .bool c ∧ ∃ G', St T g₀ G s G' s') (fun _ _ => False) s

theorem cmp_lt {i j : Int} : CmpOk prog w T g₀ n .Lt (.int i) (.int j) (decide (i < j)) := fun A s G u v _ x ha hb => by
  obtain ⟨t, rfl⟩ := ha.int_inv; obtain ⟨t', rfl⟩ := hb.int_inv; exact PyProof.Rows.lt_int ⟨rfl, G, St.refl x⟩
theorem cmp_le {i j : Int} : CmpOk prog w T g₀ n .LtE (.int i) (.int j) (decide (i ≤ j)) := fun A s G u v _ x ha hb => by
  obtain ⟨t, rfl⟩ := ha.int_inv; obtain ⟨t', rfl⟩ := hb.int_inv; exact PyProof.Rows.le_int ⟨rfl, G, St.refl x⟩
theorem cmp_eq {i j : Int} : CmpOk prog w T g₀ n .Eq (.int i) (.int j) (i == j) := fun A s G u v _ x ha hb => by
  obtain ⟨t, rfl⟩ := ha.int_inv; obtain ⟨t', rfl⟩ := hb.int_inv; exact PyProof.Rows.eq_int ⟨rfl, G, St.refl x⟩
theorem cmp_ne {i j : Int} : CmpOk prog w T g₀ n .NotEq (.int i) (.int j) (i != j) := fun A s G u v _ x ha hb => by
  obtain ⟨t, rfl⟩ := ha.int_inv; obtain ⟨t', rfl⟩ := hb.int_inv; exact PyProof.Rows.ne_int ⟨rfl, G, St.refl x⟩
theorem cmp_ne_data {a b : D} (ha : pyOk a = true) (hb : pyOk b = true) (sa : SeqAt.shaped (py a) = true) (sb : SeqAt.shaped (py b) = true) :
    CmpOk prog w T g₀ n .NotEq a b (!PyData.eqv (py a) (py b)) := fun A s G u v ok x iu iv => by
  obtain ⟨as, q⟩ := reads_of x.sub iu ha
  obtain ⟨bs, p⟩ := reads_of x.sub iv hb
  exact ne_dataH q p sa sb ok.u64 ⟨rfl, G, St.refl x⟩
theorem cmp_in_tup {a : D} {l : List D} (ha : pyOk a = true) (hb : pysOk l = true) (h1 : PyData.canLayAll0 (pys l) = true) (h2 : (py a).canLay0 = true) (h3 : (py a).depth ≤ 60) :
    CmpOk prog w T g₀ n .In a (.tup l) ((pys l).any fun y => PyData.eqv y (py a)) := fun A s G u v ok x iu iv => by
  obtain ⟨as, q⟩ := reads_of x.sub iu ha
  obtain ⟨bs, p⟩ := reads_of x.sub iv (show pyOk (.tup l) = true by simpa [pyOk] using hb)
  rw [py] at p
  refine SeqAt.in_tuple_reads p q h1 h2 ?_ ⟨rfl, G, St.refl x⟩
  have := ok.u64
  have := Nat.min_le_right (PyData.depthAll (pys l)) (py a).depth
  omega

theorem tr_cmp {op : CmpOp} {c : Bool} (hm : behindInMarks op r = false) (hl : EVs prog w T g₀ n sc σ l d₁) (hr : EVs prog w T g₀ n sc σ r d₂) (h : CmpOk prog w T g₀ n op d₁ d₂ c) :
    TRs prog w T g₀ n sc σ (.Compare l [op] [r] pos) c := fun A env s G a v x => by
  refine wpAny_isTrue_Compare1 (hl.use a v x fun u s₁ G₁ y z x₁ => hr.use a v x₁ fun u' s₂ G₂ y' z' x₂ => ?_) hm
  refine wpAny_mono (h A s₂ G₂ u u' a x₂.good (Is.mono y'.gx.le z) z') (fun q s₃ hq => ?_) fun _ _ f => f
  obtain ⟨rfl, G₃, y₃⟩ := hq
  exact wpAny_truthy_bool ⟨rfl, G₃, (y.trans y').trans y₃⟩
theorem ev_cmp {op : CmpOp} {c : Bool} (hm : behindInMarks op r = false) (hl : EVs prog w T g₀ n sc σ l d₁) (hr : EVs prog w T g₀ n sc σ r d₂) (h : CmpOk prog w T g₀ n op d₁ d₂ c) :
    EVs prog w T g₀ n sc σ (.Compare l [op] [r] pos) (.bool c) := fun A env s G a v x => by
  refine wpAny_Compare1 (hl.use a v x fun u s₁ G₁ y z x₁ => hr.use a v x₁ fun u' s₂ G₂ y' z' x₂ => ?_) hm
  refine wpAny_mono (h A s₂ G₂ u u' a x₂.good (Is.mono y'.gx.le z) z') (fun q s₃ hq => ?_) fun _ _ f => f
  obtain ⟨rfl, G₃, y₃⟩ := hq
  exact ⟨G₃, (y.trans y').trans y₃, .bool c⟩
/-- «or» of two tests -/
theorem tr_or {a b : PySem.Expr} {c : Bool} (ha : TRs prog w T g₀ n sc σ a false) (hb : TRs prog w T g₀ n sc σ b c) : TRs prog w T g₀ n sc σ (.BoolOp .Or [a, b] pos) c := fun A env s G ok v x => by
  refine isTrue_or (ha.use ok v x fun s₁ G₁ y x₁ => ?_)
  refine isTrue_or (hb.use ok v x₁ fun s₂ G₂ y₂ x₂ => ?_)
  cases c with
  | true => exact ⟨rfl, G₂, y.trans y₂⟩
  | false => exact isTrue_or_nil ⟨rfl, G₂, y.trans y₂⟩

theorem Good.key {h : Heap} (x : Good T g₀ G h) {k : List Ky} {a : Addr} (y : KeyG prog w G k a) : (tkKind prog w).is h k a :=
  let ⟨_, o, items, m, e, r⟩ := y; ⟨o, items, m, x.sub _ _ e, r⟩
theorem IsEnt.key {xs : List (List Ky × Addr × Value)} {l : List (List Ky × D)} (h : IsEnt prog w G xs l) : ∀ x ∈ xs, KeyG prog w G x.1 x.2.1 := by
  induction xs generalizing l with
  | nil => intro x hx; cases hx
  | cons y ys ih =>
    cases h with
    | cons k v r =>
      intro x hx
      rcases List.mem_cons.mp hx with rfl | hx
      · exact k
      · exact ih r x hx
theorem IsEnt.keys {xs : List (List Ky × Addr × Value)} {l : List (List Ky × D)} (h : IsEnt prog w G xs l) : xs.map (·.1) = l.map (·.1) := by
  induction xs generalizing l with
  | nil => cases h; rfl
  | cons y ys ih => cases h with | cons k v r => simp [ih r]
theorem IsEnt.length {xs : List (List Ky × Addr × Value)} {l : List (List Ky × D)} (h : IsEnt prog w G xs l) : xs.length = l.length := by
  have := congrArg List.length h.keys; simpa using this
theorem atKey_isSome {xs : List (List Ky × Addr × Value)} {l : List (List Ky × D)} (h : IsEnt prog w G xs l) (k : List Ky) : (atKey xs k).isSome = l.any fun p => decide (p.1 = k) := by
  induction xs generalizing l with
  | nil => cases h; rfl
  | cons y ys ih =>
    cases h with
    | cons hk v r =>
      rename_i k' a' v' d' l'
      have := ih r
      unfold atKey at this ⊢
      by_cases q : k' = k
      · subst q; simp
      · simp only [Option.isSome_map] at this ⊢
        rw [List.find?_cons]
        simp [q, this]
/-- a dict's own facts -/
theorem Good.dict {h : Heap} (x : Good T g₀ G h) {a : Addr} {o : Obj} {l : List (List Ky × D)} (ho : h.get? a = some o) (b : Body prog w G o (.dct l)) : ∃ xs, h.DictOfH (tkKind prog w) a xs ∧ IsEnt prog w G xs l := by
  cases b with
  | dct c dd e nd r => exact ⟨_, ⟨o, _, _, ho, c, dd, e, fun x' hx => x.key (r.key x' hx), nd⟩, r⟩

noncomputable def kyD : Ky → D
  | .i n => .int n
  | .s x => .str x
noncomputable def dKy : D → Option Ky
  | .int i => some (.i i)
  | .str x => some (.s x)
  | _ => none
noncomputable def dKys : List D → Option (List Ky)
  | [] => some []
  | d :: l => match dKy d, dKys l with
    | some k, some ks => some (k :: ks)
    | _, _ => none
theorem itemsAre_of {vs : List Value} {ds : List D} (h : IsAll prog w G vs ds) : ∀ {ks : List Ky}, dKys ds = some ks → ItemsAre (kyKind prog w) ks vs := by
  induction vs generalizing ds with
  | nil => cases h; intro ks e; cases e; exact .nil
  | cons v vs ih =>
    cases h with
    | cons hv r =>
      rename_i d' ds'
      intro ks e
      unfold dKys at e
      cases hd : dKy d' with
      | none => rw [hd] at e; simp at e
      | some k =>
        cases hr : dKys ds' with
        | none => rw [hd, hr] at e; simp at e
        | some ks' =>
          rw [hd, hr] at e
          cases e
          refine .cons ?_ (ih r hr)
          cases d' with
          | int i => cases hd; obtain ⟨t, rfl⟩ := hv.int_inv; simp [kyKind, kyIs, Value.isInt]
          | str i => cases hd; obtain ⟨t, rfl⟩ := hv.str_inv; simp [kyKind, kyIs, Value.isStrOf]
          | _ => simp [dKy] at hd
theorem KeyG.of {u : Value} {l : List D} {ks : List Ky} (h : Is prog w G u (.tup l)) (hk : dKys l = some ks) : ∃ a, u = .ref a ∧ KeyG prog w G ks a := by
  obtain ⟨a, o, vs, n, rfl, e, m, c, dd, r⟩ := h.tup_inv
  exact ⟨a, rfl, m, o, _, n, e, c, dd, by simpa using itemsAre_of r hk⟩
theorem all_of_items : ∀ {ks : List Ky} {vs : List Value}, ItemsAre (kyKind prog w) ks vs → IsAll prog w G vs (ks.map kyD)
  | _, _, .nil => .nil
  | _, _, .cons h r => by
    refine .cons ?_ (all_of_items r)
    rename_i k v _ _
    cases k with
    | i m => obtain ⟨t, rfl⟩ := kyIs_i h; exact .int m t
    | s x => obtain ⟨t, rfl⟩ := kyIs_s h; exact .str x t
theorem KeyG.is {ks : List Ky} {a : Addr} (h : KeyG prog w G ks a) : Is prog w G (.ref a) (.tup (ks.map kyD)) := by
  obtain ⟨m, o, items, n, e, c, dd, r⟩ := h
  exact .ref e m (.tup (vs := items.toList) c (by simpa using dd) (all_of_items r))

/-- a key in a live dict -/
theorem tr_in_live {x : Str} {l' : List D} {ks : List Ky} {en : List (List Ky × D)} {pos' : Pos}
    (hm : behindInMarks .In (.Name x pos) = false) (hl : EVs prog w T g₀ n sc σ l (.tup l')) (hk : dKys l' = some ks) (hx : σ.lookup x = some (.live (.dct en))) (ho : odd x = false) :
    TRs prog w T g₀ n sc σ (.Compare l [.In] [.Name x pos] pos') (en.any fun p => decide (p.1 = ks)) := fun A env s G a v y => by
  refine wpAny_isTrue_Compare1 (hl.use a v y fun u s₁ G₁ y₁ z₁ x₁ => ?_) hm
  obtain ⟨u', hu', ld, o, rfl, hd, hmo, hc, b⟩ := x₁.rd x _ hx
  obtain ⟨ka, rfl, hkey⟩ := KeyG.of z₁ hk
  obtain ⟨xs, hD, hE⟩ := x₁.good.dict hd b
  refine name_at v hu' ho ?_
  refine wpAny_in_heap (knd := tkKind prog w) (show A.in1.units < cLine by have := a.u64; show A.units + 1 < _; omega) (x₁.good.key hkey) hmo hD ?_
  rw [atKey_isSome hE]
  exact wpAny_truthy_bool ⟨rfl, G₁, y₁.trans (St.toks x₁.good _)⟩
end
end Mine

namespace Mine

noncomputable def slice? : PySem.Expr → Bool
  | .Slice .. => true
  | _ => false
theorem subscripted_plain {i : PySem.Expr} (h : slice? i = false) (o v : Value) : subscripted i false o v = operate [o, v] (getItem o v) := by
  cases i <;> first | rfl | (simp [slice?] at h)

section
variable {prog : Program} {w : World} {T : Tabs} {g₀ : Heap} {n : Nat} {sc : Scope} {σ : List (Str × Slot)} {e l r i : PySem.Expr} {d d₁ d₂ : D} {es : List PySem.Expr} {ds : List D} {pos : Pos}
variable {A : Around} {env : Env} {s : Shared} {G : Gh} {E : Value → Shared → Prop}

theorem Good.isList {h : Heap} (x : Good T g₀ G h) {a : Addr} {o : Obj} {vs : List Value} {m : Nat} (e : G a = some o) (c : o.cls = .type "list") (dd : o.data = .seq (List.toArray vs) m) : h.IsList a vs.toArray := ⟨o, x.sub _ _ e, c, m, dd⟩
theorem Good.isTup {h : Heap} (x : Good T g₀ G h) {a : Addr} {o : Obj} {vs : List Value} {m : Nat} (e : G a = some o) (c : o.cls = .type "tuple") (dd : o.data = .seq (List.toArray vs) m) : IsTup h a vs.toArray := ⟨o, x.sub _ _ e, c, m, dd⟩

theorem item_list {value : PySem.Expr} {a : Addr} {vs : List Value} {k : Int} {u : Tok} {v : Value} {Q : Value → Shared → Prop} (hi : slice? i = false) (hL : s.heap.IsList a vs.toArray) (h0 : 0 ≤ k) (h1 : k < 2 ^ 63) (hv : vs[k.toNat]? = some v) (h : Q v s) :
    wpAny (model prog w) A (subscriptTail value i (.ref a) (.int k u)) Q E s :=
  tail_any hL.typeIs slot_list_getitem.lookup (wpAny_getItem_list hL h0 h1 (by simpa using hv) h) (subscripted_plain hi _ _)

theorem ev_sub_list {ds : List D} {k : Int} (hi : slice? i = false) (h0 : 0 ≤ k) (h1 : k < 2 ^ 63) (hd : ds[k.toNat]? = some d) (he : EVs prog w T g₀ n sc σ e (.lst ds)) (hk : EVs prog w T g₀ n sc σ i (.int k)) : EVs prog w T g₀ n sc σ (.Subscript e i pos) d := fun A env s G a v x => by
  refine Subscript_ (he.use a v x fun u s₁ G₁ y z x₁ => hk.use a v x₁ fun u' s₂ G₂ y' z' x₂ => ?_)
  obtain ⟨b, o, vs, m, rfl, e, _, c, dd, r⟩ := (Is.mono y'.gx.le z).lst_inv
  obtain ⟨t, rfl⟩ := z'.int_inv
  obtain ⟨v', hv', hi'⟩ := r.get hd
  exact item_list hi (x₂.good.isList e c dd) h0 h1 hv' ⟨G₂, y.trans y', hi'⟩
theorem ev_sub_tup {ds : List D} {k : Int} (hi : slice? i = false) (h0 : 0 ≤ k) (h1 : k < 2 ^ 63) (hd : ds[k.toNat]? = some d) (he : EVs prog w T g₀ n sc σ e (.tup ds)) (hk : EVs prog w T g₀ n sc σ i (.int k)) : EVs prog w T g₀ n sc σ (.Subscript e i pos) d := fun A env s G a v x => by
  refine Subscript_ (he.use a v x fun u s₁ G₁ y z x₁ => hk.use a v x₁ fun u' s₂ G₂ y' z' x₂ => ?_)
  obtain ⟨b, o, vs, m, rfl, e, _, c, dd, r⟩ := (Is.mono y'.gx.le z).tup_inv
  obtain ⟨t, rfl⟩ := z'.int_inv
  obtain ⟨v', hv', hi'⟩ := r.get hd
  have hl : k.toNat < vs.length := (List.getElem?_eq_some_iff.mp hv').1
  refine item_tupleT (j := k.toNat) (x₂.good.isTup e c dd) (by omega) h1 ?_ hv' ⟨G₂, y.trans y', hi'⟩ (subscripted_plain hi _ _)
  unfold seqIndex?
  have hk' : ¬ k < 0 := by omega
  simp only [hk', if_false]
  rw [if_pos]
  simp only [Bool.and_eq_true, decide_eq_true_eq]
  omega
theorem ev_sub_live {ds : List D} {k : Int} {x : Str} {p : Pos} (hi : slice? i = false) (h0 : 0 ≤ k) (h1 : k < 2 ^ 63) (hd : ds[k.toNat]? = some d) (hx : σ.lookup x = some (.live (.lst ds))) (ho : odd x = false) (hk : EVs prog w T g₀ n sc σ i (.int k)) :
    EVs prog w T g₀ n sc σ (.Subscript (.Name x p) i pos) d := fun A env s G a v y => by
  obtain ⟨u, hu, ld, o, rfl, _, _, _, _⟩ := y.rd x _ hx
  refine Subscript_ (name_at v hu ho (hk.use a v y fun u' s₂ G₂ y' z' x₂ => ?_))
  obtain ⟨u2, hu2, l2, o2, rfl, hd2, _, _, b2⟩ := x₂.rd x _ hx
  obtain ⟨t, rfl⟩ := z'.int_inv
  -- the same name, the same value
  have same : Value.ref ld = Value.ref l2 := by
    have h1 := hu.kp y.good y'.kp
    rcases h1 with ⟨a1, m1, n1, e1⟩ | ⟨a1, c1, n1, e1⟩
    · rcases hu2 with ⟨a2, m2, n2, e2⟩ | ⟨a2, c2, n2, e2⟩
      · obtain ⟨o1, es1, ep1, ho1, hd1, _, hf1⟩ := n1
        obtain ⟨o2, es2, ep2, ho2, hd2, _, hf2⟩ := n2
        rw [ho1] at ho2; cases ho2
        rw [hd1] at hd2; cases hd2
        rw [← hf1] at e1; rw [← hf2, e1] at e2; exact Option.some.inj e2
      · rw [a1] at a2; rcases a2 with q | q <;> cases q
    · rcases hu2 with ⟨a2, m2, n2, e2⟩ | ⟨a2, c2, n2, e2⟩
      · rw [a2] at a1; rcases a1 with q | q <;> cases q
      · rw [n1] at n2; cases n2
        obtain ⟨o1, ho1, hd1⟩ := e1
        obtain ⟨o2, ho2, hd2⟩ := e2
        rw [ho1] at ho2; cases ho2
        rw [hd1] at hd2; cases hd2; rfl
  cases same
  cases b2 with
  | lst c dd r =>
    obtain ⟨v', hv', hi'⟩ := r.get hd
    exact item_list hi ⟨o2, hd2, c, _, dd⟩ h0 h1 hv' ⟨G₂, y', hi'⟩

theorem ev_neg {k : Int} (hl : EVs prog w T g₀ n sc σ l (.int k)) : EVs prog w T g₀ n sc σ (.UnaryOp .USub l pos) (.int (-k)) := fun A env s G a v x =>
  UnaryOp_ (hl.use a v x fun u s₁ G₁ y z x₁ => by obtain ⟨t, rfl⟩ := z.int_inv; exact neg_int (EvR.pre y (evR_toks x₁.good (.int _ _))))

/-- a live list but its last -/
theorem ev_butLast {ds : List D} {x : Str} {p p' : Pos} {hi : PySem.Expr} {k : Nat} (hz : ds.length ≤ 1000) (hk1 : 1 ≤ k) (hx : σ.lookup x = some (.live (.lst ds))) (ho : odd x = false) (hk : EVs prog w T g₀ n sc σ hi (.int (-(k : Int)))) :
    EVs prog w T g₀ n sc σ (.Subscript (.Name x p) (.Slice none (some hi) none p') pos) (.lst (ds.take (ds.length - k))) := fun A env s G a v y => by
  obtain ⟨u, hu, ld, o, rfl, hl, hm, hc, b⟩ := y.rd x _ hx
  refine wpAny_Subscript_list_slice (name_at v hu ho ?_) (by intro _ _; rfl)
  refine wpAny_pure ?_
  refine hk.use a v y fun u' s₂ G₂ y' z' x₂ => ?_
  obtain ⟨t, rfl⟩ := z'.int_inv
  have b' := Body.mono y'.gx.le b
  have hl2 := y'.kp _ o (y.good.notTab hl (.inl hc)) hl
  cases b' with
  | lst c dd r =>
    rename_i vs m
    refine ⟨ld, vs.toArray, none, some (-(k : Int)), rfl, ⟨o, hl2, c, m, dd⟩, by rw [List.size_toArray, r.length, sizeLine_eq]; omega, .none, .int _ _, ?_⟩
    rw [slicePick_butLast _ k hk1]
    have hn : s₂.heap.get? (s₂.heap.objs.size + 1) = none := Heap.get?_none_of_le (Nat.le_succ _)
    have g2 : ∀ (o1 o2 : Obj), o2.isFreed = false → ((s₂.heap.push o1).push o2).get? (s₂.heap.objs.size + 1) = some o2 := fun o1 o2 hf => by
      have := Heap.get?_push_size (s₂.heap.push o1) hf
      rw [Heap.size_push] at this; exact this
    refine ⟨_, y'.trans (St.made x₂.good (fun _ _ e => Heap.get?_push_of_some _ (Heap.get?_push_of_some _ e)) hn (g2 _ _ rfl)), ?_⟩
    have hr : IsAll prog w (G₂.add (s₂.heap.objs.size + 1) { cls := Value.type "list", data := Data.seq (vs.toArray.toList.take (vs.toArray.size - k)).toArray }) (vs.take (vs.length - k)) (ds.take (ds.length - k)) := by
      have q := (IsAll.mono (Gh.le_add { cls := Value.type "list", data := Data.seq (vs.toArray.toList.take (vs.toArray.size - k)).toArray } (x₂.good.new hn).1) r).take (ds.length - k)
      rw [← r.length] at q ⊢
      exact q
    exact .ref (Gh.add_self _ _ _) (x₂.good.newMods hn) (Body.lst (vs := vs.take (vs.length - k)) (n := 0) rfl (by simp) hr)

end
end Mine

section
open PySem.Calls
namespace Mine

noncomputable def biOf (x : Str) : Option Value :=
  if sEq x "range" then some (.type "range") else if sEq x "sorted" then some (.builtin "sorted") else if sEq x "list" then some (.type "list") else if sEq x "tuple" then some (.type "tuple")
  else if sEq x "max" then some (.builtin "max") else if sEq x "min" then some (.builtin "min") else if sEq x "divmod" then some (.builtin "divmod") else if sEq x "reversed" then some (.type "reversed") else if sEq x "len" then some (.builtin "len") else if sEq x "sum" then some (.builtin "sum") else none

/-- what the program's names are -/
structure Gl (g₀ : Heap) (mg mb : Str → Option Value) : Prop where
  g : g₀.Ns mainGlobals mg
  b : g₀.Ns builtinsNs mb
  nolimit : g₀.NoLimit
  bi : ∀ f v, biOf f = some v → mg f = none ∧ mb f = some v

section
variable {prog : Program} {w : World} {T : Tabs} {g₀ : Heap} {mg mb : Str → Option Value} {n : Nat} {sc : Scope} {σ : List (Str × Slot)} {e l r i : PySem.Expr} {d d₁ d₂ : D} {es : List PySem.Expr} {ds : List D} {pos : Pos}
variable {A : Around} {env : Env} {s : Shared} {G : Gh} {E : Value → Shared → Prop}

theorem Good.ns {h : Heap} (x : Good T g₀ G h) {a : Addr} {m : Str → Option Value} (hn : g₀.Ns a m) : h.Ns a m := hn.keeps fun b o e => x.get e
theorem name_bi (L : Gl g₀ mg mb) {f : Str} {v : Value} {Q : Value → Shared → Prop} (hv : EnvOk sc env) (x : Good T g₀ G s.heap) (hf : biOf f = some v) (hk : sc.names.lookup f = some .globalImplicit) (ho : odd f = false) (h : Q v s) :
    wpAny (model prog w) A (eval (.Name f pos) env) Q E s := by
  obtain ⟨h1, h2⟩ := L.bi f v hf
  exact Name_function_global (by rw [hv.scope]; exact hv.kind) (by unfold Env.kindOf; rw [hv.scope]; exact hk)
    (loadGlobal_builtin (by rw [hv.globals]; exact x.ns L.g) h1 (by rw [hv.builtins]; exact x.ns L.b) h2 h) (odd_debug ho)
theorem name_glob (L : Gl g₀ mg mb) {f : Str} {v : Value} {Q : Value → Shared → Prop} (hv : EnvOk sc env) (x : Good T g₀ G s.heap) (hf : mg f = some v) (hk : sc.names.lookup f = some .globalImplicit) (ho : odd f = false) (h : Q v s) :
    wpAny (model prog w) A (eval (.Name f pos) env) Q E s :=
  Name_function_global (by rw [hv.scope]; exact hv.kind) (by unfold Env.kindOf; rw [hv.scope]; exact hk)
    (loadGlobal_global (by rw [hv.globals]; exact x.ns L.g) hf h) (odd_debug ho)

/-- a call of a value with these data gives d -/
noncomputable def CallOk (prog : Program) (w : World) (T : Tabs) (g₀ : Heap) (n : Nat) (f : Value) (ds : List D) (d : D) : Prop :=
  ∀ (A : Around) (s : Shared) (G : Gh) (vs : List Value), AOk n A → Good T g₀ G s.heap → IsAll prog w G vs ds → wpAny (model prog w) A (call f vs) (EvR prog w T g₀ G s d) (fun _ _ => False) s

noncomputable def stars (es : List PySem.Expr) : Bool := es.any star?
theorem plain_of {es : List PySem.Expr} (h : stars es = false) (pos : Pos) (env : Env) : (backTo pos (starEach es env)).any (·.1) = false := by
  induction es with
  | nil => rfl
  | cons e es ih =>
    simp only [stars, List.any_cons, Bool.or_eq_false_iff] at h
    rw [starEach_cons h.1]
    show (false || (backTo pos (starEach es env)).any (·.1)) = false
    rw [ih h.2]; rfl

theorem ev_call_builtin (L : Gl g₀ mg mb) {f : Str} {id : String} {p : Pos} (hf : biOf f = some (.builtin id)) (hk : sc.names.lookup f = some .globalImplicit) (ho : odd f = false) (hs : stars (e :: es) = false)
    (ha : ELs prog w T g₀ n sc σ (e :: es) ds) (hc : CallOk prog w T g₀ n (.builtin id) ds d) : EVs prog w T g₀ n sc σ (.Call (.Name f p) (e :: es) [] pos) d := fun A env s G a v x => by
  refine Call_ (name_bi L v x.good hf hk ho ?_)
  simp only [stars, List.any_cons, Bool.or_eq_false_iff] at hs
  refine callWith_builtin1 (ha.use a v x fun us s₁ G₁ y z x₁ => ?_) (starEach_cons hs.1 es env) (plain_of hs.2 pos env)
  exact wpAny_mono (hc A s₁ G₁ us a x₁.good z) (fun r s₂ q => EvR.pre y q) fun _ _ f => f
theorem ev_call_type (L : Gl g₀ mg mb) {f : Str} {id : String} {p : Pos} (hf : biOf f = some (.type id)) (hk : sc.names.lookup f = some .globalImplicit) (ho : odd f = false) (hs : stars (e :: es) = false)
    (ha : ELs prog w T g₀ n sc σ (e :: es) ds) (hc : CallOk prog w T g₀ n (.type id) ds d) : EVs prog w T g₀ n sc σ (.Call (.Name f p) (e :: es) [] pos) d := fun A env s G a v x => by
  refine Call_ (name_bi L v x.good hf hk ho ?_)
  simp only [stars, List.any_cons, Bool.or_eq_false_iff] at hs
  refine callWith_type1 (ha.use a v x fun us s₁ G₁ y z x₁ => ?_) (starEach_cons hs.1 es env) (plain_of hs.2 pos env)
  exact wpAny_mono (hc A s₁ G₁ us a x₁.good z) (fun r s₂ q => EvR.pre y q) fun _ _ f => f
theorem ev_call_fn (L : Gl g₀ mg mb) {f : Str} {b : Addr} {o : Obj} {fd : FuncData} {p : Pos} (hf : mg f = some (.ref b)) (hb : g₀.get? b = some o) (hd : o.data = .func fd) (hk : sc.names.lookup f = some .globalImplicit) (ho : odd f = false) (hs : stars (e :: es) = false)
    (ha : ELs prog w T g₀ n sc σ (e :: es) ds) (hc : CallOk prog w T g₀ n (.ref b) ds d) : EVs prog w T g₀ n sc σ (.Call (.Name f p) (e :: es) [] pos) d := fun A env s G a v x => by
  refine Call_ (name_glob L v x.good hf hk ho ?_)
  simp only [stars, List.any_cons, Bool.or_eq_false_iff] at hs
  refine callWith_def (o := o) (fd := fd) hd (ha.use a v x fun us s₁ G₁ y z x₁ => ⟨x₁.good.get hb, ?_⟩) (starEach_cons hs.1 es env)
  exact wpAny_mono (hc A s₁ G₁ us a x₁.good z) (fun r s₂ q => EvR.pre y q) fun _ _ f => f

theorem IsAll.one {vs : List Value} {d : D} (h : IsAll prog w G vs [d]) : ∃ v, vs = [v] ∧ Is prog w G v d := by
  cases h with | cons h r => cases r; exact ⟨_, rfl, h⟩
theorem IsAll.two {vs : List Value} {d d' : D} (h : IsAll prog w G vs [d, d']) : ∃ v v', vs = [v, v'] ∧ Is prog w G v d ∧ Is prog w G v' d' := by
  cases h with | cons h r => cases r with | cons h' r => cases r; exact ⟨_, _, rfl, h, h'⟩

theorem call_range {k : Int} : CallOk prog w T g₀ n (.type "range") [.int k] (.rng k) := fun A s G vs a x h => by
  obtain ⟨v, rfl, hv⟩ := h.one
  obtain ⟨t, rfl⟩ := hv.int_inv
  refine call_range_1 ⟨_, St.made x (fun _ _ e => Heap.get?_push_of_some _ e) (size_none _) (Heap.get?_push_size _ rfl), ?_⟩
  exact Is.ref (Gh.add_self _ _ _) (x.newMods (size_none _)) .rng
noncomputable def rngList (k : Int) : List D := (List.range k.toNat).map fun (i : Nat) => D.int (i : Int)
theorem IsAll.of_items {vs : List Value} {k : Nat} (h : ItemsOf (fun (i : Nat) (v : Value) => ∃ t, v = .int (0 + (i : Int) * 1) t) vs.toArray k) : IsAll prog w G vs ((List.range k).map fun (i : Nat) => D.int (i : Int)) := by
  obtain ⟨hs, hi⟩ := h
  rw [List.size_toArray] at hs
  subst hs
  have key : ∀ (l : List Value) (j : Nat), (∀ (i : Nat) v, l[i]? = some v → ∃ t, v = .int ((j + i : Nat) : Int) t) → IsAll prog w G l ((List.range' j l.length).map fun (i : Nat) => D.int (i : Int)) := by
    intro l
    induction l with
    | nil => intro j _; exact .nil
    | cons v l ih =>
      intro j hh
      rw [List.length_cons, List.range'_succ, List.map_cons]
      obtain ⟨t, e⟩ := hh 0 v rfl
      refine .cons (by rw [e]; exact .int _ t) (ih (j + 1) fun i v hv => ?_)
      obtain ⟨t, e⟩ := hh (i + 1) v (by simpa using hv)
      exact ⟨t, by rw [e]; congr 2; omega⟩
  rw [List.range_eq_range']
  refine key vs 0 fun i v hv => ?_
  obtain ⟨t, e⟩ := hi i v (by simpa using hv)
  exact ⟨t, by rw [e]; congr 1; omega⟩
theorem call_list_rng {k : Int} (h0 : 0 ≤ k) (h1 : k ≤ 1000) : CallOk prog w T g₀ n (.type "list") [.rng k] (.lst (rngList k)) := fun A s G vs a x h => by
  obtain ⟨v, rfl, hv⟩ := h.one
  cases hv with
  | ref e m b =>
    cases b with
    | rng =>
      refine call_list_range (n := k.toNat) a.handled (x.sub _ _ e) ?_ ?_ (by omega) fun h' tk acc c' hk ho hi => ?_
      · exact small_one (by omega) (by omega) (by omega) (by omega)
      · rw [rangeSize_one]; split <;> omega
      · refine ⟨_, St.made x hk (size_none _) ho, Is.ref (Gh.add_self _ _ _) (x.newMods (size_none _)) (Body.lst (vs := acc.toList) (n := c') rfl (by simp) ?_)⟩
        exact IsAll.of_items (by simpa using hi)
theorem call_tuple {ds : List D} (hz : ds.length ≤ 1000) : CallOk prog w T g₀ n (.type "tuple") [.lst ds] (.tup ds) := fun A s G vs a x h => by
  obtain ⟨v, rfl, hv⟩ := h.one
  obtain ⟨b, o, us, m, rfl, e, _, c, dd, r⟩ := hv.lst_inv
  refine call_tuple_list (x.isList e c dd) (fun h' hk => ?_) (by rw [List.size_toArray, r.length, sizeLine_eq]; omega)
  have x' := x.keep hk
  refine ⟨_, (St.keep (tk := s.toks) x hk).trans (St.made (s := { s with heap := h', toks := s.toks }) (tk := s.toks) x' (fun _ _ e => Heap.get?_push_of_some _ e) (size_none _) (Heap.get?_push_size _ rfl)), ?_⟩
  exact Is.ref (Gh.add_self _ _ _) (x'.newMods (size_none _)) (Body.tup (vs := us) (n := 0) rfl rfl (IsAll.mono (Gh.le_add _ (x'.new (size_none _)).1) r))
theorem call_divmod {i j : Int} (hj : j ≠ 0) (h1 : Builtin.divisionGoesByPylong i j = false) : CallOk prog w T g₀ n (.builtin "divmod") [.int i, .int j] (.tup [.int (i.fdiv j), .int (i.fmod j)]) := fun A s G vs a x h => by
  obtain ⟨v, v', rfl, hv, hv'⟩ := h.two
  obtain ⟨t, rfl⟩ := hv.int_inv
  obtain ⟨t', rfl⟩ := hv'.int_inv
  refine divmod_int hj ⟨_, St.made x (fun _ _ e => Heap.get?_push_of_some _ e) (size_none _) (Heap.get?_push_size _ rfl), ?_⟩ (.inl h1)
  exact Is.ref (Gh.add_self _ _ _) (x.newMods (size_none _)) (Body.tup (vs := [_, _]) (n := 0) rfl rfl (.cons (.int _ _) (.cons (.int _ _) .nil)))

noncomputable def intsOf : List D → Option (List Int)
  | [] => some []
  | .int i :: l => (intsOf l).map (i :: ·)
  | _ :: _ => none
theorem ints_cons {d : D} {ds : List D} {ns : List Int} (h : intsOf (d :: ds) = some ns) : ∃ i r, d = .int i ∧ intsOf ds = some r ∧ ns = i :: r := by
  cases d with
  | int i => unfold intsOf at h; cases hr : intsOf ds with
    | none => rw [hr] at h; cases h
    | some r => rw [hr] at h; cases h; exact ⟨i, r, rfl, rfl, rfl⟩
  | _ => cases h
theorem IsAll.toInts {vs : List Value} {ds : List D} (h : IsAll prog w G vs ds) : ∀ {ns : List Int}, intsOf ds = some ns → IntsAre vs ns := by
  induction vs generalizing ds with
  | nil => cases h; intro ns e; cases e; exact .nil
  | cons v vs ih =>
    cases h with
    | cons hv r =>
      intro ns e
      obtain ⟨i, q, rfl, h2, rfl⟩ := ints_cons e
      obtain ⟨t, rfl⟩ := hv.int_inv
      exact .cons _ _ (ih r h2)
theorem IsAll.of_ints {vs : List Value} : ∀ {ns : List Int}, IntsAre vs ns → IsAll prog w G vs (ns.map D.int) := by
  intro ns h
  induction h with
  | nil => exact .nil
  | cons => exact .cons (.int _ _) (by assumption)
/-- ints, rising -/
noncomputable def insI (x : Int) : List Int → List Int
  | [] => [x]
  | y :: l => if x ≤ y then x :: y :: l else y :: insI x l
noncomputable def sortI : List Int → List Int
  | [] => []
  | x :: l => insI x (sortI l)
theorem insI_perm (x : Int) : ∀ l, (insI x l).Perm (x :: l)
  | [] => .refl _
  | y :: l => by
    unfold insI
    split
    · exact .refl _
    · exact ((insI_perm x l).cons y).trans (.swap x y l)
theorem sortI_perm : ∀ l, (sortI l).Perm l
  | [] => .refl _
  | x :: l => (insI_perm x _).trans ((sortI_perm l).cons x)
theorem insI_rising (x : Int) : ∀ l, l.Pairwise (· ≤ ·) → (insI x l).Pairwise (· ≤ ·)
  | [], _ => by simp [insI]
  | y :: l, h => by
    unfold insI
    obtain ⟨h1, h2⟩ := List.pairwise_cons.mp h
    split
    · rename_i hxy
      refine List.pairwise_cons.mpr ⟨fun z hz => ?_, h⟩
      rcases List.mem_cons.mp hz with rfl | hz
      · exact hxy
      · exact Int.le_trans hxy (h1 z hz)
    · rename_i hxy
      refine List.pairwise_cons.mpr ⟨fun z hz => ?_, insI_rising x l h2⟩
      rcases List.mem_cons.mp ((insI_perm x l).mem_iff.mp hz) with rfl | hz
      · omega
      · exact h1 z hz
theorem sortI_rising : ∀ l, (sortI l).Pairwise (· ≤ ·)
  | [] => .nil
  | x :: l => insI_rising x _ (sortI_rising l)
theorem rising_unique : ∀ {l l' : List Int}, l.Perm l' → l.Pairwise (· ≤ ·) → l'.Pairwise (· ≤ ·) → l = l' := by
  intro l l' hp h h'
  exact hp.eq_of_pairwise (fun a b _ _ => Int.le_antisymm) h h'
theorem call_sorted_ints {ds : List D} {ns : List Int} (hi : intsOf ds = some ns) (hz : ds.length < 64) : CallOk prog w T g₀ n (.builtin "sorted") [.lst ds] (.lst ((sortI ns).map D.int)) := fun A s G vs a x h => by
  obtain ⟨v, rfl, hv⟩ := h.one
  obtain ⟨b, o, us, m, rfl, e, _, c, dd, r⟩ := hv.lst_inv
  refine sorted_ints (x.isList e c dd) (r.toInts hi) (by rw [r.length]; exact hz) fun out ns' h1 h2 h3 => ?_
  have hn : s.heap.get? (s.heap.objs.size + 1) = none := Heap.get?_none_of_le (Nat.le_succ _)
  obtain ⟨ep, ho⟩ := sortedAll_at s.heap us out
  refine ⟨_, St.made (tk := s.toks) x (fun b o e => sortedAll_old e) hn ho, Is.ref (Gh.add_self _ _ _) (x.newMods hn) (Body.lst (vs := out.toList) (n := ep) rfl (by simp [seqObj]) ?_)⟩
  have : ns' = sortI ns := rising_unique (h2.trans (sortI_perm ns).symm) h3 (sortI_rising ns)
  rw [← this]
  exact IsAll.of_ints h1
end
end Mine

namespace Mine

noncomputable def runAsk {α : Type} (orc : Nat → Nat → Option Bool) : KasT α → Option α
  | .ret a => some a
  | .ask i j k => match orc i j with
    | some c => runAsk orc (k c)
    | none => none
theorem runAsk_wp {α : Type} {orc : Nat → Nat → Option Bool} {cmp : Nat → Nat → (Bool → Shared → Prop) → Shared → Prop} {Q : α → Shared → Prop} {s : Shared} (hc : ∀ i j c, orc i j = some c → ∀ C : Bool → Shared → Prop, C c s → cmp i j C s) :
    ∀ (t : KasT α) {a : α}, runAsk orc t = some a → Q a s → t.kasWp cmp Q s
  | .ret a, _, e, h => by cases e; exact h
  | .ask i j k, a, e, h => by
    unfold runAsk at e
    cases ho : orc i j with
    | none => rw [ho] at e; cases e
    | some c =>
      rw [ho] at e
      exact hc i j c ho _ (runAsk_wp hc (k c) e h)

section
variable {prog : Program} {w : World} {T : Tabs} {g₀ : Heap} {n : Nat} {ds : List D}
variable {A : Around} {s : Shared} {G : Gh} {E : Value → Shared → Prop}

noncomputable def pairsOf? : List D → Option (List (Int × Int))
  | [] => some []
  | .tup [.int a, .int b] :: l => (pairsOf? l).map ((a, b) :: ·)
  | _ :: _ => none

inductive PairsAre (h : Heap) : List Value → List (Int × Int) → Prop
  | nil : PairsAre h [] []
  | cons {a : Addr} {o : Obj} {x y : Int} {t u : Tok} {m : Nat} {vs : List Value} {ps : List (Int × Int)} : h.get? a = some o → o.cls = .type "tuple" → o.data = .seq #[.int x t, .int y u] m → PairsAre h vs ps → PairsAre h (.ref a :: vs) ((x, y) :: ps)
theorem pairs_cons {d : D} {ds : List D} {ps : List (Int × Int)} (h : pairsOf? (d :: ds) = some ps) : ∃ a b r, d = .tup [.int a, .int b] ∧ pairsOf? ds = some r ∧ ps = (a, b) :: r := by
  unfold pairsOf? at h
  split at h
  · rename_i e; cases e
  · rename_i a b l e
    cases e
    cases hr : pairsOf? ds with
    | none => rw [hr] at h; cases h
    | some r => rw [hr] at h; cases h; exact ⟨a, b, r, rfl, rfl, rfl⟩
  · cases h
theorem IsAll.toPairs {h : Heap} (g : ∀ b o, G b = some o → h.get? b = some o) {vs : List Value} {ds : List D} (x : IsAll prog w G vs ds) : ∀ {ps : List (Int × Int)}, pairsOf? ds = some ps → PairsAre h vs ps := by
  induction vs generalizing ds with
  | nil => cases x; intro ps e; cases e; exact .nil
  | cons v vs ih =>
    cases x with
    | cons hv r =>
      intro ps e
      obtain ⟨a, b, q, rfl, h2, rfl⟩ := pairs_cons e
      obtain ⟨c, o, us, m, rfl, e, _, hc, dd, r'⟩ := hv.tup_inv
      obtain ⟨u1, u2, rfl, i1, i2⟩ := r'.two
      obtain ⟨t1, rfl⟩ := i1.int_inv
      obtain ⟨t2, rfl⟩ := i2.int_inv
      exact .cons (g _ _ e) hc dd (ih r h2)
theorem PairsAre.keep {h h' : Heap} {vs : List Value} {ps : List (Int × Int)} (x : PairsAre h vs ps) (k : ∀ b o, h.get? b = some o → o.cls = .type "tuple" → h'.get? b = some o) : PairsAre h' vs ps := by
  induction x with
  | nil => exact .nil
  | cons e c d _ ih => exact .cons (k _ _ e c) c d ih
theorem PairsAre.length {h : Heap} {vs : List Value} {ps : List (Int × Int)} (x : PairsAre h vs ps) : vs.length = ps.length := by
  induction x with
  | nil => rfl
  | cons _ _ _ _ ih => simp [ih]
noncomputable def firsts {h : Heap} {vs : List Value} {ps : List (Int × Int)} (x : PairsAre h vs ps) : ∃ fs, KatTups h vs fs ∧ fs.length = ps.length ∧ ∀ v ∈ fs, ∃ i t, v = .int i t := by
  induction x with
  | nil => exact ⟨[], .nil, rfl, fun v hv => by cases hv⟩
  | cons e c d _ ih =>
    obtain ⟨fs, h1, h2, h3⟩ := ih
    refine ⟨_ :: fs, .cons e c d rfl h1, by simp [h2], fun v hv => ?_⟩
    rcases List.mem_cons.mp hv with rfl | hv
    · exact ⟨_, _, rfl⟩
    · exact h3 v hv
theorem PairsAre.at {h : Heap} {vs : List Value} {ps : List (Int × Int)} (x : PairsAre h vs ps) : ∀ {i : Nat} {p : Int × Int}, ps[i]? = some p → ∃ a o t u m, vs[i]? = some (.ref a) ∧ h.get? a = some o ∧ o.data = .seq #[.int p.1 t, .int p.2 u] m := by
  induction x with
  | nil => intro i p e; simp at e
  | cons e c d _ ih =>
    intro i p hp
    cases i with
    | zero => simp at hp; subst hp; exact ⟨_, _, _, _, _, rfl, e, d⟩
    | succ i => simp at hp; obtain ⟨a, o, t, u, m, h1, h2, h3⟩ := ih hp; exact ⟨a, o, t, u, m, by simpa using h1, h2, h3⟩

noncomputable def ltP (p q : Int × Int) : Bool := if p.1 == q.1 then (if p.2 == q.2 then false else decide (p.2 < q.2)) else decide (p.1 < q.1)
noncomputable def orcP (ps : List (Int × Int)) (i j : Nat) : Option Bool := match ps[i]?, ps[j]? with
  | some p, some q => some (ltP p q)
  | _, _ => none
theorem eqB_int {a b : Int} {t u : Tok} {Q : Bool → Shared → Prop} (h : Q (a == b) s) : wpAny (model prog w) A (eqBool (.int a t) (.int b u)) Q E s := by
  refine wpAny_eqBool_int ?_
  first | exact h | (have e : decide (a = b) = (a == b) := by by_cases q : a = b <;> simp [q]
                     rw [e]; exact h)
theorem ask_ok {vs : List Value} {ps : List (Int × Int)} (x : PairsAre s.heap vs ps) (i j : Nat) (c : Bool) (ho : orcP ps i j = some c) (C : Bool → Shared → Prop) (h : C c s) : kas_ask prog w A (tuples' true) vs i j C s := by
  unfold orcP at ho
  split at ho
  · rename_i p q hp hq
    cases ho
    obtain ⟨a, o, t, u, m, h1, h2, h3⟩ := x.at hp
    obtain ⟨a', o', t', u', m', h1', h2', h3'⟩ := x.at hq
    unfold kas_ask
    have e1 : vs.getD i Value.none = .ref a := by simp [h1]
    have e2 : vs.getD j Value.none = .ref a' := by simp [h1']
    rw [e1, e2]
    refine kat_lt h2 h3 h2' h3' ?_
    refine kat_cons (eqB_int ?_)
    unfold ltP at h
    cases q1 : p.1 == q.1 with
    | true =>
      rw [q1, if_pos rfl] at h
      refine kat_yes (kat_cons (eqB_int ?_))
      cases q2 : p.2 == q.2 with
      | true => rw [q2, if_pos rfl] at h; exact kat_yes (kat_nil h)
      | false =>
        rw [q2, if_neg (by simp)] at h
        exact kat_no (kat_one _ _ (PyProof.Rows.lt_int h))
    | false =>
      rw [q1, if_neg (by simp)] at h
      exact kat_no (oneLt_int h)
  · cases ho

noncomputable def sortMid (s : Shared) (a : Addr) (vs : List Value) : Shared := { s with heap := ((s.heap.update a (Obj.mapSeq fun _ => #[])).push (seqObj "tuple" vs.toArray 0)).push (seqObj "list" #[] 0) }
theorem list_sort_pairs {a : Addr} {vs : List Value} {ps : List (Int × Int)} {m : Nat} {p : Array Nat} {P : PySem.Fin → Shared → Prop} (ho : s.heap.get? a = some (seqObj "list" vs.toArray m))
    (x : PairsAre s.heap vs ps) (h2 : 2 ≤ vs.length) (h64 : vs.length < 64) (hp : runAsk (orcP ps) (kas_sort vs.length) = some p)
    (h : P (.done (.ret .none)) { s with heap := sortedHeap s.heap a vs (p.toList.map fun i => vs.getD i Value.none).toArray }) (hsz : (p.toList.map fun i => vs.getD i Value.none).length ≤ 1000) :
    wpAny (model prog w) A (Builtin.«list.sort» ⟨[.ref a], []⟩) P E s := by
  rw [list_sort_plain]
  have ha : a < s.heap.objs.size := Heap.lt_size ho
  refine wpAny_bind (listItems_at ho rfl ?_)
  refine wpAny_bind (listUpdate_at ho rfl ?_ (by rw [List.size_toArray, sizeLine_eq]; omega) (Nat.zero_le _))
  obtain ⟨e1, ho1⟩ : ∃ e1, (s.heap.update a (Obj.mapSeq fun _ => #[])).get? a = some (seqObj "list" #[] e1) := ⟨_, get?_update_seq ho (fun _ => #[])⟩
  refine wpAny_bind (seqEpoch_at ho1 rfl ?_)
  refine wpAny_bind (wpAny_newTuple ?_ (by show vs.length ≤ _; rw [sizeLine_eq]; omega))
  refine wpAny_bind (wpAny_newList ?_ (Nat.zero_le _))
  refine wpAny_holding ?_
  have ho6 : (((s.heap.update a (Obj.mapSeq fun _ => #[])).push (seqObj "tuple" vs.toArray 0)).push (seqObj "list" #[] 0)).get? a = some (seqObj "list" #[] e1) :=
    Heap.get?_push_of_some _ (Heap.get?_push_of_some _ ho1)
  have x6 : PairsAre (((s.heap.update a (Obj.mapSeq fun _ => #[])).push (seqObj "tuple" vs.toArray 0)).push (seqObj "list" #[] 0)) vs ps := x.keep fun b o e c => by
    have hb : b ≠ a := fun q => by
      rw [q, ho] at e
      cases e
      exact absurd (show Value.type "list" = Value.type "tuple" from c) (by decide)
    exact Heap.get?_push_of_some _ (Heap.get?_push_of_some _ ((Heap.get?_update_ne _ _ _ _ hb).trans e))
  show wpAny (model prog w) A _ P E (sortMid s a vs)
  dsimp only
  have hn2 : ¬ vs.toArray.size < 2 := by rw [List.size_toArray]; omega
  rw [if_neg hn2, if_neg hn2]
  obtain ⟨fs, t1, t2, t3⟩ := firsts x6
  refine wpAny_bind (kat_kind (T := .type "int") t1 (by rw [t2, ← x.length]; omega) (fun v hv => ?_) (by decide) ?_)
  · obtain ⟨i, t, rfl⟩ := t3 v hv
    exact Looks.now
  have eT : (Value.type "int" != Value.type "tuple") = true := by decide
  rw [eT]
  refine wpAny_bind (wpAny_mono (kat_run (ks := vs) (vs := vs) (κ := tuples' true) (Q := fun st' s' => failedOf st' = none ∧ s' = sortMid s a vs ∧ (arrOf st').map (·.2) = (p.toList.map fun i => vs.getD i Value.none).toArray)
    (G := fun p' s' => p' = p ∧ s' = sortMid s a vs) rfl h2 h64 (fun p' st' s' a1 a2 a3 ⟨a4, a5⟩ => ?_) (runAsk_wp (fun i j c hc C hC => ask_ok (s := sortMid s a vs) x6 i j c hc C hC) _ hp ⟨rfl, rfl⟩)) ?_ fun _ _ e => e)
  · subst a4
    exact ⟨a3, a5, kat_snds rfl a2⟩
  rintro ⟨⟨⟩, st'⟩ s' ⟨hf, rfl, hout⟩
  dsimp only at hf hout ⊢
  rw [hout]
  refine wpAny_bind (seqEpoch_at (s := sortMid s a vs) ho6 rfl ?_)
  refine wpAny_bind (listUpdate_at (s := sortMid s a vs) ho6 rfl ?_ (Nat.zero_le _) (by rw [List.size_toArray, sizeLine_eq]; omega))
  rw [hf]
  simp only [bne_self_eq_false, Bool.false_eq_true, if_false]
  exact wpAny_pure h

noncomputable def pickD (ds : List D) (p : Array Nat) : List D := p.toList.map fun i => ds.getD i D.none
theorem IsAll.pick {vs : List Value} {ds : List D} (h : IsAll prog w G vs ds) : ∀ (l : List Nat), IsAll prog w G (l.map fun i => vs.getD i Value.none) (l.map fun i => ds.getD i D.none)
  | [] => .nil
  | i :: l => by
    rw [List.map_cons, List.map_cons]
    refine .cons ?_ (IsAll.pick h l)
    by_cases hi : i < ds.length
    · have e : ds[i]? = some ds[i] := by simp [hi]
      obtain ⟨v, hv, hd⟩ := h.get e
      rw [List.getD_eq_getElem?_getD, List.getD_eq_getElem?_getD, hv, e]
      exact hd
    · have e : ds[i]? = none := by simp; omega
      have e2 : vs[i]? = none := by simp; rw [h.length]; omega
      rw [List.getD_eq_getElem?_getD, List.getD_eq_getElem?_getD, e, e2]
      exact .none
theorem call_sorted_pairs {ds : List D} {ps : List (Int × Int)} {p : Array Nat} (hi : pairsOf? ds = some ps) (h2 : 2 ≤ ds.length) (hz : ds.length < 64) (hp : runAsk (orcP ps) (kas_sort ds.length) = some p) (hps : p.size ≤ 1000) :
    CallOk prog w T g₀ n (.builtin "sorted") [.lst ds] (.lst (pickD ds p)) := fun A s G vs a x h => by
  obtain ⟨v, rfl, hv⟩ := h.one
  obtain ⟨b, o, us, m, rfl, e, _, c, dd, r⟩ := hv.lst_inv
  have hl := x.isList e c dd
  have hlen := r.length
  refine Calls.call_function_entry kind_sorted plain_sorted entry_sorted (args_sorted1 _) ?_
  unfold Builtin.«sorted»
  refine wpAny_bind (m := checkCount "sorted" 1 1 _) (wpAny_pure ?_)
  refine wpAny_bind (collect_list hl ?_ (by rw [hlen, sizeLine_eq]; omega))
  refine wpAny_bind (wpAny_newList ?_ (by rw [hlen, sizeLine_eq]; omega))
  have hsz : ((s.heap.push (seqObj "list" #[] 0)).update s.heap.objs.size (Obj.mapSeq (· ++ us.toArray))).objs.size = s.heap.objs.size + 1 := by
    rw [Heap.size_update, size_push']
  have hoL : (((s.heap.push (seqObj "list" #[] 0)).update s.heap.objs.size (Obj.mapSeq (· ++ us.toArray))).push (seqObj "list" us.toArray 0)).get? (s.heap.objs.size + 1) = some (seqObj "list" us.toArray 0) := by
    rw [← hsz]; exact Heap.get?_push_size _ rfl
  show wpAny _ _ _ _ _ { s with heap := ((s.heap.push (seqObj "list" #[] 0)).update s.heap.objs.size (Obj.mapSeq (· ++ us.toArray))).push (seqObj "list" us.toArray 0) }
  rw [hsz]
  have hx : PairsAre (((s.heap.push (seqObj "list" #[] 0)).update s.heap.objs.size (Obj.mapSeq (· ++ us.toArray))).push (seqObj "list" us.toArray 0)) us ps := (r.toPairs x.sub hi).keep fun b o e c => by
    have hb : b ≠ s.heap.objs.size := Nat.ne_of_lt (Heap.lt_size e)
    exact Heap.get?_push_of_some _ ((Heap.get?_update_ne _ _ _ _ hb).trans (Heap.get?_push_of_some _ e))
  refine wpAny_bind (wpAny_holding (wpAny_call_entry slot_list_sort ⟨_, hoL, rfl⟩ entry_list_sort (list_sort_pairs hoL hx (by rw [hlen]; exact h2) (by rw [hlen]; exact hz) (by rw [hlen]; exact hp) ⟨_, rfl, ?_⟩ (by simp; exact hps)) (args_list_sort _)))
  refine wpAny_pure ⟨_, rfl, ?_⟩
  have hn : s.heap.get? (s.heap.objs.size + 1) = none := Heap.get?_none_of_le (Nat.le_succ _)
  obtain ⟨ep, ho⟩ := sortedAll_at s.heap us (p.toList.map fun i => us.getD i Value.none).toArray
  refine ⟨_, St.made (tk := s.toks) x (fun b o e => sortedAll_old e) hn ho, Is.ref (Gh.add_self _ _ _) (x.newMods hn) (Body.lst (vs := p.toList.map fun i => us.getD i Value.none) (n := ep) rfl rfl ?_)⟩
  exact IsAll.mono (Gh.le_add _ (x.new hn).1) (r.pick p.toList)

/-- the greatest, the least -/
noncomputable def bestI (bt : Int → Int → Bool) (x : Int) : List Int → Int
  | [] => x
  | y :: l => bestI bt (if bt y x then y else x) l
theorem intItems_of {vs : List Value} {ns : List Int} (h : IntsAre vs ns) : ∃ xs : Array (Int × Tok), vs.toArray = intItems xs ∧ xs.toList.map (·.1) = ns := by
  have key : ∃ l : List (Int × Tok), vs = l.map (fun p => Value.int p.1 p.2) ∧ l.map (·.1) = ns := by
    induction h with
    | nil => exact ⟨[], rfl, rfl⟩
    | cons i t _ ih =>
      obtain ⟨l, e, e2⟩ := ih
      exact ⟨(i, t) :: l, by simp [e], by simp [e2]⟩
  obtain ⟨l, rfl, e2⟩ := key
  exact ⟨l.toArray, by simp [intItems], by simpa using e2⟩
theorem best_spec (bt : Int → Int → Bool) (f : Nat → Int) : ∀ k, f (argBest (fun i j => bt (f i) (f j)) k) = bestI bt (f 0) ((List.range k).map fun i => f (i + 1)) := by
  have step : ∀ (l : List Int) (x y : Int), bestI bt x (l ++ [y]) = (if bt y (bestI bt x l) then y else bestI bt x l) := by
    intro l
    induction l with
    | nil => intro x y; rfl
    | cons z l ih => intro x y; exact ih _ y
  intro k
  induction k with
  | zero => rfl
  | succ k ih =>
    rw [List.range_succ, List.map_append, List.map_singleton, step, ← ih]
    show f (if bt (f (k + 1)) (f (argBest (fun i j => bt (f i) (f j)) k)) = true then k + 1 else argBest (fun i j => bt (f i) (f j)) k) = _
    by_cases h : bt (f (k + 1)) (f (argBest (fun i j => bt (f i) (f j)) k)) = true
    · rw [if_pos h, if_pos h]
    · rw [if_neg h, if_neg h]
theorem best_list {xs : Array (Int × Tok)} {i : Int} {ns : List Int} (h : xs.toList.map (·.1) = i :: ns) (bt : Int → Int → Bool) :
    numAt xs (argBest (fun a b => bt (numAt xs a) (numAt xs b)) (xs.size - 1)) = bestI bt i ns := by
  rw [best_spec bt (numAt xs)]
  have hlen : xs.size = ns.length + 1 := by have := congrArg List.length h; simpa using this
  have hat : ∀ j, numAt xs j = ((i :: ns)[j]?).getD 0 := fun j => by
    rw [← h]
    simp [numAt]
  have e0 : numAt xs 0 = i := by rw [hat]; rfl
  rw [e0, hlen]
  congr 1
  apply List.ext_getElem?
  intro j
  simp only [List.getElem?_map, Nat.add_sub_cancel]
  by_cases hj : j < ns.length
  · rw [List.getElem?_range hj]
    simp only [Option.map_some, hat]
    simp [hj]
  · rw [List.getElem?_eq_none (by simp; omega), List.getElem?_eq_none (by omega)]; rfl
theorem call_max {ds : List D} {i : Int} {ns : List Int} (hi : intsOf ds = some (i :: ns)) : CallOk prog w T g₀ n (.builtin "max") [.lst ds] (.int (bestI (fun a b => decide (a > b)) i ns)) := fun A s G vs a x h => by
  obtain ⟨v, rfl, hv⟩ := h.one
  obtain ⟨b, o, us, m, rfl, e, _, c, dd, r⟩ := hv.lst_inv
  obtain ⟨xs, e1, e2⟩ := intItems_of (r.toInts hi)
  have hl := x.isList e c dd
  rw [e1] at hl
  have hp : 0 < xs.size := by have := congrArg List.length e2; simp at this; omega
  refine max_intList a.handled hl hp fun v h' tk hv hk => ?_
  obtain ⟨t, rfl⟩ := intItems_at hv
  rw [best_list e2 (fun a b => decide (a > b))]
  exact ⟨G, St.keep x hk, .int _ _⟩
theorem call_min {ds : List D} {i : Int} {ns : List Int} (hi : intsOf ds = some (i :: ns)) : CallOk prog w T g₀ n (.builtin "min") [.lst ds] (.int (bestI (fun a b => decide (a < b)) i ns)) := fun A s G vs a x h => by
  obtain ⟨v, rfl, hv⟩ := h.one
  obtain ⟨b, o, us, m, rfl, e, _, c, dd, r⟩ := hv.lst_inv
  obtain ⟨xs, e1, e2⟩ := intItems_of (r.toInts hi)
  have hl := x.isList e c dd
  rw [e1] at hl
  have hp : 0 < xs.size := by have := congrArg List.length e2; simp at this; omega
  refine min_intList a.handled hl hp fun v h' tk hv hk => ?_
  obtain ⟨t, rfl⟩ := intItems_at hv
  rw [best_list e2 (fun a b => decide (a < b))]
  exact ⟨G, St.keep x hk, .int _ _⟩
end
end Mine

namespace Mine

/-! going through a dict whatever its keys are -/
section
variable {prog : Program} {w : World} {A : Around} {E : Value → Shared → Prop} {s : Shared} {d it : Addr} {i ep : Nat} {es : Array DictEntry} {e : DictEntry}

noncomputable def RawDict (h : Heap) (d : Addr) (es : Array DictEntry) (ep : Nat) : Prop := ∃ o, h.get? d = some o ∧ o.ExactDict ∧ o.data = .dict es ep
theorem RawDict.type {s : Shared} (x : RawDict s.heap d es ep) : s.TypeIs (.ref d) "dict" := let ⟨o, ho, hc, _⟩ := x; ⟨o, ho, hc.1⟩

theorem iter_keys {Q : Value → Shared → Prop} (hd : (d == sysModules) = false) (hm : RawDict s.heap d es ep)
    (hQ : Q (.ref s.heap.objs.size) { s with heap := s.heap.push { cls := .type "dict_keyiterator", data := .fields #[.ref d, .int 0 0, .int es.size 0, .int ep 0] } }) : wpAny (model prog w) A (pyIter (.ref d)) Q E s := by
  have hT := hm.type
  obtain ⟨o, ho, hc, hdat⟩ := hm
  refine wpAny_pyIter_slot hT F.slot_dict_iter (wpAny_call_entry F.slot_dict_iter hT F.entry_dict_iter ?_ (F.args_dict_iter_1 _))
  unfold Builtin.«dict.__iter__» Builtin.Dict.dictSlotNone Builtin.Dict.showsAll
  refine wpAny_bind (wpAny_bind (wpAny_notOrdered_dict hT (wpAny_pure ?_)))
  refine wpAny_bind (m := Builtin.Dict.addrOf (.ref d)) (wpAny_pure ?_)
  rw [if_neg (by rw [hd]; exact Bool.false_ne_true)]
  refine wpAny_bind (wpAny_pure (wpAny_bind (wpAny_dictEntries ho hdat (wpAny_bind (wpAny_dictEpoch ho hdat ?_)))))
  exact wpAny_bind (wpAny_newObj_type (wpAny_pure ⟨_, rfl, "dict_keyiterator", _, ⟨_, Heap.get?_push_size _ rfl, rfl⟩, F.slot_dict_keyiterator_next.lookup, hQ⟩))

theorem next_key {Q : Option Value → Shared → Prop} (hit : s.heap.IsKeyIter it d i es.size ep) (hm : RawDict s.heap d es ep) (hx : es[i]? = some e)
    (hQ : ∀ h', h'.IsKeyIter it d (i + 1) es.size ep → Heap.SameBut it s.heap h' → Q (some e.key) { s with heap := h' }) : wpAny (model prog w) A (pyNext (.ref it)) Q E s := by
  have hT := hit.typeIs
  obtain ⟨o, ho, hc, hd⟩ := id hit
  obtain ⟨od, hod, _, hdd⟩ := hm
  obtain ⟨hlt, rfl⟩ := Array.getElem?_eq_some_iff.mp hx
  have hown : Builtin.Dict_items.ownsTuple "dict_keyiterator" = false := by decide
  unfold pyNext
  refine wpAny_bind (wpAny_attempt (wpAny_callSpecial?_slot (name := Str.ofString "__next__") hT F.slot_dict_keyiterator_next
    (wpAny_call_entry F.slot_dict_keyiterator_next hT F.entry_dict_keyiterator_next ?_ (F.args_dict_keyiterator_next_1 _))))
  refine wpAny_bind (wpAny_pure (wpAny_bind (wpAny_bind (wpAny_bind (wpAny_typeNameOfWhole_keyiter hT (wpAny_pure ?_))))))
  refine wpAny_bind (wpAny_fieldsOf ho hd ?_)
  simp only [hown, Bool.false_eq_true, if_false]
  show wpAny _ _ (if (Value.ref d == Value.none) = true then _ else _) _ _ s
  rw [if_neg (show ¬ ((Value.ref d == Value.none) = true) from Bool.false_ne_true)]
  refine wpAny_bind (wpAny_pure (wpAny_bind (wpAny_dictEntries hod hdd ?_)))
  rw [if_neg (by simp)]
  refine wpAny_bind (wpAny_pure (wpAny_bind (wpAny_dictEpoch hod hdd ?_)))
  rw [if_neg (by simp)]
  refine wpAny_pure ?_
  simp only [show ¬ ((i : Int) < 0) from by omega, if_false, Int.toNat_natCast, Array.getElem?_eq_getElem hlt]
  refine wpAny_bind (wpAny_bind (wpAny_typeNameOfWhole_keyiter hT (wpAny_pure (wpAny_bind (wpAny_isOneOf_keyiter hT ?_)))))
  show wpAny _ _ (setField (.ref it) 1 (rawInt ((i : Int) + 1)) >>= _) _ _ s
  refine wpAny_bind (wpAny_setField ho hd (by simp) ?_)
  have hit' : (s.heap.update it (Obj.mapFields (·.setIfInBounds 1 (rawInt ((i : Int) + 1))))).IsKeyIter it d (i + 1) es.size ep :=
    ⟨_, Heap.get?_update_self _ ho (Obj.isFreed_of_fields (Obj.data_mapFields hd _)), (Obj.cls_mapFields ..).trans hc, by rw [Obj.data_mapFields hd]; simp [rawInt]⟩
  refine wpAny_bind (wpAny_holding (wpAny_bind (wpAny_isOneOf_keyiter (s := { s with heap := s.heap.update it (Obj.mapFields (·.setIfInBounds 1 (rawInt ((i : Int) + 1)))) }) hit'.typeIs ?_)))
  exact wpAny_pure (wpAny_pure ⟨_, rfl, wpAny_pure (hQ _ hit' (Heap.SameBut.update ..))⟩)

/-- the end of an iterator: StopIteration is made and taken -/
theorem stop_made {h : Heap} {g : Array GenState} {dr : Drawn} {tk : Nat} {os : OsState} {P : Sem Fin → Prop} {Q : Option Value → Shared → Prop} (hh : A.handled = none) (hQ : ∀ h', (∀ b o, h.get? b = some o → h'.get? b = some o) → Q none ⟨h', g, dr, tk, os⟩) {R : Fin → Shared → Prop} :
    wpAny (model prog w) A.in1 (do raiseNew (← newExc (.type "StopIteration") []) : Sem Fin) R
      (fun x s' => wpAny (model prog w) A (do if ← isInstance x (.type "StopIteration") then pure none else throw x : Sem (Option Value)) Q E s') ⟨h, g, dr, tk, os⟩ := by
  refine wpAny_bind ?_
  simp only [newExc, newTuple]
  refine wpAny_bind (wpAny_newObj_type ?_ (by size_fits))
  refine wpAny_bind (m := firstArgMember _ _) (wpAny_of_eq (a := Value.none) (by first | rfl | (simp only [firstArgMember]; rfl)) ?_)
  refine wpAny_newObj_type ?_ (by size_fits)
  simp only [raiseNew]
  refine wpAny_bind (wpAny_handled ?_)
  rw [show A.in1.handled = none from hh]
  refine wpAny_bind (wpAny_pure (wpAny_throw ?_))
  refine wpAny_bind (wpAny_isInstance (T := "StopIteration") (b := true) ⟨_, Heap.get?_push_size _ rfl, rfl⟩ isSubtype_stop ?_)
  exact wpAny_pure (hQ _ fun b o e => Heap.get?_push_of_some _ (Heap.get?_push_of_some _ e))

theorem end_key {Q : Option Value → Shared → Prop} (hh : A.handled = none) (hit : s.heap.IsKeyIter it d es.size es.size ep) (hm : RawDict s.heap d es ep)
    (hQ : ∀ h', Heap.ExtBut it s.heap h' → Q none { s with heap := h' }) : wpAny (model prog w) A (pyNext (.ref it)) Q E s := by
  have hT := hit.typeIs
  obtain ⟨o, ho, hc, hd⟩ := id hit
  obtain ⟨od, hod, _, hdd⟩ := hm
  have hown : Builtin.Dict_items.ownsTuple "dict_keyiterator" = false := by decide
  unfold pyNext
  refine wpAny_bind (wpAny_attempt (wpAny_callSpecial?_slot (name := Str.ofString "__next__") hT F.slot_dict_keyiterator_next
    (wpAny_call_entry F.slot_dict_keyiterator_next hT F.entry_dict_keyiterator_next ?_ (F.args_dict_keyiterator_next_1 _))))
  refine wpAny_bind (wpAny_pure (wpAny_bind (wpAny_bind (wpAny_bind (wpAny_typeNameOfWhole_keyiter hT (wpAny_pure ?_))))))
  refine wpAny_bind (wpAny_fieldsOf ho hd ?_)
  simp only [hown, Bool.false_eq_true, if_false]
  show wpAny _ _ (if (Value.ref d == Value.none) = true then _ else _) _ _ s
  rw [if_neg (show ¬ ((Value.ref d == Value.none) = true) from Bool.false_ne_true)]
  refine wpAny_bind (wpAny_pure (wpAny_bind (wpAny_dictEntries hod hdd ?_)))
  rw [if_neg (by simp)]
  refine wpAny_bind (wpAny_pure (wpAny_bind (wpAny_dictEpoch hod hdd ?_)))
  rw [if_neg (by simp)]
  refine wpAny_pure ?_
  simp only [show ¬ (((es.size : Nat) : Int) < 0) from by omega, if_false, Int.toNat_natCast, Array.getElem?_eq_none (Nat.le_refl es.size)]
  refine wpAny_bind (wpAny_bind (wpAny_typeNameOfWhole_keyiter hT (wpAny_pure ?_)))
  show wpAny _ _ (setField (.ref it) 0 .none >>= _) _ _ s
  refine wpAny_bind (wpAny_setField ho hd (by simp) ?_)
  exact stop_made (P := fun _ => True) hh fun h' k => hQ h' fun b o hb e => k b o ((Heap.SameBut.update ..).extBut b o hb e)

theorem meets_values_raw {es : Array DictEntry} {ep : Nat} (d : Addr) (hd : (d == sysModules) = false) :
    MeetsIn prog w (Builtin.«dict.values» ⟨[.ref d], []⟩) (fun _ R s => RawDict s.heap d es ep ∧ R (.ok (.ret (.ref s.heap.objs.size))) { s with heap := s.heap.push { cls := .type "dict_values", data := .fields #[.ref d] } }) :=
  .of_wp fun A R s ⟨hm, h⟩ => by
    refine wpAny_bind ?_
    unfold Builtin.Dict.noArgs
    refine wpAny_bind (wpAny_notOrdered_dict hm.type ?_)
    show wpAny _ _ (pure d) _ _ s
    refine wpAny_pure ?_
    show wpAny _ _ (Builtin.Dict.showsAll d >>= _) _ _ s
    unfold Builtin.Dict.showsAll
    rw [if_neg (by rw [hd]; exact Bool.false_ne_true)]
    exact wpAny_bind (wpAny_pure (wpAny_bind (wpAny_newObj_type (wpAny_pure ⟨_, rfl, h⟩))))
theorem iter_vals {v : Addr} {Q : Value → Shared → Prop} (hv : s.heap.IsValuesView v d) (hm : RawDict s.heap d es ep)
    (hQ : Q (.ref s.heap.objs.size) { s with heap := s.heap.push { cls := .type "dict_valueiterator", data := .fields #[.ref d, .int 0 0, .int es.size 0, .int ep 0] } }) : wpAny (model prog w) A (pyIter (.ref v)) Q E s := by
  have hT := hv.typeIs
  obtain ⟨ov, hov, _, hdv⟩ := hv
  obtain ⟨o, ho, _, hdat⟩ := hm
  have hown : Builtin.Dict_items.ownsTuple "dict_valueiterator" = false := by decide
  refine wpAny_pyIter_slot hT F.slot_dict_values_iter (wpAny_call_entry F.slot_dict_values_iter hT F.entry_dict_values_iter ?_ (F.args_dict_values_iter_1 _))
  unfold Builtin.«dict_values.__iter__» Builtin.Dict_items.dictOf Builtin.Dict_items.newIterator
  refine wpAny_bind (wpAny_pure (wpAny_bind (wpAny_bind (wpAny_field hov hdv (x := .ref d) rfl (wpAny_pure ?_)))))
  refine wpAny_bind (wpAny_bind (wpAny_dictEntries ho hdat (wpAny_bind (wpAny_dictEpoch ho hdat ?_))))
  simp only [hown, Bool.false_eq_true, if_false]
  exact wpAny_newObj_type (wpAny_pure ⟨_, rfl, "dict_valueiterator", _, ⟨_, Heap.get?_push_size _ rfl, rfl⟩, F.slot_dict_valueiterator_next.lookup, hQ⟩)
theorem next_val {Q : Option Value → Shared → Prop} (hit : s.heap.IsValIter it d i es.size ep) (hm : RawDict s.heap d es ep) (hx : es[i]? = some e)
    (hQ : ∀ h', h'.IsValIter it d (i + 1) es.size ep → Heap.SameBut it s.heap h' → Q (some e.val) { s with heap := h' }) : wpAny (model prog w) A (pyNext (.ref it)) Q E s := by
  have hT := hit.typeIs
  obtain ⟨o, ho, hc, hd⟩ := id hit
  obtain ⟨od, hod, _, hdd⟩ := hm
  obtain ⟨hlt, rfl⟩ := Array.getElem?_eq_some_iff.mp hx
  have hown : Builtin.Dict_items.ownsTuple "dict_valueiterator" = false := by decide
  unfold pyNext
  refine wpAny_bind (wpAny_attempt (wpAny_callSpecial?_slot (name := Str.ofString "__next__") hT F.slot_dict_valueiterator_next
    (wpAny_call_entry F.slot_dict_valueiterator_next hT F.entry_dict_valueiterator_next ?_ (F.args_dict_valueiterator_next_1 _))))
  refine wpAny_bind (wpAny_pure (wpAny_bind (wpAny_bind (wpAny_bind (wpAny_typeNameOfWhole_valiter hT (wpAny_pure ?_))))))
  refine wpAny_bind (wpAny_fieldsOf ho hd ?_)
  simp only [hown, Bool.false_eq_true, if_false]
  show wpAny _ _ (if (Value.ref d == Value.none) = true then _ else _) _ _ s
  rw [if_neg (show ¬ ((Value.ref d == Value.none) = true) from Bool.false_ne_true)]
  refine wpAny_bind (wpAny_pure (wpAny_bind (wpAny_dictEntries hod hdd ?_)))
  rw [if_neg (by simp)]
  refine wpAny_bind (wpAny_pure (wpAny_bind (wpAny_dictEpoch hod hdd ?_)))
  rw [if_neg (by simp)]
  refine wpAny_pure ?_
  simp only [show ¬ ((i : Int) < 0) from by omega, if_false, Int.toNat_natCast, Array.getElem?_eq_getElem hlt]
  refine wpAny_bind (wpAny_bind (wpAny_typeNameOfWhole_valiter hT (wpAny_pure (wpAny_bind (wpAny_isOneOf_valiter hT ?_)))))
  show wpAny _ _ (setField (.ref it) 1 (rawInt ((i : Int) + 1)) >>= _) _ _ s
  refine wpAny_bind (wpAny_setField ho hd (by simp) ?_)
  have hit' : (s.heap.update it (Obj.mapFields (·.setIfInBounds 1 (rawInt ((i : Int) + 1))))).IsValIter it d (i + 1) es.size ep :=
    ⟨_, Heap.get?_update_self _ ho (Obj.isFreed_of_fields (Obj.data_mapFields hd _)), (Obj.cls_mapFields ..).trans hc, by rw [Obj.data_mapFields hd]; simp [rawInt]⟩
  refine wpAny_bind (wpAny_holding (wpAny_bind (wpAny_isOneOf_valiter (s := { s with heap := s.heap.update it (Obj.mapFields (·.setIfInBounds 1 (rawInt ((i : Int) + 1)))) }) hit'.typeIs ?_)))
  refine wpAny_bind (wpAny_isOneOf_valiter (s := { s with heap := s.heap.update it (Obj.mapFields (·.setIfInBounds 1 (rawInt ((i : Int) + 1)))) }) hit'.typeIs ?_)
  exact wpAny_pure (wpAny_pure ⟨_, rfl, wpAny_pure (hQ _ hit' (Heap.SameBut.update ..))⟩)
theorem end_val {Q : Option Value → Shared → Prop} (hh : A.handled = none) (hit : s.heap.IsValIter it d es.size es.size ep) (hm : RawDict s.heap d es ep)
    (hQ : ∀ h', Heap.ExtBut it s.heap h' → Q none { s with heap := h' }) : wpAny (model prog w) A (pyNext (.ref it)) Q E s := by
  have hT := hit.typeIs
  obtain ⟨o, ho, hc, hd⟩ := id hit
  obtain ⟨od, hod, _, hdd⟩ := hm
  have hown : Builtin.Dict_items.ownsTuple "dict_valueiterator" = false := by decide
  unfold pyNext
  refine wpAny_bind (wpAny_attempt (wpAny_callSpecial?_slot (name := Str.ofString "__next__") hT F.slot_dict_valueiterator_next
    (wpAny_call_entry F.slot_dict_valueiterator_next hT F.entry_dict_valueiterator_next ?_ (F.args_dict_valueiterator_next_1 _))))
  refine wpAny_bind (wpAny_pure (wpAny_bind (wpAny_bind (wpAny_bind (wpAny_typeNameOfWhole_valiter hT (wpAny_pure ?_))))))
  refine wpAny_bind (wpAny_fieldsOf ho hd ?_)
  simp only [hown, Bool.false_eq_true, if_false]
  show wpAny _ _ (if (Value.ref d == Value.none) = true then _ else _) _ _ s
  rw [if_neg (show ¬ ((Value.ref d == Value.none) = true) from Bool.false_ne_true)]
  refine wpAny_bind (wpAny_pure (wpAny_bind (wpAny_dictEntries hod hdd ?_)))
  rw [if_neg (by simp)]
  refine wpAny_bind (wpAny_pure (wpAny_bind (wpAny_dictEpoch hod hdd ?_)))
  rw [if_neg (by simp)]
  refine wpAny_pure ?_
  simp only [show ¬ (((es.size : Nat) : Int) < 0) from by omega, if_false, Int.toNat_natCast, Array.getElem?_eq_none (Nat.le_refl es.size)]
  refine wpAny_bind (wpAny_bind (wpAny_typeNameOfWhole_valiter hT (wpAny_pure ?_)))
  show wpAny _ _ (setField (.ref it) 0 .none >>= _) _ _ s
  refine wpAny_bind (wpAny_setField ho hd (by simp) ?_)
  exact stop_made (P := fun _ => True) hh fun h' k => hQ h' fun b o hb e => k b o ((Heap.SameBut.update ..).extBut b o hb e)

theorem meets_items_raw {es : Array DictEntry} {ep : Nat} (d : Addr) (hd : (d == sysModules) = false) :
    MeetsIn prog w (Builtin.«dict.items» ⟨[.ref d], []⟩) (fun _ R s => RawDict s.heap d es ep ∧ R (.ok (.ret (.ref s.heap.objs.size))) { s with heap := s.heap.push { cls := .type "dict_items", data := .fields #[.ref d] } }) :=
  .of_wp fun A R s ⟨hm, h⟩ => by
    unfold Builtin.«dict.items»
    refine wpAny_bind ?_
    unfold Builtin.Dict.noArgs
    refine wpAny_bind (wpAny_notOrdered_dict hm.type ?_)
    show wpAny _ _ (pure d) _ _ s
    refine wpAny_pure ?_
    show wpAny _ _ (Builtin.Dict.showsAll d >>= _) _ _ s
    unfold Builtin.Dict.showsAll
    rw [if_neg (by rw [hd]; exact Bool.false_ne_true)]
    exact wpAny_bind (wpAny_pure (wpAny_bind (wpAny_newObj_type (wpAny_pure ⟨_, rfl, h⟩))))
theorem iter_items {v : Addr} {Q : Value → Shared → Prop} (hv : s.heap.IsItemsView v d) (hm : RawDict s.heap d es ep)
    (hQ : Q (.ref s.heap.objs.size) { s with heap := s.heap.push { cls := .type "dict_itemiterator", data := .fields #[.none, .bool false, .ref d, .int 0 0, .int es.size 0, .int ep 0, .none, .none] } }) : wpAny (model prog w) A (pyIter (.ref v)) Q E s := by
  have hT := hv.typeIs
  obtain ⟨ov, hov, _, hdv⟩ := hv
  obtain ⟨o, ho, _, hdat⟩ := hm
  have hown : Builtin.Dict_items.ownsTuple "dict_itemiterator" = true := by decide
  refine wpAny_pyIter_slot hT F.slot_dict_items_iter (wpAny_call_entry F.slot_dict_items_iter hT F.entry_dict_items_iter ?_ (F.args_dict_items_iter_1 _))
  unfold Builtin.«dict_items.__iter__» Builtin.Dict_items.dictOf Builtin.Dict_items.newIterator
  refine wpAny_bind (wpAny_pure (wpAny_bind (wpAny_bind (wpAny_field hov hdv (x := .ref d) rfl (wpAny_pure ?_)))))
  refine wpAny_bind (wpAny_bind (wpAny_dictEntries ho hdat (wpAny_bind (wpAny_dictEpoch ho hdat ?_))))
  simp only [hown, if_true]
  refine wpAny_newObj_type (wpAny_pure ⟨_, rfl, "dict_itemiterator", _, ⟨_, Heap.get?_push_size _ rfl, rfl⟩, F.slot_dict_itemiterator_next.lookup, ?_⟩)
    (by simp only [sizeOk, Builtin.Dict_items.ownedTupleFields, List.size_toArray, List.length_append, List.length_cons, List.length_nil, sizeLine_eq]; omega)
  simpa [rawInt, Builtin.Dict_items.ownedTupleFields] using hQ

theorem next_item {ok ov : Value} {Q : Option Value → Shared → Prop} (hit : IsItemIter s.heap it d i es.size ep ok ov) (hm : RawDict s.heap d es ep) (hx : es[i]? = some e)
    (hQ : ∀ h', IsItemIterOut h' it d (i + 1) es.size ep e.key e.val s.heap.objs.size → h'.get? s.heap.objs.size = some { cls := .type "tuple", data := .seq #[e.key, e.val] } →
      (∀ b o, b ≠ it → s.heap.get? b = some o → h'.get? b = some o) → Q (some (.ref s.heap.objs.size)) { s with heap := h' }) : wpAny (model prog w) A (pyNext (.ref it)) Q E s := by
  obtain ⟨hp, g, dr, tk, os⟩ := s
  obtain ⟨od, hod, _, hdd⟩ := hm
  obtain ⟨hlt, rfl⟩ := Array.getElem?_eq_some_iff.mp hx
  have hT : Shared.TypeIs ⟨hp, g, dr, tk, os⟩ (.ref it) "dict_itemiterator" := ⟨_, hit, rfl⟩
  have hown : Builtin.Dict_items.ownsTuple "dict_itemiterator" = true := by decide
  unfold pyNext
  refine wpAny_bind (wpAny_attempt (wpAny_callSpecial?_slot (name := Str.ofString "__next__") hT F.slot_dict_itemiterator_next
    (wpAny_call_entry F.slot_dict_itemiterator_next hT F.entry_dict_itemiterator_next ?_ (F.args_dict_itemiterator_next_1 _))))
  refine wpAny_bind (wpAny_pure (wpAny_bind (wpAny_bind (wpAny_bind (wpAny_typeNameOfWhole_itemiter hT (wpAny_pure ?_))))))
  refine wpAny_bind (wpAny_fieldsOf hit rfl ?_)
  simp only [hown, if_true]
  show wpAny _ _ (if (Value.ref d == Value.none) = true then _ else _) _ _ _
  rw [if_neg (show ¬ ((Value.ref d == Value.none) = true) from Bool.false_ne_true)]
  refine wpAny_bind (wpAny_pure (wpAny_bind (wpAny_dictEntries hod hdd ?_)))
  rw [if_neg (by simp)]
  refine wpAny_bind (wpAny_pure (wpAny_bind (wpAny_dictEpoch hod hdd ?_)))
  rw [if_neg (by simp)]
  refine wpAny_pure ?_
  simp only [show ¬ ((i : Int) < 0) from by omega, if_false, Int.toNat_natCast, Array.getElem?_eq_getElem hlt]
  refine wpAny_bind (wpAny_bind (wpAny_typeNameOfWhole_itemiter hT (wpAny_pure (wpAny_bind (wpAny_isOneOf_itemiter hT ?_)))))
  show wpAny _ _ (setField (.ref it) 3 (rawInt ((i : Int) + 1)) >>= _) _ _ ⟨hp, g, dr, tk, os⟩
  refine wpAny_bind (wpAny_setField_rec hit (by simp) fun h₁ he₁ hs₁ => ?_)
  replace hs₁ : Heap.SameBut it hp h₁ := hs₁
  replace he₁ : IsItemIter h₁ it d (i + 1) es.size ep ok ov := by
    have e : ((i + 1 : Nat) : Int) = (i : Int) + 1 := by omega
    unfold IsItemIter; rw [e]; simpa [rawInt] using he₁
  have hT₁ : Shared.TypeIs ⟨h₁, g, dr, tk, os⟩ (.ref it) "dict_itemiterator" := ⟨_, he₁, rfl⟩
  refine wpAny_bind (wpAny_holding (wpAny_bind (wpAny_isOneOf_itemiter hT₁ (wpAny_bind (wpAny_isOneOf_itemiter hT₁ ?_)))))
  show wpAny _ _ (Builtin.Dict_items.pairFromOwner (.ref it) 6 es[i].key es[i].val) _ _ ⟨h₁, g, dr, tk, os⟩
  unfold Builtin.Dict_items.pairFromOwner Builtin.Dict_items.ownedTupleIsFree
  refine wpAny_bind (wpAny_newTuple ?_)
  have he₂ : IsItemIter (h₁.push { cls := .type "tuple", data := .seq #[es[i].key, es[i].val] }) it d (i + 1) es.size ep ok ov := Heap.get?_push_of_some _ he₁
  have hz₁ : h₁.objs.size = hp.objs.size := hs₁.1
  have hil : it < hp.objs.size := Heap.lt_size hit
  have ht₂ : (h₁.push { cls := .type "tuple", data := .seq #[es[i].key, es[i].val] }).get? hp.objs.size = some { cls := .type "tuple", data := .seq #[es[i].key, es[i].val] } := by rw [← hz₁]; exact Heap.get?_push_size _ rfl
  have hk₂ : ∀ b o, b ≠ it → hp.get? b = some o → (h₁.push { cls := .type "tuple", data := .seq #[es[i].key, es[i].val] }).get? b = some o := fun b o hb e => Heap.get?_push_of_some _ (hs₁.extBut b o hb e)
  show wpAny _ _ _ _ _ ⟨h₁.push { cls := .type "tuple", data := .seq #[es[i].key, es[i].val] }, g, dr, tk, os⟩
  generalize h₁.push { cls := .type "tuple", data := .seq #[es[i].key, es[i].val] } = h₂ at he₂ ht₂ hk₂ ⊢
  rw [hz₁]
  refine wpAny_bind (wpAny_bind (wpAny_field he₂ rfl (x := .none) rfl (wpAny_pure ?_)))
  simp only [if_true]
  refine wpAny_bind (wpAny_field he₂ rfl (x := ok) rfl (wpAny_bind (wpAny_field he₂ rfl (x := ov) rfl ?_)))
  refine wpAny_bind (wpAny_setField_rec he₂ (by simp) fun h₃ he₃ hs₃ => wpAny_bind (wpAny_setField_rec he₃ (by simp) fun h₄ he₄ hs₄ => wpAny_bind (wpAny_setField_rec he₄ (by simp) fun h₅ he₅ hs₅ =>
    wpAny_bind (wpAny_setField_rec he₅ (by simp) fun h₆ he₆ hs₆ => wpAny_bind (wpAny_letGo (wpAny_pure (wpAny_pure ⟨_, rfl, wpAny_pure (hQ h₆ he₆ ?_ ?_)⟩)))))))
  all_goals
    have k36 : ∀ b o, b ≠ it → h₂.get? b = some o → h₆.get? b = some o := fun b o hb e => hs₆.extBut b o hb (hs₅.extBut b o hb (hs₄.extBut b o hb (hs₃.extBut b o hb e)))
  · exact k36 _ _ (Nat.ne_of_gt hil) ht₂
  · exact fun b o hb e => k36 b o hb (hk₂ b o hb e)
theorem end_item {ok ov : Value} {Q : Option Value → Shared → Prop} (hh : A.handled = none) (hit : IsItemIter s.heap it d es.size es.size ep ok ov) (hm : RawDict s.heap d es ep)
    (hQ : ∀ h', Heap.ExtBut it s.heap h' → Q none { s with heap := h' }) : wpAny (model prog w) A (pyNext (.ref it)) Q E s := by
  have hT : s.TypeIs (.ref it) "dict_itemiterator" := ⟨_, hit, rfl⟩
  obtain ⟨od, hod, _, hdd⟩ := hm
  have hown : Builtin.Dict_items.ownsTuple "dict_itemiterator" = true := by decide
  unfold pyNext
  refine wpAny_bind (wpAny_attempt (wpAny_callSpecial?_slot (name := Str.ofString "__next__") hT F.slot_dict_itemiterator_next
    (wpAny_call_entry F.slot_dict_itemiterator_next hT F.entry_dict_itemiterator_next ?_ (F.args_dict_itemiterator_next_1 _))))
  refine wpAny_bind (wpAny_pure (wpAny_bind (wpAny_bind (wpAny_bind (wpAny_typeNameOfWhole_itemiter hT (wpAny_pure ?_))))))
  refine wpAny_bind (wpAny_fieldsOf hit rfl ?_)
  simp only [hown, if_true]
  show wpAny _ _ (if (Value.ref d == Value.none) = true then _ else _) _ _ s
  rw [if_neg (show ¬ ((Value.ref d == Value.none) = true) from Bool.false_ne_true)]
  refine wpAny_bind (wpAny_pure (wpAny_bind (wpAny_dictEntries hod hdd ?_)))
  rw [if_neg (by simp)]
  refine wpAny_bind (wpAny_pure (wpAny_bind (wpAny_dictEpoch hod hdd ?_)))
  rw [if_neg (by simp)]
  refine wpAny_pure ?_
  simp only [show ¬ (((es.size : Nat) : Int) < 0) from by omega, if_false, Int.toNat_natCast, Array.getElem?_eq_none (Nat.le_refl es.size)]
  refine wpAny_bind (wpAny_bind (wpAny_typeNameOfWhole_itemiter hT (wpAny_pure ?_)))
  show wpAny _ _ (setField (.ref it) 2 .none >>= _) _ _ s
  refine wpAny_bind (wpAny_setField hit rfl (by simp) ?_)
  exact stop_made (P := fun _ => True) hh fun h' k => hQ h' fun b o hb e => k b o ((Heap.SameBut.update ..).extBut b o hb e)
end
end Mine

namespace Mine

noncomputable def nameT : PySem.Expr → Bool
  | .Name .. => true
  | _ => false
noncomputable def tupT : PySem.Expr → Bool
  | .Tuple .. => true
  | _ => false

section
variable (prog : Program) (w : World) (T : Tabs) (g₀ : Heap)
structure StW (W : List Addr) (G : Gh) (s : Shared) (G' : Gh) (s' : Shared) : Prop where
  same : ∃ h' tk, s' = { s with heap := h', toks := tk }
  kp : Kp W s.heap s'.heap
  gx : GX G G' s.heap
  good : Good T g₀ G' s'.heap
/-- an iterator that gives ds -/
structure Iter (A : Around) (tgt : PySem.Expr) (I : Addr) (ds : List D) (S : Nat → Gh → Heap → Prop) : Prop where
  item : ∀ i d (s : Shared) (G : Gh), ds[i]? = some d → Good T g₀ G s.heap → G I = none → I ∉ T.tb → S i G s.heap →
    wpAny (model prog w) A (pyNext (.ref I)) (fun r s₁ => ∃ v, r = some v ∧ ∀ (Q : Unit → Shared → Prop), (∀ s₂ G₂, StW T g₀ [I] G s G₂ s₂ → Is prog w G₂ v d → S (i + 1) G₂ s₂.heap → Q () s₂) →
      wpAny (model prog w) A (letOwnedTupleGo tgt (.ref I) v) Q (fun _ _ => False) s₁) (fun _ _ => False) s
  done : ∀ (s : Shared) (G : Gh), Good T g₀ G s.heap → G I = none → I ∉ T.tb → S ds.length G s.heap → wpAny (model prog w) A (pyNext (.ref I)) (fun r s₁ => r = none ∧ StW T g₀ [I] G s G s₁) (fun _ _ => False) s
  frame : ∀ i (G G' : Gh) (h h' : Heap), S i G h → G.le G' → (∀ b o, G' b = some o → h'.get? b = some o) → (∀ o, h.get? I = some o → h'.get? I = some o) → S i G' h'
  self : ∀ i (G : Gh) (s : Shared) (Q : Value → Shared → Prop), S i G s.heap → Q (.ref I) s → wpAny (model prog w) A (pyIter (.ref I)) Q (fun _ _ => False) s
  there : ∀ i (G : Gh) (h : Heap), S i G h → ∃ o, h.get? I = some o ∧ ∃ vs, o.data = .fields vs
/-- the expression is gone through and gives ds, for a target -/
noncomputable def ITs (n : Nat) (sc : Scope) (σ : List (Str × Slot)) (e tgt : PySem.Expr) (ds : List D) : Prop :=
  ∀ (A : Around) (env : Env) (s : Shared) (G : Gh), AOk n A → EnvOk sc env → SE prog w T g₀ env σ G s.heap →
    wpAny (model prog w) A (eval e env) (fun x s₁ => wpAny (model prog w) A (pyIter x) (fun it s₂ => ∃ I G₂ S, it = .ref I ∧ St T g₀ G s G₂ s₂ ∧ G₂ I = none ∧ I ∉ T.tb ∧ s.heap.get? I = none ∧ Iter prog w T g₀ A tgt I ds S ∧ S 0 G₂ s₂.heap) (fun _ _ => False) s₁) (fun _ _ => False) s
end

section
variable {prog : Program} {w : World} {T : Tabs} {g₀ : Heap} {mg mb : Str → Option Value} {n : Nat} {sc : Scope} {σ : List (Str × Slot)} {e l r i tgt : PySem.Expr} {d d₁ d₂ : D} {es : List PySem.Expr} {ds : List D} {pos : Pos}
variable {A : Around} {env : Env} {s s₁ s₂ : Shared} {G G₁ G₂ : Gh} {I : Addr}

theorem St.toW (x : St T g₀ G s G₁ s₁) : StW T g₀ T.tb G s G₁ s₁ := ⟨x.same, x.kp, x.gx, x.good⟩
theorem StW.st (x : StW T g₀ T.tb G s G₁ s₁) : St T g₀ G s G₁ s₁ := ⟨x.same, x.kp, x.gx, x.good⟩
theorem StW.weak {W W' : List Addr} (x : StW T g₀ W G s G₁ s₁) (h : ∀ b ∈ W, b ∈ W') : StW T g₀ W' G s G₁ s₁ := ⟨x.same, x.kp.weak h, x.gx, x.good⟩
theorem StW.trans {W : List Addr} (x : StW T g₀ W G s G₁ s₁) (y : StW T g₀ W G₁ s₁ G₂ s₂) (hW : ∀ b ∈ W, (∃ o, s₁.heap.get? b = some o) ∨ s.heap.get? b = none) : StW T g₀ W G s G₂ s₂ := by
  refine ⟨?_, x.kp.trans y.kp, x.gx.trans y.gx x.kp hW, y.good⟩
  obtain ⟨h₁, t₁, rfl⟩ := x.same
  obtain ⟨h₂, t₂, rfl⟩ := y.same
  exact ⟨h₂, t₂, rfl⟩
theorem StW.drop {W : List Addr} {a : Addr} (x : StW T g₀ (a :: W) G s G₁ s₁) (ha : s.heap.get? a = none) : StW T g₀ W G s G₁ s₁ := ⟨x.same, x.kp.drop ha, x.gx, x.good⟩
/-- a step of an iterator -/
theorem StW.iter (x : Good T g₀ G s.heap) (hI : G I = none) (ht : I ∉ T.tb) {h' : Heap} {tk : Nat} (k : ∀ b o, b ∉ [I] → s.heap.get? b = some o → h'.get? b = some o) : StW T g₀ [I] G s G { s with heap := h', toks := tk } :=
  ⟨⟨h', tk, rfl⟩, k, GX.refl _ _, x.kp (W := [I]) k fun b hb => by rw [List.mem_singleton.mp hb]; exact ⟨hI, ht⟩⟩

/-- an iterator out of the library's walks, the item being found by its place -/
theorem Iter.of_walks {fp : List Addr} {m : Nat} {P : Nat → Value → Prop} {St' : Nat → Heap → Prop} {F : Gh → Prop} (W : Walks prog w A I fp [I] m P St') (hm : ds.length = m)
    (hfp : ∀ (G : Gh), F G → ∀ b ∈ fp, b = I ∨ ∃ o, G b = some o) (hF : ∀ (G G' : Gh), G.le G' → F G → F G')
    (hv : ∀ (G : Gh) i v d, F G → P i v → ds[i]? = some d → Is prog w G v d)
    (hT : ∀ i h, St' i h → ∃ o, h.get? I = some o ∧ ∃ vs, o.data = .fields vs)
    (hgo : ∀ i (G : Gh) v d (s : Shared) (Q : Unit → Shared → Prop), F G → Is prog w G v d → ds[i]? = some d → St' (i + 1) s.heap → Q () s → wpAny (model prog w) A (letOwnedTupleGo tgt (.ref I) v) Q (fun _ _ => False) s) :
    Iter prog w T g₀ A tgt I ds (fun i G h => St' i h ∧ F G ∧ ∀ b o, G b = some o → h.get? b = some o) where
  item := fun i d s G hd x hI ht ⟨st, hf, sub⟩ => by
    have hi : i < m := by rw [← hm]; exact (List.getElem?_eq_some_iff.mp hd).1
    refine W.item i s _ _ hi st fun v h' tk hp st' hk => ?_
    have hs := StW.iter (s := s) (tk := tk) x hI ht hk
    exact ⟨v, rfl, fun Q hQ => hgo i G v d _ Q hf (hv G i v d hf hp hd) hd st' (hQ _ G hs (hv G i v d hf hp hd) ⟨st', hf, hs.good.sub⟩)⟩
  done := fun s G x hI ht ⟨st, hf, sub⟩ => by
    rw [hm] at st
    exact W.done s _ _ st fun h' tk hk => ⟨rfl, StW.iter x hI ht hk⟩
  frame := fun i G G' h h' ⟨st, hf, sub⟩ le sub' hk => by
    refine ⟨W.frame i h h' st fun b hb o e => ?_, hF G G' le hf, sub'⟩
    rcases hfp G hf b hb with rfl | ⟨o', e'⟩
    · exact hk o e
    · have := sub _ _ e'
      rw [e] at this
      cases this
      exact sub' _ _ (le _ _ e')
  self := fun i G s Q ⟨st, _, _⟩ h => W.self i s Q _ st h
  there := fun i G h ⟨st, _, _⟩ => hT i h st

theorem go_name {v : Value} {Q : Unit → Shared → Prop} (ht : nameT tgt = true) (h : Q () s) : wpAny (model prog w) A (letOwnedTupleGo tgt (.ref I) v) Q (fun _ _ => False) s := by
  cases tgt <;> first | exact wpAny_pure h | (simp [nameT] at ht)
theorem go_list {v : Value} {ax : Addr} {j : Nat} {Q : Unit → Shared → Prop} (ht : nameT tgt = true ∨ tupT tgt = true) (hI : s.heap.IsListIter I ax j) (h : Q () s) : wpAny (model prog w) A (letOwnedTupleGo tgt (.ref I) v) Q (fun _ _ => False) s := by
  rcases ht with ht | ht
  · exact go_name ht h
  · cases tgt with
    | Tuple es k p =>
      cases v with
      | ref a => exact wpAny_letOwnedTupleGo_listiter hI h
      | _ => exact wpAny_pure h
    | _ => simp [tupT] at ht

theorem it_list (ht : nameT tgt = true ∨ tupT tgt = true) (he : EVs prog w T g₀ n sc σ e (.lst ds)) : ITs prog w T g₀ n sc σ e tgt ds := fun A env s G a v x => by
  refine he.use a v x fun u s₁ G₁ y z x₁ => ?_
  obtain ⟨b, o, vs, m, rfl, eb, _, c, dd, r⟩ := z.lst_inv
  refine wpAny_pyIter_list (x₁.good.isList eb c dd) ?_
  have hn := size_none s₁.heap
  have hne : b ≠ s₁.heap.objs.size := Nat.ne_of_lt (Heap.lt_size (x₁.good.sub _ _ eb))
  have good2 := x₁.good.push { cls := .type "list_iterator", data := .fields #[.ref b, .int 0 0] }
  refine ⟨_, G₁, _, rfl, y.trans (St.keep (tk := s₁.toks) x₁.good fun _ _ e => Heap.get?_push_of_some _ e), (x₁.good.new hn).1, (x₁.good.new hn).2, ?_,
    Iter.of_walks (Walks.list a.handled s₁.heap.objs.size b hne vs.toArray) (F := fun G => G b = some o ∧ IsAll prog w G vs ds) (by rw [List.size_toArray, r.length])
      (fun G hf c hc => by rcases List.mem_cons.mp hc with rfl | hc
                           · exact .inl rfl
                           · rw [List.mem_singleton.mp hc]; exact .inr ⟨o, hf.1⟩)
      (fun G G' le hf => ⟨le _ _ hf.1, IsAll.mono le hf.2⟩) (fun G i v d hf hp hd => by obtain ⟨v', e', q⟩ := hf.2.get hd; have hp' : vs[i]? = some v := by simpa using hp
                                                                                        rw [hp'] at e'; cases e'; exact q)
      (fun i h st => let ⟨o, e, _, d⟩ := st.1; ⟨o, e, _, d⟩) (fun i G v d s Q hf hv hd st h => go_list ht st.1 h),
    ⟨⟨_, Heap.get?_push_size _ rfl, rfl, rfl⟩, ⟨o, good2.sub _ _ eb, c, m, dd⟩⟩, ⟨eb, r⟩, good2.sub⟩
  cases q : s.heap.get? s₁.heap.objs.size with
  | none => rfl
  | some o' => have := y.kp _ o' (x₁.good.new hn).2 q; rw [hn] at this; cases this

theorem St.newOld (y : St T g₀ G s G₁ s₁) {a : Addr} (hn : s₁.heap.get? a = none) : s.heap.get? a = none := by
  cases q : s.heap.get? a with
  | none => rfl
  | some o => have := y.kp _ o (y.good.new hn).2 q; rw [hn] at this; cases this

theorem it_tup (ht : nameT tgt = true) (he : EVs prog w T g₀ n sc σ e (.tup ds)) : ITs prog w T g₀ n sc σ e tgt ds := fun A env s G a v x => by
  refine he.use a v x fun u s₁ G₁ y z x₁ => ?_
  obtain ⟨b, o, vs, m, rfl, eb, _, c, dd, r⟩ := z.tup_inv
  refine wpAny_pyIter_tuple (items := vs.toArray) ⟨o, x₁.good.sub _ _ eb, c, m, dd⟩ ?_
  have hn := size_none s₁.heap
  have hne : b ≠ s₁.heap.objs.size := Nat.ne_of_lt (Heap.lt_size (x₁.good.sub _ _ eb))
  have good2 := x₁.good.push { cls := .type "tuple_iterator", data := .fields #[.ref b, .int 0 0] }
  refine ⟨_, G₁, _, rfl, y.trans (St.keep (tk := s₁.toks) x₁.good fun _ _ e => Heap.get?_push_of_some _ e), (x₁.good.new hn).1, (x₁.good.new hn).2, y.newOld hn,
    Iter.of_walks (Walks.tuple a.handled s₁.heap.objs.size b hne vs.toArray) (F := fun G => G b = some o ∧ IsAll prog w G vs ds) (by rw [List.size_toArray, r.length])
      (fun G hf c hc => by rcases List.mem_cons.mp hc with rfl | hc
                           · exact .inl rfl
                           · rw [List.mem_singleton.mp hc]; exact .inr ⟨o, hf.1⟩)
      (fun G G' le hf => ⟨le _ _ hf.1, IsAll.mono le hf.2⟩) (fun G i v d hf hp hd => by obtain ⟨v', e', q⟩ := hf.2.get hd; have hp' : vs[i]? = some v := by simpa using hp
                                                                                        rw [hp'] at e'; cases e'; exact q)
      (fun i h st => let ⟨o, e, _, d⟩ := st.1; ⟨o, e, _, d⟩) (fun i G v d s Q hf hv hd st h => go_name ht h),
    ⟨⟨_, Heap.get?_push_size _ rfl, rfl, rfl⟩, ⟨o, good2.sub _ _ eb, c, m, dd⟩⟩, ⟨eb, r⟩, good2.sub⟩
theorem it_rng {k : Int} (ht : nameT tgt = true) (h0 : 0 ≤ k) (h1 : k ≤ 1000) (he : EVs prog w T g₀ n sc σ e (.rng k)) : ITs prog w T g₀ n sc σ e tgt (rngList k) := fun A env s G a v x => by
  refine he.use a v x fun u s₁ G₁ y z x₁ => ?_
  cases z with
  | ref eb m b =>
    cases b with
    | rng =>
      refine wpAny_pyIter_range (x₁.good.sub _ _ eb) (small_one (by omega) (by omega) (by omega) (by omega)) ?_
      have hn := size_none s₁.heap
      have hsz : Builtin.Range.rangeSize 0 k 1 = (k.toNat : Int) := by rw [rangeSize_one]; split <;> omega
      refine ⟨_, G₁, _, rfl, y.trans (St.keep (tk := s₁.toks) x₁.good fun _ _ e => Heap.get?_push_of_some _ e), (x₁.good.new hn).1, (x₁.good.new hn).2, y.newOld hn,
        Iter.of_walks (Walks.range a.handled s₁.heap.objs.size 0 1 k.toNat) (F := fun _ => True) (by simp [rngList])
          (fun G hf c hc => .inl (List.mem_singleton.mp hc)) (fun _ _ _ h => h)
          (fun G i v d hf hp hd => by
            obtain ⟨t, rfl⟩ := hp
            have hi : i < k.toNat := by have := (List.getElem?_eq_some_iff.mp hd).1; simpa [rngList] using this
            have : d = .int (i : Int) := by
              simp only [rngList, List.getElem?_map, List.getElem?_range hi, Option.map_some, Option.some.injEq] at hd
              exact hd.symm
            subst this
            rw [Int.mul_one, Int.zero_add]
            exact .int _ t)
          (fun i h st => ⟨_, st, _, rfl⟩) (fun i G v d s Q hf hv hd st h => go_name ht h),
        ?_, trivial, (x₁.good.push _).sub⟩
      show IsRangeIter _ _ _ _ _
      have := Heap.get?_push_size s₁.heap (o := { cls := .type "range_iterator", data := .fields #[rawInt 0, rawInt (Builtin.Range.rangeSize 0 k 1), rawInt 1] }) rfl
      rw [hsz] at this ⊢
      simpa using this

theorem rawDict_keep {h h' : Heap} {d : Addr} {es : Array DictEntry} {ep : Nat} (x : RawDict h d es ep) (k : ∀ o, h.get? d = some o → h'.get? d = some o) : RawDict h' d es ep := let ⟨o, ho, r⟩ := x; ⟨o, k _ ho, r⟩
theorem walks_keys (hh : A.handled = none) (I d : Addr) (hne : d ≠ I) (es : Array DictEntry) (ep : Nat) :
    Walks prog w A I [I, d] [I] es.size (fun i v => ∃ e, es[i]? = some e ∧ v = e.key) (fun i h => h.IsKeyIter I d i es.size ep ∧ RawDict h d es ep) where
  sub := fun b hb => by simp at hb; simp [hb]
  frame := fun _ _ _ st hk => ⟨st.1.at fun o e => hk I (by simp) o e, rawDict_keep st.2 fun o e => hk d (by simp) o e⟩
  item := fun i s Q E hi st hQ => by
    have hx : es[i]? = some es[i] := by simp [hi]
    refine next_key st.1 st.2 hx fun h' hit' hs' => ?_
    exact hQ _ h' s.toks ⟨_, hx, rfl⟩ ⟨hit', rawDict_keep st.2 fun o e => hs'.extBut d o hne e⟩ fun b o hb e => hs'.extBut b o (fun h => hb (by simp [h])) e
  done := fun s Q E st hQ => end_key hh st.1 st.2 fun h' he' => hQ h' s.toks fun b o hb e => he' b o (fun h => hb (by simp [h])) e
  self := fun _ _ _ _ st hQ => wpAny_pyIter_keyiter st.1 hQ
theorem walks_vals (hh : A.handled = none) (I d : Addr) (hne : d ≠ I) (es : Array DictEntry) (ep : Nat) :
    Walks prog w A I [I, d] [I] es.size (fun i v => ∃ e, es[i]? = some e ∧ v = e.val) (fun i h => h.IsValIter I d i es.size ep ∧ RawDict h d es ep) where
  sub := fun b hb => by simp at hb; simp [hb]
  frame := fun _ _ _ st hk => ⟨st.1.at fun o e => hk I (by simp) o e, rawDict_keep st.2 fun o e => hk d (by simp) o e⟩
  item := fun i s Q E hi st hQ => by
    have hx : es[i]? = some es[i] := by simp [hi]
    refine next_val st.1 st.2 hx fun h' hit' hs' => ?_
    exact hQ _ h' s.toks ⟨_, hx, rfl⟩ ⟨hit', rawDict_keep st.2 fun o e => hs'.extBut d o hne e⟩ fun b o hb e => hs'.extBut b o (fun h => hb (by simp [h])) e
  done := fun s Q E st hQ => end_val hh st.1 st.2 fun h' he' => hQ h' s.toks fun b o hb e => he' b o (fun h => hb (by simp [h])) e
  self := fun _ _ _ _ st hQ => wpAny_pyIter_valiter st.1 hQ

theorem IsEnt.at {xs : List (List Ky × Addr × Value)} {l : List (List Ky × D)} (h : IsEnt prog w G xs l) : ∀ {i : Nat} {p : List Ky × D}, l[i]? = some p → ∃ ka v, xs[i]? = some (p.1, ka, v) ∧ KeyG prog w G p.1 ka ∧ Is prog w G v p.2 := by
  induction xs generalizing l with
  | nil => cases h; intro i p e; simp at e
  | cons y ys ih =>
    cases h with
    | cons hk hv r =>
      intro i p e
      cases i with
      | zero => simp at e; subst e; exact ⟨_, _, rfl, hk, hv⟩
      | succ i => simp at e; obtain ⟨ka, v, q⟩ := ih r e; exact ⟨ka, v, by simpa using q⟩
theorem dct_inv {v : Value} {l : List (List Ky × D)} (h : Is prog w G v (.dct l)) : ∃ a o es ep xs, v = .ref a ∧ G a = some o ∧ (a == sysModules) = false ∧ o.ExactDict ∧ o.data = .dict es ep ∧ es.toList = xs.map (entryOfKey (tkKind prog w)) ∧ (xs.map (·.1)).Nodup ∧ IsEnt prog w G xs l := by
  cases h with
  | ref e m b => cases b with | dct c dd x nd r => exact ⟨_, _, _, _, _, rfl, e, m, c, dd, x, nd, r⟩
theorem ent_size {es : Array DictEntry} {xs : List (List Ky × Addr × Value)} {l : List (List Ky × D)} (e : es.toList = xs.map (entryOfKey (tkKind prog w))) (h : IsEnt prog w G xs l) : es.size = l.length := by
  rw [← Array.length_toList, e, List.length_map, h.length]
theorem ent_at {es : Array DictEntry} {xs : List (List Ky × Addr × Value)} {i : Nat} {k : List Ky} {ka : Addr} {v : Value} (e : es.toList = xs.map (entryOfKey (tkKind prog w))) (h : xs[i]? = some (k, ka, v)) : ∃ en, es[i]? = some en ∧ en.key = .ref ka ∧ en.val = v := by
  refine ⟨entryOfKey (tkKind prog w) (k, ka, v), ?_, rfl, rfl⟩
  rw [← Array.getElem?_toList, e, List.getElem?_map, h]; rfl
noncomputable def keyD (p : List Ky × D) : D := .tup (p.1.map kyD)

theorem it_keys {en : List (List Ky × D)} (ht : nameT tgt = true) (he : EVs prog w T g₀ n sc σ e (.dct en)) : ITs prog w T g₀ n sc σ e tgt (en.map keyD) := fun A env s G a v x => by
  refine he.use a v x fun u s₁ G₁ y z x₁ => ?_
  obtain ⟨b, o, es, ep, xs, rfl, eb, hm, c, dd, ex, nd, r⟩ := dct_inv z
  refine iter_keys hm ⟨o, x₁.good.sub _ _ eb, c, dd⟩ ?_
  have hn := size_none s₁.heap
  have hne : b ≠ s₁.heap.objs.size := Nat.ne_of_lt (Heap.lt_size (x₁.good.sub _ _ eb))
  have good2 := x₁.good.push { cls := .type "dict_keyiterator", data := .fields #[.ref b, .int 0 0, .int es.size 0, .int ep 0] }
  refine ⟨_, G₁, _, rfl, y.trans (St.keep (tk := s₁.toks) x₁.good fun _ _ e => Heap.get?_push_of_some _ e), (x₁.good.new hn).1, (x₁.good.new hn).2, y.newOld hn,
    Iter.of_walks (walks_keys a.handled s₁.heap.objs.size b hne es ep) (F := fun G => G b = some o ∧ IsEnt prog w G xs en) (by rw [List.length_map, ent_size ex r])
      (fun G hf c hc => by rcases List.mem_cons.mp hc with rfl | hc
                           · exact .inl rfl
                           · rw [List.mem_singleton.mp hc]; exact .inr ⟨o, hf.1⟩)
      (fun G G' le hf => ⟨le _ _ hf.1, IsEnt.mono le hf.2⟩) (fun G i v d hf hp hd => by
        rw [List.getElem?_map] at hd
        obtain ⟨p, hp', rfl⟩ := Option.map_eq_some_iff.mp hd
        obtain ⟨ka, v', q1, q2, q3⟩ := hf.2.at hp'
        obtain ⟨e', h1, rfl⟩ := hp
        obtain ⟨en', h2, h3, h4⟩ := ent_at ex q1
        rw [h1] at h2; cases h2
        rw [h3]
        exact q2.is)
      (fun i h st => let ⟨o, e, _, d⟩ := st.1; ⟨o, e, _, d⟩) (fun i G v d s Q hf hv hd st h => go_name ht h),
    ⟨⟨_, Heap.get?_push_size _ rfl, rfl, rfl⟩, ⟨o, good2.sub _ _ eb, c, dd⟩⟩, ⟨eb, r⟩, good2.sub⟩
end
end Mine

namespace Mine

section
variable {prog : Program} {w : World} {T : Tabs} {g₀ : Heap} {mg mb : Str → Option Value} {n : Nat} {sc : Scope} {σ : List (Str × Slot)} {e l r i tgt : PySem.Expr} {d d₁ d₂ : D} {es : List PySem.Expr} {ds : List D} {pos apos : Pos}
variable {A : Around} {env : Env} {s s₁ s₂ : Shared} {G G₁ G₂ : Gh} {I : Addr}

theorem it_vals {en : List (List Ky × D)} {x : Str} {p : Pos} (ht : nameT tgt = true) (hx : σ.lookup x = some (.val (.dct en))) (ho : odd x = false) (hline : (apos.endLine == pos.line) = true) :
    ITs prog w T g₀ n sc σ (.Call (.Attribute (.Name x p) "values" apos) [] [] pos) tgt (en.map (·.2)) := fun A env s G a v y => by
  obtain ⟨u, hu, hs⟩ := y.rd x _ hx
  obtain ⟨b, o, es, ep, xs, rfl, eb, hm, c, dd, ex, nd, r⟩ := dct_inv hs
  have hget := y.good.sub _ _ eb
  have raw : RawDict s.heap b es ep := ⟨o, hget, c, dd⟩
  refine wpAny_Call_method (T := "dict") (id := "dict.values") rfl rfl hline F.plainAttrs_dict F.slot_dict_values F.type_dict_values (name_at v hu ho ?_)
  refine ⟨raw.type, fun a' e' => by cases e'; exact ⟨o, hget, c.2.1⟩, ?_⟩
  refine method_meetsIn F.slot_dict_values F.entry_dict_values rfl (PyProof.Rows.evalArgs_none ⟨rfl, raw.type, F.args_dict_values_1 _, _, meets_values_raw b hm, raw, ?_⟩)
  have hn0 := size_none s.heap
  have gv : ∀ b o, s.heap.get? b = some o → (s.heap.push { cls := .type "dict_values", data := .fields #[.ref b] }).get? b = some o := fun _ _ e => Heap.get?_push_of_some _ e
  have good1 := y.good.push { cls := .type "dict_values", data := .fields #[.ref b] }
  refine iter_vals (d := b) ⟨_, Heap.get?_push_size _ rfl, rfl, rfl⟩ ⟨o, good1.sub _ _ eb, c, dd⟩ ?_
  generalize hH : s.heap.push { cls := .type "dict_values", data := .fields #[.ref b] } = H at good1 ⊢
  have hn := size_none H
  have hne : b ≠ H.objs.size := Nat.ne_of_lt (Heap.lt_size (good1.sub _ _ eb))
  have good2 := good1.push { cls := .type "dict_valueiterator", data := .fields #[.ref b, .int 0 0, .int es.size 0, .int ep 0] }
  refine ⟨_, G, _, rfl, St.keep (tk := s.toks) y.good fun _ _ e => Heap.get?_push_of_some _ (hH ▸ Heap.get?_push_of_some _ e), (good1.new hn).1, (good1.new hn).2, ?_,
    Iter.of_walks (walks_vals a.handled H.objs.size b hne es ep) (F := fun G => G b = some o ∧ IsEnt prog w G xs en) (by rw [List.length_map, ent_size ex r])
      (fun G hf c hc => by rcases List.mem_cons.mp hc with rfl | hc
                           · exact .inl rfl
                           · rw [List.mem_singleton.mp hc]; exact .inr ⟨o, hf.1⟩)
      (fun G G' le hf => ⟨le _ _ hf.1, IsEnt.mono le hf.2⟩) (fun G i v d hf hp hd => by
        rw [List.getElem?_map] at hd
        obtain ⟨p, hp', rfl⟩ := Option.map_eq_some_iff.mp hd
        obtain ⟨ka, v', q1, q2, q3⟩ := hf.2.at hp'
        obtain ⟨e', h1, rfl⟩ := hp
        obtain ⟨en', h2, h3, h4⟩ := ent_at ex q1
        rw [h1] at h2; cases h2
        rw [h4]
        exact q3)
      (fun i h st => let ⟨o, e, _, d⟩ := st.1; ⟨o, e, _, d⟩) (fun i G v d s Q hf hv hd st h => go_name ht h),
    ⟨⟨_, Heap.get?_push_size _ rfl, rfl, rfl⟩, ⟨o, good2.sub _ _ eb, c, dd⟩⟩, ⟨eb, r⟩, good2.sub⟩
  cases q : s.heap.get? H.objs.size with
  | none => rfl
  | some o' => have q' := Heap.get?_push_of_some { cls := .type "dict_values", data := .fields #[.ref b] } q; rw [hH, hn] at q'; cases q' 

noncomputable def itemD (p : List Ky × D) : D := .tup [keyD p, p.2]
theorem it_items {en : List (List Ky × D)} {x : Str} {p : Pos} (ht : tupT tgt = true) (hx : σ.lookup x = some (.val (.dct en))) (ho : odd x = false) (hline : (apos.endLine == pos.line) = true) :
    ITs prog w T g₀ n sc σ (.Call (.Attribute (.Name x p) "items" apos) [] [] pos) tgt (en.map itemD) := fun A env s G a v y => by
  obtain ⟨u, hu, hs⟩ := y.rd x _ hx
  obtain ⟨b, o, es, ep, xs, rfl, eb, hm, c, dd, ex, nd, r⟩ := dct_inv hs
  have hget := y.good.sub _ _ eb
  have raw : RawDict s.heap b es ep := ⟨o, hget, c, dd⟩
  refine wpAny_Call_method (T := "dict") (id := "dict.items") rfl rfl hline F.plainAttrs_dict F.slot_dict_items F.type_dict_items (name_at v hu ho ?_)
  refine ⟨raw.type, fun a' e' => by cases e'; exact ⟨o, hget, c.2.1⟩, ?_⟩
  refine method_meetsIn F.slot_dict_items F.entry_dict_items rfl (PyProof.Rows.evalArgs_none ⟨rfl, raw.type, F.args_dict_items_1 _, _, meets_items_raw b hm, raw, ?_⟩)
  have hn0 := size_none s.heap
  have good1 := y.good.push { cls := .type "dict_items", data := .fields #[.ref b] }
  refine iter_items (d := b) ⟨_, Heap.get?_push_size _ rfl, rfl, rfl⟩ ⟨o, good1.sub _ _ eb, c, dd⟩ ?_
  generalize hH : s.heap.push { cls := .type "dict_items", data := .fields #[.ref b] } = H at good1 ⊢
  have hn := size_none H
  have hne : b ≠ H.objs.size := Nat.ne_of_lt (Heap.lt_size (good1.sub _ _ eb))
  have good2 := good1.push { cls := .type "dict_itemiterator", data := .fields #[.none, .bool false, .ref b, .int 0 0, .int es.size 0, .int ep 0, .none, .none] }
  have hlen : es.size = en.length := ent_size ex r
  refine ⟨_, G, fun i G h => (∃ ok ov, IsItemIter h H.objs.size b i es.size ep ok ov) ∧ RawDict h b es ep ∧ G b = some o ∧ IsEnt prog w G xs en, rfl, St.keep (tk := s.toks) y.good fun _ _ e => Heap.get?_push_of_some _ (hH ▸ Heap.get?_push_of_some _ e), (good1.new hn).1, (good1.new hn).2, ?_, ?_,
    ⟨_, _, Heap.get?_push_size _ rfl⟩, ⟨o, good2.sub _ _ eb, c, dd⟩, eb, r⟩
  · cases q : s.heap.get? H.objs.size with
    | none => rfl
    | some o' => have q' := Heap.get?_push_of_some { cls := .type "dict_items", data := .fields #[.ref b] } q; rw [hH, hn] at q'; cases q' 
  generalize H.objs.size = I at hne ⊢
  refine ⟨fun i d s G hd x hI hT ⟨⟨ok, ov, hit⟩, rw', hb, hr⟩ => ?_, fun s G x hI hT ⟨⟨ok, ov, hit⟩, rw', hb, hr⟩ => ?_, fun i G G' h h' ⟨⟨ok, ov, hit⟩, rw', hb, hr⟩ le sub hk => ?_, fun i G s Q ⟨⟨ok, ov, hit⟩, rw', hb, hr⟩ h => ?_, fun i G h ⟨⟨ok, ov, hit⟩, _⟩ => ⟨_, hit, _, rfl⟩⟩
  · rw [List.getElem?_map] at hd
    obtain ⟨p, hp', rfl⟩ := Option.map_eq_some_iff.mp hd
    obtain ⟨ka, v', q1, q2, q3⟩ := hr.at hp'
    obtain ⟨en', h2, h3, h4⟩ := ent_at ex q1
    refine next_item hit rw' h2 fun h' hout htup hk => ⟨_, rfl, fun Q hQ => ?_⟩
    have hns := size_none s.heap
    have hIs : I ≠ s.heap.objs.size := Nat.ne_of_lt (Heap.lt_size hit)
    cases tgt with
    | Tuple el x1 ps =>
      refine wpAny_letOwnedTupleGo_items hout fun h'' hit2 hs2 => ?_
      have htup2 := hs2.extBut _ _ (Ne.symm hIs) htup
      have hk2 : ∀ b o, b ∉ [I] → s.heap.get? b = some o → h''.get? b = some o := fun b o hb e => hs2.extBut b o (fun q => hb (by simp [q])) (hk b o (fun q => hb (by simp [q])) e)
      have st1 : StW T g₀ [I] G s G { s with heap := h'' } := StW.iter (tk := s.toks) x hI hT hk2
      obtain ⟨n1, n2⟩ := x.new hns
      have good' : Good T g₀ (G.add s.heap.objs.size { cls := .type "tuple", data := .seq #[en'.key, en'.val] }) h'' := st1.good.add htup2 n1 n2
      have le : G.le (G.add s.heap.objs.size { cls := .type "tuple", data := .seq #[en'.key, en'.val] }) := Gh.le_add _ n1
      refine hQ { s with heap := h'' } _ ⟨⟨h'', s.toks, rfl⟩, hk2, GX.add _ n1 hns, good'⟩ (.ref (Gh.add_self _ _ _) (x.newMods hns) (.tup (vs := [en'.key, en'.val]) (n := 0) rfl rfl (.cons ?_ (.cons ?_ .nil)))) ⟨⟨_, _, hit2⟩, ?_, le _ _ hb, IsEnt.mono le hr⟩
      · have q := (q2.mono le).is; rw [← h3] at q; exact q
      · have q := Is.mono le q3; rw [← h4] at q; exact q
      · exact ⟨o, good'.sub _ _ (le _ _ hb), c, dd⟩
    | _ => simp [tupT] at ht
  · rw [List.length_map, ← hlen] at hit
    refine end_item a.handled hit rw' fun h' he' => ⟨rfl, ?_⟩
    exact StW.iter (tk := s.toks) x hI hT fun b o hb e => he' b o (fun q => hb (by simp [q])) e
  · exact ⟨⟨ok, ov, hk _ hit⟩, ⟨o, sub _ _ (le _ _ hb), c, dd⟩, le _ _ hb, IsEnt.mono le hr⟩
  · exact kcp_self hit h

theorem go_rev {v : Value} {l : Addr} {j : Int} {Q : Unit → Shared → Prop} (ht : nameT tgt = true) (h : Q () s) : wpAny (model prog w) A (letOwnedTupleGo tgt (.ref I) v) Q (fun _ _ => False) s := go_name ht h
theorem rev_at {α : Type} (l : List α) {i : Nat} (h : i < l.length) : l.reverse[i]? = l[l.length - 1 - i]? := by
  rw [List.getElem?_reverse h]
theorem it_rev (L : Gl g₀ mg mb) {f : Str} {p : Pos} (ht : nameT tgt = true) (hs : star? e = false) (hf : biOf f = some (.type "reversed")) (hk : sc.names.lookup f = some .globalImplicit) (ho : odd f = false)
    (he : EVs prog w T g₀ n sc σ e (.lst ds)) : ITs prog w T g₀ n sc σ (.Call (.Name f p) [e] [] pos) tgt ds.reverse := fun A env s G a v x => by
  refine Call_ (name_bi L v x.good hf hk ho ?_)
  refine callWith_type1 ((el_cons hs he el_nil).use a v x fun us s₁ G₁ y z x₁ => ?_) (starEach_cons hs [] env) rfl
  obtain ⟨u, rfl, hu⟩ := z.one
  obtain ⟨b, o, vs, m, rfl, eb, _, c, dd, r⟩ := hu.lst_inv
  refine call_reversed_list (x₁.good.isList eb c dd) ?_
  have hb := Heap.lt_size (x₁.good.sub _ _ eb)
  have good1 := x₁.good.push (revObj b ((vs.toArray.size : Int) - 1))
  refine wpAny_pyIter_slot (T := "list_reverseiterator") ⟨_, Heap.get?_push_size _ rfl, rfl⟩ PySem.F.slot_lri_iter (wpAny_call_entry PySem.F.slot_lri_iter ⟨_, Heap.get?_push_size _ rfl, rfl⟩ PySem.F.entry_lri_iter ?_ (PySem.F.args_lri_iter_1 _))
  show wpAny _ _ (ret _) _ _ _
  refine wpAny_pure ⟨_, rfl, "list_reverseiterator", _, ⟨_, Heap.get?_push_size _ rfl, rfl⟩, PySem.F.slot_lri_next.lookup, ?_⟩
  have hn := size_none s₁.heap
  refine ⟨_, G₁, _, rfl, y.trans (St.keep (tk := s₁.toks) x₁.good fun _ _ e => Heap.get?_push_of_some _ e), (x₁.good.new hn).1, (x₁.good.new hn).2, y.newOld hn,
    Iter.of_walks (Walks.listRev a.handled s₁.heap.objs.size b (Nat.ne_of_lt hb) vs.toArray) (F := fun G => G b = some o ∧ IsAll prog w G vs ds) (by rw [List.size_toArray, r.length, List.length_reverse])
      (fun G hf c hc => by rcases List.mem_cons.mp hc with rfl | hc
                           · exact .inl rfl
                           · rw [List.mem_singleton.mp hc]; exact .inr ⟨o, hf.1⟩)
      (fun G G' le hf => ⟨le _ _ hf.1, IsAll.mono le hf.2⟩) (fun G i v d hf hp hd => by
        have hi : i < ds.length := by have := (List.getElem?_eq_some_iff.mp hd).1; simpa using this
        rw [rev_at ds hi] at hd
        obtain ⟨v', e', q⟩ := hf.2.get hd
        have hp' : vs[ds.length - 1 - i]? = some v := by have := hp; simp only [List.size_toArray, List.getElem?_toArray] at this; rw [← r.length]; exact this
        rw [hp'] at e'; cases e'; exact q)
      (fun i h st => let ⟨o, e, _, d⟩ := st.2.1; ⟨o, e, _, d⟩) (fun i G v d s Q hf hv hd st h => go_name ht h),
    ⟨Nat.zero_le _, ⟨_, Heap.get?_push_size _ rfl, rfl, by simp [revObj]⟩, ⟨o, good1.sub _ _ eb, c, m, dd⟩⟩, ⟨eb, r⟩, good1.sub⟩
end
end Mine

namespace Mine

section
variable (prog : Program) (w : World) (T : Tabs) (g₀ : Heap)
/-- a new object, off the frozen part -/
noncomputable def NewR (G : Gh) (s : Shared) (d : D) (v : Value) (s' : Shared) : Prop :=
  ∃ G' a o, v = .ref a ∧ St T g₀ G s G' s' ∧ s.heap.get? a = none ∧ G' a = none ∧ a ∉ T.tb ∧ s'.heap.get? a = some o ∧ (a == sysModules) = false ∧ o.cls ≠ .none ∧ Body prog w G' o d ∧ o.dict = none ∧ o.slots = #[]
noncomputable def NVs (n : Nat) (sc : Scope) (σ : List (Str × Slot)) (e : PySem.Expr) (d : D) : Prop :=
  ∀ (A : Around) (env : Env) (s : Shared) (G : Gh), AOk n A → EnvOk sc env → SE prog w T g₀ env σ G s.heap → wpAny (model prog w) A (eval e env) (NewR prog w T g₀ G s d) (fun _ _ => False) s
end

/-- a dict's store -/
noncomputable def putE (k : List Ky) (d : D) : List (List Ky × D) → List (List Ky × D)
  | [] => [(k, d)]
  | (k', d') :: l => if k' = k then (k', d) :: l else (k', d') :: putE k d l

section
variable {prog : Program} {w : World} {T : Tabs} {g₀ : Heap} {mg mb : Str → Option Value} {n : Nat} {sc : Scope} {σ : List (Str × Slot)} {e l r i tgt : PySem.Expr} {d d₁ d₂ : D} {es : List PySem.Expr} {ds : List D} {pos apos : Pos}
variable {A : Around} {env : Env} {s s₁ s₂ : Shared} {G G₁ G₂ : Gh} {I : Addr}

theorem NewR.freeze {v : Value} (h : NewR prog w T g₀ G s d v s₁) : EvR prog w T g₀ G s d v s₁ := by
  obtain ⟨G', a, o, rfl, st, hn, hg, ht, ho, hm, hc, b, _⟩ := h
  have gx : GX G (G'.add a o) s.heap := by
    refine ⟨Gh.le_trans st.gx.le (Gh.le_add o hg), fun b o' e => ?_⟩
    by_cases q : b = a
    · subst q; exact .inr hn
    · rw [Gh.add_ne G' o q] at e; exact st.gx.new b o' e
  exact ⟨_, ⟨st.same, st.kp, gx, st.good.add ho hg ht⟩, .ref (Gh.add_self _ _ _) hm (Body.mono (Gh.le_add o hg) b)⟩
theorem NVs.ev (h : NVs prog w T g₀ n sc σ e d) : EVs prog w T g₀ n sc σ e d := fun A env s G a v x => wpAny_mono (h A env s G a v x) (fun _ _ q => q.freeze) fun _ _ f => f
/-- a push at the end -/
theorem newR_push {o : Obj} {tk : Nat} (y : St T g₀ G s G₁ s₁) (hf : o.isFreed = false) (hc : o.cls ≠ .none) (b : Body prog w G₁ o d) (hp : o.dict = none ∧ o.slots = #[]) : NewR prog w T g₀ G s d (.ref s₁.heap.objs.size) { s₁ with heap := s₁.heap.push o, toks := tk } := by
  have hn := size_none s₁.heap
  exact ⟨G₁, _, o, rfl, y.trans (St.keep y.good fun _ _ e => Heap.get?_push_of_some _ e), y.newOld hn, (y.good.new hn).1, (y.good.new hn).2, Heap.get?_push_size _ hf, y.good.newMods hn, hc, b, hp⟩
theorem nv_list (h : ELs prog w T g₀ n sc σ es ds) (hz : ds.length ≤ 1000) : NVs prog w T g₀ n sc σ (.List es pos) (.lst ds) := fun A env s G a v x => by
  refine List_ (h.use a v x fun us s₁ G₁ y z x₁ => ?_)
  have hl : us.length ≤ sizeLine := by rw [z.length, sizeLine_eq]; omega
  refine wpAny_newObj_type (newR_push (tk := s₁.toks) y rfl (by show Value.type "list" ≠ _; decide) (.lst rfl rfl z) ⟨rfl, rfl⟩) (by show us.toArray.size ≤ _; simpa using hl)
theorem nv_dict0 : NVs prog w T g₀ n sc σ (.Dict [] [] pos) (.dct []) := fun A env s G a v x =>
  wpAny_Dict_empty (newR_push (tk := s.toks) (St.refl x.good) rfl (by show Value.type "dict" ≠ _; decide) (.dct (xs := []) ⟨rfl, rfl, rfl⟩ rfl rfl List.nodup_nil .nil) ⟨rfl, rfl⟩)

theorem putE_spec {xs : List (List Ky × Addr × Value)} {l : List (List Ky × D)} (h : IsEnt prog w G xs l) {k : List Ky} {a : Addr} {v : Value} (hk : KeyG prog w G k a) (hv : Is prog w G v d) (hn : (xs.map (·.1)).Nodup) :
    IsEnt prog w G (storedH xs k a v) (putE k d l) := by
  have key : ∀ {xs : List (List Ky × Addr × Value)} {l : List (List Ky × D)}, IsEnt prog w G xs l → (xs.map (·.1)).Nodup → ((atKey xs k).isSome → IsEnt prog w G (xs.map (putAt k v)) (putE k d l)) ∧ (atKey xs k = none → IsEnt prog w G (xs ++ [(k, a, v)]) (putE k d l)) := by
    intro xs
    induction xs with
    | nil => intro l h _; cases h; exact ⟨fun q => by simp [atKey] at q, fun _ => .cons hk hv .nil⟩
    | cons y ys ih =>
      intro l h hn
      cases h with
      | cons hk' hv' r =>
        rename_i k' a' v' d' l'
        rw [List.map_cons, List.nodup_cons] at hn
        obtain ⟨i1, i2⟩ := ih r hn.2
        by_cases q : k' = k
        · subst q
          refine ⟨fun _ => ?_, fun q => by simp [atKey] at q⟩
          have hrest : ys.map (putAt k' v) = ys := by
            refine (List.map_congr_left fun z hz => ?_).trans (List.map_id ys)
            unfold putAt
            rw [if_neg]
            · rfl
            · intro e; exact hn.1 (List.mem_map.mpr ⟨z, hz, e⟩)
          rw [List.map_cons, hrest]
          unfold putE
          rw [if_pos rfl]
          have : putAt k' v (k', a', v') = (k', a', v) := by simp [putAt]
          rw [this]
          exact .cons hk' hv r
        · have e1 : atKey ((k', a', v') :: ys) k = atKey ys k := by simp [atKey, q]
          rw [e1]
          unfold putE
          rw [if_neg q]
          refine ⟨fun p => ?_, fun p => ?_⟩
          · have : putAt k v (k', a', v') = (k', a', v') := by simp [putAt, q]
            rw [List.map_cons, this]
            exact .cons hk' hv' (i1 p)
          · exact .cons hk' hv' (i2 p)
  obtain ⟨k1, k2⟩ := key h hn
  cases q : atKey xs k with
  | none => rw [storedH_new q]; exact k2 q
  | some p => rw [storedH_old q]; exact k1 (by rw [q]; rfl)
theorem putE_length (k : List Ky) (d : D) : ∀ l, (putE k d l).length ≤ l.length + 1
  | [] => Nat.le_refl _
  | (k', d') :: l => by
    unfold putE
    split
    · simp
    · have := putE_length k d l; simp; omega

/-- a body out of a dict's facts -/
theorem body_dct {h : Heap} {b : Addr} {xs : List (List Ky × Addr × Value)} {en : List (List Ky × D)} (hD : h.DictOfH (tkKind prog w) b xs) (hE : IsEnt prog w G xs en) : ∃ o, h.get? b = some o ∧ o.cls ≠ .none ∧ Body prog w G o (.dct en) ∧ o.dict = none ∧ o.slots = #[] := by
  obtain ⟨o, es, ep, ho, hc, hd, he, _, hn⟩ := hD
  exact ⟨o, ho, by rw [hc.1]; decide, .dct hc hd he hn hE, hc.2⟩

theorem nv_dict1 {k v : PySem.Expr} {l : List D} {ks : List Ky} (hk : EVs prog w T g₀ n sc σ k (.tup l)) (hv : EVs prog w T g₀ n sc σ v d) (hks : dKys l = some ks) : NVs prog w T g₀ n sc σ (.Dict [some k] [v] pos) (.dct [(ks, d)]) := fun A env s G a vv x => by
  refine wpAny_Dict_any rfl rfl (by simp) (by simp) ?_
  have hn := size_none s.heap
  obtain ⟨g1, g2⟩ := x.good.new hn
  have y0 : St T g₀ G s G { s with heap := s.heap.push { cls := .type "dict", data := .dict #[] } } := St.keep (tk := s.toks) x.good fun _ _ e => Heap.get?_push_of_some _ e
  have x0 := x.st y0
  have hD0 : (s.heap.push { cls := .type "dict", data := .dict #[] }).DictOfH (tkKind prog w) s.heap.objs.size [] := Heap.DictOfH.new s.heap
  have hm := x.good.newMods hn
  generalize hH : s.heap.objs.size = b at *
  generalize s.heap.push { cls := .type "dict", data := .dict #[] } = H at y0 x0 hD0 ⊢
  show wpAny _ A (evalPairs [_]) _ _ _
  unfold evalPairs
  refine wpAny_bind (hk.use a vv x0 fun u s₁ G₁ y z x₁ => ?_)
  refine wpAny_bind (wpAny_holding (wpAny_bind (hv.use a vv x₁ fun u' s₂ G₂ y' z' x₂ => wpAny_bind (wpAny_standAt (wpAny_pure ?_)))))
  refine wpAny_bind (wpAny_holding (wpAny_pure (wpAny_pure ?_)))
  obtain ⟨ka, rfl, hkey⟩ := KeyG.of z hks
  have hkey2 := hkey.mono y'.gx.le
  unfold storeAll
  rw [List.forIn_cons]
  obtain ⟨o0, es0, ep0, ho0, hc0, hd0, he0, _, _⟩ := hD0
  have off1 : G₁ b = none := y.gx.off g1 ho0
  have nt1 : b ∉ T.tb := g2
  have ho1 := y.kp _ _ nt1 ho0
  have off2 : G₂ b = none := y'.gx.off off1 ho1
  have ho2 := y'.kp _ _ nt1 ho1
  have hD2 : s₂.heap.DictOfH (tkKind prog w) b [] := ⟨o0, es0, ep0, ho2, hc0, hd0, he0, fun x hx => by simp at hx, List.nodup_nil⟩
  refine wpAny_bind (wpAny_bind (wpAny_dictSet_heap (knd := tkKind prog w) (hsz := by simp) (show A.units < cLine from a.u0) (x₂.good.key hkey2) hD2 fun h' hD' hs' => wpAny_pure (wpAny_pure ?_)))
  obtain ⟨o', ho', hc', hb'⟩ := body_dct hD' (putE_spec (G := G₂) .nil hkey2 z' List.nodup_nil)
  have yW : StW T g₀ T.tb G s G₂ s₂ := (y0.trans (y.trans y')).toW
  have good' : Good T g₀ G₂ h' := x₂.good.ext hs'.extBut off2 nt1
  refine ⟨G₂, b, o', rfl, ⟨?_, ?_, yW.gx, good'⟩, hn, off2, nt1, ho', hm, hc', hb'⟩
  · obtain ⟨hh, tt, rfl⟩ := yW.same; exact ⟨_, _, rfl⟩
  · have k2 : Kp (b :: T.tb) s.heap h' := (yW.kp.weak fun c hc => .tail _ hc).trans (Kp.ext hs'.extBut (.head _))
    exact k2.drop hn

/-- a list shown, n times -/
theorem nv_listMul {k : Int} {p : Pos} (h0 : 0 ≤ k) (hz : ds.length * k.toNat ≤ 1000) (hz' : ds.length ≤ 1000) (hz2 : k ≤ 1000) (hne : ds ≠ []) (h : ELs prog w T g₀ n sc σ es ds) (hk : EVs prog w T g₀ n sc σ r (.int k)) :
    NVs prog w T g₀ n sc σ (.BinOp (.List es p) .Mult r pos) (.lst (List.replicate k.toNat ds).flatten) := fun A env s G a v x => by
  refine wpAny_BinOp (List_ (h.use a v x fun us s₁ G₁ y z x₁ => ?_))
  have hl : us.length ≤ sizeLine := by rw [z.length, sizeLine_eq]; omega
  refine wpAny_newObj_type ?_ (by show us.toArray.size ≤ _; simpa using hl)
  have y1 := St.made (tk := s₁.toks) x₁.good (fun _ _ e => Heap.get?_push_of_some _ e) (size_none s₁.heap) (Heap.get?_push_size s₁.heap (o := { cls := .type "list", data := .seq us.toArray }) rfl)
  have x1 := x₁.st y1
  refine hk.use a v x1 fun u' s₂ G₂ y' z' x₂ => ?_
  obtain ⟨t, rfl⟩ := z'.int_inv
  have ho : s₂.heap.get? s₁.heap.objs.size = some { cls := .type "list", dict := none, data := .seq us.toArray, slots := #[] } := x₂.good.sub _ _ (y'.gx.le _ _ (Gh.add_self _ _ _))
  have hu : us.length * k.toNat ≤ 1000 := by rw [z.length]; exact hz
  have hu2 : us.toArray.size * k.toNat ≤ 1000 := by rw [List.size_toArray]; exact hu
  refine wpAny_binaryOp_repeat_ref (T := "list") (U := "int") (by decide) ⟨_, ho, rfl⟩ (fun s' => typeIs_int s' k t) noFill_list_mul F.fills_int_mul F.slot_int_rmul repeat_list F.slot_int_index.lookup
    (call_meets F.slot_int_rmul (typeIs_int s₂ k t) F.entry_int_rmul (F.args_int_rmul_2 _ _) (int___rmul___int_list k t _ _ _)
      ⟨ho, rfl, ⟨_, ho, rfl⟩, call_meets F.slot_list_mul ⟨_, ho, rfl⟩ F.entry_list_mul (F.args_list_mul_2 _ _)
        (AutoListH.list___mul___list_int_3 _ _ _ k t (by simp [Builtin.List.listFitsIndex]; omega) (by omega) (by simp [Builtin.List.listTooLong, sizeLine]; omega))
        ⟨ho, ?_⟩⟩)
  have hem : us.toArray.isEmpty = false := by
    cases us with
    | nil => cases z; exact absurd rfl hne
    | cons _ _ => rfl
  have hall : ∀ (j : Nat) (acc : List Value) (da : List D), IsAll prog w G₁ acc da → ∃ vs, List.foldl (fun x1 x2 => x1 ++ x2) acc.toArray (List.replicate j us.toArray) = vs.toArray ∧ IsAll prog w G₁ vs (da ++ (List.replicate j ds).flatten) := by
    intro j
    induction j with
    | zero => intro acc da ha; exact ⟨acc, rfl, by simpa using ha⟩
    | succ j ih =>
      intro acc da ha
      obtain ⟨vs, e, hv⟩ := ih (acc ++ us) (da ++ ds) (ha.append z)
      refine ⟨vs, ?_, ?_⟩
      · rw [List.replicate_succ, List.foldl_cons, ← e]; simp
      · rw [List.replicate_succ, List.flatten_cons, ← List.append_assoc]; exact hv
  obtain ⟨vs, e, hv⟩ := hall k.toNat [] [] .nil
  have hq : (Data.seq (List.foldl (fun x1 x2 => x1 ++ x2) #[] (List.replicate (if us.toArray.isEmpty = true then 0 else k.toNat) us.toArray)) 0) = Data.seq vs.toArray 0 := by
    rw [hem, if_neg (by simp), ← e]
  have hv' : IsAll prog w G₁ vs (List.replicate k.toNat ds).flatten := by simpa using hv
  refine newR_push (tk := s₂.toks) ((y.trans y1).trans y') rfl (by show Value.type "list" ≠ _; decide) (Body.lst (vs := vs) (n := 0) rfl hq (IsAll.mono (Gh.le_trans y1.gx.le y'.gx.le) hv')) ⟨rfl, rfl⟩
end
end Mine

namespace Mine

noncomputable def put (x : Str) (sl : Slot) : List (Str × Slot) → List (Str × Slot)
  | [] => [(x, sl)]
  | (y, t) :: r => if sEq x y then (y, sl) :: r else (y, t) :: put x sl r
theorem lookup_put (x z : Str) (sl : Slot) : ∀ σ, (put x sl σ).lookup z = if z == x then some sl else σ.lookup z
  | [] => by
    unfold put
    by_cases h : z = x
    · subst h; simp [List.lookup_cons]
    · have : (z == x) = false := by simpa using h
      simp [List.lookup_cons, this]
  | (y, t) :: r => by
    have ih := lookup_put x z sl r
    unfold put
    rw [sEq_eq]
    by_cases hxy : x = y
    · subst hxy
      rw [if_pos (by simp)]
      by_cases h : z = x
      · subst h; simp [List.lookup_cons]
      · have : (z == x) = false := by simpa using h
        simp [List.lookup_cons, this]
    · rw [if_neg (by simpa using hxy), List.lookup_cons, List.lookup_cons, ih]
      by_cases hz : z = y
      · subst hz
        have : (z == x) = false := by simpa using fun q : z = x => hxy q.symm
        simp [this]
      · have : (z == y) = false := by simpa using hz
        simp [this]

theorem SlotIs.val_of {prog : Program} {w : World} {G : Gh} {h : Heap} {v : Value} {d : D} (x : SlotIs prog w G h v (.val d)) : Is prog w G v d := x

/-- an environment's own cells -/
structure OwnOk (sc : Scope) (env : Env) (Own : List Addr) : Prop where
  there : Own ≠ [] → ∀ x, sc.names.lookup x = some .cell → ∃ c, env.cells.lookup x = some c ∧ c ∈ Own
  inj : ∀ x y c, c ∈ Own → env.cells.lookup x = some c → env.cells.lookup y = some c → x = y

section
variable (prog : Program) (w : World) (T : Tabs) (g₀ : Heap)

/-- a live slot's address -/
structure LiveAt (env : Env) (its : List (Addr × Obj)) (s₀ : Shared) (G : Gh) (h : Heap) (d : D) (l : Addr) (o : Obj) : Prop where
  get : h.get? l = some o
  mods : (l == sysModules) = false
  cls : o.cls ≠ .none
  body : Body prog w G o d
  off : G l = none
  loc : l ≠ env.locals
  fresh : s₀.heap.get? l = none
  going : ∀ p ∈ its, p.1 ≠ l
  plain : o.dict = none ∧ o.slots = #[]
noncomputable def SlotR (env : Env) (its : List (Addr × Obj)) (s₀ : Shared) (G : Gh) (h : Heap) (v : Value) : Slot → Prop
  | .val d => Is prog w G v d
  | .live d => ∃ l o, v = .ref l ∧ LiveAt prog w env its s₀ G h d l o

/-- a block's invariant: s₀ as it was before the block's frame, Own the frame's own cells, its what is going on around -/
structure SR (env : Env) (Own : List Addr) (s₀ : Shared) (G₀ : Gh) (σ : List (Str × Slot)) (its : List (Addr × Obj)) (G : Gh) (s : Shared) : Prop where
  same : ∃ h' tk, s = { s₀ with heap := h', toks := tk }
  kp : Kp T.tb s₀.heap s.heap
  gx : GX G₀ G s₀.heap
  good : Good T g₀ G s.heap
  loc : ∃ m, s.heap.Ns env.locals m
  locOff : G env.locals = none ∧ s₀.heap.get? env.locals = none ∧ ∀ p ∈ its, p.1 ≠ env.locals
  own : ∀ c ∈ Own, ∃ v, s.heap.IsCell c v
  ownOff : ∀ c ∈ Own, G c = none ∧ s₀.heap.get? c = none ∧ ∀ p ∈ its, p.1 ≠ c
  going : ∀ p ∈ its, s.heap.get? p.1 = some p.2 ∧ p.1 ∉ T.tb ∧ G p.1 = none ∧ s₀.heap.get? p.1 = none
  nodup : (its.map (·.1)).Nodup
  rd : ∀ x sl, σ.lookup x = some sl → ∃ v, Holds env s.heap x v ∧ SlotR prog w env its s₀ G s.heap v sl
  inj : ∀ x y d d' l, σ.lookup x = some (.live d) → σ.lookup y = some (.live d') → Holds env s.heap x (.ref l) → Holds env s.heap y (.ref l) → x = y
end

section
variable {prog : Program} {w : World} {T : Tabs} {g₀ : Heap} {mg mb : Str → Option Value} {n : Nat} {sc : Scope} {σ : List (Str × Slot)} {e l r i tgt : PySem.Expr} {d d₁ d₂ : D} {es : List PySem.Expr} {ds : List D} {pos apos : Pos}
variable {A : Around} {env : Env} {Own : List Addr} {its : List (Addr × Obj)} {s₀ s s₁ s₂ : Shared} {G₀ G G₁ G₂ : Gh} {I : Addr}

theorem Holds.agree {h : Heap} {x : Str} {u v : Value} (a : Holds env h x u) (b : Holds env h x v) : u = v := by
  rcases a with ⟨a1, m1, n1, e1⟩ | ⟨a1, c1, n1, e1⟩
  · rcases b with ⟨a2, m2, n2, e2⟩ | ⟨a2, c2, n2, e2⟩
    · have := n1.agree n2 x
      rw [e1, e2] at this; exact Option.some.inj this
    · rw [a1] at a2; rcases a2 with q | q <;> cases q
  · rcases b with ⟨a2, m2, n2, e2⟩ | ⟨a2, c2, n2, e2⟩
    · rw [a2] at a1; rcases a1 with q | q <;> cases q
    · rw [n1] at n2; cases n2
      obtain ⟨o1, ho1, hd1⟩ := e1
      obtain ⟨o2, ho2, hd2⟩ := e2
      rw [ho1] at ho2; cases ho2
      rw [hd1] at hd2; cases hd2; rfl
theorem Holds.keep {h h' : Heap} {x : Str} {v : Value} (H : Holds env h x v) (hk : ∀ b o, b = env.locals ∨ (∃ u, o.data = .cell u) → h.get? b = some o → h'.get? b = some o) : Holds env h' x v := by
  rcases H with ⟨hl, m, hn, hm⟩ | ⟨hl, c, hc, o, ho, hd⟩
  · exact .inl ⟨hl, m, hn.at' fun o e => hk _ o (.inl rfl) e, hm⟩
  · exact .inr ⟨hl, c, hc, o, hk _ o (.inr ⟨_, hd⟩) ho, hd⟩

theorem SR.se (x : SR prog w T g₀ env Own s₀ G₀ σ its G s) : SE prog w T g₀ env σ G s.heap :=
  ⟨x.good, fun y sl e => by
    obtain ⟨v, hv, hs⟩ := x.rd y sl e
    refine ⟨v, hv, ?_⟩
    cases sl with
    | val d => exact hs
    | live d => obtain ⟨l, o, rfl, q⟩ := hs; exact ⟨l, o, rfl, q.get, q.mods, q.cls, q.body⟩⟩
theorem SR.old (x : SR prog w T g₀ env Own s₀ G₀ σ its G s) {b : Addr} (hb : s.heap.get? b = none) (ht : b ∉ T.tb) : s₀.heap.get? b = none := by
  cases q : s₀.heap.get? b with
  | none => rfl
  | some o => rw [x.kp _ _ ht q] at hb; cases hb

/-- what the block's own writes leave alone -/
theorem SR.st (x : SR prog w T g₀ env Own s₀ G₀ σ its G s) (y : St T g₀ G s G₁ s₁) : SR prog w T g₀ env Own s₀ G₀ σ its G₁ s₁ where
  same := by
    obtain ⟨h₁, t₁, rfl⟩ := x.same
    obtain ⟨h₂, t₂, rfl⟩ := y.same
    exact ⟨h₂, t₂, rfl⟩
  kp := x.kp.trans y.kp
  gx := x.gx.trans y.gx x.kp fun b hb => .inl (x.good.tabThere hb)
  good := y.good
  loc := let ⟨m, hm⟩ := x.loc; ⟨m, hm.at' fun o e => y.kp _ o (x.good.notTabNs hm) e⟩
  locOff := by
    obtain ⟨m, hm⟩ := x.loc
    obtain ⟨o, es, ep, ho, _⟩ := hm
    exact ⟨y.gx.off x.locOff.1 ho, x.locOff.2⟩
  own := fun c hc => by
    obtain ⟨v, hv⟩ := x.own c hc
    have nt := x.good.notTabCell hv
    obtain ⟨o, ho, hd⟩ := hv
    exact ⟨v, o, y.kp _ _ nt ho, hd⟩
  ownOff := fun c hc => by
    obtain ⟨v, o, ho, hd⟩ := x.own c hc
    exact ⟨y.gx.off (x.ownOff c hc).1 ho, (x.ownOff c hc).2⟩
  going := fun p hp => by
    obtain ⟨a, b, c, d⟩ := x.going p hp
    exact ⟨y.kp _ _ b a, b, y.gx.off c a, d⟩
  nodup := x.nodup
  rd := fun z sl e => by
    obtain ⟨v, hv, hs⟩ := x.rd z sl e
    refine ⟨v, hv.kp x.good y.kp, ?_⟩
    cases sl with
    | val d => exact Is.mono y.gx.le hs
    | live d =>
      obtain ⟨l, o, rfl, q⟩ := hs
      exact ⟨l, o, rfl, ⟨y.kp _ _ (x.good.notTab q.get (.inl q.cls)) q.get, q.mods, q.cls, Body.mono y.gx.le q.body, y.gx.off q.off q.get, q.loc, q.fresh, q.going, q.plain⟩⟩
  inj := fun a b d d' l ha hb h1 h2 => by
    obtain ⟨va, hva, _⟩ := x.rd a _ ha
    obtain ⟨vb, hvb, _⟩ := x.rd b _ hb
    have e1 := (hva.kp x.good y.kp).agree h1
    have e2 := (hvb.kp x.good y.kp).agree h2
    subst e1; subst e2
    exact x.inj a b d d' l ha hb hva hvb

/-- something more goes on -/
theorem SR.push (x : SR prog w T g₀ env Own s₀ G₀ σ its G s) (y : St T g₀ G s G₁ s₁) {a : Addr} {o : Obj} (hn : s.heap.get? a = none) (ho : s₁.heap.get? a = some o) (ht : a ∉ T.tb) (hg : G₁ a = none) :
    SR prog w T g₀ env Own s₀ G₀ σ ((a, o) :: its) G₁ s₁ := by
  have z := x.st y
  have ne : ∀ {b : Addr} {o' : Obj}, s.heap.get? b = some o' → a ≠ b := fun e q => by rw [← q, hn] at e; cases e
  refine ⟨z.same, z.kp, z.gx, z.good, z.loc, ⟨z.locOff.1, z.locOff.2.1, ?_⟩, z.own, fun c hc => ⟨(z.ownOff c hc).1, (z.ownOff c hc).2.1, ?_⟩, ?_, ?_, fun q sl e => ?_, z.inj⟩
  · intro p hp
    rcases List.mem_cons.mp hp with rfl | hp
    · obtain ⟨m, o, es, ep, ho, _⟩ := x.loc; exact ne ho
    · exact z.locOff.2.2 p hp
  · intro p hp
    rcases List.mem_cons.mp hp with rfl | hp
    · obtain ⟨v, o, ho, _⟩ := x.own c hc; exact ne ho
    · exact (z.ownOff c hc).2.2 p hp
  · intro p hp
    rcases List.mem_cons.mp hp with rfl | hp
    · exact ⟨ho, ht, hg, x.old hn ht⟩
    · exact z.going p hp
  · rw [List.map_cons, List.nodup_cons]
    refine ⟨fun hm => ?_, z.nodup⟩
    obtain ⟨p, hp, e⟩ := List.mem_map.mp hm
    exact ne (x.going p hp).1 e.symm
  · obtain ⟨v, hv, hs⟩ := z.rd q sl e
    refine ⟨v, hv, ?_⟩
    cases sl with
    | val d => exact hs
    | live d =>
      obtain ⟨l, o', rfl, t⟩ := hs
      refine ⟨l, o', rfl, ⟨t.get, t.mods, t.cls, t.body, t.off, t.loc, t.fresh, fun p hp => ?_, t.plain⟩⟩
      rcases List.mem_cons.mp hp with rfl | hp
      · obtain ⟨v0, hv0, hs0⟩ := x.rd q _ e
        obtain ⟨l0, o0, rfl, t0⟩ := hs0
        have := (hv0.kp x.good y.kp).agree hv
        cases this
        exact ne t0.get
      · exact t.going p hp
/-- something is over -/
theorem SR.pop {a : Addr} {o : Obj} (x : SR prog w T g₀ env Own s₀ G₀ σ ((a, o) :: its) G s) : SR prog w T g₀ env Own s₀ G₀ σ its G s where
  same := x.same
  kp := x.kp
  gx := x.gx
  good := x.good
  loc := x.loc
  locOff := ⟨x.locOff.1, x.locOff.2.1, fun p hp => x.locOff.2.2 p (.tail _ hp)⟩
  own := x.own
  ownOff := fun c hc => ⟨(x.ownOff c hc).1, (x.ownOff c hc).2.1, fun p hp => (x.ownOff c hc).2.2 p (.tail _ hp)⟩
  going := fun p hp => x.going p (.tail _ hp)
  nodup := by have := x.nodup; rw [List.map_cons, List.nodup_cons] at this; exact this.2
  rd := fun z sl e => by
    obtain ⟨v, hv, hs⟩ := x.rd z sl e
    refine ⟨v, hv, ?_⟩
    cases sl with
    | val d => exact hs
    | live d => obtain ⟨l, o', rfl, t⟩ := hs; exact ⟨l, o', rfl, ⟨t.get, t.mods, t.cls, t.body, t.off, t.loc, t.fresh, fun p hp => t.going p (.tail _ hp), t.plain⟩⟩
  inj := x.inj

/-- a write to what is off all the rest -/
theorem SR.move (x : SR prog w T g₀ env Own s₀ G₀ σ its G s) {a : Addr} (y : StW T g₀ [a] G s G₁ s₁) (h0 : s₀.heap.get? a = none) (hg : G₁ a = none) {its' : List (Addr × Obj)} (hl : a ≠ env.locals) (hno : ∀ o u, s.heap.get? a = some o → o.data ≠ .cell u)
    (hi : its'.map (·.1) = its.map (·.1)) (hits : ∀ p ∈ its', s₁.heap.get? p.1 = some p.2) 
    (hlive : ∀ x d, σ.lookup x = some (.live d) → ¬ Holds env s.heap x (.ref a)) : SR prog w T g₀ env Own s₀ G₀ σ its' G₁ s₁ := by
  have k : ∀ b o, b ≠ a → s.heap.get? b = some o → s₁.heap.get? b = some o := fun b o hb e => y.kp b o (fun q => hb (List.mem_singleton.mp q)) e
  have mem : ∀ p ∈ its', ∃ q ∈ its, q.1 = p.1 := fun p hp => by
    have : p.1 ∈ its'.map (·.1) := List.mem_map.mpr ⟨p, hp, rfl⟩
    rw [hi] at this
    obtain ⟨q, hq, e⟩ := List.mem_map.mp this
    exact ⟨q, hq, e⟩
  have hc : ∀ c ∈ Own, a ≠ c := fun c hc q => by obtain ⟨v, o, ho, hd⟩ := x.own c hc; exact hno o v (q ▸ ho) hd
  have hH : ∀ {z : Str} {v : Value}, Holds env s.heap z v → Holds env s₁.heap z v := fun {z v} H => H.keep fun b o hb e => by
    rcases hb with rfl | ⟨u, hb⟩
    · exact k _ _ (Ne.symm hl) e
    · exact k _ _ (fun q => hno o u (q ▸ e) hb) e
  have off1 : ∀ b o, s.heap.get? b = some o → G b = none → G₁ b = none := fun b o e g => by
    by_cases q : b = a
    · subst q; exact hg
    · exact y.gx.off g e
  refine ⟨?_, ?_, ?_, y.good, ?_, ⟨?_, x.locOff.2.1, ?_⟩, ?_, fun c hc' => ⟨?_, (x.ownOff c hc').2.1, ?_⟩, ?_, by rw [hi]; exact x.nodup, ?_, ?_⟩
  · obtain ⟨h₁, t₁, rfl⟩ := x.same
    obtain ⟨h₂, t₂, rfl⟩ := y.same
    exact ⟨h₂, t₂, rfl⟩
  · intro b o hb e
    exact k b o (fun q => by rw [q, h0] at e; cases e) (x.kp b o hb e)
  · refine ⟨Gh.le_trans x.gx.le y.gx.le, fun b o e => ?_⟩
    rcases y.gx.new b o e with q | q
    · exact x.gx.new b o q
    · refine .inr (x.old q fun ht => ?_)
      obtain ⟨o', e'⟩ := x.good.tabThere ht
      rw [q] at e'; cases e'
  · obtain ⟨m, hm⟩ := x.loc; exact ⟨m, hm.at' fun o e => k _ o (Ne.symm hl) e⟩
  · obtain ⟨m, o, es, ep, ho, _⟩ := x.loc; exact off1 _ _ ho x.locOff.1
  · intro p hp
    obtain ⟨q, hq, e⟩ := mem p hp
    rw [← e]; exact x.locOff.2.2 q hq
  · intro c hc'
    obtain ⟨v, o, ho, hd⟩ := x.own c hc'
    exact ⟨v, o, k _ _ (Ne.symm (hc c hc')) ho, hd⟩
  · obtain ⟨v, o, ho, hd⟩ := x.own c hc'; exact off1 _ _ ho (x.ownOff c hc').1
  · intro p hp
    obtain ⟨q, hq, e⟩ := mem p hp
    rw [← e]; exact (x.ownOff c hc').2.2 q hq
  · intro p hp
    obtain ⟨q, hq, e⟩ := mem p hp
    obtain ⟨a1, a2, a3, a4⟩ := x.going q hq
    rw [e] at a1 a2 a3 a4
    exact ⟨hits p hp, a2, off1 _ _ a1 a3, a4⟩
  · intro z sl ez
    obtain ⟨v, hv, hs⟩ := x.rd z sl ez
    refine ⟨v, hH hv, ?_⟩
    cases sl with
    | val d => exact Is.mono y.gx.le hs
    | live d =>
      obtain ⟨l, o, rfl, q⟩ := hs
      have hla : l ≠ a := fun q' => hlive z d ez (q' ▸ hv)
      refine ⟨l, o, rfl, ⟨k _ _ hla q.get, q.mods, q.cls, Body.mono y.gx.le q.body, off1 _ _ q.get q.off, q.loc, q.fresh, fun p hp => ?_, q.plain⟩⟩
      obtain ⟨p', hp', e⟩ := mem p hp
      rw [← e]; exact q.going p' hp'
  · intro u z du dz l hu hz h1 h2
    obtain ⟨va, hva, _⟩ := x.rd u _ hu
    obtain ⟨vb, hvb, _⟩ := x.rd z _ hz
    have e1 := (hH hva).agree h1
    have e2 := (hH hvb).agree h2
    subst e1; subst e2
    exact x.inj u z du dz l hu hz hva hvb
end
end Mine

namespace Mine

section
variable {prog : Program} {w : World} {T : Tabs} {g₀ : Heap} {mg mb : Str → Option Value} {n : Nat} {sc : Scope} {σ : List (Str × Slot)} {e l r i tgt : PySem.Expr} {d d₁ d₂ : D} {es : List PySem.Expr} {ds : List D} {pos apos : Pos}
variable {A : Around} {env : Env} {Own : List Addr} {its : List (Addr × Obj)} {s₀ s s₁ s₂ : Shared} {G₀ G G₁ G₂ : Gh} {I : Addr} {E : Value → Shared → Prop}

theorem Body.noCell {o : Obj} {d : D} {u : Option Value} (b : Body prog w G o d) : o.data ≠ .cell u := by
  cases b with
  | tup _ e _ => rw [e]; simp
  | lst _ e _ => rw [e]; simp
  | dct _ e _ _ _ => rw [e]; simp
  | rng => simp

theorem SR.wrote (x : SR prog w T g₀ env Own s₀ G₀ σ its G s) {y : Str} {v : Value} {sl : Slot} {a : Addr} {h' : Heap} {tk : Nat} (k : ∀ b o, b ≠ a → s.heap.get? b = some o → h'.get? b = some o)
    (ha : G a = none ∧ s₀.heap.get? a = none ∧ ∀ p ∈ its, p.1 ≠ a) (ht : a ∉ T.tb) (loc' : ∃ m, h'.Ns env.locals m) (own' : ∀ c ∈ Own, ∃ v, h'.IsCell c v) (hx : Holds env h' y v)
    (hother : ∀ z u sl', z ≠ y → σ.lookup z = some sl' → Holds env s.heap z u → Holds env h' z u) (hs : SlotR prog w env its s₀ G s.heap v sl) (hla : ∀ l o d, s.heap.get? l = some o → Body prog w G o d → l ≠ env.locals → l ≠ a)
    (uniq : ∀ d, sl = .live d → ∀ z d', z ≠ y → σ.lookup z = some (.live d') → ¬ Holds env s.heap z v) : SR prog w T g₀ env Own s₀ G₀ (put y sl σ) its G { s with heap := h', toks := tk } := by
  have live' : ∀ {d : D} {l : Addr} {o : Obj}, LiveAt prog w env its s₀ G s.heap d l o → LiveAt prog w env its s₀ G h' d l o := fun q =>
    ⟨k _ _ (hla _ _ _ q.get q.body q.loc) q.get, q.mods, q.cls, q.body, q.off, q.loc, q.fresh, q.going, q.plain⟩
  have slot' : ∀ {v : Value} {sl : Slot}, SlotR prog w env its s₀ G s.heap v sl → SlotR prog w env its s₀ G h' v sl := fun {v sl} q => by
    cases sl with
    | val d => exact q
    | live d => obtain ⟨l, o, e, t⟩ := q; exact ⟨l, o, e, live' t⟩
  refine ⟨?_, ?_, x.gx, ?_, loc', x.locOff, own', x.ownOff, ?_, x.nodup, ?_, ?_⟩
  · obtain ⟨h₁, t₁, rfl⟩ := x.same; exact ⟨h', tk, rfl⟩
  · intro b o hb e
    exact k b o (fun q => by rw [q, ha.2.1] at e; cases e) (x.kp b o hb e)
  · exact x.good.kp (W := [a]) (fun b o hb e => k b o (fun q => hb (by simp [q])) e) fun b hb => by rw [List.mem_singleton.mp hb]; exact ⟨ha.1, ht⟩
  · intro p hp
    obtain ⟨a1, a2, a3, a4⟩ := x.going p hp
    exact ⟨k _ _ (ha.2.2 p hp) a1, a2, a3, a4⟩
  · intro z sl' e
    rw [lookup_put] at e
    by_cases hz : z = y
    · subst hz
      rw [if_pos (by simp)] at e
      cases e
      exact ⟨v, hx, slot' hs⟩
    · rw [if_neg (by simpa using hz)] at e
      obtain ⟨u, hu, hs'⟩ := x.rd z sl' e
      exact ⟨u, hother z u sl' hz e hu, slot' hs'⟩
  · intro z1 z2 d d' l e1 e2 h1 h2
    rw [lookup_put] at e1 e2
    have old : ∀ z sl', z ≠ y → σ.lookup z = some sl' → ∀ u, Holds env h' z u → Holds env s.heap z u := fun z sl' hz e u hu => by
      obtain ⟨u', hu', _⟩ := x.rd z sl' e
      have := (hother z u' sl' hz e hu').agree hu
      subst this; exact hu'
    by_cases hz1 : z1 = y
    · by_cases hz2 : z2 = y
      · rw [hz1, hz2]
      · rw [if_pos (by simpa using hz1)] at e1
        rw [if_neg (by simpa using hz2)] at e2
        cases e1
        subst hz1
        have := hx.agree h1
        subst this
        exact absurd (old z2 _ hz2 e2 _ h2) (uniq d rfl z2 d' hz2 e2)
    · by_cases hz2 : z2 = y
      · rw [if_neg (by simpa using hz1)] at e1
        rw [if_pos (by simpa using hz2)] at e2
        cases e2
        subst hz2
        have := hx.agree h2
        subst this
        exact absurd (old z1 _ hz1 e1 _ h1) (uniq d' rfl z1 d hz1 e1)
      · rw [if_neg (by simpa using hz1)] at e1
        rw [if_neg (by simpa using hz2)] at e2
        exact x.inj z1 z2 d d' l e1 e2 (old z1 _ hz1 e1 _ h1) (old z2 _ hz2 e2 _ h2)

/-- may be stored -/
noncomputable def stO (sc : Scope) (own : Bool) (x : Str) : Bool := lk x sc.names == some .local || (own && lk x sc.names == some .cell)
theorem SR.store2 (x : SR prog w T g₀ env Own s₀ G₀ σ its G s) {y : Str} {v : Value} {sl : Slot} {own : Bool} {Q : Unit → Shared → Prop} (hv : EnvOk sc env) (ho : OwnOk sc env Own) (hown : own = true → Own ≠ []) (hy : stO sc own y = true)
    (hs : SlotR prog w env its s₀ G s.heap v sl) (uniq : ∀ d, sl = .live d → ∀ z d', z ≠ y → σ.lookup z = some (.live d') → ¬ Holds env s.heap z v)
    (h : ∀ s', SR prog w T g₀ env Own s₀ G₀ (put y sl σ) its G s' → Holds env s'.heap y v → Kp (env.locals :: Own) s.heap s'.heap → Q () s') : wpAny (model prog w) A (storeName env y v) Q E s := by
  have hk : env.scope.kind = .function := by rw [hv.scope]; exact hv.kind
  obtain ⟨m, hm⟩ := x.loc
  unfold stO at hy
  rw [lk_eq] at hy
  rw [Bool.or_eq_true] at hy
  rcases hy with hy | hy
  · have hl : env.kindOf y = some .local := by unfold Env.kindOf; rw [hv.scope]; exact eq_of_beq hy
    refine wpAny_storeName_local hl hm (fun h' hn' hs' => h _ ?_ (.inl ⟨hl, _, hn', by simp⟩) (Kp.ext hs'.extBut (.head _))) (by simp [hk])
    have cellNe : ∀ c u, s.heap.IsCell c u → c ≠ env.locals := fun c u ⟨o, hc, hd⟩ q => by
      obtain ⟨o', es, ep, ho', hd', _⟩ := hm
      rw [q, ho'] at hc; cases hc; rw [hd'] at hd; cases hd
    refine x.wrote (a := env.locals) (fun b o hb e => hs'.extBut b o hb e) x.locOff (x.good.notTabNs hm) ⟨_, hn'⟩ (fun c hc => ?_) (.inl ⟨hl, _, hn', by simp⟩) (fun z u sl' hz _ H => ?_) hs (fun l o d _ _ q => q) uniq
    · obtain ⟨u, hu⟩ := x.own c hc; exact ⟨u, hu.sameBut hs' (cellNe c u hu)⟩
    · rcases H with ⟨hl', m', hn2, hm2⟩ | ⟨hl', c, hc, hc'⟩
      · refine .inl ⟨hl', _, hn', ?_⟩
        rw [if_neg hz, ← hn2.agree hm z]; exact hm2
      · exact .inr ⟨hl', c, hc, hc'.sameBut hs' (cellNe c _ hc')⟩
  · rw [Bool.and_eq_true] at hy
    have hl0 : sc.names.lookup y = some .cell := eq_of_beq hy.2
    have hl : env.kindOf y = some .cell := by unfold Env.kindOf; rw [hv.scope]; exact hl0
    obtain ⟨c, hc, hcO⟩ := ho.there (hown hy.1) y hl0
    obtain ⟨u, hu⟩ := x.own c hcO
    refine wpAny_storeName_cell hk hl hc hu fun h' hc' hs' => h _ ?_ (.inr ⟨.inl hl, c, hc, hc'⟩) (Kp.ext hs'.extBut (.tail _ hcO))
    have locNe : env.locals ≠ c := fun q => by
      obtain ⟨o, ho', hd⟩ := hu
      obtain ⟨o', es, ep, ho2, hd2, _⟩ := hm
      rw [← q, ho2] at ho'; cases ho'; rw [hd2] at hd; cases hd
    refine x.wrote (tk := s.toks) (a := c) (fun b o hb e => hs'.extBut b o hb e) (x.ownOff c hcO) (x.good.notTabCell hu) ⟨m, hm.sameBut hs' locNe⟩ (fun c' hc2 => ?_) (.inr ⟨.inl hl, c, hc, hc'⟩) (fun z u' sl' hz _ H => ?_) hs (fun l o d e b q e' => ?_) uniq
    · by_cases q : c' = c
      · exact ⟨_, q ▸ hc'⟩
      · obtain ⟨u2, hu2⟩ := x.own c' hc2; exact ⟨u2, hu2.sameBut hs' q⟩
    · rcases H with ⟨hl', m', hn2, hm2⟩ | ⟨hl', c2, hc2, hc2'⟩
      · exact .inl ⟨hl', m', hn2.sameBut hs' locNe, hm2⟩
      · refine .inr ⟨hl', c2, hc2, hc2'.sameBut hs' fun q => hz ?_⟩
        subst q
        exact ho.inj z y _ hcO hc2 hc
    · obtain ⟨o', ho', hd⟩ := hu
      rw [e', ho'] at e; cases e
      exact b.noCell hd

theorem SR.store (x : SR prog w T g₀ env Own s₀ G₀ σ its G s) {y : Str} {v : Value} {sl : Slot} {own : Bool} {Q : Unit → Shared → Prop} (hv : EnvOk sc env) (ho : OwnOk sc env Own) (hown : own = true → Own ≠ []) (hy : stO sc own y = true)
    (hs : SlotR prog w env its s₀ G s.heap v sl) (uniq : ∀ d, sl = .live d → ∀ z d', z ≠ y → σ.lookup z = some (.live d') → ¬ Holds env s.heap z v)
    (h : ∀ s', SR prog w T g₀ env Own s₀ G₀ (put y sl σ) its G s' → Q () s') : wpAny (model prog w) A (storeName env y v) Q E s := x.store2 hv ho hown hy hs uniq fun s' a _ _ => h s' a

theorem SR.storeVal (x : SR prog w T g₀ env Own s₀ G₀ σ its G s) {y : Str} {v : Value} {own : Bool} {Q : Unit → Shared → Prop} (hv : EnvOk sc env) (ho : OwnOk sc env Own) (hown : own = true → Own ≠ []) (hy : stO sc own y = true)
    (hs : Is prog w G v d) (h : ∀ s', SR prog w T g₀ env Own s₀ G₀ (put y (.val d) σ) its G s' → Q () s') : wpAny (model prog w) A (storeName env y v) Q E s :=
  x.store hv ho hown hy (sl := .val d) hs (fun d e => by cases e) h

noncomputable def nameOf : PySem.Expr → Option Str
  | .Name x _ => some x
  | _ => none
theorem nameOf_some {e : PySem.Expr} {x : Str} (h : nameOf e = some x) : ∃ p, e = .Name x p := by
  cases e <;> first | (cases h; exact ⟨_, rfl⟩) | cases h
noncomputable def two? {α : Type} : List α → Option (α × α)
  | [a, b] => some (a, b)
  | _ => none
theorem two_some {α : Type} {l : List α} {q : α × α} (h : two? l = some q) : l = [q.1, q.2] := by
  match l, h with
  | [a, b], h => cases h; rfl
noncomputable def tupD : D → Option (List D)
  | .tup l => some l
  | _ => none
theorem tupD_some {d : D} {l : List D} (h : tupD d = some l) : d = .tup l := by
  cases d <;> first | (cases h; rfl) | cases h
/-- a target bound -/
noncomputable def bindT (sc : Scope) (own : Bool) (tgt : PySem.Expr) (d : D) (σ : List (Str × Slot)) : Option (List (Str × Slot)) := match tgt with
  | .Name x _ => if stO sc own x then some (put x (.val d) σ) else none
  | .Tuple ts _ _ => (two? ts).bind fun t => (nameOf t.1).bind fun x => (nameOf t.2).bind fun y => (tupD d).bind fun l => (two? l).bind fun d' =>
    if stO sc own x && stO sc own y then some (put y (.val d'.2) (put x (.val d'.1) σ)) else none
  | _ => none
theorem bindT_cases {own : Bool} {tgt : PySem.Expr} {d : D} {σ σ' : List (Str × Slot)} (h : bindT sc own tgt d σ = some σ') :
    (∃ x p, tgt = .Name x p ∧ stO sc own x = true ∧ σ' = put x (.val d) σ) ∨ (∃ x p y q k p' d₁ d₂, tgt = .Tuple [.Name x p, .Name y q] k p' ∧ d = .tup [d₁, d₂] ∧ stO sc own x = true ∧ stO sc own y = true ∧ σ' = put y (.val d₂) (put x (.val d₁) σ)) := by
  cases tgt with
  | Name x p =>
    by_cases q : stO sc own x = true
    · replace h : (if stO sc own x = true then some (put x (.val d) σ) else none) = some σ' := h
      rw [if_pos q] at h; cases h; exact .inl ⟨_, _, rfl, q, rfl⟩
    · replace h : (if stO sc own x = true then some (put x (.val d) σ) else none) = some σ' := h
      rw [if_neg q] at h; cases h
  | Tuple ts k p' =>
    obtain ⟨t, h1, h⟩ := Option.bind_eq_some_iff.mp h
    obtain ⟨x, h2, h⟩ := Option.bind_eq_some_iff.mp h
    obtain ⟨y, h3, h⟩ := Option.bind_eq_some_iff.mp h
    obtain ⟨l, h4, h⟩ := Option.bind_eq_some_iff.mp h
    obtain ⟨d', h5, h⟩ := Option.bind_eq_some_iff.mp h
    obtain ⟨p, e1⟩ := nameOf_some h2
    obtain ⟨q, e2⟩ := nameOf_some h3
    have e3 := two_some h1
    have e4 := two_some h5
    have e5 := tupD_some h4
    rw [e1, e2] at e3
    rw [e4] at e5
    by_cases q2 : (stO sc own x && stO sc own y) = true
    · rw [if_pos q2] at h; cases h
      rw [Bool.and_eq_true] at q2
      exact .inr ⟨x, p, y, q, k, p', d'.1, d'.2, by rw [e3], e5, q2.1, q2.2, rfl⟩
    · rw [if_neg q2] at h; cases h
  | _ => cases h
theorem SR.bind {σ' : List (Str × Slot)} (x : SR prog w T g₀ env Own s₀ G₀ σ its G s) {v : Value} {own : Bool} {Q : Unit → Shared → Prop} (a : AOk n A) (hv : EnvOk sc env) (ho : OwnOk sc env Own) (hown : own = true → Own ≠ []) (hb : bindT sc own tgt d σ = some σ')
    (hs : Is prog w G v d) (h : ∀ s', SR prog w T g₀ env Own s₀ G₀ σ' its G s' → Q () s') : wpAny (model prog w) A (assign tgt env v) Q E s := by
  rcases bindT_cases hb with ⟨y, p, rfl, h1, rfl⟩ | ⟨y, p, z, q, k, p', d1, d2, rfl, rfl, h1, h2, rfl⟩
  · exact wpAny_assign_Name (x.storeVal hv ho hown h1 hs h)
  · obtain ⟨b, o, vs, m, rfl, e, hm, c, dd, r⟩ := hs.tup_inv
    obtain ⟨v1, v2, rfl, i1, i2⟩ := r.two
    refine assign_Tuple_tuple a.handled (x.good.isTup e c dd) rfl rfl fun h' hk => ?_
    have y1 : St T g₀ G s G { s with heap := h' } := St.keep (tk := s.toks) x.good fun b o e => hk b o (Nat.ne_of_lt (Heap.lt_size e)) e
    have x1 := x.st y1
    show wpAny _ A (assignInOrder [assign (.Name y p) env, assign (.Name z q) env] [v1, v2]) _ _ _
    refine wpAny_bind (wpAny_holding (wpAny_assign_Name (x1.storeVal hv ho hown h1 i1 fun s2 x2 => ?_)))
    refine wpAny_bind (wpAny_holding (wpAny_assign_Name (x2.storeVal hv ho hown h2 i2 fun s3 x3 => ?_)))
    exact wpAny_pure (h _ x3)
end
end Mine

namespace Mine

/-- what a comprehension does behind its clauses' tests -/
noncomputable def compRest (e elt : PySem.Expr) (gens : List Comprehension) (depth : Nat) (acc : Value) (env : Env) : Sem Unit :=
  match gens[depth]? with
  | some g' => do
    let x ← eval g'.iter env
    standAt g'.iter.pos
    let x ← if g'.is_async != 0 then foldedIterable g'.iter x else foldedSetIterable g'.iter env x
    let _ ← runOwn (.compStart e depth (← holding [x] (if g'.is_async != 0 then asyncIter x else pyIter x)) acc env) env
  | none => do let _ ← call (.builtin "list.append") [acc, ← eval elt env]

theorem compTurn_at (elt : PySem.Expr) (gens : List Comprehension) (scope : Scope) (pos : Pos) (depth : Nat) (it acc : Value) (env : Env) (target iter : PySem.Expr) (ifs : List PySem.Expr) (hg : gens[depth]? = some ⟨target, iter, ifs, 0⟩) :
    compTurn (.ListComp elt gens scope pos) depth it acc env = (do
      standAt iter.pos
      match ← pyNext it with
      | none => pure (.done .next)
      | some v =>
        letOwnedTupleGo target it v
        assign target env v
        let mut ok := true
        for c in ifs do
          if ok then ok ← isTrue c env (eval c env)
        if ok then
          compRest (.ListComp elt gens scope pos) elt gens (depth + 1) acc env
        again (.compLoop (.ListComp elt gens scope pos) depth it acc env)) := by
  unfold compTurn compRest
  simp only [hg]
  cases hd : gens[depth + 1]? with
  | none =>
    simp
    congr 1
  | some g' =>
    by_cases ha : g'.is_async = 0
    · simp [ha]
      congr 1
    · simp [ha]
      congr 1

section
variable {prog : Program} {w : World} {A : Around} {E : Value → Shared → Prop} {R : Result → Shared → Prop} {s : Shared}
theorem compStart_at {elt : PySem.Expr} {gens : List Comprehension} {depth : Nat} {target iter : PySem.Expr} {ifs : List PySem.Expr} {scope pos it acc env} (hg : gens[depth]? = some ⟨target, iter, ifs, 0⟩)
    (h0 : codeAny (model prog w) A (.compLoop (.ListComp elt gens scope pos) depth it acc env) R s)
    (h : wpAny (model prog w) A (pyIter it) (fun it' s' => codeAny (model prog w) A (.compLoop (.ListComp elt gens scope pos) depth it' acc env) R s')
      (notedBy (model prog w) A env fun x s' => R (.error x) s') s) :
    codeAny (model prog w) A (.compStart (.ListComp elt gens scope pos) depth it acc env) R s := by
  refine codeAny_of_tree ?_
  show wpAny _ _ ((compStart (.ListComp elt gens scope pos) depth it acc env).onRaise (fun x => do noteFrame x env; standAt theWindowsPlace)) _ _ s
  refine wpAny_notedAt ?_
  unfold compStart
  have hc : (clausesOf (.ListComp elt gens scope pos))[depth]? = some ⟨target, iter, ifs, 0⟩ := hg
  rw [hc]
  show wpAny _ _ (ask >>= _) _ _ s
  refine wpAny_bind (wpAny_askSetting (wpAny_ite ?_))
  split
  · first
      | exact wpAny_bind (wpAny_pure (wpAny_pure (And.intro rfl h0)))
      | exact wpAny_pure (And.intro rfl h0)
  · first
      | exact wpAny_bind (wpAny_rule (wpAny_bind (wpAny_standAt (wpAny_bind (wpAny_mono h (fun it' s' h' => wpAny_pure (And.intro rfl h')) fun _ _ x => x)))))
      | (refine wpAny_bind (wpAny_rule ?_); show wpAny _ _ (standAt iter.pos >>= _) _ _ s; exact wpAny_bind (wpAny_standAt (wpAny_bind (wpAny_mono h (fun it' s' h' => wpAny_pure (And.intro rfl h')) fun _ _ x => x))))
end

noncomputable def lstO (vs : List Value) (m : Nat) : Obj := { cls := .type "list", data := .seq vs.toArray m }

section
variable (prog : Program) (w : World) (T : Tabs) (g₀ : Heap)
/-- a comprehension's tests -/
noncomputable def TLs (n : Nat) (sc : Scope) (σ : List (Str × Slot)) (ifs : List PySem.Expr) (b : Bool) : Prop :=
  ∀ (A : Around) (env : Env) (s : Shared) (G : Gh), AOk n A → EnvOk sc env → SE prog w T g₀ env σ G s.heap →
    wpAny (model prog w) A (forIn ifs true fun c r => if r = true then do let ok ← isTrue c env (eval c env); pure (ForInStep.yield ok) else pure (ForInStep.yield r)) (fun ok s' => ok = b ∧ ∃ G', St T g₀ G s G' s') (fun _ _ => False) s
noncomputable def CPost (env : Env) (s₀ : Shared) (G₀ : Gh) (σ' : List (Str × Slot)) (its : List (Addr × Obj)) (D' : Addr) (G : Gh) (acc' : List D) (s' : Shared) : Prop :=
  ∃ G' vs' m', G.le G' ∧ SR prog w T g₀ env [] s₀ G₀ σ' ((D', lstO vs' m') :: its) G' s' ∧ IsAll prog w G' vs' acc'
/-- from a clause on -/
noncomputable def CRs (n : Nat) (sc : Scope) (e elt : PySem.Expr) (gens : List Comprehension) (depth : Nat) (σ : List (Str × Slot)) (acc : List D) (σ' : List (Str × Slot)) (acc' : List D) : Prop :=
  ∀ (A : Around) (env : Env) (s₀ : Shared) (G₀ G : Gh) (s : Shared) (its : List (Addr × Obj)) (D' : Addr) (vs : List Value) (m : Nat), AOk n A → EnvOk sc env → SR prog w T g₀ env [] s₀ G₀ σ ((D', lstO vs m) :: its) G s → IsAll prog w G vs acc →
    wpAny (model prog w) A (compRest e elt gens depth (.ref D') env) (fun _ s' => CPost prog w T g₀ env s₀ G₀ σ' its D' G acc' s') (fun _ _ => False) s
noncomputable def StepR (n : Nat) (sc : Scope) (e elt : PySem.Expr) (gens : List Comprehension) (depth : Nat) (tgt : PySem.Expr) (ifs : List PySem.Expr) (d : D) (σ : List (Str × Slot)) (acc : List D) (σ' : List (Str × Slot)) (acc' : List D) : Prop :=
  ∃ σ₁, bindT sc false tgt d σ = some σ₁ ∧ ((TLs prog w T g₀ n sc σ₁ ifs true ∧ CRs prog w T g₀ n sc e elt gens (depth + 1) σ₁ acc σ' acc') ∨ (TLs prog w T g₀ n sc σ₁ ifs false ∧ σ' = σ₁ ∧ acc' = acc))
inductive Steps (n : Nat) (sc : Scope) (e elt : PySem.Expr) (gens : List Comprehension) (depth : Nat) (tgt : PySem.Expr) (ifs : List PySem.Expr) : List D → List (Str × Slot) → List D → List (Str × Slot) → List D → Prop
  | nil {σ : List (Str × Slot)} {acc : List D} : Steps n sc e elt gens depth tgt ifs [] σ acc σ acc
  | cons {d : D} {ds : List D} {σ σ₁ σ₂ : List (Str × Slot)} {acc acc₁ acc₂ : List D} : StepR prog w T g₀ n sc e elt gens depth tgt ifs d σ acc σ₁ acc₁ → Steps n sc e elt gens depth tgt ifs ds σ₁ acc₁ σ₂ acc₂ → Steps n sc e elt gens depth tgt ifs (d :: ds) σ acc σ₂ acc₂
end

section
variable {prog : Program} {w : World} {T : Tabs} {g₀ : Heap} {mg mb : Str → Option Value} {n : Nat} {sc : Scope} {σ σ' : List (Str × Slot)} {e l r i tgt elt iter : PySem.Expr} {d d₁ d₂ : D} {es ifs : List PySem.Expr} {ds acc acc' : List D} {pos apos : Pos} {gens : List Comprehension} {depth : Nat} {scope : Scope}
variable {A : Around} {env : Env} {Own : List Addr} {its : List (Addr × Obj)} {s₀ s s₁ s₂ : Shared} {G₀ G G₁ G₂ : Gh} {I : Addr} {E : Value → Shared → Prop}

theorem OwnOk.none : OwnOk sc env [] := ⟨fun h => absurd rfl h, fun _ _ _ h => by cases h⟩
theorem SR.perm {its' : List (Addr × Obj)} (x : SR prog w T g₀ env Own s₀ G₀ σ its G s) (hp : its.Perm its') : SR prog w T g₀ env Own s₀ G₀ σ its' G s where
  same := x.same
  kp := x.kp
  gx := x.gx
  good := x.good
  loc := x.loc
  locOff := ⟨x.locOff.1, x.locOff.2.1, fun p h => x.locOff.2.2 p (hp.mem_iff.mpr h)⟩
  own := x.own
  ownOff := fun c hc => ⟨(x.ownOff c hc).1, (x.ownOff c hc).2.1, fun p h => (x.ownOff c hc).2.2 p (hp.mem_iff.mpr h)⟩
  going := fun p h => x.going p (hp.mem_iff.mpr h)
  nodup := (hp.map _).nodup_iff.mp x.nodup
  rd := fun z sl e => by
    obtain ⟨v, hv, hs⟩ := x.rd z sl e
    refine ⟨v, hv, ?_⟩
    cases sl with
    | val d => exact hs
    | live d => obtain ⟨l, o', rfl, t⟩ := hs; exact ⟨l, o', rfl, ⟨t.get, t.mods, t.cls, t.body, t.off, t.loc, t.fresh, fun p h => t.going p (hp.mem_iff.mpr h), t.plain⟩⟩
  inj := x.inj
theorem SR.swap {p q : Addr × Obj} (x : SR prog w T g₀ env Own s₀ G₀ σ (p :: q :: its) G s) : SR prog w T g₀ env Own s₀ G₀ σ (q :: p :: its) G s := x.perm (.swap _ _ _)

theorem tl_nil : TLs prog w T g₀ n sc σ [] true := fun A env s G a v x => wpAny_pure ⟨rfl, G, St.refl x.good⟩
theorem tl_true {c : PySem.Expr} {b : Bool} (h : TRs prog w T g₀ n sc σ c true) (r : TLs prog w T g₀ n sc σ ifs b) : TLs prog w T g₀ n sc σ (c :: ifs) b := fun A env s G a v x => by
  rw [List.forIn_cons, if_pos rfl]
  refine wpAny_bind (wpAny_bind (h.use a v x fun s₁ G₁ y x₁ => wpAny_pure ?_))
  exact wpAny_mono (r A env s₁ G₁ a v x₁) (fun ok s₂ ⟨h1, G₂, y₂⟩ => ⟨h1, G₂, y.trans y₂⟩) fun _ _ f => f
theorem tl_done {env : Env} {Q : Bool → Shared → Prop} (h : Q false s) : ∀ (ifs : List PySem.Expr), wpAny (model prog w) A (forIn ifs false fun c r => if r = true then do let ok ← isTrue c env (eval c env); pure (ForInStep.yield ok) else pure (ForInStep.yield r)) Q E s
  | [] => wpAny_pure h
  | c :: cs => by
    rw [List.forIn_cons, if_neg (by simp)]
    exact wpAny_bind (wpAny_pure (tl_done h cs))
theorem tl_false {c : PySem.Expr} (h : TRs prog w T g₀ n sc σ c false) : TLs prog w T g₀ n sc σ (c :: ifs) false := fun A env s G a v x => by
  rw [List.forIn_cons, if_pos rfl]
  refine wpAny_bind (wpAny_bind (h.use a v x fun s₁ G₁ y x₁ => wpAny_pure ?_))
  exact tl_done ⟨rfl, G₁, y⟩ ifs
theorem TLs.use {b : Bool} {Q : Bool → Shared → Prop} (H : TLs prog w T g₀ n sc σ ifs b) (a : AOk n A) (v : EnvOk sc env) (x : SE prog w T g₀ env σ G s.heap)
    (k : ∀ s₁ G₁, St T g₀ G s G₁ s₁ → Q b s₁) : wpAny (model prog w) A (forIn ifs true fun c r => if r = true then do let ok ← isTrue c env (eval c env); pure (ForInStep.yield ok) else pure (ForInStep.yield r)) Q E s :=
  wpAny_mono (H A env s G a v x) (fun c s₁ ⟨hc, G₁, y⟩ => by subst hc; exact k s₁ G₁ y) fun _ _ f => f.elim

theorem cr_elt (hg : gens[depth]? = none) (h : EVs prog w T g₀ n sc σ elt d) (hz : acc.length ≤ 1000) : CRs prog w T g₀ n sc e elt gens depth σ acc σ (acc ++ [d]) := fun A env s₀ G₀ G s its D' vs m a v x ha => by
  unfold compRest
  rw [hg]
  refine wpAny_bind (h.use a v x.se fun u s₁ G₁ y z x₁ => ?_)
  have x1 := x.st y
  obtain ⟨g1, g2, g3, g4⟩ := x1.going (D', lstO vs m) (.head _)
  have hpl : s₁.heap.PlainList D' vs.toArray := ⟨m, g1⟩
  refine wpAny_bind (wpAny_list_append_plain (hsz := by rw [List.size_toArray, ha.length, sizeLine_eq]; omega) hpl fun h' hl' hs' => wpAny_pure ?_)
  obtain ⟨m', hm'⟩ := hl'
  have good' : Good T g₀ G₁ h' := x1.good.ext hs'.extBut g3 g2
  have yW : StW T g₀ [D'] G₁ s₁ G₁ { s₁ with heap := h' } := ⟨⟨h', s₁.toks, rfl⟩, Kp.ext hs'.extBut (.head _), GX.refl _ _, good'⟩
  have hm2 : h'.get? D' = some (lstO (vs ++ [u]) m') := by rw [hm']; simp [lstO]
  refine ⟨G₁, vs ++ [u], m', y.gx.le, x1.move yW g4 g3 (fun q => x1.locOff.2.2 _ (.head _) q) (fun o u' e q => by rw [g1] at e; cases e; simp [lstO] at q) rfl (fun p hp => ?_) (fun z dz ez H => ?_), (IsAll.mono y.gx.le ha).append (.cons z .nil)⟩
  · rcases List.mem_cons.mp hp with rfl | hp
    · exact hm2
    · have nd := x1.nodup
      rw [List.map_cons, List.nodup_cons] at nd
      exact hs'.extBut _ _ (fun q => nd.1 (List.mem_map.mpr ⟨p, hp, q⟩)) (x1.going p (.tail _ hp)).1
  · obtain ⟨v', hv', hs⟩ := x1.rd z _ ez
    obtain ⟨l, o, rfl, t⟩ := hs
    have := hv'.agree H
    cases this
    exact t.going _ (.head _) rfl

theorem Steps.drop {i : Nat} {d : D} (h : Steps prog w T g₀ n sc e elt gens depth tgt ifs (ds.drop i) σ acc σ' acc') (hd : ds[i]? = some d) :
    ∃ σ₁ acc₁, StepR prog w T g₀ n sc e elt gens depth tgt ifs d σ acc σ₁ acc₁ ∧ Steps prog w T g₀ n sc e elt gens depth tgt ifs (ds.drop (i + 1)) σ₁ acc₁ σ' acc' := by
  obtain ⟨hlt, rfl⟩ := List.getElem?_eq_some_iff.mp hd
  rw [List.drop_eq_getElem_cons hlt] at h
  cases h with
  | cons a b => exact ⟨_, _, a, b⟩
theorem Steps.end (h : Steps prog w T g₀ n sc e elt gens depth tgt ifs (ds.drop ds.length) σ acc σ' acc') : σ' = σ ∧ acc' = acc := by
  rw [List.drop_length] at h
  cases h; exact ⟨rfl, rfl⟩

/-- a clause's loop -/
theorem comp_loop {S : Nat → Gh → Heap → Prop} {R : Result → Shared → Prop} {D' : Addr} {vs : List Value} {m : Nat} {oI : Obj} (hg : gens[depth]? = some ⟨tgt, iter, ifs, 0⟩) (a : AOk n A) (hv : EnvOk sc env)
    (hI : Iter prog w T g₀ A tgt I ds S) (h : Steps prog w T g₀ n sc (.ListComp elt gens scope pos) elt gens depth tgt ifs ds σ acc σ' acc')
    (x : SR prog w T g₀ env [] s₀ G₀ σ ((D', lstO vs m) :: (I, oI) :: its) G s) (ha : IsAll prog w G vs acc) (st : S 0 G s.heap)
    (hR : ∀ s', CPost prog w T g₀ env s₀ G₀ σ' its D' G acc' s' → R (.ok .next) s') :
    codeAny (model prog w) A (.compLoop (.ListComp elt gens scope pos) depth (.ref I) (.ref D') env) R s := by
  refine codeAny_loop rfl (fun k s' => ∃ i σi acci Gi vsi mi oi, G.le Gi ∧ SR prog w T g₀ env [] s₀ G₀ σi ((D', lstO vsi mi) :: (I, oi) :: its) Gi s' ∧ IsAll prog w Gi vsi acci ∧ S i Gi s'.heap ∧
    Steps prog w T g₀ n sc (.ListComp elt gens scope pos) elt gens depth tgt ifs (ds.drop i) σi acci σ' acc' ∧ i ≤ ds.length ∧ k = ds.length + 1 - i) (fun k s' hinv => ?_) (ds.length + 1)
    ⟨0, σ, acc, G, vs, m, oI, G.le_refl, x, ha, st, by simpa using h, Nat.zero_le _, rfl⟩
  obtain ⟨i, σi, acci, Gi, vsi, mi, oi, hle, xi, hai, hst, hsteps, hi, rfl⟩ := hinv
  show wpAny _ A ((compTurn (.ListComp elt gens scope pos) depth (.ref I) (.ref D') env).onRaise (fun x => do noteFrame x env; theTreesLotGoes x)) _ _ s'
  refine wpAny_noted ?_
  rw [compTurn_at _ _ _ _ _ _ _ _ _ _ _ hg]
  obtain ⟨i1, i2, i3, i4⟩ := xi.going (I, oi) (.tail _ (.head _))
  obtain ⟨oI', eI', fI'⟩ := hI.there i Gi _ hst
  have hnd := xi.nodup
  rw [List.map_cons, List.map_cons, List.nodup_cons, List.nodup_cons] at hnd
  have hlive : ∀ z dz, σi.lookup z = some (.live dz) → ¬ Holds env s'.heap z (.ref I) := fun z dz ez H => by
    obtain ⟨v', hv', hs⟩ := xi.rd z _ ez
    obtain ⟨l, o, rfl, t⟩ := hs
    have := hv'.agree H
    cases this
    exact t.going _ (.tail _ (.head _)) rfl
  -- a step of the iterator
  have step : ∀ (s₂ : Shared) (G₂ : Gh), StW T g₀ [I] Gi s' G₂ s₂ → (∃ o, s₂.heap.get? I = some o) → ∃ o, SR prog w T g₀ env [] s₀ G₀ σi ((D', lstO vsi mi) :: (I, o) :: its) G₂ s₂ := fun s₂ G₂ y ⟨o2, e2⟩ => by
    refine ⟨o2, xi.move y i4 (y.gx.off i3 i1) (fun q => xi.locOff.2.2 _ (.tail _ (.head _)) q) (fun o u e q => ?_) rfl (fun p hp => ?_) hlive⟩
    · rw [eI'] at e; cases e; obtain ⟨vs, hvs⟩ := fI'; rw [hvs] at q; cases q
    · rcases List.mem_cons.mp hp with rfl | hp
      · exact y.kp _ _ (fun q => hnd.1 (by rw [List.mem_singleton.mp q]; exact .head _)) (xi.going _ (.head _)).1
      · rcases List.mem_cons.mp hp with rfl | hp
        · exact e2
        · exact y.kp _ _ (fun q => hnd.2.1 (List.mem_map.mpr ⟨p, hp, List.mem_singleton.mp q⟩)) (xi.going p (.tail _ (.tail _ hp))).1
  by_cases hlt : i < ds.length
  · have hd : ds[i]? = some ds[i] := by simp [hlt]
    refine wpAny_bind (wpAny_standAt (wpAny_bind (wpAny_mono (hI.item i ds[i] s' Gi hd xi.good i3 i2 hst) (fun r s₁ hr => ?_) fun _ _ f => f.elim)))
    obtain ⟨v, rfl, hgo⟩ := hr
    obtain ⟨σ₁, acc₁, ⟨σb, hbind, hstep⟩, hrest⟩ := hsteps.drop hd
    refine wpAny_bind (wpAny_mono (hgo (fun _ s₂ => ∃ G₂, StW T g₀ [I] Gi s' G₂ s₂ ∧ Is prog w G₂ v ds[i] ∧ S (i + 1) G₂ s₂.heap) fun s₂ G₂ a b c => ⟨G₂, a, b, c⟩) (fun _ s₂ h₂ => ?_) fun _ _ f => f.elim)
    obtain ⟨G₂, y₂, hvd, hst₂⟩ := h₂
    obtain ⟨o2, e2, f2⟩ := hI.there _ _ _ hst₂
    obtain ⟨oi2, x₂⟩ := step s₂ G₂ y₂ ⟨o2, e2⟩
    refine wpAny_bind (x₂.bind (own := false) a hv .none (fun q => by cases q) hbind hvd fun s₃ x₃ => ?_)
    have hle2 : Gi.le G₂ := y₂.gx.le
    -- the state kept through the body
    have again' : ∀ (s₄ : Shared) (G₄ : Gh) (σ₄ : List (Str × Slot)) (acc₄ : List D) (vs₄ : List Value) (m₄ : Nat), G₂.le G₄ → SR prog w T g₀ env [] s₀ G₀ σ₄ ((D', lstO vs₄ m₄) :: (I, oi2) :: its) G₄ s₄ → IsAll prog w G₄ vs₄ acc₄ →
        Steps prog w T g₀ n sc (.ListComp elt gens scope pos) elt gens depth tgt ifs (ds.drop (i + 1)) σ₄ acc₄ σ' acc' →
        ∃ m, m < ds.length + 1 - i ∧ ∃ i σi acci Gi vsi mi oi, G.le Gi ∧ SR prog w T g₀ env [] s₀ G₀ σi ((D', lstO vsi mi) :: (I, oi) :: its) Gi s₄ ∧ IsAll prog w Gi vsi acci ∧ S i Gi s₄.heap ∧
          Steps prog w T g₀ n sc (.ListComp elt gens scope pos) elt gens depth tgt ifs (ds.drop i) σi acci σ' acc' ∧ i ≤ ds.length ∧ m = ds.length + 1 - i := fun s₄ G₄ σ₄ acc₄ vs₄ m₄ l4 x4 h4 st4 => by
      refine ⟨ds.length + 1 - (i + 1), by omega, i + 1, σ₄, acc₄, G₄, vs₄, m₄, oi2, Gh.le_trans hle (Gh.le_trans hle2 l4), x4, h4, hI.frame _ G₂ G₄ _ _ hst₂ l4 x4.good.sub fun o e => ?_, st4, hlt, rfl⟩
      have e3 := (x₂.going (I, oi2) (.tail _ (.head _))).1
      rw [e3] at e; cases e
      exact (x4.going (I, oi2) (.tail _ (.head _))).1
    rcases hstep with ⟨ht, hc⟩ | ⟨ht, rfl, rfl⟩
    · refine wpAny_bind (ht.use a hv x₃.se fun s₄ G₄ y₄ => ?_)
      have x₄ := x₃.st y₄
      simp only [if_true]
      refine wpAny_bind (wpAny_mono (hc A env s₀ G₀ G₄ s₄ _ D' vsi mi a hv x₄ (IsAll.mono (Gh.le_trans hle2 y₄.gx.le) hai)) (fun _ s₅ h₅ => ?_) fun _ _ f => f.elim)
      obtain ⟨G₅, vs₅, m₅, l5, x5, a5⟩ := h₅
      exact wpAny_pure ⟨rfl, again' s₅ G₅ _ _ vs₅ m₅ (Gh.le_trans y₄.gx.le l5) x5 a5 hrest⟩
    · refine wpAny_bind (ht.use a hv x₃.se fun s₄ G₄ y₄ => ?_)
      have x₄ := x₃.st y₄
      simp only [Bool.false_eq_true, if_false]
      exact wpAny_pure ⟨rfl, again' s₄ G₄ _ _ vsi mi y₄.gx.le x₄ (IsAll.mono (Gh.le_trans hle2 y₄.gx.le) hai) hrest⟩
  · have hin : i = ds.length := by omega
    subst hin
    refine wpAny_bind (wpAny_standAt (wpAny_bind (wpAny_mono (hI.done s' Gi xi.good i3 i2 hst) (fun r s₁ hr => ?_) fun _ _ f => f.elim)))
    obtain ⟨rfl, y⟩ := hr
    refine wpAny_pure (hR _ ?_)
    obtain ⟨rfl, rfl⟩ := hsteps.end
    refine ⟨Gi, vsi, mi, hle, xi.swap.pop.move y i4 (y.gx.off i3 i1) (fun q => xi.locOff.2.2 _ (.tail _ (.head _)) q) (fun o u e q => ?_) rfl (fun p hp => ?_) hlive, hai⟩
    · rw [eI'] at e; cases e; obtain ⟨vs, hvs⟩ := fI'; rw [hvs] at q; cases q
    · rcases List.mem_cons.mp hp with rfl | hp
      · exact y.kp _ _ (fun q => hnd.1 (by rw [List.mem_singleton.mp q]; exact .head _)) (xi.going _ (.head _)).1
      · exact y.kp _ _ (fun q => hnd.2.1 (List.mem_map.mpr ⟨p, hp, List.mem_singleton.mp q⟩)) (xi.going p (.tail _ (.tail _ hp))).1
end
end Mine

namespace Mine

section
variable {prog : Program} {w : World} {T : Tabs} {g₀ : Heap} {mg mb : Str → Option Value} {n : Nat} {sc : Scope} {σ σ' : List (Str × Slot)} {e l r i tgt elt iter : PySem.Expr} {d d₁ d₂ : D} {es ifs : List PySem.Expr} {ds acc acc' : List D} {pos apos : Pos} {gens gs : List Comprehension} {depth : Nat} {scope : Scope}
variable {A : Around} {env : Env} {Own : List Addr} {its : List (Addr × Obj)} {s₀ s s₁ s₂ : Shared} {G₀ G G₁ G₂ : Gh} {I : Addr} {E : Value → Shared → Prop}

theorem cr_clause (hg : gens[depth]? = some ⟨tgt, iter, ifs, 0⟩) (hf : ∀ env x, foldedSetIterable iter env x = pure x) (hi : ITs prog w T g₀ n sc σ iter tgt ds)
    (h : Steps prog w T g₀ n sc (.ListComp elt gens scope pos) elt gens depth tgt ifs ds σ acc σ' acc') : CRs prog w T g₀ n sc (.ListComp elt gens scope pos) elt gens depth σ acc σ' acc' := fun A env s₀ G₀ G s its D' vs m a v x ha => by
  unfold compRest
  rw [hg]
  refine wpAny_bind (wpAny_mono (hi A env s G a v x.se) (fun xv s₁ h₁ => ?_) fun _ _ f => f.elim)
  refine wpAny_bind (wpAny_standAt ?_)
  rw [if_neg (by simp), hf env xv]
  refine wpAny_bind (wpAny_pure ?_)
  dsimp only
  rw [if_neg (by simp)]
  refine wpAny_bind (wpAny_holding (wpAny_mono h₁ (fun it s₂ h₂ => ?_) fun _ _ f => f.elim))
  obtain ⟨I, G₂, S, rfl, y, hI0, hIt, hIs, hIter, hS⟩ := h₂
  obtain ⟨oI, eI, fI⟩ := hIter.there 0 G₂ _ hS
  have x₂ := (x.push y hIs eI hIt hI0).swap
  have loop : codeAny (model prog w) A (.compLoop (.ListComp elt gens scope pos) depth (.ref I) (.ref D') env) (fun r s' => match r with | .ok _ => CPost prog w T g₀ env s₀ G₀ σ' its D' G acc' s' | .error e => False) s₂ :=
    comp_loop hg a v hIter h x₂ (IsAll.mono y.gx.le ha) hS fun s' ⟨G', vs', m', l, x', a'⟩ => ⟨G', vs', m', Gh.le_trans y.gx.le l, x', a'⟩
  refine wpAny_bind (wpAny_runOwn (codeAny_mono (compStart_at (R := fun r s' => match r with | .ok _ => CPost prog w T g₀ env s₀ G₀ σ' its D' G acc' s' | .error e => False) hg loop ?_) fun r s' hr => ?_))
  · exact wpAny_mono (hIter.self 0 G₂ s₂ _ hS loop) (fun _ _ q => q) fun _ _ f => f.elim
  · cases r with
    | ok f => exact wpAny_pure hr
    | error e => exact hr.elim

/-- what a comprehension's frame sees of the frame around -/
noncomputable def seen (sc' : Scope) (σ : List (Str × Slot)) : List (Str × Slot) := sc'.names.filterMap fun p => if p.2 == .free then (match lk p.1 σ with | some (.val d) => some (p.1, .val d) | _ => none) else none
noncomputable def freeOk (sc sc' : Scope) (σ : List (Str × Slot)) : Bool :=
  sc'.names.all fun p => p.2 != .free || ((lk p.1 sc.names == some .cell || lk p.1 sc.names == some .free) && (lk p.1 σ).isSome)
noncomputable def namesOk (sc' : Scope) : Bool := sc'.kind == .function && sc'.names.all fun p => p.2 != .cell && (p.2 != .local || lk p.1 sc'.names == some .local) && (p.2 != .free || lk p.1 sc'.names == some .free)
noncomputable def relabelS (sc' sc : Scope) : Scope :=
  { sc' with names := sc'.names.map fun (n, k) => if (k == .free && sc.kind == .function && sc.names.lookup n == some .cell) then (n, .cell) else (n, k) }
theorem relabelS_eq (hv : EnvOk sc env) (scope : Scope) : relabel scope env = relabelS scope sc := by
  unfold relabel relabelS Env.kindOf
  rw [hv.scope]
theorem seen_mem {σ : List (Str × Slot)} {x : Str} {sl : Slot} : ∀ {names : List (Str × NameKind)}, (names.filterMap fun p => if p.2 == .free then (match lk p.1 σ with | some (.val d) => some (p.1, .val d) | _ => none) else none).lookup x = some sl →
    (x, NameKind.free) ∈ names ∧ σ.lookup x = some sl ∧ ∃ d, sl = .val d
  | [], h => by simp at h
  | (y, k) :: r, h => by
    rw [List.filterMap_cons] at h
    split at h
    · obtain ⟨a, b⟩ := seen_mem h; exact ⟨.tail _ a, b⟩
    · rename_i b hb
      by_cases hk : (k == NameKind.free) = true
      · rw [if_pos hk] at hb
        dsimp only at hb
        split at hb
        · rename_i d hd
          cases hb
          rw [List.lookup_cons] at h
          split at h
          · rename_i hxy
            cases h
            have e : x = y := by simpa using hxy
            subst e
            have e2 : k = NameKind.free := by simpa using hk
            subst e2
            rw [lk_eq] at hd
            exact ⟨.head _, hd, d, rfl⟩
          · obtain ⟨a, b⟩ := seen_mem h; exact ⟨.tail _ a, b⟩
        · cases hb
      · rw [if_neg hk] at hb; cases hb
theorem relabel_free {names : List (Str × NameKind)} {x : Str} (a : Bool) (f : Str → Bool) (h : names.lookup x = some .free) :
    (names.map fun (n, k) => if (k == NameKind.free && a && f n) then (n, NameKind.cell) else (n, k)).lookup x = some .cell ∨ (names.map fun (n, k) => if (k == NameKind.free && a && f n) then (n, NameKind.cell) else (n, k)).lookup x = some .free := by
  induction names with
  | nil => simp at h
  | cons p r ih =>
    obtain ⟨n, k⟩ := p
    rw [List.map_cons]
    rw [List.lookup_cons] at h
    split at h
    · rename_i hx
      cases h
      dsimp only
      by_cases hf : (NameKind.free == NameKind.free && a && f n) = true
      · left; rw [if_pos hf, List.lookup_cons, hx]
      · right; rw [if_neg hf, List.lookup_cons, hx]
    · rename_i hx
      have := ih h
      have e : ∀ (z : Str × NameKind), z.1 = n → List.lookup x (z :: r.map fun (n, k) => if (k == NameKind.free && a && f n) then (n, NameKind.cell) else (n, k)) = List.lookup x (r.map fun (n, k) => if (k == NameKind.free && a && f n) then (n, NameKind.cell) else (n, k)) := fun z hz => by
        obtain ⟨z1, z2⟩ := z
        cases hz
        rw [List.lookup_cons, hx]
      dsimp only
      split
      · rw [e _ rfl]; exact this
      · rw [e _ rfl]; exact this

/-- the closure's cells -/
theorem closure_ok {names : List (Str × NameKind)} (h : ∀ p ∈ names, p.2 = .free → ∃ c, env.cells.lookup p.1 = some c) : ∀ (acc : List (Str × Addr)),
    ∃ cl, (forIn names acc fun (p : Str × NameKind) (cs : List (Str × Addr)) => (if (p.2 == .free) = true then do let c ← cellOf env p.1; pure (ForInStep.yield ((p.1, c) :: cs)) else pure (ForInStep.yield cs) : Sem (ForInStep (List (Str × Addr))))) = pure cl ∧
      (∀ x, (x, NameKind.free) ∈ names → cl.lookup x = env.cells.lookup x) ∧ ∀ x, (x, NameKind.free) ∉ names → cl.lookup x = acc.lookup x := by
  induction names with
  | nil => intro acc; exact ⟨acc, rfl, fun x hx => (by cases hx), fun x _ => rfl⟩
  | cons p r ih =>
    intro acc
    obtain ⟨n, k⟩ := p
    by_cases hk : k = .free
    · subst hk
      obtain ⟨c, hc⟩ := h (n, .free) (.head _) rfl
      obtain ⟨cl, e, h1, h2⟩ := ih (fun p hp => h p (.tail _ hp)) ((n, c) :: acc)
      refine ⟨cl, ?_, fun x hx => ?_, fun x hx => ?_⟩
      · rw [List.forIn_cons]
        have e0 : cellOf env n = pure c := by unfold cellOf; rw [hc]
        simp only [beq_self_eq_true, if_true, e0, pure_bind]
        exact e
      · by_cases hr : (x, NameKind.free) ∈ r
        · exact h1 x hr
        · rw [h2 x hr]
          rcases List.mem_cons.mp hx with q | q
          · cases q; rw [List.lookup_cons]; simp [hc]
          · exact absurd q hr
      · have hxr : (x, NameKind.free) ∉ r := fun q => hx (.tail _ q)
        rw [h2 x hxr, List.lookup_cons]
        have : (x == n) = false := by
          have : x ≠ n := fun q => hx (by rw [q]; exact .head _)
          simpa using this
        rw [this]
    · obtain ⟨cl, e, h1, h2⟩ := ih (fun p hp => h p (.tail _ hp)) acc
      refine ⟨cl, ?_, fun x hx => ?_, fun x hx => ?_⟩
      · rw [List.forIn_cons, if_neg (by simpa using hk), pure_bind]; exact e
      · rcases List.mem_cons.mp hx with q | q
        · cases q; exact absurd rfl hk
        · exact h1 x q
      · exact h2 x fun q => hx (.tail _ q)
theorem closureFor_ok (h : ∀ p ∈ scope.names, p.2 = .free → ∃ c, env.cells.lookup p.1 = some c) : ∃ cl, closureFor scope env = pure cl ∧ ∀ x, (x, NameKind.free) ∈ scope.names → cl.lookup x = env.cells.lookup x := by
  obtain ⟨cl, e, h1, _⟩ := closure_ok h []
  refine ⟨cl, ?_, h1⟩
  unfold closureFor
  simp only [bind_pure]
  exact e

theorem comp_core {cl : List (Str × Addr)} {R : Value → Addr → Result → Shared → Prop} (a : AOk n A) (hv : EnvOk sc env) (x : SE prog w T g₀ env σ G s.heap) (hfree : freeOk sc scope σ = true) (hnames : namesOk scope = true)
    (hcl : ∀ x, (x, NameKind.free) ∈ scope.names → cl.lookup x = env.cells.lookup x) (hi : ITs prog w T g₀ n sc σ iter tgt ds)
    (h : Steps prog w T g₀ n (relabelS scope sc) (.ListComp elt (⟨tgt, iter, ifs, 0⟩ :: gs) scope pos) elt (⟨tgt, iter, ifs, 0⟩ :: gs) 0 tgt ifs ds (seen scope σ) [] σ' acc')
    (hR : ∀ D' C G' vs m s', St T g₀ G s G' s' → (∃ mm, s'.heap.Ns C mm) → s.heap.get? C = none → G' C = none → D' ≠ C → s.heap.get? D' = none → G' D' = none → D' ∉ T.tb → s'.heap.get? D' = some (lstO vs m) → IsAll prog w G' vs acc' → R (.ref D') C (.ok .next) s') :
    wpAny (model prog w) A (eval iter env) (fun x s₁ => wpAny (model prog w) A (pyIter x) (fun it s₂ => wpAny (model prog w) A (newList []) (fun acc s₃ =>
      wpAny (model prog w) A (newFunctionEnv scope env.globals cl [] env.qual none .none (some env)) (fun cenv s₄ =>
        codeAny (model prog w) A (.compStart (.ListComp elt (⟨tgt, iter, ifs, 0⟩ :: gs) scope pos) 0 it acc { cenv with scope := relabel scope env }) (R acc cenv.locals) s₄) (fun _ _ => False) s₃) (fun _ _ => False) s₂) (fun _ _ => False) s₁) (fun _ _ => False) s := by
  unfold namesOk at hnames
  rw [Bool.and_eq_true, List.all_eq_true] at hnames
  obtain ⟨hkind, hall⟩ := hnames
  have hkind : scope.kind = .function := eq_of_beq hkind
  refine wpAny_mono (hi A env s G a hv x) (fun xv s₁ h₁ => wpAny_mono h₁ (fun it s₂ h₂ => ?_) fun _ _ f => f.elim) fun _ _ f => f.elim
  obtain ⟨I, G₂, S, rfl, y, hI0, hIt, hIs, hIter, hS⟩ := h₂
  obtain ⟨oI, eI, fI⟩ := hIter.there 0 G₂ _ hS
  have x₂ := x.st y
  refine wpAny_newObj_type (wpAny_newFunctionEnv (fun p hp => ?_) (by intro y hy; simp at hy) (fun h₁ hns₁ hsb₁ => ?_) hkind)
  · have := hall p hp
    intro q
    rw [q] at this
    simp at this
  dsimp only at hns₁ hsb₁ ⊢
  generalize hH2 : s₂.heap.push { cls := .type "list", dict := none, data := .seq ([] : List Value).toArray } = H2 at hns₁ hsb₁ ⊢
  have hC : H2.objs.size = s₂.heap.objs.size + 1 := by rw [← hH2, Heap.size_push]
  have hDC : s₂.heap.objs.size ≠ H2.objs.size := by rw [hC]; exact Nat.ne_of_lt (Nat.lt_succ_self _)
  have below : ∀ b, b < s₂.heap.objs.size → b ≠ H2.objs.size ∧ b ≠ s₂.heap.objs.size := fun b hb => ⟨by rw [hC]; exact Nat.ne_of_lt (Nat.lt_succ_of_lt hb), Nat.ne_of_lt hb⟩
  have old : ∀ b o, s₂.heap.get? b = some o → h₁.get? b = some o := fun b o e => hsb₁.extBut b o (below b (Heap.lt_size e)).1 (Heap.get?_push_of_some _ (hH2 ▸ Heap.get?_push_of_some _ e))
  have fresh : ∀ a, s₂.heap.objs.size ≤ a → s₂.heap.get? a = none := fun a ha => by
    cases e : s₂.heap.get? a with
    | none => rfl
    | some o' => exact absurd (Heap.lt_size e) (Nat.not_lt.mpr ha)
  have hDf := fresh _ (Nat.le_refl _)
  have hCf := fresh H2.objs.size (by rw [hC]; exact Nat.le_succ _)
  have hDo : h₁.get? s₂.heap.objs.size = some (lstO [] 0) := hsb₁.extBut _ _ hDC (Heap.get?_push_of_some _ (hH2 ▸ Heap.get?_push_size _ rfl))
  obtain ⟨gD, tD⟩ := x₂.good.new hDf
  obtain ⟨gC, tC⟩ := x₂.good.new hCf
  have nD := y.newOld hDf
  have nC := y.newOld hCf
  have hID : I ≠ s₂.heap.objs.size := Nat.ne_of_lt (Heap.lt_size eI)
  have hIC : I ≠ H2.objs.size := (below I (Heap.lt_size eI)).1
  generalize s₂.heap.objs.size = D' at *
  generalize H2.objs.size = C at *
  have good' := x₂.good.keep old
  have hv' : EnvOk (relabelS scope sc) (compEnvC scope cl C env) := ⟨relabelS_eq hv scope, hkind, hv.globals, hv.builtins⟩
  -- the block's invariant at the start
  have start : ∀ tk, SR prog w T g₀ (compEnvC scope cl C env) [] s G (seen scope σ) ((D', lstO [] 0) :: (I, oI) :: []) G₂ { s₂ with heap := h₁, toks := tk } := fun tk => by
    refine ⟨?_, ?_, y.gx, good', ⟨_, hns₁⟩, ⟨gC, nC, fun p hp => ?_⟩, fun c hc => (by cases hc), fun c hc => (by cases hc), fun p hp => ?_, ?_, fun z sl ez => ?_, fun u z du dz l hu hz => ?_⟩
    · obtain ⟨h₂, t₂, rfl⟩ := y.same; exact ⟨h₁, tk, rfl⟩
    · exact y.kp.trans (Kp.all old)
    · rcases List.mem_cons.mp hp with rfl | hp
      · exact hDC
      · rw [List.mem_singleton.mp hp]; exact hIC
    · rcases List.mem_cons.mp hp with rfl | hp
      · exact ⟨hDo, tD, gD, nD⟩
      · rw [List.mem_singleton.mp hp]; exact ⟨old _ _ eI, hIt, hI0, hIs⟩
    · simp; exact fun q => hID q.symm
    · obtain ⟨hm, ez', d, rfl⟩ := seen_mem ez
      obtain ⟨v, hH, hs⟩ := x₂.rd z _ ez'
      refine ⟨v, ?_, hs⟩
      have hk := List.all_eq_true.mp hfree (z, .free) hm
      have hk2 : sc.names.lookup z = some .cell ∨ sc.names.lookup z = some .free := by
        simp only [bne_self_eq_false, Bool.false_or, Bool.and_eq_true, Bool.or_eq_true, beq_iff_eq, lk_eq] at hk
        exact hk.1
      have hlk : scope.names.lookup z = some .free := by
        have := hall (z, .free) hm
        simp [lk_eq] at this
        exact this
      rcases hH with ⟨hl, _⟩ | ⟨_, c, hc, hc'⟩
      · unfold Env.kindOf at hl
        rw [hv.scope] at hl
        rw [hl] at hk2; rcases hk2 with q | q <;> cases q
      · exact .inr ⟨relabel_free (names := scope.names) (env.scope.kind == .function) (fun n => env.kindOf n == some .cell) hlk, c, (hcl z hm).trans hc, hc'.keeps old⟩
    · obtain ⟨_, _, d, q⟩ := seen_mem hu
      cases q
  have fin : ∀ s', CPost prog w T g₀ (compEnvC scope cl C env) s G σ' [] D' G₂ acc' s' → R (.ref D') C (.ok .next) s' := fun s' ⟨G', vs', m', l, x', a'⟩ => by
    obtain ⟨g1, g2, g3, g4⟩ := x'.going _ (.head _)
    exact hR D' C G' vs' m' s' ⟨x'.same, x'.kp, x'.gx, x'.good⟩ x'.loc nC x'.locOff.1 hDC nD g3 tD g1 a'
  have st₁ : ∀ tk, S 0 G₂ ({ s₂ with heap := h₁, toks := tk } : Shared).heap := fun tk => hIter.frame 0 G₂ G₂ _ _ hS G₂.le_refl good'.sub fun o e => old _ o e
  have loop : ∀ tk, codeAny (model prog w) A (.compLoop (.ListComp elt (⟨tgt, iter, ifs, 0⟩ :: gs) scope pos) 0 (.ref I) (.ref D') (compEnvC scope cl C env)) (R (.ref D') C) { s₂ with heap := h₁, toks := tk } := fun tk =>
    comp_loop rfl a hv' hIter h (start tk) .nil (st₁ tk) fin
  refine compStart_at rfl (loop _) (wpAny_mono (hIter.self 0 G₂ _ _ (st₁ _) (loop _)) (fun _ _ q => q) fun _ _ f => f.elim)

theorem free_cells (hv : EnvOk sc env) (x : SE prog w T g₀ env σ G s.heap) (hfree : freeOk sc scope σ = true) : ∀ p ∈ scope.names, p.2 = .free → ∃ c, env.cells.lookup p.1 = some c := fun p hp hf => by
  have hk := List.all_eq_true.mp hfree p hp
  rw [hf] at hk
  simp only [bne_self_eq_false, Bool.false_or, Bool.and_eq_true, Bool.or_eq_true, beq_iff_eq, lk_eq] at hk
  obtain ⟨k1, k2⟩ := hk
  obtain ⟨sl, e⟩ := Option.isSome_iff_exists.mp k2
  obtain ⟨v, hH, _⟩ := x.rd _ _ e
  rcases hH with ⟨hl, _⟩ | ⟨_, c, hc, _⟩
  · unfold Env.kindOf at hl
    rw [hv.scope] at hl
    rw [hl] at k1; rcases k1 with q | q <;> cases q
  · exact ⟨c, hc⟩
theorem names_local (h : namesOk scope = true) : scope.kind = .function ∧ ∀ x ∈ scope.names, x.2 = .local → scope.names.lookup x.1 = some .local := by
  unfold namesOk at h
  rw [Bool.and_eq_true, List.all_eq_true] at h
  refine ⟨eq_of_beq h.1, fun p hp hl => ?_⟩
  have := h.2 p hp
  rw [hl] at this
  simp [lk_eq] at this
  exact this

theorem nv_comp (hfree : freeOk sc scope σ = true) (hnames : namesOk scope = true) (hf : ∀ env x, foldedSetIterable iter env x = pure x) (hi : ITs prog w T g₀ n sc σ iter tgt ds)
    (h : Steps prog w T g₀ n (relabelS scope sc) (.ListComp elt (⟨tgt, iter, ifs, 0⟩ :: gs) scope pos) elt (⟨tgt, iter, ifs, 0⟩ :: gs) 0 tgt ifs ds (seen scope σ) [] σ' acc') :
    NVs prog w T g₀ n sc σ (.ListComp elt (⟨tgt, iter, ifs, 0⟩ :: gs) scope pos) (.lst acc') := fun A env s G a v x => by
  obtain ⟨cl, hclos, hcl⟩ := closureFor_ok (free_cells v x hfree)
  obtain ⟨hkind, hloc⟩ := names_local hnames
  rw [eval_ListComp]
  refine wpAny_comprehension_free (use := none) rfl (fun x => hf env x) hclos hkind hloc ?_
  refine comp_core (R := fun acc C => compPost (model prog w) A (fun _ _ => False) none (NewR prog w T g₀ G s (.lst acc')) acc C) a v x hfree hnames hcl hi h ?_
  intro D' C G' vs m s' st hns nC gC hDC nD gD tD hget hall
  obtain ⟨mm, hmm⟩ := hns
  refine ⟨mm, hmm, fun h' hs' => ?_⟩
  have tC := st.good.notTabNs hmm
  refine ⟨G', D', lstO vs m, rfl, ⟨?_, ?_, st.gx, st.good.ext hs'.extBut gC tC⟩, nD, gD, tD, hs'.extBut _ _ hDC hget, x.good.newMods nD, by show Value.type "list" ≠ _; decide, .lst rfl rfl hall, rfl, rfl⟩
  · obtain ⟨h2, t2, rfl⟩ := st.same; exact ⟨h', t2, rfl⟩
  · have k2 : Kp (C :: T.tb) s.heap h' := (st.kp.weak fun c hc => .tail _ hc).trans (Kp.ext hs'.extBut (.head _))
    exact k2.drop nC
end
end Mine

namespace Mine

noncomputable def drp (y : Str) (σ : List (Str × Slot)) : List (Str × Slot) := σ.filter fun p => !(p.1 == y)
theorem lookup_drp (y z : Str) : ∀ σ, (drp y σ).lookup z = if z == y then none else σ.lookup z
  | [] => by simp [drp]
  | (u, t) :: r => by
    have ih := lookup_drp y z r
    unfold drp at ih ⊢
    rw [List.filter_cons]
    by_cases hu : u = y
    · subst hu
      simp only [beq_self_eq_true, Bool.not_true, Bool.false_eq_true, if_false]
      rw [ih, List.lookup_cons]
      by_cases hz : z = u
      · subst hz; simp
      · have : (z == u) = false := by simpa using hz
        simp [this]
    · have hu' : (u == y) = false := by simpa using hu
      simp only [hu', Bool.not_false, if_true]
      rw [List.lookup_cons, List.lookup_cons, ih]
      by_cases hz : z = u
      · subst hz; simp [hu]
      · have : (z == u) = false := by simpa using hz
        simp [this]

section
variable {prog : Program} {w : World} {T : Tabs} {g₀ : Heap} {mg mb : Str → Option Value} {n : Nat} {sc : Scope} {σ σ' : List (Str × Slot)} {e l r i tgt elt iter : PySem.Expr} {d d' d₁ d₂ : D} {es ifs : List PySem.Expr} {ds acc acc' : List D} {pos apos : Pos}
variable {A : Around} {env : Env} {Own : List Addr} {its : List (Addr × Obj)} {s₀ s s₁ s₂ : Shared} {G₀ G G₁ G₂ : Gh} {I a : Addr} {E : Value → Shared → Prop} {y : Str} {o o' : Obj}

theorem SR.weak (x : SR prog w T g₀ env Own s₀ G₀ σ its G s) (h : ∀ z sl, σ'.lookup z = some sl → σ.lookup z = some sl) : SR prog w T g₀ env Own s₀ G₀ σ' its G s :=
  ⟨x.same, x.kp, x.gx, x.good, x.loc, x.locOff, x.own, x.ownOff, x.going, x.nodup, fun z sl e => x.rd z sl (h z sl e), fun u z d d' l hu hz => x.inj u z d d' l (h _ _ hu) (h _ _ hz)⟩
theorem SR.add (x : SR prog w T g₀ env Own s₀ G₀ σ its G s) {sl : Slot} {v : Value} (H : Holds env s.heap y v) (hs : SlotR prog w env its s₀ G s.heap v sl)
    (uniq : ∀ d, sl = .live d → ∀ z d', z ≠ y → σ.lookup z = some (.live d') → ¬ Holds env s.heap z v) : SR prog w T g₀ env Own s₀ G₀ (put y sl σ) its G s := by
  refine ⟨x.same, x.kp, x.gx, x.good, x.loc, x.locOff, x.own, x.ownOff, x.going, x.nodup, fun z sl' e => ?_, fun z1 z2 d d' l e1 e2 h1 h2 => ?_⟩
  · rw [lookup_put] at e
    by_cases hz : z = y
    · subst hz; rw [if_pos (by simp)] at e; cases e; exact ⟨v, H, hs⟩
    · rw [if_neg (by simpa using hz)] at e; exact x.rd z sl' e
  · rw [lookup_put] at e1 e2
    by_cases hz1 : z1 = y
    · by_cases hz2 : z2 = y
      · rw [hz1, hz2]
      · rw [if_pos (by simpa using hz1)] at e1
        rw [if_neg (by simpa using hz2)] at e2
        cases e1; subst hz1
        have := H.agree h1
        subst this
        exact absurd h2 (uniq d rfl z2 d' hz2 e2)
    · by_cases hz2 : z2 = y
      · rw [if_neg (by simpa using hz1)] at e1
        rw [if_pos (by simpa using hz2)] at e2
        cases e2; subst hz2
        have := H.agree h2
        subst this
        exact absurd h1 (uniq d' rfl z1 d hz1 e1)
      · rw [if_neg (by simpa using hz1)] at e1
        rw [if_neg (by simpa using hz2)] at e2
        exact x.inj z1 z2 d d' l e1 e2 h1 h2
/-- a live object changed -/
theorem SR.relive (x : SR prog w T g₀ env Own s₀ G₀ σ its G s) {h' : Heap} {tk : Nat} (hy : σ.lookup y = some (.live d)) (H : Holds env s.heap y (.ref a)) (L : LiveAt prog w env its s₀ G s.heap d a o)
    (k : Heap.SameBut a s.heap h') (ho : h'.get? a = some o') (hc : o'.cls ≠ .none) (hb : Body prog w G o' d') (hp : o'.dict = none ∧ o'.slots = #[]) : SR prog w T g₀ env Own s₀ G₀ (put y (.live d') σ) its G { s with heap := h', toks := tk } := by
  have x1 := x.weak (σ' := drp y σ) fun z sl e => by
    rw [lookup_drp] at e
    split at e
    · cases e
    · exact e
  have nt : a ∉ T.tb := x.good.notTab L.get (.inl L.cls)
  have yW : StW T g₀ [a] G s G { s with heap := h', toks := tk } := ⟨⟨h', tk, rfl⟩, Kp.ext k.extBut (.head _), GX.refl _ _, x.good.ext k.extBut L.off nt⟩
  have x2 := x1.move yW L.fresh L.off L.loc (fun o2 u e2 q => by rw [L.get] at e2; cases e2; exact L.body.noCell q) rfl (fun p hp => k.extBut _ _ (L.going p hp) (x.going p hp).1) fun z dz ez Hz => by
    rw [lookup_drp] at ez
    split at ez
    · cases ez
    · rename_i hne
      exact hne (by simpa using x.inj z y _ _ a ez hy Hz H)
  have H2 : Holds env h' y (.ref a) := H.keep fun b ob hb e => k.extBut b ob (by
    rcases hb with rfl | ⟨u, hu⟩
    · exact Ne.symm L.loc
    · intro q; rw [q, L.get] at e; cases e; exact L.body.noCell hu) e
  have x3 := x2.add (y := y) (sl := .live d') H2 ⟨a, o', rfl, ⟨ho, L.mods, hc, hb, L.off, L.loc, L.fresh, L.going, hp⟩⟩ fun d2 e2 z dz hz ez Hz => by
    rw [lookup_drp, if_neg (by simpa using hz)] at ez
    obtain ⟨v', hv', hs'⟩ := x.rd z _ ez
    obtain ⟨l', o2, rfl, t⟩ := hs'
    have Hz0 : Holds env h' z (.ref l') := hv'.keep fun b ob hb e => k.extBut b ob (by
      rcases hb with rfl | ⟨u, hu⟩
      · exact Ne.symm L.loc
      · intro q; rw [q, L.get] at e; cases e; exact L.body.noCell hu) e
    have := Hz0.agree Hz
    cases this
    exact hz (x.inj z y _ _ a ez hy hv' H)
  refine x3.weak fun z sl e => ?_
  rw [lookup_put] at e ⊢
  by_cases hz : z = y
  · subst hz; simpa using e
  · rw [if_neg (by simpa using hz)] at e ⊢
    rw [lookup_drp, if_neg (by simpa using hz)]; exact e
/-- a live object is frozen -/
theorem SR.freeze (x : SR prog w T g₀ env Own s₀ G₀ σ its G s) (hy : σ.lookup y = some (.live d)) : ∃ G', G.le G' ∧ SR prog w T g₀ env Own s₀ G₀ (put y (.val d) σ) its G' s := by
  obtain ⟨v, H, a, o, rfl, L⟩ := x.rd y _ hy
  have nt : a ∉ T.tb := x.good.notTab L.get (.inl L.cls)
  have le := Gh.le_add o L.off
  have ne : ∀ {b}, b ≠ a → (G.add a o) b = G b := fun h => Gh.add_ne G o h
  have x0 : SR prog w T g₀ env Own s₀ G₀ (drp y σ) its (G.add a o) s := by
    refine ⟨x.same, x.kp, ⟨Gh.le_trans x.gx.le le, fun b o2 e => ?_⟩, x.good.add L.get L.off nt, x.loc, ⟨?_, x.locOff.2⟩, x.own, fun c hc => ⟨?_, (x.ownOff c hc).2⟩, fun p hp => ?_, x.nodup, fun z sl e => ?_, fun u z d1 d2 l hu hz => ?_⟩
    · by_cases hb : b = a
      · subst hb; exact .inr L.fresh
      · rw [ne hb] at e; exact x.gx.new b o2 e
    · rw [ne (Ne.symm L.loc)]; exact x.locOff.1
    · have : c ≠ a := fun q => by obtain ⟨u, o2, ho2, hd2⟩ := x.own c hc; rw [q, L.get] at ho2; cases ho2; exact L.body.noCell hd2
      rw [ne this]; exact (x.ownOff c hc).1
    · obtain ⟨a1, a2, a3, a4⟩ := x.going p hp
      exact ⟨a1, a2, by rw [ne (L.going p hp)]; exact a3, a4⟩
    · rw [lookup_drp] at e
      split at e
      · cases e
      · rename_i hne
        obtain ⟨v', hv', hs'⟩ := x.rd z _ e
        refine ⟨v', hv', ?_⟩
        cases sl with
        | val d => exact Is.mono le hs'
        | live d2 =>
          obtain ⟨l', o2, rfl, t⟩ := hs'
          refine ⟨l', o2, rfl, ⟨t.get, t.mods, t.cls, Body.mono le t.body, ?_, t.loc, t.fresh, t.going, t.plain⟩⟩
          rw [ne (fun q => hne (by subst q; simpa using x.inj z y _ _ _ e hy hv' H))]; exact t.off
    · rw [lookup_drp] at hu hz
      split at hu
      · cases hu
      · split at hz
        · cases hz
        · exact x.inj u z d1 d2 l hu hz
  refine ⟨_, le, (x0.add (y := y) (sl := .val d) H (.ref (Gh.add_self _ _ _) L.mods (Body.mono le L.body)) fun d2 e => by cases e).weak fun z sl e => ?_⟩
  rw [lookup_put] at e ⊢
  by_cases hz : z = y
  · subst hz; simpa using e
  · rw [if_neg (by simpa using hz)] at e ⊢
    rw [lookup_drp, if_neg (by simpa using hz)]; exact e
end
end Mine

namespace Mine

inductive Out where
  | next (σ : List (Str × Slot))
  | ret (d : D)

section
variable (prog : Program) (w : World) (T : Tabs) (g₀ : Heap)
noncomputable def XP (env : Env) (Own : List Addr) (s₀ : Shared) (G₀ : Gh) (its : List (Addr × Obj)) (G : Gh) : Out → Flow → Shared → Prop
  | .next σ', f, s' => f = .next ∧ ∃ G', G.le G' ∧ SR prog w T g₀ env Own s₀ G₀ σ' its G' s'
  | .ret d, f, s' => ∃ v, f = .ret v ∧ EvR prog w T g₀ G₀ s₀ d v s'
noncomputable def X1 (n : Nat) (sc : Scope) (own : Bool) (σ : List (Str × Slot)) (st : Stmt) (out : Out) : Prop :=
  ∀ (A : Around) (env : Env) (Own : List Addr) (s₀ : Shared) (G₀ : Gh) (its : List (Addr × Obj)) (G : Gh) (s : Shared), AOk n A → EnvOk sc env → OwnOk sc env Own → (own = true → Own ≠ []) → SR prog w T g₀ env Own s₀ G₀ σ its G s →
    wpAny (model prog w) A (exec st env) (XP prog w T g₀ env Own s₀ G₀ its G out) (fun _ _ => False) s
noncomputable def Xs (n : Nat) (sc : Scope) (own : Bool) (σ : List (Str × Slot)) (sts : List Stmt) (out : Out) : Prop :=
  ∀ (A : Around) (env : Env) (Own : List Addr) (s₀ : Shared) (G₀ : Gh) (its : List (Addr × Obj)) (G : Gh) (s : Shared), AOk n A → EnvOk sc env → OwnOk sc env Own → (own = true → Own ≠ []) → SR prog w T g₀ env Own s₀ G₀ σ its G s →
    wpAny (model prog w) A (execs sts env) (XP prog w T g₀ env Own s₀ G₀ its G out) (fun _ _ => False) s
inductive FSteps (n : Nat) (sc : Scope) (own : Bool) (tgt : PySem.Expr) (body : List Stmt) : List D → List (Str × Slot) → Out → Prop
  | nil {σ : List (Str × Slot)} : FSteps n sc own tgt body [] σ (.next σ)
  | cons {d : D} {ds : List D} {σ σ₁ σ₂ : List (Str × Slot)} {out : Out} : bindT sc own tgt d σ = some σ₁ → Xs prog w T g₀ n sc own σ₁ body (.next σ₂) → FSteps n sc own tgt body ds σ₂ out → FSteps n sc own tgt body (d :: ds) σ out
  | ret {d r : D} {ds : List D} {σ σ₁ : List (Str × Slot)} : bindT sc own tgt d σ = some σ₁ → Xs prog w T g₀ n sc own σ₁ body (.ret r) → FSteps n sc own tgt body (d :: ds) σ (.ret r)
end

/-- a value to be kept before its name is bound -/
noncomputable def swp (sc : Scope) (value : PySem.Expr) (t : Str) (p : Pos) : Bool := match value with
  | .ListComp _ _ s vp => sc.names.lookup t == some .local && p.line == vp.line && !(s.names.any fun (n, k) => n == t && (k == .local || k == .cell))
  | _ => false
noncomputable def noSet : PySem.Expr → Bool
  | .SetComp .. => false
  | .DictComp .. => false
  | _ => true

section
variable {prog : Program} {w : World} {T : Tabs} {g₀ : Heap} {mg mb : Str → Option Value} {n : Nat} {sc : Scope} {own : Bool} {σ σ' σ₁ : List (Str × Slot)} {e l r i tgt elt iter value : PySem.Expr} {d d' d₁ d₂ : D} {es ifs : List PySem.Expr} {ds acc acc' : List D} {pos apos p p' : Pos}
variable {A : Around} {env : Env} {Own : List Addr} {its : List (Addr × Obj)} {s₀ s s₁ s₂ : Shared} {G₀ G G₁ G₂ : Gh} {I a : Addr} {E : Value → Shared → Prop} {x y : Str} {o o' : Obj} {out : Out} {st : Stmt} {sts body : List Stmt} {gens gs : List Comprehension} {scope : Scope}

theorem swaps_eq (hv : EnvOk sc env) {line : Nat} (hn : noSet value = true) : swapsWith value (some (.Name x p)) line env = pure (swp sc value x p) := by
  have hb : env.blockKind = .function := by
    unfold Env.blockKind
    rw [hv.scope, hv.kind]
    split <;> rfl
  cases value with
  | ListComp elt gens sc' vp =>
    unfold swapsWith swp
    simp only [hb, beq_self_eq_true, Bool.true_and]
    unfold Env.kindOf
    rw [hv.scope]
    rfl
  | SetComp => simp [noSet] at hn
  | DictComp => simp [noSet] at hn
  | _ => rfl
theorem swaps_call {f : PySem.Expr} {as : List PySem.Expr} {ks : List Keyword} {line : Nat} : swapsWith (.Call f as ks p) none line env = pure false := rfl
theorem noInter (hv : EnvOk sc env) : interactive env = false := by
  unfold interactive
  rw [hv.scope, hv.kind]; rfl

theorem xs_nil : Xs prog w T g₀ n sc own σ [] (.next σ) := fun A env Own s₀ G₀ its G s a v o h x => by
  show wpAny _ A (pure Flow.next) _ _ _
  exact wpAny_pure ⟨rfl, G, G.le_refl, x⟩
theorem xs_cons (h : X1 prog w T g₀ n sc own σ st (.next σ₁)) (r : Xs prog w T g₀ n sc own σ₁ sts out) : Xs prog w T g₀ n sc own σ (st :: sts) out := fun A env Own s₀ G₀ its G s a v o hw x => by
  refine wpAny_execs_cons (wpAny_mono (h A env Own s₀ G₀ its G s a v o hw x) (fun f s₁ hf => ?_) fun _ _ q => q)
  obtain ⟨rfl, G₁, le, x₁⟩ := hf
  refine wpAny_mono (r A env Own s₀ G₀ its G₁ s₁ a v o hw x₁) (fun f s₂ hf => ?_) fun _ _ q => q
  cases out with
  | next σ₂ => obtain ⟨rfl, G₂, le2, x₂⟩ := hf; exact ⟨rfl, G₂, Gh.le_trans le le2, x₂⟩
  | ret d => exact hf
theorem xs_ret (h : X1 prog w T g₀ n sc own σ st (.ret d)) : Xs prog w T g₀ n sc own σ (st :: sts) (.ret d) := fun A env Own s₀ G₀ its G s a v o hw x => by
  refine wpAny_execs_cons (wpAny_mono (h A env Own s₀ G₀ its G s a v o hw x) (fun f s₁ hf => ?_) fun _ _ q => q)
  obtain ⟨u, rfl, hu⟩ := hf
  exact ⟨u, rfl, hu⟩
theorem SR.back (x : SR prog w T g₀ env Own s₀ G₀ σ its G s) : St T g₀ G₀ s₀ G s := ⟨x.same, x.kp, x.gx, x.good⟩

theorem x_assign (hn : noSet value = true) (hsw : swp sc value x p = false) (hst : stO sc own x = true) (h : EVs prog w T g₀ n sc σ value d) : X1 prog w T g₀ n sc own σ (.Assign [.Name x p] value pos) (.next (put x (.val d) σ)) := fun A env Own s₀ G₀ its G s a v o hw y => by
  refine wpAny_Assign_Name (h.use a v y.se fun u s₁ G₁ st z _ => ?_) ((swaps_eq v hn).trans (by rw [hsw]))
  exact (y.st st).storeVal v o hw hst z fun s' y' => ⟨rfl, G₁, st.gx.le, y'⟩
/-- a new object is off all the rest -/
theorem SR.newLive (x : SR prog w T g₀ env Own s₀ G₀ σ its G s) (st : St T g₀ G s G₁ s₁) (hn : s.heap.get? a = none) (hg : G₁ a = none) (ht : a ∉ T.tb) (ho : s₁.heap.get? a = some o) (hm : (a == sysModules) = false) (hc : o.cls ≠ .none) (hb : Body prog w G₁ o d)
    (hp : o.dict = none ∧ o.slots = #[]) : SR prog w T g₀ env Own s₀ G₀ σ its G₁ s₁ ∧ SlotR prog w env its s₀ G₁ s₁.heap (.ref a) (.live d) ∧ ∀ z d', σ.lookup z = some (.live d') → ¬ Holds env s₁.heap z (.ref a) := by
  have x1 := x.st st
  refine ⟨x1, ⟨a, o, rfl, ho, hm, hc, hb, hg, fun q => ?_, x.old hn ht, fun p hp q => ?_, hp⟩, fun z d' ez Hz => ?_⟩
  · obtain ⟨m, o', es, ep, ho', _⟩ := x.loc
    rw [← q, hn] at ho'; cases ho'
  · have := (x.going p hp).1
    rw [q, hn] at this; cases this
  · obtain ⟨v', hv', hs'⟩ := x.rd z _ ez
    obtain ⟨l', o2, rfl, t⟩ := hs'
    have := (hv'.kp x.good st.kp).agree Hz
    cases this
    have := t.get
    rw [hn] at this; cases this
theorem x_live (hn : noSet value = true) (hsw : swp sc value x p = false) (hst : stO sc own x = true) (h : NVs prog w T g₀ n sc σ value d) : X1 prog w T g₀ n sc own σ (.Assign [.Name x p] value pos) (.next (put x (.live d) σ)) := fun A env Own s₀ G₀ its G s a v o hw y => by
  refine wpAny_Assign_Name (wpAny_mono (h A env s G a v y.se) (fun u s₁ hu => ?_) fun _ _ f => f.elim) ((swaps_eq v hn).trans (by rw [hsw]))
  obtain ⟨G₁, b, ob, rfl, st, h1, h2, h3, h4, h5, h6, h7, h8⟩ := hu
  obtain ⟨y1, hs, hq⟩ := y.newLive st h1 h2 h3 h4 h5 h6 h7 h8
  exact y1.store v o hw hst hs (fun _ _ z dz _ ez => hq z dz ez) fun s' y' => ⟨rfl, G₁, st.gx.le, y'⟩

theorem x_used {gs : List Comprehension} (hsw : swp sc (.ListComp elt (⟨tgt, iter, ifs, 0⟩ :: gs) scope p') x p = true) (hst : stO sc own x = true) (hfree : freeOk sc scope σ = true) (hnames : namesOk scope = true) (hf : ∀ env x, foldedSetIterable iter env x = pure x) (hi : ITs prog w T g₀ n sc σ iter tgt ds)
    (h : Steps prog w T g₀ n (relabelS scope sc) (.ListComp elt (⟨tgt, iter, ifs, 0⟩ :: gs) scope p') elt (⟨tgt, iter, ifs, 0⟩ :: gs) 0 tgt ifs ds (seen scope σ) [] σ' acc') :
    X1 prog w T g₀ n sc own σ (.Assign [.Name x p] (.ListComp elt (⟨tgt, iter, ifs, 0⟩ :: gs) scope p') pos) (.next (put x (.live (.lst acc')) σ)) := fun A env Own s₀ G₀ its G s a v o hw y => by
  obtain ⟨cl, hclos, hcl⟩ := closureFor_ok (free_cells v y.se hfree)
  obtain ⟨hkind, hloc⟩ := names_local hnames
  rw [exec_Assign_Name_used _ _ _ _ ((swaps_eq v rfl).trans (by rw [hsw]))]
  refine wpAny_bind (wpAny_standAt (wpAny_bind ?_))
  show wpAny _ A (do let _ ← comprehension (.ListComp elt (⟨tgt, iter, ifs, 0⟩ :: gs) scope p') scope env _ (newList []) false (eval iter env) (some (assign (.Name x p) env))) _ _ s
  refine wpAny_bind (wpAny_mono (wpAny_comprehension_free (use := some (assign (.Name x p) env)) (Q := fun _ s' => XP prog w T g₀ env Own s₀ G₀ its G (.next (put x (.live (.lst acc')) σ)) .next s') rfl (fun x => hf env x) hclos hkind hloc ?_) (fun _ s' hq => wpAny_pure (wpAny_pure hq)) fun _ _ e => e)
  refine comp_core (R := fun acc C => compPost (model prog w) A (fun _ _ => False) (some (assign (.Name x p) env)) (fun _ s' => XP prog w T g₀ env Own s₀ G₀ its G (.next (put x (.live (.lst acc')) σ)) .next s') acc C) a v y.se hfree hnames hcl hi h ?_
  intro D' C G' vs m s' st hns nC gC hDC nD gD tD hget hall
  obtain ⟨mm, oC, es, ep, hoC, hdC, rest⟩ := hns
  have tC : C ∉ T.tb := st.good.notTab hoC (.inr fun vs q => by rw [hdC] at q; cases q)
  have y1 := y.push st nC hoC tC gC
  obtain ⟨y2, ⟨l, ol, el, hs⟩, hq⟩ := y.newLive (d := .lst acc') st nD gD tD hget (y.good.newMods nD) (by show Value.type "list" ≠ _; decide) (.lst rfl rfl hall) ⟨rfl, rfl⟩
  cases el
  have hs' : SlotR prog w env ((C, oC) :: its) s₀ G' s'.heap (.ref D') (.live (.lst acc')) := ⟨D', ol, rfl, hs.get, hs.mods, hs.cls, hs.body, hs.off, hs.loc, hs.fresh, fun p hp => by
    rcases List.mem_cons.mp hp with rfl | hp
    · exact fun q => hDC q.symm
    · exact hs.going p hp, hs.plain⟩
  refine wpAny_assign_Name (y1.store v o hw hst hs' (fun _ _ z dz _ ez => hq z dz ez) fun s'' y3 => ?_)
  obtain ⟨c1, c2, c3, c4⟩ := y3.going (C, oC) (.head _)
  refine ⟨mm, ⟨oC, es, ep, c1, hdC, rest⟩, fun h' hs'' => ⟨rfl, G', st.gx.le, ?_⟩⟩
  have nd := y3.nodup
  rw [List.map_cons, List.nodup_cons] at nd
  have yW : StW T g₀ [C] G' s'' G' { s'' with heap := h' } := ⟨⟨h', s''.toks, rfl⟩, Kp.ext hs''.extBut (.head _), GX.refl _ _, y3.good.ext hs''.extBut c3 c2⟩
  refine y3.pop.move yW c4 c3 (fun q => y3.locOff.2.2 _ (.head _) q) (fun o2 u e2 q => by rw [c1] at e2; cases e2; rw [hdC] at q; cases q) rfl (fun p hp => ?_) (fun z dz ez Hz => ?_)
  · exact hs''.extBut _ _ (fun q => nd.1 (List.mem_map.mpr ⟨p, hp, q⟩)) (y3.going p (.tail _ hp)).1
  · obtain ⟨v', hv', hs3⟩ := y3.rd z _ ez
    obtain ⟨l', o2, rfl, t⟩ := hs3
    have := hv'.agree Hz
    cases this
    exact t.going _ (.head _) rfl

theorem x_ret (h : EVs prog w T g₀ n sc σ e d) : X1 prog w T g₀ n sc own σ (.Return (some e) pos) (.ret d) := fun A env Own s₀ G₀ its G s a v o hw y => by
  refine wpAny_Return_some (h.use a v y.se fun u s₁ G₁ st z _ => ?_)
  exact ⟨u, rfl, G₁, (y.st st).back, z⟩
theorem x_ret_live (hx : σ.lookup x = some (.live d)) (ho : odd x = false) : X1 prog w T g₀ n sc own σ (.Return (some (.Name x p)) pos) (.ret d) := fun A env Own s₀ G₀ its G s a v o hw y => by
  obtain ⟨G', le, y'⟩ := y.freeze hx
  obtain ⟨u, hu, hs⟩ := y'.rd x (.val d) (by rw [lookup_put]; simp)
  exact wpAny_Return_some (name_at v hu ho ⟨u, rfl, G', y'.back, hs⟩)
theorem x_if {test : PySem.Expr} {b : Bool} {orelse : List Stmt} (ht : TRs prog w T g₀ n sc σ test b) (h : Xs prog w T g₀ n sc own σ (if b then body else orelse) out) : X1 prog w T g₀ n sc own σ (.If test body orelse pos) out := fun A env Own s₀ G₀ its G s a v o hw y => by
  refine wpAny_If (ht.use a v y.se fun s₁ G₁ st _ => ?_)
  have h' := h A env Own s₀ G₀ its G₁ s₁ a v o hw (y.st st)
  have fin : ∀ f s', XP prog w T g₀ env Own s₀ G₀ its G₁ out f s' → XP prog w T g₀ env Own s₀ G₀ its G out f s' := fun f s' hf => by
    cases out with
    | next σ₂ => obtain ⟨rfl, G₂, le2, x₂⟩ := hf; exact ⟨rfl, G₂, Gh.le_trans st.gx.le le2, x₂⟩
    | ret d => exact hf
  cases b with
  | true => exact wpAny_mono h' fin fun _ _ f => f
  | false => exact wpAny_mono h' fin fun _ _ f => f
end
end Mine

namespace Mine

noncomputable def noComp : PySem.Expr → Bool
  | .ListComp .. => false
  | .SetComp .. => false
  | .DictComp .. => false
  | _ => true

section
variable {prog : Program} {w : World} {T : Tabs} {g₀ : Heap} {mg mb : Str → Option Value} {n : Nat} {sc : Scope} {own : Bool} {σ σ' σ₁ : List (Str × Slot)} {e l r i tgt elt iter value : PySem.Expr} {d d' d₁ d₂ : D} {es ifs : List PySem.Expr} {ds acc acc' : List D} {pos apos p p' pos' : Pos}
variable {A : Around} {env : Env} {Own : List Addr} {its : List (Addr × Obj)} {s₀ s s₁ s₂ : Shared} {G₀ G G₁ G₂ : Gh} {I a : Addr} {E : Value → Shared → Prop} {x y : Str} {o o' : Obj} {out : Out} {st : Stmt} {sts body : List Stmt} {gens gs : List Comprehension} {scope : Scope}

theorem SR.noLive (x : SR prog w T g₀ env Own s₀ G₀ σ its G s) {q : Addr × Obj} (hq : q ∈ its) : ∀ z dz, σ.lookup z = some (.live dz) → ¬ Holds env s.heap z (.ref q.1) := fun z dz ez H => by
  obtain ⟨v', hv', hs⟩ := x.rd z _ ez
  obtain ⟨l, o, rfl, t⟩ := hs
  have := hv'.agree H
  cases this
  exact t.going _ hq rfl
/-- an iterator moves on -/
theorem SR.iterate {oI o₂ : Obj} (x : SR prog w T g₀ env Own s₀ G₀ σ ((I, oI) :: its) G s) (y : StW T g₀ [I] G s G₁ s₁) (f : ∃ vs, oI.data = .fields vs) (h : s₁.heap.get? I = some o₂) : SR prog w T g₀ env Own s₀ G₀ σ ((I, o₂) :: its) G₁ s₁ := by
  obtain ⟨i1, i2, i3, i4⟩ := x.going (I, oI) (.head _)
  have nd := x.nodup
  rw [List.map_cons, List.nodup_cons] at nd
  refine x.move y i4 (y.gx.off i3 i1) (fun q => x.locOff.2.2 _ (.head _) q) (fun o u e q => ?_) rfl (fun p hp => ?_) (x.noLive (q := (I, oI)) (.head _))
  · rw [i1] at e; cases e; obtain ⟨vs, hvs⟩ := f; rw [hvs] at q; cases q
  · rcases List.mem_cons.mp hp with rfl | hp
    · exact h
    · exact y.kp _ _ (fun q => nd.1 (List.mem_map.mpr ⟨p, hp, List.mem_singleton.mp q⟩)) (x.going p (.tail _ hp)).1
theorem SR.over {oI : Obj} (x : SR prog w T g₀ env Own s₀ G₀ σ ((I, oI) :: its) G s) (y : StW T g₀ [I] G s G₁ s₁) (f : ∃ vs, oI.data = .fields vs) : SR prog w T g₀ env Own s₀ G₀ σ its G₁ s₁ := by
  obtain ⟨i1, i2, i3, i4⟩ := x.going (I, oI) (.head _)
  have nd := x.nodup
  rw [List.map_cons, List.nodup_cons] at nd
  refine x.pop.move y i4 (y.gx.off i3 i1) (fun q => x.locOff.2.2 _ (.head _) q) (fun o u e q => ?_) rfl (fun p hp => ?_) (x.noLive (q := (I, oI)) (.head _))
  · rw [i1] at e; cases e; obtain ⟨vs, hvs⟩ := f; rw [hvs] at q; cases q
  · exact y.kp _ _ (fun q => nd.1 (List.mem_map.mpr ⟨p, hp, List.mem_singleton.mp q⟩)) (x.going p (.tail _ hp)).1

theorem XP.le {f : Flow} (h : XP prog w T g₀ env Own s₀ G₀ its G₁ out f s) (le : G.le G₁) : XP prog w T g₀ env Own s₀ G₀ its G out f s := by
  cases out with
  | next σ₂ => obtain ⟨rfl, G₂, le2, x₂⟩ := h; exact ⟨rfl, G₂, Gh.le_trans le le2, x₂⟩
  | ret d => exact h

theorem FSteps.next1 {i : Nat} (h : FSteps prog w T g₀ n sc own tgt body (ds.drop i) σ out) (hd : ds[i]? = some d) :
    ∃ σ₁, bindT sc own tgt d σ = some σ₁ ∧ ((∃ σ₂, Xs prog w T g₀ n sc own σ₁ body (.next σ₂) ∧ FSteps prog w T g₀ n sc own tgt body (ds.drop (i + 1)) σ₂ out) ∨ ∃ r, Xs prog w T g₀ n sc own σ₁ body (.ret r) ∧ out = .ret r) := by
  obtain ⟨hlt, rfl⟩ := List.getElem?_eq_some_iff.mp hd
  rw [List.drop_eq_getElem_cons hlt] at h
  cases h with
  | cons a b c => exact ⟨_, a, .inl ⟨_, b, c⟩⟩
  | ret a b => exact ⟨_, a, .inr ⟨_, b, rfl⟩⟩
theorem x_for (hf : ∀ env x, foldedSetIterable iter env x = pure x) (hi : ITs prog w T g₀ n sc σ iter tgt ds) (h : FSteps prog w T g₀ n sc own tgt body ds σ out) : X1 prog w T g₀ n sc own σ (.For tgt iter body [] pos) out := fun A env Own s₀ G₀ its G s a v o hw y => by
  refine wpAny_For (wpAny_mono (hi A env s G a v y.se) (fun xv s₁ h₁ => wpAny_mono h₁ (fun it s₂ h₂ => ?_) fun _ _ f => f.elim) fun _ _ f => f.elim) (hf env)
  obtain ⟨I, G₂, S, rfl, st, hI0, hIt, hIs, hIter, hS⟩ := h₂
  obtain ⟨oI, eI, fI⟩ := hIter.there 0 G₂ _ hS
  have x₂ := y.push st hIs eI hIt hI0
  refine codeAny_forLoop_any (fun k s' => ∃ i σi Gi oi, G.le Gi ∧ SR prog w T g₀ env Own s₀ G₀ σi ((I, oi) :: its) Gi s' ∧ S i Gi s'.heap ∧ FSteps prog w T g₀ n sc own tgt body (ds.drop i) σi out ∧ i ≤ ds.length ∧ k = ds.length + 1 - i)
    (fun k s' hinv => ?_) (ds.length + 1) ⟨0, σ, G₂, oI, st.gx.le, x₂, hS, by simpa using h, Nat.zero_le _, rfl⟩
  obtain ⟨i, σi, Gi, oi, hle, xi, hst, hsteps, hi', rfl⟩ := hinv
  obtain ⟨i1, i2, i3, i4⟩ := xi.going (I, oi) (.head _)
  obtain ⟨oI', eI', fI'⟩ := hIter.there i Gi _ hst
  rw [i1] at eI'; cases eI'
  by_cases hlt : i < ds.length
  · have hd : ds[i]? = some ds[i] := by simp [hlt]
    refine wpAny_mono (hIter.item i ds[i] s' Gi hd xi.good i3 i2 hst) (fun r s₁ hr => ?_) fun _ _ f => f.elim
    obtain ⟨v', rfl, hgo⟩ := hr
    obtain ⟨σb, hbind, hstep⟩ := hsteps.next1 hd
    refine wpAny_mono (hgo (fun _ s₂ => ∃ G₂, StW T g₀ [I] Gi s' G₂ s₂ ∧ Is prog w G₂ v' ds[i] ∧ S (i + 1) G₂ s₂.heap) fun s₂ G₂ a b c => ⟨G₂, a, b, c⟩) (fun _ s₃ h₃ => ?_) fun _ _ f => f.elim
    obtain ⟨G₃, y₃, hvd, hst₃⟩ := h₃
    obtain ⟨o3, e3, f3⟩ := hIter.there _ _ _ hst₃
    have x₃ := xi.iterate y₃ fI' e3
    have hle3 : G.le G₃ := Gh.le_trans hle y₃.gx.le
    refine x₃.bind a v o hw hbind hvd fun s₄ x₄ => ?_
    rcases hstep with ⟨σ₂, hb, hrest⟩ | ⟨r, hb, rfl⟩
    · refine wpAny_mono (hb A env Own s₀ G₀ _ G₃ s₄ a v o hw x₄) (fun f s₅ h₅ => ?_) fun _ _ f => f.elim
      obtain ⟨rfl, G₅, l5, x5⟩ := h₅
      refine ⟨ds.length + 1 - (i + 1), by omega, i + 1, σ₂, G₅, o3, Gh.le_trans hle3 l5, x5, hIter.frame _ G₃ G₅ _ _ hst₃ l5 x5.good.sub fun o' e => ?_, hrest, hlt, rfl⟩
      rw [e3] at e; cases e
      exact (x5.going (I, o3) (.head _)).1
    · refine wpAny_mono (hb A env Own s₀ G₀ _ G₃ s₄ a v o hw x₄) (fun f s₅ h₅ => ?_) fun _ _ f => f.elim
      obtain ⟨u, rfl, hu⟩ := h₅
      exact ⟨u, rfl, hu⟩
  · have hin : i = ds.length := by omega
    subst hin
    refine wpAny_mono (hIter.done s' Gi xi.good i3 i2 hst) (fun r s₁ hr => ?_) fun _ _ f => f.elim
    obtain ⟨rfl, y'⟩ := hr
    rw [List.drop_length] at hsteps
    cases hsteps
    exact wpAny_pure ⟨rfl, Gi, hle, xi.over y' fI'⟩

/-- a live list's own facts -/
theorem SR.liveList (x : SR prog w T g₀ env Own s₀ G₀ σ its G s) (hy : σ.lookup y = some (.live (.lst ds))) : ∃ a vs m, Holds env s.heap y (.ref a) ∧ LiveAt prog w env its s₀ G s.heap (.lst ds) a (lstO vs m) ∧ IsAll prog w G vs ds := by
  obtain ⟨v, H, a, o, rfl, L⟩ := x.rd y _ hy
  have b := L.body
  cases b with
  | lst c dd r =>
    rename_i vs m
    have e : o = lstO vs m := by
      obtain ⟨c', d', dt, sl⟩ := o
      have := L.plain
      dsimp only at c dd this
      obtain ⟨p1, p2⟩ := this
      subst c; subst dd; subst p1; subst p2; rfl
    subst e
    exact ⟨a, vs, m, H, L, r⟩
theorem lstO_map (vs : List Value) (m : Nat) (f : Array Value → Array Value) : ∃ m', Obj.mapSeq f (lstO vs m) = lstO (f vs.toArray).toList m' := by
  unfold Obj.mapSeq lstO
  exact ⟨_, rfl⟩

theorem x_append (hy : σ.lookup y = some (.live (.lst ds))) (ho : odd y = false) (hs : star? e = false) (hz : ds.length ≤ 900) (hline : (apos.endLine == pos.line) = true) (h : EVs prog w T g₀ n sc σ e d) :
    X1 prog w T g₀ n sc own σ (.Expr (.Call (.Attribute (.Name y p) "append" apos) [e] [] pos) pos') (.next (put y (.live (.lst (ds ++ [d]))) σ)) := fun A env Own s₀ G₀ its G s a v o hw x => by
  obtain ⟨l0, vs0, m0, H0, L0, r0⟩ := x.liveList hy
  refine wpAny_Expr_any ?_ (noInter v) swaps_call
  have hst : backTo pos (starEach [e] env) = [(false, eval e env)] := by rw [starEach_cons hs]; rfl
  refine wpAny_Call_method (T := "list") (id := "list.append") rfl (by rw [hst]; rfl) hline F.plainAttrs_list F.slot_list_append F.type_list_append (name_at v H0 ho ?_)
  refine ⟨⟨_, L0.get, rfl⟩, fun a' e' => by cases e'; exact ⟨_, L0.get, rfl⟩, ?_⟩
  rw [hst]
  refine P.append_list (h.use a v x.se fun u s₁ G₁ st z _ => ?_)
  have x₁ := x.st st
  obtain ⟨l, vs, m, H, L, r⟩ := x₁.liveList hy
  have := (H0.kp x.good st.kp).agree H
  cases this
  refine ⟨vs.toArray, m, by rw [List.size_toArray, r.length, sizeLine_eq]; omega, L.get, ?_⟩
  obtain ⟨m', hm'⟩ := lstO_map vs m (fun xs => xs.push u)
  have hg : (s₁.heap.update l0 (Obj.mapSeq fun xs => xs.push u)).get? l0 = some (lstO (vs ++ [u]) m') := by
    rw [Heap.get?_update_self _ L.get (by rw [hm']; rfl), hm']; simp
  exact ⟨rfl, G₁, st.gx.le, x₁.relive (tk := s₁.toks) hy H L (Heap.SameBut.update ..) hg (by show Value.type "list" ≠ _; decide) (.lst rfl rfl (r.append (.cons z .nil))) ⟨rfl, rfl⟩⟩

theorem x_reverse (hy : σ.lookup y = some (.live (.lst ds))) (ho : odd y = false) (hz : ds.length ≤ 900) (hline : (apos.endLine == pos.line) = true) :
    X1 prog w T g₀ n sc own σ (.Expr (.Call (.Attribute (.Name y p) "reverse" apos) [] [] pos) pos') (.next (put y (.val (.lst ds.reverse)) (put y (.live (.lst ds.reverse)) σ))) := fun A env Own s₀ G₀ its G s a v o hw x => by
  obtain ⟨l, vs, m, H, L, r⟩ := x.liveList hy
  refine wpAny_Expr_any ?_ (noInter v) swaps_call
  refine wpAny_Call_method (T := "list") (id := "list.reverse") rfl rfl hline F.plainAttrs_list F.slot_list_reverse F.type_list_reverse (name_at v H ho ?_)
  refine ⟨⟨_, L.get, rfl⟩, fun a' e' => by cases e'; exact ⟨_, L.get, rfl⟩, ?_⟩
  refine P.reverse_list (items := vs.toArray) L.get ?_ (by rw [List.size_toArray, r.length, sizeLine_eq]; omega)
  obtain ⟨m', hm'⟩ := lstO_map vs m (fun xs => xs.reverse)
  have hg : (s.heap.update l (Obj.mapSeq fun xs => xs.reverse)).get? l = some (lstO vs.reverse m') := by
    rw [Heap.get?_update_self _ L.get (by rw [hm']; rfl), hm']; simp
  have x2 := x.relive (tk := s.toks) hy H L (Heap.SameBut.update ..) hg (by show Value.type "list" ≠ _; decide) (.lst rfl rfl r.reverse) ⟨rfl, rfl⟩
  obtain ⟨G', le, x3⟩ := x2.freeze (y := y) (d := .lst ds.reverse) (by rw [lookup_put]; simp)
  exact ⟨rfl, G', le, x3⟩

theorem setItem_plain {l : Addr} {vs : List Value} {m : Nat} {k : Int} {t : Tok} {u : Value} {Q : Unit → Shared → Prop} (hl : s.heap.get? l = some (lstO vs m))
    (h0 : 0 ≤ k) (hfit : k < 2 ^ 63) (hn : k < vs.length) (hQ : Q () { s with heap := s.heap.update l (Obj.mapSeq (·.setIfInBounds k.toNat u)) }) :
    wpAny (model prog w) A (setItem (.ref l) (.int k t) u) Q E s := by
  have hL : s.heap.IsList l vs.toArray := ⟨_, hl, rfl, m, rfl⟩
  unfold setItem
  try with_reducible refine wpAny_holding ?_
  first | refine wpAny_bind (wpAny_pure ?_) | skip
  refine wpAny_bind (wpAny_sequenceKey hL.typeIs (by decide) ?_)
  refine wpAny_bind (wpAny_callSpecial?_slot (name := Str.ofString "__setitem__") hL.typeIs slot_list_setitem
    (wpAny_call_entry slot_list_setitem hL.typeIs entry_list_setitem ?_ (args_list_setitem _ _ _)))
  show wpAny _ _ (Builtin.List.listSubscript? (.int k t) >>= _) _ _ s
  refine wpAny_bind (wpAny_listSubscript_int (fitsIndex_of h0 hfit) ?_)
  clear hfit
  obtain ⟨j, rfl⟩ := Int.eq_ofNat_of_zero_le h0
  have hj : j < vs.toArray.size := by rw [List.size_toArray]; omega
  have hx' : vs.toArray[j]? = some vs.toArray[j] := Array.getElem?_eq_getElem hj
  show wpAny _ _ ((seqItemAt l j >>= fun r => pure (r.map (j, ·))) >>= _) _ _ s
  refine wpAny_bind (wpAny_bind (wpAny_seqItemAt hl rfl (wpAny_pure ?_)))
  rw [hx']
  show wpAny _ _ (setSeqItemAt l j u >>= _) _ _ s
  refine wpAny_bind (wpAny_setSeqItemAt hl rfl ?_)
  first
    | exact wpAny_bind (wpAny_pure (wpAny_pure ⟨.none, rfl, wpAny_pure hQ⟩))
    | exact wpAny_pure ⟨.none, rfl, wpAny_pure hQ⟩

/-- a live list's item set -/
theorem SR.setList {k : Int} {t : Tok} {u : Value} {Q : Unit → Shared → Prop} (x : SR prog w T g₀ env Own s₀ G₀ σ its G s) (hy : σ.lookup y = some (.live (.lst ds))) (H : Holds env s.heap y (.ref a)) (h0 : 0 ≤ k) (h1 : k < 2 ^ 63) (hk : k < ds.length) (hu : Is prog w G u d)
    (h : ∀ s', SR prog w T g₀ env Own s₀ G₀ (put y (.live (.lst (ds.set k.toNat d))) σ) its G s' → Q () s') : wpAny (model prog w) A (setItem (.ref a) (.int k t) u) Q E s := by
  obtain ⟨l, vs, m, H', L, r⟩ := x.liveList hy
  have := H.agree H'
  cases this
  refine setItem_plain L.get h0 h1 (by rw [r.length]; exact hk) (h _ ?_)
  obtain ⟨m', hm'⟩ := lstO_map vs m (fun xs => xs.setIfInBounds k.toNat u)
  have hg : (s.heap.update a (Obj.mapSeq fun xs => xs.setIfInBounds k.toNat u)).get? a = some (lstO (vs.set k.toNat u) m') := by
    rw [Heap.get?_update_self _ L.get (by rw [hm']; rfl), hm']; simp
  exact x.relive (tk := s.toks) hy H L (Heap.SameBut.update ..) hg (by show Value.type "list" ≠ _; decide) (.lst rfl rfl (r.set hu _)) ⟨rfl, rfl⟩

theorem x_setList {k : Int} (hc : noComp value = true) (hy : σ.lookup y = some (.live (.lst ds))) (ho : odd y = false) (h0 : 0 ≤ k) (h1 : k < 2 ^ 63) (hk : k < ds.length)
    (h : EVs prog w T g₀ n sc σ value d) (hi : EVs prog w T g₀ n sc σ i (.int k)) : X1 prog w T g₀ n sc own σ (.Assign [.Subscript (.Name y p) i p'] value pos) (.next (put y (.live (.lst (ds.set k.toNat d))) σ)) := fun A env Own s₀ G₀ its G s a v o hw x => by
  refine wpAny_Assign_Subscript (h.use a v x.se fun u s₁ G₁ st z _ => ?_) (by cases value <;> first | rfl | (simp [noComp] at hc))
  have x₁ := x.st st
  obtain ⟨l, vs, m, H, L, r⟩ := x₁.liveList hy
  refine name_at v H ho (hi.use a v x₁.se fun u' s₂ G₂ st2 z2 _ => ?_)
  obtain ⟨t, rfl⟩ := z2.int_inv
  have x₂ := x₁.st st2
  exact x₂.setList hy (H.kp x₁.good st2.kp) h0 h1 hk (Is.mono st2.gx.le z) fun s' x3 => ⟨rfl, G₂, Gh.le_trans st.gx.le st2.gx.le, x3⟩

theorem x_setDict {en : List (List Ky × D)} {l : List D} {ks : List Ky} (hc : noComp value = true) (hy : σ.lookup y = some (.live (.dct en))) (ho : odd y = false) (hz : en.length ≤ 900) (hks : dKys l = some ks)
    (h : EVs prog w T g₀ n sc σ value d) (hi : EVs prog w T g₀ n sc σ i (.tup l)) : X1 prog w T g₀ n sc own σ (.Assign [.Subscript (.Name y p) i p'] value pos) (.next (put y (.live (.dct (putE ks d en))) σ)) := fun A env Own s₀ G₀ its G s a v o hw x => by
  refine wpAny_Assign_Subscript (h.use a v x.se fun u s₁ G₁ st z _ => ?_) (by cases value <;> first | rfl | (simp [noComp] at hc))
  have x₁ := x.st st
  obtain ⟨w1, H, b, ob, rfl, L⟩ := x₁.rd y _ hy
  refine name_at v H ho (hi.use a v x₁.se fun u' s₂ G₂ st2 z2 _ => ?_)
  obtain ⟨ka, rfl, hkey⟩ := KeyG.of z2 hks
  have x₂ := x₁.st st2
  obtain ⟨w2, H2, b2, ob2, rfl, L2⟩ := x₂.rd y _ hy
  have := (H.kp x₁.good st2.kp).agree H2
  cases this
  obtain ⟨xs, hD, hE⟩ := x₂.good.dict L2.get L2.body
  have hnd : (xs.map (·.1)).Nodup := by obtain ⟨_, _, _, _, _, _, _, _, q⟩ := hD; exact q
  refine wpAny_setItem_heap (knd := tkKind prog w) (hsz := by rw [hE.length, sizeLine_eq]; omega) (show A.in1.units < cLine by have := a.u64; show A.units + 1 < _; omega) (x₂.good.key hkey) hD fun h' hD' hs' => ?_
  obtain ⟨o', ho', hc', hb', hp'⟩ := body_dct hD' (putE_spec (G := G₂) hE hkey (Is.mono st2.gx.le z) hnd)
  exact ⟨rfl, G₂, Gh.le_trans st.gx.le st2.gx.le, x₂.relive hy H2 L2 hs' ho' hc' hb' hp'⟩

theorem x_augAdd {j k : Int} (hx : σ.lookup y = some (.val (.int j))) (ho : odd y = false) (hst : stO sc own y = true) (h : EVs prog w T g₀ n sc σ value (.int k)) : X1 prog w T g₀ n sc own σ (.AugAssign (.Name y p) .Add value pos) (.next (put y (.val (.int (j + k))) σ)) := fun A env Own s₀ G₀ its G s a v o hw x => by
  obtain ⟨u, hu, hs⟩ := x.rd y _ hx
  obtain ⟨t, rfl⟩ := Is.int_inv hs
  refine wpAny_AugAssign_Name (load_name v hu ho (h.use a v x.se fun u s₁ G₁ st z _ => ?_))
  obtain ⟨t', rfl⟩ := z.int_inv
  refine PyProof.Rows.iadd_int ?_
  have st2 : St T g₀ G₁ s₁ G₁ { s₁ with toks := s₁.toks + 1 } := St.toks st.good _
  exact ((x.st st).st st2).storeVal v o hw hst (.int _ _) fun s' x' => ⟨rfl, G₁, st.gx.le, x'⟩

theorem x_augList {k j c : Int} (hi' : ∀ ov iv new, augStore i ov iv new = (do holding [new, ov, iv] (setItem ov iv new); release [new, ov, iv] []; pure .next)) (hy : σ.lookup y = some (.live (.lst ds))) (ho : odd y = false) (h0 : 0 ≤ k) (h1 : k < 2 ^ 63) (hk : ds[k.toNat]? = some (.int j))
    (hi : EVs prog w T g₀ n sc σ i (.int k)) (h : EVs prog w T g₀ n sc σ value (.int c)) : X1 prog w T g₀ n sc own σ (.AugAssign (.Subscript (.Name y p) i p') .Add value pos) (.next (put y (.live (.lst (ds.set k.toNat (.int (j + c))))) σ)) := fun A env Own s₀ G₀ its G s a v o hw x => by
  obtain ⟨l, vs, m, H, L, r⟩ := x.liveList hy
  refine wpAny_AugAssign_Subscript_any (name_at v H ho (hi.use a v x.se fun u s₁ G₁ st z _ => ?_)) hi'
  obtain ⟨t, rfl⟩ := z.int_inv
  have x₁ := x.st st
  obtain ⟨l1, vs1, m1, H1, L1, r1⟩ := x₁.liveList hy
  have := (H.kp x.good st.kp).agree H1
  cases this
  obtain ⟨v', hv', hj⟩ := r1.get hk
  refine wpAny_getItem_list (items := vs1.toArray) ⟨_, L1.get, rfl, m1, rfl⟩ h0 h1 (by simpa using hv') ?_
  obtain ⟨t1, rfl⟩ := hj.int_inv
  refine h.use a v x₁.se fun u2 s₂ G₂ st2 z2 _ => ?_
  obtain ⟨t2, rfl⟩ := z2.int_inv
  refine PyProof.Rows.iadd_int ?_
  have x₂ := x₁.st st2
  have st3 : St T g₀ G₂ s₂ G₂ { s₂ with toks := s₂.toks + 1 } := St.toks st2.good _
  have x₃ := x₂.st st3
  have hlt : k < ds.length := by have := (List.getElem?_eq_some_iff.mp hk).1; omega
  exact x₃.setList hy ((H1.kp x₁.good st2.kp).kp x₂.good st3.kp) h0 h1 hlt (.int _ _) fun s' x4 => ⟨rfl, G₂, Gh.le_trans st.gx.le st2.gx.le, x4⟩

theorem x_unpack2 {f : PySem.Expr} {as : List PySem.Expr} {kk : Nat} {x y : Str} {q q' q'' : Pos} (hx : stO sc own x = true) (hy : stO sc own y = true) (h : EVs prog w T g₀ n sc σ (.Call f as [] p) (.tup [d₁, d₂])) :
    X1 prog w T g₀ n sc own σ (.Assign [.Tuple [.Name x q, .Name y q'] kk q''] (.Call f as [] p) pos) (.next (put y (.val d₂) (put x (.val d₁) σ))) := fun A env Own s₀ G₀ its G s a v o hw z => by
  refine Assign_Tuple (h.use a v z.se fun u s₁ G₁ st iu _ => ?_)
  refine (z.st st).bind a v o hw (show bindT sc own (.Tuple [.Name x q, .Name y q'] kk q'') (.tup [d₁, d₂]) σ = some _ by simp [bindT, two?, nameOf, tupD, hx, hy]) iu fun s' x' => ⟨rfl, G₁, st.gx.le, x'⟩

theorem sw2 {e₁ e₂ : PySem.Expr} {kk k₂ : Nat} {x y : Str} {q q' q'' p₂ : Pos} (hv : EnvOk sc env) (hx : sc.names.lookup x = some .local) (hy : sc.names.lookup y = some .local) (hl : q'.line = q.line) (hxy : x ≠ y) (hs : star? e₁ = false) (hs2 : star? e₂ = false)
    (hf : ([e₁, e₂].all (foldedForSure 8)) = false) (hc : ([e₁, e₂].all (constantsAlone 8)) = false) : swappedStores [.Tuple [.Name x q, .Name y q'] kk q''] (.Tuple [e₁, e₂] k₂ p₂) env = pure (some [x, y]) := by
  have hb : env.blockKind = .function := by
    unfold Env.blockKind
    rw [hv.scope, hv.kind]
    split <;> rfl
  have k1 : (env.kindOf x == some .local) = true := by unfold Env.kindOf; rw [hv.scope, hx]; rfl
  have k2 : (env.kindOf y == some .local) = true := by unfold Env.kindOf; rw [hv.scope, hy]; rfl
  have k3 : (q'.line == q.line) = true := by rw [hl]; simp
  have k4 : (Option.map (fun (x : PySem.Expr) => x.pos.line) [PySem.Expr.Name x q, PySem.Expr.Name y q'].head?).getD 0 = q.line := rfl
  have k5 : ∀ e : PySem.Expr, e.pos = e.pos := fun _ => rfl
  unfold swappedStores
  simp only [hb]
  simp only [List.any_cons, List.any_nil, hf, hc, List.filterMap_cons, List.filterMap_nil, k1, k2]
  rw [if_neg (by simp)]
  rw [if_neg (fun h => by
    have h1 : (star? e₁ || (star? e₂ || false)) = true := h
    rw [hs, hs2] at h1
    cases h1)]
  rw [k4]
  simp only [beq_self_eq_true, Bool.true_and, if_true, k3]
  have hd : (x == y) = false := by simpa using hxy
  have hd2 : (y == x) = false := by simpa using fun h : y = x => hxy h.symm
  rw [if_neg (by simp [List.eraseDups_cons, hd, hd2])]
  rfl
theorem x_pair {e₁ e₂ : PySem.Expr} {kk k₂ : Nat} {x y : Str} {q q' q'' p₂ : Pos} (hx : sc.names.lookup x = some .local) (hy : sc.names.lookup y = some .local) (hl : q'.line = q.line) (hxy : x ≠ y) (hs : star? e₁ = false) (hs2 : star? e₂ = false)
    (hf : ([e₁, e₂].all (foldedForSure 8)) = false) (hc : ([e₁, e₂].all (constantsAlone 8)) = false) (h1 : EVs prog w T g₀ n sc σ e₁ d₁) (h2 : NVs prog w T g₀ n sc σ e₂ d₂) :
    X1 prog w T g₀ n sc own σ (.Assign [.Tuple [.Name x q, .Name y q'] kk q''] (.Tuple [e₁, e₂] k₂ p₂) pos) (.next (put x (.val d₁) (put y (.live d₂) σ))) := fun A env Own s₀ G₀ its G s a v o hw z => by
  refine Assign_Tuple_swapped (names := [x, y]) ?_ rfl (sw2 v hx hy hl hxy hs hs2 hf hc)
  refine Tuple_ (spliced_more (h1.use a v z.se fun u₁ s₁ G₁ y₁ i₁ x₁ => spliced_more (wpAny_mono (h2 A env s₁ G₁ a v x₁) (fun u₂ s₂ hu => spliced_none ?_) fun _ _ f => f.elim) (starEach_cons hs2 [] env)) (starEach_cons hs [e₂] env))
  obtain ⟨G₂, b, ob, rfl, y₂, n1, n2, n3, n4, n5, n6, n7, n8⟩ := hu
  refine wpAny_newObj_type ?_ (by show 2 ≤ sizeLine; rw [sizeLine_eq]; omega)
  have good3 := y₂.good.push { cls := .type "tuple", data := .seq #[u₁, .ref b] }
  have nb : b ≠ s₂.heap.objs.size := Nat.ne_of_lt (Heap.lt_size n4)
  have tup : IsTup (s₂.heap.push { cls := .type "tuple", data := .seq #[u₁, .ref b] }) s₂.heap.objs.size #[u₁, .ref b] := ⟨_, Heap.get?_push_size _ rfl, rfl, 0, rfl⟩
  generalize hH : s₂.heap.push { cls := .type "tuple", data := .seq #[u₁, .ref b] } = H at tup ⊢
  show wpAny _ A (unpackItems (.ref s₂.heap.objs.size) 2 none) _ _ { s₂ with heap := H }
  have e2 : (2 : Nat) = (#[u₁, .ref b] : Array Value).size := rfl
  rw [e2]
  refine unpackItems_tuple (s := { s₂ with heap := H }) a.handled tup fun h' hk => ?_
  subst hH
  have keep : ∀ c o, s₂.heap.get? c = some o → h'.get? c = some o := fun c o e => hk c o (by show c ≠ (s₂.heap.push _).objs.size; rw [Heap.size_push]; exact Nat.ne_of_lt (Nat.lt_succ_of_lt (Heap.lt_size e))) (Heap.get?_push_of_some _ e)
  have y3 : St T g₀ G s G₂ { s₂ with heap := h' } := (y₁.trans y₂).trans (St.keep (tk := s₂.toks) y₂.good keep)
  have nb0 : s.heap.get? b = none := y₁.newOld n1
  obtain ⟨z1, hsl, hq⟩ := z.newLive y3 nb0 n2 n3 (keep _ _ n4) n5 n6 n7 n8
  have sx : stO sc own x = true := by unfold stO; rw [lk_eq, hx]; rfl
  have sy : stO sc own y = true := by unfold stO; rw [lk_eq, hy]; rfl
  show wpAny _ A (assignInOrder [fun w => bindName env y w, fun w => bindName env x w] [.ref b, u₁]) _ _ _
  refine wpAny_bind (wpAny_holding (wpAny_bindName (z1.store v o hw sy hsl (fun _ _ t dt _ et => hq t dt et) fun s4 z4 => ?_)))
  refine wpAny_bind (wpAny_holding (wpAny_bindName (z4.storeVal v o hw sx (Is.mono y₂.gx.le i₁) fun s5 z5 => ?_)))
  exact wpAny_pure ⟨rfl, G₂, y3.gx.le, z5⟩
end
end Mine

namespace Mine

theorem bindL_out {kindOf : Str → Option NameKind} {x : Str} : ∀ (binds : List (Str × Value)) (m : Str → Option Value), x ∉ binds.map (·.1) → bindL kindOf binds m x = m x
  | [], m, _ => rfl
  | (n, v) :: r, m, h => by
    have hn : x ≠ n := fun q => h (by simp [q])
    have hr : x ∉ r.map (·.1) := fun q => h (by simp at q ⊢; exact .inr q)
    unfold bindL
    rw [bindL_out r _ hr]
    split
    · exact if_neg hn
    · rfl
theorem bindC_out {kindOf : Str → Option NameKind} {x : Str} : ∀ (binds : List (Str × Value)) (m : Str → Option Value), x ∉ binds.map (·.1) → bindC kindOf binds m x = m x
  | [], m, _ => rfl
  | (n, v) :: r, m, h => by
    have hn : x ≠ n := fun q => h (by simp [q])
    have hr : x ∉ r.map (·.1) := fun q => h (by simp at q ⊢; exact .inr q)
    unfold bindC
    rw [bindC_out r _ hr]
    split
    · rfl
    · exact if_neg hn
theorem bindL_in {kindOf : Str → Option NameKind} {x : Str} {v : Value} (hk : kindOf x = some .local) : ∀ (binds : List (Str × Value)) (m : Str → Option Value), (binds.map (·.1)).Nodup → (x, v) ∈ binds → bindL kindOf binds m x = some v
  | [], m, _, h => by cases h
  | (n, u) :: r, m, hn, h => by
    rw [List.map_cons, List.nodup_cons] at hn
    unfold bindL
    rcases List.mem_cons.mp h with q | q
    · cases q
      rw [bindL_out r _ hn.1, if_pos hk, if_pos rfl]
    · exact bindL_in hk r _ hn.2 q
theorem bindC_in {kindOf : Str → Option NameKind} {x : Str} {v : Value} (hk : kindOf x ≠ some .local) : ∀ (binds : List (Str × Value)) (m : Str → Option Value), (binds.map (·.1)).Nodup → (x, v) ∈ binds → bindC kindOf binds m x = some v
  | [], m, _, h => by cases h
  | (n, u) :: r, m, hn, h => by
    rw [List.map_cons, List.nodup_cons] at hn
    unfold bindC
    rcases List.mem_cons.mp h with q | q
    · cases q
      rw [bindC_out r _ hn.1, if_neg hk, if_pos rfl]
    · exact bindC_in hk r _ hn.2 q

theorem cells_there {x : Str} : ∀ (names : List (Str × NameKind)) (n : Nat) (acc : List (Str × Addr)), names.lookup x = some .cell ∨ (∃ c, acc.lookup x = some c) → ∃ c, (cellsFrom n names acc).lookup x = some c
  | [], n, acc, h => by
    rcases h with h | h
    · simp at h
    · exact h
  | (y, k) :: r, n, acc, h => by
    unfold cellsFrom
    by_cases hk : (k == NameKind.cell) = true
    · rw [if_pos hk]
      refine cells_there r _ _ ?_
      by_cases hx : x = y
      · subst hx; exact .inr ⟨n, by simp [List.lookup_cons]⟩
      · have hx' : (x == y) = false := by simpa using hx
        rcases h with h | ⟨c, h⟩
        · rw [List.lookup_cons, hx'] at h; exact .inl h
        · exact .inr ⟨c, by rw [List.lookup_cons, hx']; exact h⟩
    · rw [if_neg hk]
      refine cells_there r _ _ ?_
      rcases h with h | h
      · rw [List.lookup_cons] at h
        split at h
        · cases h; simp at hk
        · exact .inl h
      · exact .inr h
theorem cells_fst : ∀ (names : List (Str × NameKind)) (n : Nat) (acc : List (Str × Addr)), ((names.map (·.1)) ++ acc.map (·.1)).Nodup → ((cellsFrom n names acc).map (·.1)).Nodup
  | [], n, acc, h => by unfold cellsFrom; simpa using h
  | (y, k) :: r, n, acc, h => by
    rw [List.map_cons, List.cons_append, List.nodup_cons] at h
    unfold cellsFrom
    split
    · refine cells_fst r _ _ ?_
      rw [List.map_cons]
      exact (List.perm_middle (a := y) (l₁ := r.map (·.1)) (l₂ := acc.map (·.1))).nodup_iff.mpr (List.nodup_cons.mpr h)
    · exact cells_fst r _ _ h.2
theorem lookup_of_mem {β : Type} {x : Str} {c : β} : ∀ {l : List (Str × β)}, (l.map (·.1)).Nodup → (x, c) ∈ l → l.lookup x = some c
  | (y, d) :: r, hn, h => by
    rw [List.map_cons, List.nodup_cons] at hn
    rw [List.lookup_cons]
    rcases List.mem_cons.mp h with q | q
    · cases q; simp
    · have : (x == y) = false := by
        have : x ≠ y := fun e => hn.1 (e ▸ List.mem_map.mpr ⟨_, q, rfl⟩)
        simpa using this
      rw [this]
      exact lookup_of_mem hn.2 q

noncomputable def argS (ps : List Str) (ds : List D) : List (Str × Slot) := (ps.zip ds).map fun p => (p.1, Slot.val p.2)

section
variable {prog : Program} {w : World} {T : Tabs} {g₀ : Heap} {mg mb : Str → Option Value} {n : Nat} {sc : Scope} {own : Bool} {σ σ' σ₁ : List (Str × Slot)} {d d' d₁ d₂ : D} {ds acc acc' : List D} {pos apos p p' pos' : Pos}
variable {A : Around} {env : Env} {Own : List Addr} {its : List (Addr × Obj)} {s₀ s s₁ s₂ : Shared} {G₀ G G₁ G₂ : Gh} {I a b : Addr} {E : Value → Shared → Prop} {x y : Str} {o o' : Obj} {out : Out} {st : Stmt} {sts body : List Stmt} {scope : Scope} {fd : FuncData}

theorem arg_mem : ∀ {ps : List Str} {vs : List Value} {ds : List D}, IsAll prog w G vs ds → ∀ {x : Str} {sl : Slot}, (argS ps ds).lookup x = some sl → ∃ v d, sl = .val d ∧ (x, v) ∈ ps.zip vs ∧ Is prog w G v d
  | [], _, _, _, x, sl, h => by simp [argS] at h
  | q :: ps, [], _, hi, x, sl, h => by cases hi; simp [argS] at h
  | q :: ps, v :: vs, _, hi, x, sl, h => by
    cases hi with
    | cons hv hr =>
      rename_i d ds
      unfold argS at h
      rw [List.zip_cons_cons, List.map_cons, List.lookup_cons] at h
      split at h
      · rename_i hq
        cases h
        have : x = q := by simpa using hq
        subst this
        exact ⟨v, d, rfl, .head _, hv⟩
      · obtain ⟨v', d', h1, h2, h3⟩ := arg_mem hr (ps := ps) h
        exact ⟨v', d', h1, .tail _ h2, h3⟩

/-- a function's block begins -/
theorem sr_start {ps : List Str} {vs : List Value} (hnd : (fd.scope.names.map (·.1)).Nodup) (x : Good T g₀ G s.heap) (hi : IsAll prog w G vs ds) (hpn : ps.Nodup)
    (hpk : ∀ p ∈ ps, fd.scope.names.lookup p = some .local ∨ fd.scope.names.lookup p = some .cell)
    (h : InCallC s (callEnvC fd s.heap.objs.size b).locals (bindL (callEnvC fd s.heap.objs.size b).kindOf (ps.zip vs) fun _ => none) (callEnvC fd s.heap.objs.size b).cells (bindC (callEnvC fd s.heap.objs.size b).kindOf (ps.zip vs) fun _ => none) s₁) :
    SR prog w T g₀ (callEnvC fd s.heap.objs.size b) ((callEnvC fd s.heap.objs.size b).cells.map (·.2)) s G (argS ps ds) [] G s₁ ∧ OwnOk fd.scope (callEnvC fd s.heap.objs.size b) ((callEnvC fd s.heap.objs.size b).cells.map (·.2)) := by
  generalize hL : s.heap.objs.size = L at *
  have hcn : ((callEnvC fd L b).cells.map (·.1)).Nodup := cells_fst _ _ _ (by simpa using hnd)
  have hfr : ∀ c, L ≤ c → s.heap.get? c = none := fun c hc => Heap.get?_none_of_le (by rw [hL]; exact hc)
  have hloc : (callEnvC fd L b).locals = L := rfl
  have hcell : ∀ c ∈ (callEnvC fd L b).cells.map (·.2), ∃ n, (callEnvC fd L b).cells.lookup n = some c ∧ (n, c) ∈ (callEnvC fd L b).cells := fun c hc => by
    obtain ⟨⟨n, c'⟩, hm, rfl⟩ := List.mem_map.mp hc
    exact ⟨n, lookup_of_mem hcn hm, hm⟩
  have hzn : ((ps.zip vs).map (·.1)).Nodup := by
    have : (ps.zip vs).map (·.1) = ps.take vs.length := by
      clear h hi hpk hpn
      induction ps generalizing vs with
      | nil => simp
      | cons q ps ih => cases vs with
        | nil => simp
        | cons v vs => simp [ih]
    rw [this]
    exact hpn.sublist (List.take_sublist _ _)
  refine ⟨⟨h.toInCall.same, Kp.all h.toInCall.keep, GX.refl _ _, x.keep h.toInCall.keep, ⟨_, h.toInCall.ns⟩, ⟨(x.new (hfr L (Nat.le_refl _))).1, hfr L (Nat.le_refl _), fun p hp => by cases hp⟩, fun c hc => ?_, fun c hc => ?_,
    fun p hp => (by cases hp), by simp, fun z sl e => ?_, fun u z d d' l hu hz => ?_⟩, fun _ z hz => ?_, fun u z c hc hu hz => ?_⟩
  · obtain ⟨n, hn, _⟩ := hcell c hc; exact ⟨_, h.cell n c hn⟩
  · obtain ⟨n, _, hm⟩ := hcell c hc
    have := h.above n c hm
    have hc2 := hfr c (Nat.le_of_lt this)
    exact ⟨(x.new hc2).1, hc2, fun p hp => by cases hp⟩
  · obtain ⟨v, d, rfl, hm, hv⟩ := arg_mem hi e
    refine ⟨v, ?_, hv⟩
    have hp := hpk z (List.of_mem_zip hm).1
    rcases hp with hl | hl
    · exact .inl ⟨hl, _, h.toInCall.ns, bindL_in hl _ _ hzn hm⟩
    · obtain ⟨c, hc⟩ := cells_there (x := z) fd.scope.names (L + 1) [] (.inl hl)
      refine .inr ⟨.inl hl, c, hc, ?_⟩
      have := h.cell z c hc
      rw [bindC_in (by show fd.scope.names.lookup z ≠ _; rw [hl]; decide) _ _ hzn hm] at this
      exact this
  · obtain ⟨v, d, q, _⟩ := arg_mem hi hu; cases q
  · obtain ⟨c, hc⟩ := cells_there (x := z) fd.scope.names (L + 1) [] (.inl hz)
    exact ⟨c, hc, List.mem_map.mpr ⟨(z, c), mem_of_lookup hc, rfl⟩⟩
  · exact name_of_addr h.apart (mem_of_lookup hu) (mem_of_lookup hz)

/-- what a function's record must be -/
structure FnOk (g₀ : Heap) (b : Addr) (fd : FuncData) (ps : List Str) (body : List Stmt) : Prop where
  at' : ∃ o, g₀.get? b = some o ∧ o.data = .func fd
  nolimit : g₀.NoLimit
  code : g₀.CodeRec fd.code fd.qualname
  body : fd.body = .stmts body
  clo : fd.closure = []
  globals : fd.globals = mainGlobals
  builtins : fd.builtins = builtinsNs
  co : fd.scope.isCoroutine = false
  gen : fd.scope.isGenerator = false
  kind : fd.scope.kind = .function
  bind : ∀ vs : List Value, vs.length = ps.length → bindArgs fd ⟨vs, []⟩ = pure (ps.zip vs)
  names : (fd.scope.names.map (·.1)).Nodup
  pnames : ps.Nodup
  kinds : ∀ p ∈ ps, fd.scope.names.lookup p = some .local ∨ fd.scope.names.lookup p = some .cell
noncomputable def anyCell (sc : Scope) : Bool := sc.names.any fun p => sc.names.lookup p.1 == some .cell
theorem fn_env {L b : Addr} {ps : List Str} {body : List Stmt} (F : FnOk g₀ b fd ps body) : EnvOk fd.scope (callEnvC fd L b) := ⟨rfl, F.kind, F.globals, F.builtins⟩
theorem own_ne {L b : Addr} (h : anyCell fd.scope = true) : (callEnvC fd L b).cells.map (·.2) ≠ [] := fun q => by
  obtain ⟨p, _, hp⟩ := List.any_eq_true.mp h
  obtain ⟨c, hc⟩ := cells_there (x := p.1) fd.scope.names (L + 1) [] (.inl (eq_of_beq hp))
  have e : (callEnvC fd L b).cells = [] := List.map_eq_nil_iff.mp q
  rw [show cellsFrom (L + 1) fd.scope.names [] = (callEnvC fd L b).cells from rfl, e] at hc
  cases hc
/-- a call, from its block -/
theorem code_raw {ps : List Str} {body : List Stmt} {vs : List Value} (F : FnOk g₀ b fd ps body) (hlen : ds.length = ps.length) (a : AOk (n + 1) A) (x : Good T g₀ G s.heap) (hi : IsAll prog w G vs ds)
    (h : ∀ (A : Around) (L : Addr) (s₀ : Shared) (G : Gh) (s : Shared), AOk n A → EnvOk fd.scope (callEnvC fd L b) → OwnOk fd.scope (callEnvC fd L b) ((callEnvC fd L b).cells.map (·.2)) →
      SR prog w T g₀ (callEnvC fd L b) ((callEnvC fd L b).cells.map (·.2)) s₀ G (argS ps ds) [] G s →
      wpAny (model prog w) A (execs body (callEnvC fd L b)) (fun f s' => ∃ v, f = .ret v ∧ EvR prog w T g₀ G s₀ d v s') (fun _ _ => False) s) :
    codeAny (model prog w) A (.call (.ref b) ⟨vs, []⟩) (fun r s' => ∃ v, r = .ok (.ret v) ∧ EvR prog w T g₀ G s d v s') s := by
  obtain ⟨o, ho, hd⟩ := F.at'
  have keep : ∀ b o, g₀.get? b = some o → s.heap.get? b = some o := fun b o e => x.get e
  have hvl : vs.length = ps.length := by rw [hi.length]; exact hlen
  refine codeAny_call_cells a.room (x.get ho) hd (F.nolimit.keeps keep) (F.code.keeps keep) F.body (F.bind vs hvl) F.clo (fun p hp => ?_) (fun s₁ hin => ?_) F.co F.gen F.kind
  · obtain ⟨z, v⟩ := p
    have hz := F.kinds z (List.of_mem_zip hp).1
    rcases hz with hz | hz
    · exact .inl hz
    · exact .inr ⟨hz, Option.isSome_iff_exists.mpr (cells_there _ _ _ (.inl hz))⟩
  · obtain ⟨sr, own⟩ := sr_start F.names x hi F.pnames F.kinds hin
    refine wpAny_mono (h _ _ s G s₁ (a.deeper _) (fn_env F) own sr) (fun f s' hf => ?_) fun _ _ q => q.elim
    obtain ⟨v, rfl, hv⟩ := hf
    exact ⟨v, rfl, hv⟩
theorem callOk_raw {ps : List Str} {body : List Stmt} (F : FnOk g₀ b fd ps body) (hlen : ds.length = ps.length)
    (h : ∀ (A : Around) (L : Addr) (s₀ : Shared) (G : Gh) (s : Shared), AOk n A → EnvOk fd.scope (callEnvC fd L b) → OwnOk fd.scope (callEnvC fd L b) ((callEnvC fd L b).cells.map (·.2)) →
      SR prog w T g₀ (callEnvC fd L b) ((callEnvC fd L b).cells.map (·.2)) s₀ G (argS ps ds) [] G s →
      wpAny (model prog w) A (execs body (callEnvC fd L b)) (fun f s' => ∃ v, f = .ret v ∧ EvR prog w T g₀ G s₀ d v s') (fun _ _ => False) s) : CallOk prog w T g₀ (n + 1) (.ref b) ds d := fun A s G vs a x hi => by
  refine wpAny_call (codeAny_mono (code_raw F hlen a x hi h) fun r s' hr => ?_)
  obtain ⟨v, rfl, hv⟩ := hr
  exact hv
end
end Mine

namespace Mine

section
variable {prog : Program} {w : World} {T : Tabs} {g₀ : Heap} {mg mb : Str → Option Value} {n : Nat} {sc : Scope} {σ : List (Str × Slot)} {e l r i : PySem.Expr} {d d₁ d₂ : D} {es : List PySem.Expr} {ds : List D} {pos apos p : Pos}
variable {A : Around} {env : Env} {s : Shared} {G : Gh} {E : Value → Shared → Prop} {x : Str}

theorem ev_bitlen {k : Int} (hx : σ.lookup x = some (.val (.int k))) (ho : odd x = false) (hline : (apos.endLine == pos.line) = true) :
    EVs prog w T g₀ n sc σ (.Call (.Attribute (.Name x p) "bit_length" apos) [] [] pos) (.int ((Builtin.Int.intBits k : Nat) : Int)) := fun A env s G a v y => by
  obtain ⟨u, hu, hs⟩ := y.rd x _ hx
  obtain ⟨t, rfl⟩ := Is.int_inv hs
  refine wpAny_Call_method (T := "int") (id := "int.bit_length") rfl rfl hline F.plainAttrs_int F.slot_int_bit_length F.type_int_bit_length (name_at v hu ho ?_)
  refine ⟨typeIs_int s k t, fun a' e' => (by cases e'), ?_⟩
  refine seqMethod0_meets F.slot_int_bit_length F.entry_int_bit_length (typeIs_int s k t) (F.args_int_bit_length_1 _) (S := fun _ R s => (Made.int ((Builtin.Int.intBits k : Nat) : Int)).post (fun v s' => R (.ok (.ret v)) s') s) (fun prog w A R s h => AutoIntG2.int_bit_length_int_0 k t prog w A R s h) ?_
  exact evR_toks y.good (.int _ _)
theorem ev_fdiv {i j : Int} (h0 : j ≠ 0) (hl : EVs prog w T g₀ n sc σ l (.int i)) (hr : EVs prog w T g₀ n sc σ r (.int j)) (hz : Builtin.divisionGoesByPylong i j = false) : EVs prog w T g₀ n sc σ (.BinOp l .FloorDiv r pos) (.int (i.fdiv j)) :=
  ev_bin hl hr fun A s G a b _ x ha hb => by obtain ⟨t, rfl⟩ := ha.int_inv; obtain ⟨u, rfl⟩ := hb.int_inv; exact PyProof.Rows.floordiv_int h0 (evR_toks x (.int _ _)) (.inl hz)
theorem ev_glob (L : Gl g₀ mg mb) {k : Int} {t : Tok} (hf : mg x = some (.int k t)) (hk : sc.names.lookup x = some .globalImplicit) (ho : odd x = false) : EVs prog w T g₀ n sc σ (.Name x p) (.int k) := fun A env s G a v y =>
  name_glob L v y.good hf hk ho (evR_here y.good (.int _ _))
theorem call_lenL {ds : List D} (hz : ds.length ≤ 1000) : CallOk prog w T g₀ n (.builtin "len") [.lst ds] (.int ds.length) := fun A s G vs a x h => by
  obtain ⟨v, rfl, hv⟩ := h.one
  obtain ⟨b, o, us, m, rfl, e, _, c, dd, r⟩ := hv.lst_inv
  refine call_len_list (x.isList e c dd) (by rw [List.size_toArray, r.length]; omega) ?_
  rw [List.size_toArray, r.length]
  exact evR_toks x (.int _ _)
theorem tr_nameInt {k : Int} (hx : σ.lookup x = some (.val (.int k))) (ho : odd x = false) : TRs prog w T g₀ n sc σ (.Name x p) (k != 0) := fun A env s G a v y =>
  isTrue_plain ((ev_name hx ho).use a v y fun u s₁ G₁ st z _ => by obtain ⟨t, rfl⟩ := z.int_inv; exact truthy_int ⟨rfl, G₁, st⟩)
theorem tr_nameLst {ds : List D} (hz : ds.length ≤ 1000) (hx : σ.lookup x = some (.val (.lst ds))) (ho : odd x = false) : TRs prog w T g₀ n sc σ (.Name x p) (!ds.isEmpty) := fun A env s G a v y =>
  isTrue_plain ((ev_name hx ho).use a v y fun u s₁ G₁ st z y₁ => by
    obtain ⟨b, o, us, m, rfl, e, _, c, dd, r⟩ := z.lst_inv
    refine wpAny_truthy_list (y₁.good.isList e c dd) (by rw [List.size_toArray, r.length]; omega) ⟨?_, G₁, st.trans (St.toks y₁.good _)⟩
    have := r.length
    cases us <;> cases ds <;> first | rfl | simp at this)
/-- a live list's length -/
theorem ev_lenLive (L : Gl g₀ mg mb) {f : Str} {ds : List D} {q : Pos} (hz : ds.length ≤ 1000) (hf : biOf f = some (.builtin "len")) (hk : sc.names.lookup f = some .globalImplicit) (ho : odd f = false) (hx : σ.lookup x = some (.live (.lst ds))) (hox : odd x = false) :
    EVs prog w T g₀ n sc σ (.Call (.Name f q) [.Name x p] [] pos) (.int ds.length) := fun A env s G a v y => by
  refine Call_ (name_bi L v y.good hf hk ho ?_)
  obtain ⟨u, hu, l, o, rfl, hg, hm, hc, b⟩ := y.rd x _ hx
  refine callWith_builtin1 (spliced_more (name_at v hu hox (spliced_none ?_)) (starEach_cons rfl [] env)) (starEach_cons rfl [] env) rfl
  cases b with
  | lst c dd r =>
    rename_i vs m
    refine call_len_list (items := vs.toArray) ⟨o, hg, c, m, dd⟩ (by rw [List.size_toArray, r.length]; omega) ?_
    rw [List.size_toArray, r.length]
    exact evR_toks y.good (.int _ _)
theorem cmp_gt {i j : Int} : CmpOk prog w T g₀ n .Gt (.int i) (.int j) (decide (i > j)) := fun A s G u v _ x ha hb => by
  obtain ⟨t, rfl⟩ := ha.int_inv; obtain ⟨t', rfl⟩ := hb.int_inv; exact PyProof.Rows.gt_int ⟨rfl, G, St.refl x⟩
theorem intsOf_map : ∀ (ns : List Int), intsOf (ns.map D.int) = some ns
  | [] => rfl
  | i :: ns => by rw [List.map_cons]; unfold intsOf; rw [intsOf_map ns]; rfl
theorem call_sum {ns : List Int} : CallOk prog w T g₀ n (.builtin "sum") [.lst (ns.map D.int)] (.int ns.sum) := fun A s G vs a x h => by
  obtain ⟨v, rfl, hv⟩ := h.one
  obtain ⟨b, o, us, m, rfl, e, _, c, dd, r⟩ := hv.lst_inv
  obtain ⟨xs, e1, e2⟩ := intItems_of (r.toInts (intsOf_map ns))
  have hl := x.isList e c dd
  rw [e1] at hl
  refine sum_intListG a.handled hl fun h' tk t' hk => ?_
  rw [preSum_eq, List.take_of_length_le (by simp), e2]
  exact ⟨G, St.keep x hk, .int _ _⟩
end
end Mine

namespace Mine

noncomputable def TabOk (P : Addr) (pos : Pos) (qual : Str) (h : Heap) (G : Gh) : Prop :=
  (h.get? P = some (tabObj #[]) ∨ ∃ c', h.get? P = some (tabObj #[rawInt pos.line, rawInt pos.col, .ref c']) ∧ ∃ o vs t, G c' = some o ∧ o.data = .fields vs ∧ vs[1]? = some (.str qual t)) ∧ G P = none
theorem TabOk.there {P : Addr} {pos : Pos} {qual : Str} {h : Heap} {G : Gh} (x : TabOk P pos qual h G) : (∃ o, h.get? P = some o ∧ o.cls = .none ∧ ∃ vs, o.data = .fields vs) ∧ G P = none := by
  refine ⟨?_, x.2⟩
  rcases x.1 with e | ⟨c', e, _⟩
  · exact ⟨_, e, rfl, _, rfl⟩
  · exact ⟨_, e, rfl, _, rfl⟩
theorem TabOk.mono {P : Addr} {pos : Pos} {qual : Str} {h h' : Heap} {G G' : Gh} (x : TabOk P pos qual h G) (le : G.le G') (k : ∀ o, h.get? P = some o → h'.get? P = some o) (hn : G' P = none) : TabOk P pos qual h' G' := by
  refine ⟨?_, hn⟩
  rcases x.1 with e | ⟨c', e, o, vs, t, g, r⟩
  · exact .inl (k _ e)
  · exact .inr ⟨c', k _ e, o, vs, t, le _ _ g, r⟩
noncomputable def tabs2 (P₁ P₂ : Addr) (pos₁ pos₂ : Pos) (q₁ q₂ : Str) : Tabs where
  tb := [P₁, P₂]
  tc := fun h G => TabOk P₁ pos₁ q₁ h G ∧ TabOk P₂ pos₂ q₂ h G
  there := fun ⟨x, y⟩ b hb => by
    rcases List.mem_cons.mp hb with rfl | hb
    · exact x.there
    · rw [List.mem_singleton.mp hb]; exact y.there
  mono := fun ⟨x, y⟩ le _ k hn => ⟨x.mono le (k _ (.head _)) (hn _ (.head _)), y.mono le (k _ (.tail _ (.head _))) (hn _ (.tail _ (.head _)))⟩
structure NestOk (T : Tabs) (P : Addr) (pos : Pos) (qual : Str) : Prop where
  mem : P ∈ T.tb
  get : ∀ {h G}, T.tc h G → TabOk P pos qual h G
  put : ∀ {h h' G G'}, T.tc h G → G.le G' → (∀ b o, G' b = some o → h'.get? b = some o) → (∀ b ∈ T.tb, b ≠ P → ∀ o, h.get? b = some o → h'.get? b = some o) → (∀ b ∈ T.tb, G' b = none) → TabOk P pos qual h' G' → T.tc h' G'
theorem nest₁ {P₁ P₂ : Addr} {pos₁ pos₂ : Pos} {q₁ q₂ : Str} (hne : P₁ ≠ P₂) : NestOk (tabs2 P₁ P₂ pos₁ pos₂ q₁ q₂) P₁ pos₁ q₁ :=
  ⟨.head _, fun x => x.1, fun x le _ k hn y => ⟨y, x.2.mono le (k _ (.tail _ (.head _)) hne.symm) (hn _ (.tail _ (.head _)))⟩⟩
theorem nest₂ {P₁ P₂ : Addr} {pos₁ pos₂ : Pos} {q₁ q₂ : Str} (hne : P₁ ≠ P₂) : NestOk (tabs2 P₁ P₂ pos₁ pos₂ q₁ q₂) P₂ pos₂ q₂ :=
  ⟨.tail _ (.head _), fun x => x.2, fun x le _ k hn y => ⟨x.1.mono le (k _ (.head _) hne) (hn _ (.head _)), y⟩⟩

section
variable {prog : Program} {w : World} {T : Tabs} {g₀ : Heap} {mg mb : Str → Option Value} {n : Nat} {sc : Scope} {own : Bool} {σ σ' σ₁ : List (Str × Slot)} {d d' d₁ d₂ : D} {ds acc acc' : List D} {pos apos p p' pos' : Pos}
variable {A : Around} {env : Env} {Own : List Addr} {its : List (Addr × Obj)} {s₀ s s₁ s₂ : Shared} {G₀ G G₁ G₂ : Gh} {I a b c P : Addr} {E : Value → Shared → Prop} {x y : Str} {o o' : Obj} {out : Out} {st : Stmt} {sts body : List Stmt} {scope : Scope} {fd : FuncData} {name qual : Str} {params : Arguments}

/-- what a name's closure is -/
noncomputable def CloAt (G : Gh) (h : Heap) (env : Env) (name qual : Str) (params : Arguments) (body : List Stmt) (scope : Scope) (pm : Value) : Prop :=
  ∃ fa clos ctv doc c', Holds env h name (.ref fa) ∧ G fa = some (fnMade name qual params body scope clos doc pm c' ctv) ∧ (∀ x, (x, NameKind.free) ∈ scope.names → clos.lookup x = env.cells.lookup x) ∧ ∃ o vs t, G c' = some o ∧ o.data = .fields vs ∧ vs[1]? = some (.str qual t)

theorem x_def {Q : Flow → Shared → Prop} (N : NestOk T P pos qual) (hC : CodeHd g₀ c P) (hg : g₀.Ns mainGlobals mg) (hbm : ∃ bm ob, mg "__builtins__" = some (.ref bm) ∧ bm ≠ builtinsNs ∧ g₀.get? bm = some ob ∧ ob.cls = .type "module" ∧ ob.dict = some builtinsNs ∧ ob.data = .plain)
    (hd0 : params.defaults = []) (hk0 : params.kw_defaults = []) (ha : annTrees params none env = []) (hq : qualnameIn env name name = qual) (hcode : env.code = .ref c)
    (a : AOk n A) (v : EnvOk sc env) (ho : OwnOk sc env Own) (hw : own = true → Own ≠ []) (hst : stO sc own name = true) (hfree : ∀ p ∈ scope.names, p.2 = .free → ∃ c, env.cells.lookup p.1 = some c)
    (x : SR prog w T g₀ env Own s₀ G₀ σ its G s)
    (h : ∀ G' s', G.le G' → SR prog w T g₀ env Own s₀ G₀ (put name (.val .any) σ) its G' s' → CloAt G' s'.heap env name qual params body scope ((mg "__name__").getD .none) → Q .next s') :
    wpAny (model prog w) A (exec (.FunctionDef name params body [] none [] scope none name pos) env) Q E s := by
  obtain ⟨clos, hcl, hclos⟩ := closureFor_ok (env := env) hfree
  obtain ⟨bm, ob, b1, b2, b3, b4, b5, b6⟩ := hbm
  have hns := x.good.ns hg
  have hCs : CodeHd s.heap c P := hC.keeps fun b o e => x.good.get e
  have tabk := N.get x.good.tab
  have hPo := tabk.there.1
  have hgP : mainGlobals ≠ P := fun q => by
    obtain ⟨o, es, ep, e, hd, _⟩ := hns
    obtain ⟨o', e', _, vs, hd'⟩ := hPo
    rw [q, e'] at e; cases e; rw [hd'] at hd; cases hd
  have hbP : bm ≠ P := fun q => by
    obtain ⟨o', e', hc', _⟩ := hPo
    have e := x.good.get b3
    rw [q, e'] at e; cases e; rw [hc'] at b4; cases b4
  have hbG : bm ≠ mainGlobals := fun q => by
    obtain ⟨o, es, ep, e, hd, _⟩ := hg
    rw [q, e] at b3; cases b3; rw [hd] at b6; cases b6
  have hB : s.heap.BuiltinsAt mg P := ⟨bm, ob, b1, b2, hbG, hbP, x.good.get b3, b4, b5, b6⟩
  refine nestDef_K hd0 hk0 ha ?_
  rw [hq]
  -- the end, common to both roads
  have fin : ∀ (fa c' : Addr) (ctv doc : Value) (G' : Gh) (s' : Shared), St T g₀ G s G' s' → G' fa = some (fnMade name qual params body scope clos doc ((mg "__name__").getD .none) c' ctv) →
      (∃ o vs t, G' c' = some o ∧ o.data = .fields vs ∧ vs[1]? = some (.str qual t)) → wpAny (model prog w) A (storeName env name (.ref fa)) (fun _ s'' => Q .next s'') E s' := fun fa c' ctv doc G' s' st hf hcd => by
    refine (x.st st).store2 v ho hw hst (sl := .val .any) (.any _) (fun d e => by cases e) fun s'' x'' H _ => ?_
    exact h G' s'' st.gx.le x'' ⟨fa, clos, ctv, doc, c', H, hf, hclos, hcd⟩
  rcases tabk.1 with e | ⟨c', e, hcode'⟩
  · refine makeFunction_K hcl v.globals hns hcode hCs e trivial rfl hgP hB fun c' ctv doc h' tk hx hge hlt hrec htb => ?_
    obtain ⟨c₂, oc, vs, t, e2, hoc, hd, hv⟩ := hrec
    cases e2
    have hPlt : P < s.heap.objs.size := Heap.lt_size e
    have hcP : c' ≠ P := Nat.ne_of_gt (Nat.lt_of_lt_of_le hPlt hge)
    have hsz : s.heap.objs.size ≤ h'.objs.size := Nat.le_trans hge (Nat.le_of_lt hlt)
    have hfP : h'.objs.size ≠ P := Nat.ne_of_gt (Nat.lt_of_lt_of_le hPlt hsz)
    have hcf : c' ≠ h'.objs.size := Nat.ne_of_lt hlt
    have hcn : s.heap.get? c' = none := Heap.get?_none_of_le hge
    have hfn : s.heap.get? h'.objs.size = none := Heap.get?_none_of_le hsz
    obtain ⟨gc, tc⟩ := x.good.new hcn
    obtain ⟨gf, tf⟩ := x.good.new hfn
    have le1 : G.le (G.add c' oc) := Gh.le_add oc gc
    have gf1 : (G.add c' oc) h'.objs.size = none := by rw [Gh.add_ne G oc (Ne.symm hcf)]; exact gf
    have le2 : (G.add c' oc).le ((G.add c' oc).add h'.objs.size (fnMade name qual params body scope clos doc ((mg "__name__").getD .none) c' ctv)) := Gh.le_add _ gf1
    have sub : ∀ b o, ((G.add c' oc).add h'.objs.size (fnMade name qual params body scope clos doc ((mg "__name__").getD .none) c' ctv)) b = some o → (h'.push (fnMade name qual params body scope clos doc ((mg "__name__").getD .none) c' ctv)).get? b = some o := fun b o e3 => by
      by_cases q1 : b = h'.objs.size
      · subst q1; rw [Gh.add_self] at e3; cases e3; exact Heap.get?_push_size _ rfl
      · rw [Gh.add_ne _ _ q1] at e3
        by_cases q2 : b = c'
        · subst q2; rw [Gh.add_self] at e3; cases e3; exact Heap.get?_push_of_some _ hoc
        · rw [Gh.add_ne _ _ q2] at e3
          exact Heap.get?_push_of_some _ (hx b o (fun q => by rw [q, tabk.2] at e3; cases e3) (x.good.sub b o e3))
    have hgn : ∀ b ∈ T.tb, ((G.add c' oc).add h'.objs.size (fnMade name qual params body scope clos doc ((mg "__name__").getD .none) c' ctv)) b = none := fun b hb => by
      have n1 : b ≠ h'.objs.size := fun q => tf (by rw [← q]; exact hb)
      have n2 : b ≠ c' := fun q => tc (by rw [← q]; exact hb)
      rw [Gh.add_ne _ _ n1, Gh.add_ne _ _ n2]
      exact (T.there x.good.tab b hb).2
    have good' : Good T g₀ ((G.add c' oc).add h'.objs.size (fnMade name qual params body scope clos doc ((mg "__name__").getD .none) c' ctv)) (h'.push (fnMade name qual params body scope clos doc ((mg "__name__").getD .none) c' ctv)) := by
      refine ⟨sub, fun b o e3 => le2 _ _ (le1 _ _ (x.good.base b o e3)), N.put x.good.tab (Gh.le_trans le1 le2) sub (fun b hb hbP o e3 => Heap.get?_push_of_some _ (hx b o hbP e3)) hgn ?_, x.good.mods⟩
      exact ⟨.inr ⟨c', Heap.get?_push_of_some _ htb, oc, vs, t, le2 _ _ (Gh.add_self _ _ _), hd, hv⟩, hgn P N.mem⟩
    refine fin h'.objs.size c' ctv doc _ _ ⟨⟨_, _, rfl⟩, fun b o hb e3 => Heap.get?_push_of_some _ (hx b o (fun q => hb (q ▸ N.mem)) e3), ⟨Gh.le_trans le1 le2, fun b o e3 => ?_⟩, good'⟩ (Gh.add_self _ _ _) ⟨oc, vs, t, le2 _ _ (Gh.add_self _ _ _), hd, hv⟩
    by_cases q1 : b = h'.objs.size
    · subst q1; exact .inr hfn
    · rw [Gh.add_ne _ _ q1] at e3
      by_cases q2 : b = c'
      · subst q2; exact .inr hcn
      · rw [Gh.add_ne _ _ q2] at e3; exact .inl e3
  · have hf : codeAmong pos (#[rawInt pos.line, rawInt pos.col, .ref c'] : Array Value).toList = some (.ref c') := codeAmong_snoc (c := .ref c') [] trivial rfl
    refine makeFunction_hit hcl v.globals hns hcode hCs e (by exact trivial) hf hB fun ctv doc h' tk hk hsz => ?_
    have hfn : s.heap.get? h'.objs.size = none := Heap.get?_none_of_le hsz
    have hst' := St.made (tk := tk) (o := { cls := .type "function", data := .func (fnX name qual params body scope clos .none .none doc ((mg "__name__").getD .none) none (.ref c') ctv) }) x.good
      (fun b o e => Heap.get?_push_of_some _ (hk b o e)) hfn (Heap.get?_push_size h' rfl)
    obtain ⟨oc, vs, t, g, r⟩ := hcode'
    exact fin h'.objs.size c' ctv doc _ _ hst' (Gh.add_self _ _ _) ⟨oc, vs, t, hst'.gx.le _ _ g, r⟩
end
end Mine

namespace Mine

theorem zip_some {ps : List Str} {vs : List Value} (hl : vs.length = ps.length) : ∀ n ∈ ps, ((ps.zip vs).lookup n).isSome = true := by
  induction ps generalizing vs with
  | nil => intro n h; cases h
  | cons q ps ih =>
    cases vs with
    | nil => simp at hl
    | cons v vs =>
      intro n h
      rw [List.zip_cons_cons, List.lookup_cons]
      split
      · rfl
      · rename_i hq
        rcases List.mem_cons.mp h with e | h
        · subst e; simp at hq
        · exact ih (by simpa using hl) n h
theorem zip_back {ps : List Str} {vs : List Value} (hl : vs.length = ps.length) (hn : ps.Nodup) : (ps.filterMap fun n => ((ps.zip vs).lookup n).map fun x => (n, x)) = ps.zip vs := by
  have key : ∀ (qs : List Str) (us : List Value), us.length = qs.length → (∀ n u, (n, u) ∈ qs.zip us → (ps.zip vs).lookup n = some u) → (qs.filterMap fun n => ((ps.zip vs).lookup n).map fun x => (n, x)) = qs.zip us := by
    intro qs
    induction qs with
    | nil => intro us _ _; rfl
    | cons q qs ih =>
      intro us hu h
      cases us with
      | nil => simp at hu
      | cons u us =>
        rw [List.filterMap_cons, h q u (.head _), List.zip_cons_cons]
        simp only [Option.map_some]
        rw [ih us (by simpa using hu) fun n u hm => h n u (.tail _ hm)]
  refine key ps vs hl fun n u hm => ?_
  refine lookup_of_mem ?_ hm
  have : (ps.zip vs).map (·.1) = ps := by
    rw [List.map_fst_zip]
    omega
  rw [this]; exact hn
noncomputable def plainP (p : Arguments) : Bool := p.posonlyargs.isEmpty && p.kwonlyargs.isEmpty && p.vararg.isNone && p.kwarg.isNone && p.defaults.isEmpty && p.kw_defaults.isEmpty
theorem bind_simple {fd : FuncData} {vs : List Value} (hp : plainP fd.params = true) (hd : fd.defaults = .none) (hk : fd.kwdefaults = .none) (hl : vs.length = (fd.params.args.map (·.arg)).length) (hn : (fd.params.args.map (·.arg)).Nodup) :
    bindArgs fd ⟨vs, []⟩ = pure ((fd.params.args.map (·.arg)).zip vs) := by
  unfold plainP at hp
  simp only [Bool.and_eq_true, List.isEmpty_iff, Option.isNone_iff_eq_none] at hp
  obtain ⟨⟨⟨⟨⟨h1, h2⟩, h3⟩, h4⟩, h5⟩, h6⟩ := hp
  unfold bindArgs
  have e : seqItems? (.none : Value) = pure none := rfl
  have e2 : ∀ k, (List.filter (fun n => (List.lookup n ((List.map (fun x => x.arg) fd.params.args).zip vs)).isNone) (List.take k (List.map (fun x => x.arg) fd.params.args))) = [] := fun k => by
    rw [List.filter_eq_nil_iff]
    intro n hm
    have := zip_some hl n (List.mem_of_mem_take hm)
    rw [Option.isSome_iff_ne_none] at this
    simpa using this
  have e3 := zip_back hl hn
  rw [List.filterMap_map] at e3
  simp [h1, h2, h3, h4, hd, hk, e, hl, e2]
  rw [e3]

theorem lookup_app (z : Str) (l r : List (Str × Slot)) : (l ++ r).lookup z = match l.lookup z with | some sl => some sl | none => r.lookup z := by
  induction l with
  | nil => rfl
  | cons p l ih =>
    obtain ⟨y, t⟩ := p
    rw [List.cons_append, List.lookup_cons, List.lookup_cons]
    cases z == y with
    | true => rfl
    | false => exact ih

section
variable {prog : Program} {w : World} {T : Tabs} {g₀ : Heap} {mg mb : Str → Option Value} {n : Nat} {sc : Scope} {own : Bool} {σ σ' σ₁ : List (Str × Slot)} {d d' d₁ d₂ : D} {ds acc acc' : List D} {pos apos p p' pos' : Pos}
variable {A : Around} {env : Env} {Own : List Addr} {its : List (Addr × Obj)} {s₀ s s₁ s₂ : Shared} {G₀ G G₁ G₂ : Gh} {I a b c P : Addr} {E : Value → Shared → Prop} {x y : Str} {o o' : Obj} {out : Out} {st : Stmt} {sts ibody : List Stmt} {iscope : Scope} {fd : FuncData} {name qual : Str} {params : Arguments} {pm : Value} {e : PySem.Expr} {es : List PySem.Expr}

theorem CloAt.after (x : CloAt G s.heap env name qual params ibody iscope pm) (g : Good T g₀ G s.heap) (y : St T g₀ G s G₁ s₁) : CloAt G₁ s₁.heap env name qual params ibody iscope pm := by
  obtain ⟨fa, clos, ctv, doc, c', H, hf, hc, o, vs, t, ho, r⟩ := x
  exact ⟨fa, clos, ctv, doc, c', H.kp g y.kp, y.gx.le _ _ hf, hc, o, vs, t, y.gx.le _ _ ho, r⟩

/-- the inner function's own conditions -/
structure InOk (iscope : Scope) (params : Arguments) : Prop where
  names : namesOk iscope = true
  co : iscope.isCoroutine = false
  gen : iscope.isGenerator = false
  plain : plainP params = true
  pn : (params.args.map (·.arg)).Nodup
  pk : ∀ q ∈ params.args.map (·.arg), iscope.names.lookup q = some .local

/-- an inner function is called -/
theorem clo_call {Q : Value → Shared → Prop} (hnl : g₀.NoLimit) (K : InOk iscope params) (hfr : freeOk sc iscope σ = true) (ho : odd name = false) (hs : stars (e :: es) = false) (hlen : ds.length = (params.args.map (·.arg)).length)
    (a : AOk (n + 1) A) (v : EnvOk sc env) (x : SE prog w T g₀ env σ G s.heap) (C : CloAt G s.heap env name qual params ibody iscope pm) (ha : ELs prog w T g₀ (n + 1) sc σ (e :: es) ds)
    (h : ∀ (A' : Around) (env' : Env) (s₁ s₂ : Shared) (G₁ : Gh), AOk n A' → EnvOk iscope env' → St T g₀ G s G₁ s₁ → St T g₀ G₁ s₁ G₁ s₂ → (∀ z, (z, NameKind.free) ∈ iscope.names → env'.cells.lookup z = env.cells.lookup z) →
      SR prog w T g₀ env' [] s₁ G₁ (argS (params.args.map (·.arg)) ds ++ seen iscope σ) [] G₁ s₂ →
      wpAny (model prog w) A' (execs ibody env') (fun f s' => Q (match f with | .ret v => v | _ => .none) s') (fun _ _ => False) s₂) :
    wpAny (model prog w) A (eval (.Call (.Name name p) (e :: es) [] pos) env) Q (fun _ _ => False) s := by
  obtain ⟨fa, clos, ctv, doc, c', H, hf, hc, o, vs, t, hco, hdo, hq⟩ := C
  refine Call_ (name_at v H ho ?_)
  simp only [stars, List.any_cons, Bool.or_eq_false_iff] at hs
  refine callWith_def (o := fnMade name qual params ibody iscope clos doc pm c' ctv) rfl (ha.use a v x fun us s₁ G₁ y z x₁ => ⟨x₁.good.sub _ _ (y.gx.le _ _ hf), ?_⟩) (starEach_cons hs.1 es env)
  obtain ⟨hkind, hloc⟩ := names_local K.names
  have hall := K.names
  unfold namesOk at hall
  rw [Bool.and_eq_true, List.all_eq_true] at hall
  have keep : ∀ b o, g₀.get? b = some o → s₁.heap.get? b = some o := fun b o e => x₁.good.get e
  have hul : us.length = (params.args.map (·.arg)).length := by rw [z.length]; exact hlen
  refine wpAny_call (codeAny_call_def (binds := (params.args.map (·.arg)).zip us) a.room (x₁.good.sub _ _ (y.gx.le _ _ hf)) rfl (hnl.keeps keep) ⟨c', o, vs, t, rfl, x₁.good.sub _ _ (y.gx.le _ _ hco), hdo, hq⟩ rfl
    (.of_eq (bind_simple (fd := fnX name qual params ibody iscope clos .none .none doc pm none (.ref c') ctv) K.plain rfl rfl hul K.pn)) (fun q hq' e' => ?_) (fun q hq' => K.pk _ (List.of_mem_zip (a := q.1) (b := q.2) hq').1) (fun h₀ hns hk => ?_) K.co K.gen hkind)
  · have := hall.2 q hq'
    rw [e'] at this
    simp at this
  · generalize hfd : fnX name qual params ibody iscope clos .none .none doc pm none (.ref c') ctv = fd at *
    have e1 : fd.scope = iscope := by rw [← hfd]
    have e2 : fd.closure = clos := by rw [← hfd]
    have e3 : fd.globals = mainGlobals := by rw [← hfd]
    have e4 : fd.builtins = builtinsNs := by rw [← hfd]
    have hv' : EnvOk iscope (callEnv fd s₁.heap.objs.size fa) := ⟨e1, hkind, e3, e4⟩
    have hcells : (callEnv fd s₁.heap.objs.size fa).cells = clos := e2
    have hn := size_none s₁.heap
    obtain ⟨gL, tL⟩ := x₁.good.new hn
    have hzn : (((params.args.map (·.arg)).zip us).reverse.map (·.1)).Nodup := by
      rw [List.map_reverse, (List.reverse_perm _).nodup_iff, List.map_fst_zip (by omega)]; exact K.pn
    have sr : SR prog w T g₀ (callEnv fd s₁.heap.objs.size fa) [] s₁ G₁ (argS (params.args.map (·.arg)) ds ++ seen iscope σ) [] G₁ { s₁ with heap := h₀, toks := s₁.toks + ((params.args.map (·.arg)).zip us).length } := by
      refine ⟨⟨_, _, rfl⟩, Kp.all hk, GX.refl _ _, x₁.good.keep hk, ⟨_, hns⟩, ⟨gL, hn, fun p hp => by cases hp⟩, fun c hc => (by cases hc), fun c hc => (by cases hc), fun p hp => (by cases hp), by simp, fun q sl eq => ?_, fun u z' du dz l hu hz => ?_⟩
      · rw [lookup_app] at eq
        split at eq
        · rename_i sl' e5
          cases eq
          obtain ⟨u, d5, rfl, hm, hu⟩ := arg_mem z e5
          refine ⟨u, .inl ⟨?_, _, hns, lookup_of_mem hzn (List.mem_reverse.mpr hm)⟩, hu⟩
          show fd.scope.names.lookup q = _
          rw [e1]; exact K.pk q (List.of_mem_zip hm).1
        · obtain ⟨hm, eq', d5, rfl⟩ := seen_mem eq
          obtain ⟨u, hH, hs5⟩ := x₁.rd q _ eq'
          refine ⟨u, ?_, hs5⟩
          have hk5 := List.all_eq_true.mp hfr (q, .free) hm
          have hk2 : sc.names.lookup q = some .cell ∨ sc.names.lookup q = some .free := by
            simp only [bne_self_eq_false, Bool.false_or, Bool.and_eq_true, Bool.or_eq_true, beq_iff_eq, lk_eq] at hk5
            exact hk5.1
          have hlk : iscope.names.lookup q = some .free := by
            have := hall.2 (q, .free) hm
            simp [lk_eq] at this
            exact this
          rcases hH with ⟨hl, _⟩ | ⟨_, c5, hc5, hc5'⟩
          · unfold Env.kindOf at hl
            rw [v.scope] at hl
            rw [hl] at hk2; rcases hk2 with q | q <;> cases q
          · refine .inr ⟨.inr (by show fd.scope.names.lookup q = _; rw [e1]; exact hlk), c5, ?_, hc5'.keeps hk⟩
            rw [hcells]; exact (hc q hm).trans hc5
      · have nl : ∀ {z} {dd}, (argS (params.args.map (·.arg)) ds ++ seen iscope σ).lookup z = some (.live dd) → False := fun {z} {dd} e5 => by
          rw [lookup_app] at e5
          split at e5
          · rename_i sl' e6
            cases e5
            obtain ⟨u, d5, q, _⟩ := arg_mem (by assumption) e6
            cases q
          · obtain ⟨_, _, d5, q⟩ := seen_mem e5; cases q
        exact (nl hu).elim
    refine wpAny_mono (h _ _ s₁ _ G₁ (a.deeper _) hv' y ⟨⟨_, _, rfl⟩, Kp.all hk, GX.refl _ _, sr.good⟩ (fun z hz => by rw [hcells]; exact hc z hz) sr) (fun f s' hf' => hf') fun _ _ q => q.elim
end
end Mine

namespace Mine

/-- a def inside a function -/
structure DefSt (T : Tabs) (g₀ : Heap) (mg : Str → Option Value) (fd : FuncData) (name : Str) (params : Arguments) (iscope : Scope) (pos : Pos) (qual : Str) : Prop where
  ex : ∃ c P, NestOk T P pos qual ∧ CodeHd g₀ c P ∧ fd.code = .ref c
  hq : ∀ L b, qualnameIn (callEnvC fd L b) name name = qual
  ann : ∀ env, annTrees params none env = []
  K : InOk iscope params
  g : g₀.Ns mainGlobals mg
  bm : ∃ bm ob, mg "__builtins__" = some (.ref bm) ∧ bm ≠ builtinsNs ∧ g₀.get? bm = some ob ∧ ob.cls = .type "module" ∧ ob.dict = some builtinsNs ∧ ob.data = .plain
  nl : g₀.NoLimit

section
variable {prog : Program} {w : World} {T : Tabs} {g₀ : Heap} {mg mb : Str → Option Value} {n : Nat} {sc : Scope} {own : Bool} {σ σ' σ₁ : List (Str × Slot)} {d d' d₁ d₂ : D} {ds acc acc' : List D} {pos apos p p' pos' ipos cp xp rp : Pos}
variable {A : Around} {env : Env} {Own : List Addr} {its : List (Addr × Obj)} {s₀ s s₁ s₂ : Shared} {G₀ G G₁ G₂ : Gh} {I a b c P : Addr} {E : Value → Shared → Prop} {x y : Str} {o o' : Obj} {out : Out} {st : Stmt} {sts ibody : List Stmt} {iscope : Scope} {fd : FuncData} {name qual : Str} {params : Arguments} {pm : Value} {e t els : PySem.Expr} {es : List PySem.Expr} {L : Addr}

theorem plainP_none (h : plainP params = true) : params.defaults = [] ∧ params.kw_defaults = [] := by
  unfold plainP at h
  simp only [Bool.and_eq_true, List.isEmpty_iff] at h
  exact ⟨h.1.2, h.2⟩
/-- the cells are there for what a def sees -/
noncomputable def seesOk (sc iscope : Scope) : Bool := iscope.names.all fun p => p.2 != .free || sc.names.lookup p.1 == some .cell
theorem sees_cells (h : seesOk fd.scope iscope = true) : ∀ p ∈ iscope.names, p.2 = .free → ∃ c, (callEnvC fd L b).cells.lookup p.1 = some c := fun p hp hf => by
  have := List.all_eq_true.mp h p hp
  rw [hf] at this
  simp only [bne_self_eq_false, Bool.false_or, beq_iff_eq] at this
  exact cells_there _ _ _ (.inl this)

theorem def_step {Q : Flow → Shared → Prop} (X : DefSt T g₀ mg fd name params iscope pos qual) (hsees : seesOk fd.scope iscope = true) (a : AOk n A) (v : EnvOk fd.scope (callEnvC fd L b)) (ho : OwnOk fd.scope (callEnvC fd L b) Own) (hw : own = true → Own ≠ []) (hst : stO fd.scope own name = true)
    (x : SR prog w T g₀ (callEnvC fd L b) Own s₀ G₀ σ its G s)
    (h : ∀ G' s', G.le G' → SR prog w T g₀ (callEnvC fd L b) Own s₀ G₀ (put name (.val .any) σ) its G' s' → CloAt G' s'.heap (callEnvC fd L b) name qual params ibody iscope ((mg "__name__").getD .none) → Q .next s') :
    wpAny (model prog w) A (exec (.FunctionDef name params ibody [] none [] iscope none name pos) (callEnvC fd L b)) Q E s := by
  obtain ⟨c, P, N, hC, hcode⟩ := X.ex
  obtain ⟨h1, h2⟩ := plainP_none X.K.plain
  exact x_def N hC X.g X.bm h1 h2 (X.ann _) (X.hq L b) hcode a v ho hw hst (sees_cells hsees) x h

/-- a def, and what its call gives, or something else -/
theorem f_ret_clo (X : DefSt T g₀ mg fd name params iscope pos qual) (hsees : seesOk fd.scope iscope = true) (hodd : odd name = false) (hst : stO fd.scope (anyCell fd.scope) name = true) {bt : Bool} (ht : TRs prog w T g₀ (n + 1) fd.scope (put name (.val .any) σ) t bt)
    (hy : bt = true → ∃ ds, ds.length = (params.args.map (·.arg)).length ∧ stars (e :: es) = false ∧ freeOk fd.scope iscope (put name (.val .any) σ) = true ∧ ELs prog w T g₀ (n + 1) fd.scope (put name (.val .any) σ) (e :: es) ds ∧ Xs prog w T g₀ n iscope false (argS (params.args.map (·.arg)) ds ++ seen iscope (put name (.val .any) σ)) ibody (.ret d))
    (hn : bt = false → EVs prog w T g₀ (n + 1) fd.scope (put name (.val .any) σ) els d)
    (a : AOk (n + 1) A) (v : EnvOk fd.scope (callEnvC fd L b)) (ho : OwnOk fd.scope (callEnvC fd L b) Own) (hw : anyCell fd.scope = true → Own ≠ []) (x : SR prog w T g₀ (callEnvC fd L b) Own s₀ G₀ σ its G s) :
    wpAny (model prog w) A (execs [.FunctionDef name params ibody [] none [] iscope none name pos, .Return (some (.IfExp t (.Call (.Name name cp) (e :: es) [] xp) els p)) rp] (callEnvC fd L b)) (fun f s' => ∃ v, f = .ret v ∧ EvR prog w T g₀ G₀ s₀ d v s') (fun _ _ => False) s := by
  refine wpAny_execs_cons (def_step (ibody := ibody) X hsees a v ho hw hst x fun G₁ s₁ le x₁ hC => ?_)
  refine wpAny_execs_cons (wpAny_Return_some ?_)
  refine wpAny_IfExp (ht.use a v x₁.se fun s₂ G₂ y₂ _ => ?_)
  have x₂ := x₁.st y₂
  cases bt with
  | false =>
    refine (hn rfl).use a v x₂.se fun u s₃ G₃ y₃ z₃ _ => ⟨u, rfl, EvR.pre x₂.back ⟨G₃, y₃, z₃⟩⟩
  | true =>
    obtain ⟨ds, h1, h2, h3, h4, h5⟩ := hy rfl
    refine clo_call X.nl X.K h3 hodd h2 h1 a v x₂.se (hC.after x₁.good y₂) h4 fun A' env' s₃ s₄ G₃ a' v' y₃ y₄ hcl sr => ?_
    refine wpAny_mono (h5 A' env' [] s₃ G₃ [] G₃ s₄ a' v' .none (fun q => by cases q) sr) (fun f s' hf => ?_) fun _ _ q => q
    obtain ⟨u, rfl, hu⟩ := hf
    exact ⟨u, rfl, EvR.pre (x₂.back.trans y₃) hu⟩

/-- a def, whose call sets an item of a list of the block's, and that list given back -/
theorem f_set_clo {i value test : PySem.Expr} {rest : List Stmt} {l : List D} {p1 p2 p3 p4 p5 p6 p7 : Pos} (X : DefSt T g₀ mg fd name params iscope pos qual) (hsees : seesOk fd.scope iscope = true) (hodd : odd name = false) (hodd2 : odd y = false) (hst : stO fd.scope (anyCell fd.scope) name = true) (hyn : (y == name) = false)
    (hl : σ.lookup y = some (.live (.lst l))) {bt : Bool} (ht : TRs prog w T g₀ (n + 1) fd.scope (put name (.val .any) σ) t bt)
    (hibody : ibody = .If test [.Assign [.Subscript (.Name y p1) i p2] value p3, .Return none p4] [] p5 :: rest) (hc : noComp value = true)
    (hy : bt = true → ∃ ds k dv, ds.length = (params.args.map (·.arg)).length ∧ stars (e :: es) = false ∧ freeOk fd.scope iscope (put name (.val .any) σ) = true ∧ ELs prog w T g₀ (n + 1) fd.scope (put name (.val .any) σ) (e :: es) ds ∧ iscope.names.lookup y = some .free ∧
      TRs prog w T g₀ n iscope (argS (params.args.map (·.arg)) ds ++ seen iscope (put name (.val .any) σ)) test true ∧ EVs prog w T g₀ n iscope (argS (params.args.map (·.arg)) ds ++ seen iscope (put name (.val .any) σ)) value dv ∧
      EVs prog w T g₀ n iscope (argS (params.args.map (·.arg)) ds ++ seen iscope (put name (.val .any) σ)) i (.int k) ∧ 0 ≤ k ∧ k < 2 ^ 63 ∧ k < l.length ∧ d = .lst (l.set k.toNat dv))
    (hn : bt = false → d = .lst l)
    (a : AOk (n + 1) A) (v : EnvOk fd.scope (callEnvC fd L b)) (ho : OwnOk fd.scope (callEnvC fd L b) Own) (hw : anyCell fd.scope = true → Own ≠ []) (x : SR prog w T g₀ (callEnvC fd L b) Own s₀ G₀ σ its G s) :
    wpAny (model prog w) A (execs [.FunctionDef name params ibody [] none [] iscope none name pos, .If t [.Expr (.Call (.Name name cp) (e :: es) [] xp) p6] [] p7, .Return (some (.Name y p)) rp] (callEnvC fd L b)) (fun f s' => ∃ v, f = .ret v ∧ EvR prog w T g₀ G₀ s₀ d v s') (fun _ _ => False) s := by
  refine wpAny_execs_cons (def_step (ibody := ibody) X hsees a v ho hw hst x fun G₁ s₁ le x₁ hC => ?_)
  have hl1 : (put name (.val .any) σ).lookup y = some (.live (.lst l)) := by rw [lookup_put, hyn]; exact hl
  -- the end
  have fin : ∀ (σ₂ : List (Str × Slot)) (G₂ : Gh) (s₂ : Shared), σ₂.lookup y = some (.live d) → SR prog w T g₀ (callEnvC fd L b) Own s₀ G₀ σ₂ its G₂ s₂ →
      wpAny (model prog w) A (execs [.Return (some (.Name y p)) rp] (callEnvC fd L b)) (fun f s' => ∃ v, f = .ret v ∧ EvR prog w T g₀ G₀ s₀ d v s') (fun _ _ => False) s₂ := fun σ₂ G₂ s₂ e2 x2 => by
    refine wpAny_execs_cons (wpAny_mono (x_ret_live (own := anyCell fd.scope) e2 hodd2 A _ Own s₀ G₀ its G₂ s₂ a v ho hw x2) (fun f s' hf => ?_) fun _ _ q => q)
    obtain ⟨u, rfl, hu⟩ := hf
    exact ⟨u, rfl, hu⟩
  refine wpAny_execs_cons (wpAny_If (ht.use a v x₁.se fun s₂ G₂ y₂ _ => ?_))
  have x₂ := x₁.st y₂
  cases bt with
  | false =>
    rw [if_neg (by simp)]
    show wpAny _ A (pure Flow.next) _ _ _
    exact wpAny_pure (fin _ G₂ s₂ (by rw [hn rfl]; exact hl1) x₂)
  | true =>
    obtain ⟨ds, k, dv, h1, h2, h3, h4, h5, h6, h7, h8, h9, h10, h11, rfl⟩ := hy rfl
    rw [if_pos rfl]
    refine wpAny_execs_cons (wpAny_Expr_any ?_ (noInter v) swaps_call)
    refine clo_call (ibody := ibody) X.nl X.K h3 hodd h2 h1 a v x₂.se (hC.after x₁.good y₂) h4 fun A' env' s₃ s₄ G₃ a' v' y₃ y₄ hcl sr => ?_
    have x₄ := (x₂.st y₃).st y₄
    rw [hibody]
    refine wpAny_execs_cons (wpAny_If (h6.use a' v' sr.se fun s₅ G₅ y₅ _ => ?_))
    have sr5 := sr.st y₅
    have x₅ := x₄.st y₅
    rw [if_pos rfl]
    refine wpAny_execs_cons (wpAny_Assign_Subscript (h7.use a' v' sr5.se fun u s₆ G₆ y₆ z₆ _ => ?_) (by cases value <;> first | rfl | (simp [noComp] at hc)))
    have sr6 := sr5.st y₆
    have x₆ := x₅.st y₆
    obtain ⟨l6, vs6, m6, H6, L6, r6⟩ := x₆.liveList hl1
    have H6' : Holds env' s₆.heap y (.ref l6) := by
      have hm : (y, NameKind.free) ∈ iscope.names := mem_of_lookup h5
      rcases H6 with ⟨hk, _⟩ | ⟨hk, c6, hc6, hv6⟩
      · have hk5 := List.all_eq_true.mp hsees (y, .free) hm
        simp only [bne_self_eq_false, Bool.false_or, beq_iff_eq] at hk5
        have hk' : fd.scope.names.lookup y = some .local := hk
        rw [hk5] at hk'; cases hk'
      · refine .inr ⟨.inr ?_, c6, (hcl y hm).trans hc6, hv6⟩
        unfold Env.kindOf; rw [v'.scope]; exact h5
    refine name_at v' H6' hodd2 (h8.use a' v' sr6.se fun u' s₇ G₇ y₇ z₇ _ => ?_)
    obtain ⟨tk, rfl⟩ := z₇.int_inv
    have x₇ := x₆.st y₇
    refine x₇.setList hl1 (H6.kp x₆.good y₇.kp) h9 h10 h11 (Is.mono y₇.gx.le z₆) fun s₈ x₈ => ?_
    refine wpAny_execs_cons ?_
    rw [exec_Return_none]
    refine wpAny_bind (wpAny_standAt (wpAny_pure ?_))
    show wpAny _ A (pure Flow.next) _ _ _
    exact wpAny_pure (fin _ G₇ s₈ (by rw [lookup_put]; simp) x₈)
end
end Mine

namespace Mine

structure FR where
  ps : List Str
  sc : Scope
  body : List Stmt
structure Cx where
  fns : List (Str × FR)
  cons : List (Str × Int)
abbrev Sg := List (Str × Slot)
structure Ev where
  ex : Scope → Sg → PySem.Expr → Option D
  nw : Scope → Sg → PySem.Expr → Option D
  tr : Scope → Sg → PySem.Expr → Option Bool
  it : Scope → Sg → PySem.Expr → PySem.Expr → Option (List D)
  blk : Scope → Bool → Sg → List Stmt → Option Out
  fn : FR → List D → Option D

noncomputable def nameP : PySem.Expr → Option (Str × Pos)
  | .Name x p => some (x, p)
  | _ => none
theorem nameP_some {e : PySem.Expr} {x : Str × Pos} (h : nameP e = some x) : e = .Name x.1 x.2 := by
  cases e <;> first | (cases h; rfl) | cases h
noncomputable def callOf : PySem.Expr → Option (PySem.Expr × List PySem.Expr × List Keyword)
  | .Call f as ks _ => some (f, as, ks)
  | _ => none
theorem callOf_some {e : PySem.Expr} {c : PySem.Expr × List PySem.Expr × List Keyword} (h : callOf e = some c) : ∃ p, e = .Call c.1 c.2.1 c.2.2 p := by
  cases e <;> first | (cases h; exact ⟨_, rfl⟩) | cases h
noncomputable def iteOf : PySem.Expr → Option (PySem.Expr × PySem.Expr × PySem.Expr)
  | .IfExp t b o _ => some (t, b, o)
  | _ => none
theorem iteOf_some {e : PySem.Expr} {c : PySem.Expr × PySem.Expr × PySem.Expr} (h : iteOf e = some c) : ∃ p, e = .IfExp c.1 c.2.1 c.2.2 p := by
  cases e <;> first | (cases h; exact ⟨_, rfl⟩) | cases h
noncomputable def subOf : PySem.Expr → Option (PySem.Expr × PySem.Expr)
  | .Subscript o i _ => some (o, i)
  | _ => none
theorem subOf_some {e : PySem.Expr} {c : PySem.Expr × PySem.Expr} (h : subOf e = some c) : ∃ p, e = .Subscript c.1 c.2 p := by
  cases e <;> first | (cases h; exact ⟨_, rfl⟩) | cases h
noncomputable def binOf : PySem.Expr → Option (PySem.Expr × Operator × PySem.Expr)
  | .BinOp l op r _ => some (l, op, r)
  | _ => none
theorem binOf_some {e : PySem.Expr} {c : PySem.Expr × Operator × PySem.Expr} (h : binOf e = some c) : ∃ p, e = .BinOp c.1 c.2.1 c.2.2 p := by
  cases e <;> first | (cases h; exact ⟨_, rfl⟩) | cases h
noncomputable def cInt : Const → Option Int
  | .int i => some i
  | _ => none
theorem cInt_some {c : Const} {i : Int} (h : cInt c = some i) : c = .int i := by
  cases c <;> first | (cases h; rfl) | cases h
noncomputable def intC : PySem.Expr → Option Int
  | .Constant c _ _ => cInt c
  | _ => none
theorem intC_some {e : PySem.Expr} {i : Int} (h : intC e = some i) : ∃ k p, e = .Constant (.int i) k p := by
  cases e <;> first | (rw [cInt_some h]; exact ⟨_, _, rfl⟩) | cases h
noncomputable def isAdd : Operator → Bool
  | .Add => true
  | _ => false
noncomputable def isMod : Operator → Bool
  | .Mod => true
  | _ => false
theorem isAdd_ok {o : Operator} (h : isAdd o = true) : o = .Add := by cases o <;> first | rfl | cases h
theorem isMod_ok {o : Operator} (h : isMod o = true) : o = .Mod := by cases o <;> first | rfl | cases h
noncomputable def only? {α : Type} : List α → Option α
  | [a] => some a
  | _ => none
theorem only_some {α : Type} {l : List α} {a : α} (h : only? l = some a) : l = [a] := by
  match l, h with
  | [a], h => cases h; rfl
noncomputable def assOf : Stmt → Option (List PySem.Expr × PySem.Expr)
  | .Assign ts v _ => some (ts, v)
  | _ => none
theorem assOf_some {st : Stmt} {c : List PySem.Expr × PySem.Expr} (h : assOf st = some c) : ∃ p, st = .Assign c.1 c.2 p := by
  cases st <;> first | (cases h; exact ⟨_, rfl⟩) | cases h
noncomputable def ifOf : Stmt → Option (PySem.Expr × List Stmt × List Stmt)
  | .If t b o _ => some (t, b, o)
  | _ => none
theorem ifOf_some {st : Stmt} {c : PySem.Expr × List Stmt × List Stmt} (h : ifOf st = some c) : ∃ p, st = .If c.1 c.2.1 c.2.2 p := by
  cases st <;> first | (cases h; exact ⟨_, rfl⟩) | cases h
noncomputable def retOf : Stmt → Option (Option PySem.Expr)
  | .Return v _ => some v
  | _ => none
theorem retOf_some {st : Stmt} {v : Option PySem.Expr} (h : retOf st = some v) : ∃ p, st = .Return v p := by
  cases st <;> first | (cases h; exact ⟨_, rfl⟩) | cases h
noncomputable def exprOf : Stmt → Option PySem.Expr
  | .Expr e _ => some e
  | _ => none
theorem exprOf_some {st : Stmt} {e : PySem.Expr} (h : exprOf st = some e) : ∃ p, st = .Expr e p := by
  cases st <;> first | (cases h; exact ⟨_, rfl⟩) | cases h
noncomputable def gd (b : Bool) : Option Unit := if b then some () else none
noncomputable def forceL {α : Type} (n : Nat) (f : Nat → α) : List Nat → α
  | [] => f n
  | l :: r => match Nat.beq n l with
    | true => f l
    | false => forceL n f r
noncomputable def small : List Nat := [0,1,2,3,4,5,6,7,8,9,10,11,12,13,14,15,16,17,18,19,20]
noncomputable def forceI {α : Type} (k : Int) (f : Int → α) : α := match k with
  | .ofNat n => forceL n (fun n => f (.ofNat n)) small
  | .negSucc n => forceL n (fun n => f (.negSucc n)) small
noncomputable def forceD {α : Type} (d : D) (f : D → α) : α := match d with
  | .int k => forceI k fun k => f (.int k)
  | d => f d
theorem forceL_eq {α : Type} (n : Nat) (f : Nat → α) : ∀ l, forceL n f l = f n
  | [] => rfl
  | l :: r => by
    unfold forceL
    split
    · rename_i h; rw [Nat.eq_of_beq_eq_true h]
    · exact forceL_eq n f r
theorem forceI_eq {α : Type} (k : Int) (f : Int → α) : forceI k f = f k := by
  cases k with
  | ofNat n => exact forceL_eq n (fun n => f (.ofNat n)) small
  | negSucc n => exact forceL_eq n (fun n => f (.negSucc n)) small
theorem forceD_eq {α : Type} (d : D) (f : D → α) : forceD d f = f d := by
  cases d with
  | int k => exact forceI_eq k (fun k => f (.int k))
  | _ => rfl
noncomputable def asInt : D → Option Int
  | .int i => some i
  | _ => none
noncomputable def asLst : D → Option (List D)
  | .lst l => some l
  | _ => none
noncomputable def asTup : D → Option (List D)
  | .tup l => some l
  | _ => none
noncomputable def noSetD : PySem.Expr → Bool
  | .Set .. => false
  | _ => true
noncomputable def mulOk (i j : Int) : Bool := !(decide (Builtin.Int.intBits i > shortFactorBits) && decide (Builtin.Int.intBits j > shortFactorBits) && Builtin.Int.intTooBig (Builtin.Int.intBits i + Builtin.Int.intBits j))
noncomputable def arith (op : Operator) (i j : Int) : Option Int := match op with
  | .Add => some (i + j)
  | .Sub => some (i - j)
  | .Mod => (gd (j != 0)).bind fun _ => some (i.fmod j)
  | .Mult => (gd (mulOk i j)).bind fun _ => some (i * j)
  | .FloorDiv => (gd (j != 0 && !Builtin.divisionGoesByPylong i j)).bind fun _ => some (i.fdiv j)
  | .LShift => (gd (decide (0 ≤ j) && decide (j ≤ 1000000) && decide (i.natAbs < 2 ^ 64))).bind fun _ => some (i * 2 ^ j.toNat)
  | _ => none
/-- a name that is live -/
noncomputable def liveOf (σ : Sg) : PySem.Expr → Option (Str × D)
  | .Name x _ => if odd x then none else match lk x σ with
    | some (.live d) => some (x, d)
    | _ => none
  | _ => none
noncomputable def lenLive (σ : Sg) (g : Str) (as : List PySem.Expr) : Option (List D) := match as with
  | [a] => if sEq g "len" then (liveOf σ a).bind fun xd => asLst xd.2 else none
  | _ => none
noncomputable def sortD (l : List D) : Option D := match intsOf l with
  | some ns => (gd (decide (l.length < 64))).bind fun _ => some (.lst ((sortI ns).map D.int))
  | none => (pairsOf? l).bind fun ps => (gd (decide (2 ≤ l.length) && decide (l.length < 64))).bind fun _ => (runAsk (orcP ps) (kas_sort l.length)).bind fun p => (gd (decide (p.size ≤ 1000))).bind fun _ => some (.lst (pickD l p))
noncomputable def one? : List D → Option D
  | [d] => some d
  | _ => none
noncomputable def biRun (f : Str) (ds : List D) : Option D :=
  if sEq f "range" then (one? ds).bind fun d => (asInt d).bind fun k => some (.rng k)
  else if sEq f "sorted" then (one? ds).bind fun d => (asLst d).bind fun l => sortD l
  else if sEq f "list" then (match ds with | [.rng k] => (gd (decide (0 ≤ k) && decide (k ≤ 1000))).bind fun _ => some (.lst (rngList k)) | _ => none)
  else if sEq f "tuple" then (one? ds).bind fun d => (asLst d).bind fun l => (gd (decide (l.length ≤ 1000))).bind fun _ => some (.tup l)
  else if sEq f "max" then (one? ds).bind fun d => (asLst d).bind fun l => (intsOf l).bind fun ns => (match ns with | i :: ns => some (.int (bestI (fun a b => decide (a > b)) i ns)) | [] => none)
  else if sEq f "min" then (one? ds).bind fun d => (asLst d).bind fun l => (intsOf l).bind fun ns => (match ns with | i :: ns => some (.int (bestI (fun a b => decide (a < b)) i ns)) | [] => none)
  else if sEq f "divmod" then (match ds with | [.int i, .int j] => (gd (j != 0 && !Builtin.divisionGoesByPylong i j)).bind fun _ => some (.tup [.int (i.fdiv j), .int (i.fmod j)]) | _ => none)
  else if sEq f "len" then (one? ds).bind fun d => (asLst d).bind fun l => (gd (decide (l.length ≤ 1000))).bind fun _ => some (.int l.length)
  else none
noncomputable def cmpD (op : CmpOp) (a b : D) : Option Bool := match op with
  | .Lt => (asInt a).bind fun i => (asInt b).bind fun j => some (decide (i < j))
  | .LtE => (asInt a).bind fun i => (asInt b).bind fun j => some (decide (i ≤ j))
  | .Gt => (asInt a).bind fun i => (asInt b).bind fun j => some (decide (i > j))
  | .Eq => (asInt a).bind fun i => (asInt b).bind fun j => some (i == j)
  | .NotEq => (match asInt a, asInt b with
    | some i, some j => some (i != j)
    | _, _ => (gd (pyOk a && pyOk b && SeqAt.shaped (py a) && SeqAt.shaped (py b))).bind fun _ => some (!PyData.eqv (py a) (py b)))
  | .In => (asTup b).bind fun l => (gd (pyOk a && pysOk l && PyData.canLayAll0 (pys l) && (py a).canLay0 && decide ((py a).depth ≤ 60))).bind fun _ => some ((pys l).any fun y => PyData.eqv y (py a))
  | _ => none

noncomputable def exs (E : Ev) (sc : Scope) (σ : Sg) : List PySem.Expr → Option (List D)
  | [] => some []
  | e :: es => (gd (!star? e)).bind fun _ => (E.ex sc σ e).bind fun d => forceD d fun d => (exs E sc σ es).bind fun ds => some (d :: ds)
noncomputable def idx (l : List D) (k : Int) : Option D := (gd (decide (0 ≤ k) && decide (k < 2 ^ 63))).bind fun _ => l[k.toNat]?
noncomputable def subS (E : Ev) (sc : Scope) (σ : Sg) (v i : PySem.Expr) : Option D := match i with
  | .Slice lo hi st _ => (match lo, hi, st with
    | none, some h, none => (liveOf σ v).bind fun xd => (asLst xd.2).bind fun ds => (E.ex sc σ h).bind fun a => (asInt a).bind fun k => (gd (decide (k < 0) && decide (ds.length ≤ 1000))).bind fun _ => some (.lst (ds.take (ds.length - (-k).toNat)))
    | _, _, _ => none)
  | i => (match liveOf σ v with
    | some xd => (asLst xd.2).bind fun ds => (E.ex sc σ i).bind fun a => (asInt a).bind fun k => idx ds k
    | none => (E.ex sc σ v).bind fun a => (E.ex sc σ i).bind fun b => (asInt b).bind fun k => (match a with
      | .lst ds => idx ds k
      | .tup ds => idx ds k
      | _ => none))
noncomputable def callS (C : Cx) (E : Ev) (sc : Scope) (σ : Sg) (f : PySem.Expr) (as : List PySem.Expr) (ks : List Keyword) (pos : Pos) : Option D := match f with
  | .Name g _ => (gd (!odd g && ks.isEmpty && !as.isEmpty && lk g sc.names == some .globalImplicit)).bind fun _ => (match lenLive σ g as with
    | some ds => (gd (decide (ds.length ≤ 1000))).bind fun _ => some (.int ds.length)
    | none => (exs E sc σ as).bind fun ds =>
      (match biOf g with
      | some _ => biRun g ds
      | none => (lk g C.fns).bind fun r => E.fn r ds))
  | .Attribute o nm ap => (match o with
    | .Name x _ => (gd (!odd x && ks.isEmpty && as.isEmpty && ap.endLine == pos.line && nm == ("bit_length" : Str))).bind fun _ => (match lk x σ with
      | some (.val (.int k)) => some (.int ((Builtin.Int.intBits k : Nat) : Int))
      | _ => none)
    | _ => none)
  | _ => none
noncomputable def exS (C : Cx) (E : Ev) (sc : Scope) (σ : Sg) (e : PySem.Expr) : Option D := match e with
  | .Constant c _ _ => (match c with
    | .int i => some (.int i)
    | .str s => some (.str s)
    | .bool b => some (.bool b)
    | _ => none)
  | .Name x _ => (gd (!odd x)).bind fun _ => (match lk x σ with
    | some (.val d) => some d
    | some (.live _) => none
    | none => (gd (lk x sc.names == some .globalImplicit)).bind fun _ => (lk x C.cons).bind fun k => some (.int k))
  | .BinOp l op r _ => (E.ex sc σ l).bind fun a => (E.ex sc σ r).bind fun b => (asInt a).bind fun i => (asInt b).bind fun j => (arith op i j).bind fun k => forceI k fun k => some (.int k)
  | .UnaryOp op l _ => (E.ex sc σ l).bind fun a => (asInt a).bind fun i => (match op with
    | .Invert => some (.int (Builtin.bitNot i))
    | .USub => some (.int (-i))
    | _ => none)
  | .IfExp t b o _ => (E.tr sc σ t).bind fun c => E.ex sc σ (if c then b else o)
  | .Compare l ops rs _ => (match ops, rs with
    | [op], [r] => (gd (!behindInMarks op r)).bind fun _ => (E.ex sc σ l).bind fun a => (E.ex sc σ r).bind fun b => (cmpD op a b).bind fun c => some (.bool c)
    | _, _ => none)
  | .Subscript v i _ => subS E sc σ v i
  | .Tuple es _ _ => (exs E sc σ es).bind fun ds => (gd (decide (ds.length ≤ 1000))).bind fun _ => some (.tup ds)
  | .Call f as ks pos => callS C E sc σ f as ks pos
  | e => E.nw sc σ e

noncomputable def tests (E : Ev) (sc : Scope) (σ : Sg) : List PySem.Expr → Option Bool
  | [] => some true
  | c :: cs => (E.tr sc σ c).bind fun b => if b then tests E sc σ cs else some false
noncomputable def foldO {α β : Type} (f : α → β → Option α) : α → List β → Option α
  | a, [] => some a
  | a, b :: l => (f a b).bind fun a' => foldO f a' l
noncomputable def stepC (E : Ev) (sc : Scope) (tgt : PySem.Expr) (ifs : List PySem.Expr) (k : Sg × List D → Option (Sg × List D)) (q : Sg × List D) (d : D) : Option (Sg × List D) :=
  forceD d fun d => (bindT sc false tgt d q.1).bind fun σ₁ => (tests E sc σ₁ ifs).bind fun b => if b then k (σ₁, q.2) else some (σ₁, q.2)
noncomputable def goC (E : Ev) (sc : Scope) (elt : PySem.Expr) : List Comprehension → Sg × List D → Option (Sg × List D)
  | [], q => (gd (decide (q.2.length ≤ 1000))).bind fun _ => (E.ex sc q.1 elt).bind fun d => some (q.1, q.2 ++ [d])
  | g :: gs, q => (gd (g.is_async == 0 && noSetD g.iter)).bind fun _ => (E.it sc q.1 g.iter g.target).bind fun ds => foldO (stepC E sc g.target g.ifs (goC E sc elt gs)) q ds
noncomputable def compS (E : Ev) (sc : Scope) (σ : Sg) (elt : PySem.Expr) (gens : List Comprehension) (scope : Scope) : Option (List D) := match gens with
  | [] => none
  | g :: gs => (gd (freeOk sc scope σ && namesOk scope && g.is_async == 0 && noSetD g.iter)).bind fun _ => (E.it sc σ g.iter g.target).bind fun ds =>
    (foldO (stepC E (relabelS scope sc) g.target g.ifs (goC E (relabelS scope sc) elt gs)) (seen scope σ, []) ds).bind fun q => some q.2
noncomputable def nwS (E : Ev) (sc : Scope) (σ : Sg) (e : PySem.Expr) : Option D := match e with
  | .List es _ => (exs E sc σ es).bind fun ds => (gd (decide (ds.length ≤ 1000))).bind fun _ => some (.lst ds)
  | .Dict ks vs _ => (match ks, vs with
    | [], [] => some (.dct [])
    | [some k], [v] => (E.ex sc σ k).bind fun a => (asTup a).bind fun l => (dKys l).bind fun kk => (E.ex sc σ v).bind fun d => some (.dct [(kk, d)])
    | _, _ => none)
  | .BinOp l op r _ => (match l, op with
    | .List es _, .Mult => (exs E sc σ es).bind fun ds => (E.ex sc σ r).bind fun a => (asInt a).bind fun k =>
      (gd (decide (0 ≤ k) && decide (ds.length * k.toNat ≤ 1000) && decide (ds.length ≤ 1000) && decide (k ≤ 1000) && !ds.isEmpty)).bind fun _ => some (.lst (List.replicate k.toNat ds).flatten)
    | _, _ => none)
  | .ListComp elt gens scope _ => (compS E sc σ elt gens scope).bind fun acc => some (.lst acc)
  | _ => none
noncomputable def trS (E : Ev) (sc : Scope) (σ : Sg) (e : PySem.Expr) : Option Bool := match e with
  | .Compare l ops rs _ => (match ops, rs with
    | [op], [r] => (gd (!behindInMarks op r)).bind fun _ => (match liveOf σ r, op with
      | some (_, .dct en), .In => (E.ex sc σ l).bind fun a => (asTup a).bind fun l' => (dKys l').bind fun ks => some (en.any fun p => decide (p.1 = ks))
      | some _, _ => none
      | none, op => (E.ex sc σ l).bind fun a => (E.ex sc σ r).bind fun b => cmpD op a b)
    | _, _ => none)
  | .BoolOp op es _ => (match op, es with
    | .Or, [a, b] => (E.tr sc σ a).bind fun c => if c then none else E.tr sc σ b
    | _, _ => none)
  | .Name x _ => (gd (!odd x)).bind fun _ => (match lk x σ with
    | some (.val (.int k)) => some (k != 0)
    | some (.val (.lst ds)) => (gd (decide (ds.length ≤ 1000))).bind fun _ => some (!ds.isEmpty)
    | _ => none)
  | _ => none
noncomputable def seqS (E : Ev) (sc : Scope) (σ : Sg) (e tgt : PySem.Expr) : Option (List D) := (E.ex sc σ e).bind fun a => (match a with
  | .lst ds => (gd (nameT tgt || tupT tgt)).bind fun _ => some ds
  | .tup ds => (gd (nameT tgt)).bind fun _ => some ds
  | .rng k => (gd (nameT tgt && decide (0 ≤ k) && decide (k ≤ 1000))).bind fun _ => some (rngList k)
  | .dct en => (gd (nameT tgt)).bind fun _ => some (en.map keyD)
  | _ => none)
noncomputable def itS (E : Ev) (sc : Scope) (σ : Sg) (e tgt : PySem.Expr) : Option (List D) := match e with
  | .Call f as ks pos => (match f with
    | .Attribute o nm ap => (match o with
      | .Name x _ => (gd (!odd x && ks.isEmpty && as.isEmpty && ap.endLine == pos.line)).bind fun _ => (match lk x σ with
        | some (.val (.dct en)) => if sEq nm "values" then (gd (nameT tgt)).bind fun _ => some (en.map (·.2)) else if sEq nm "items" then (gd (tupT tgt)).bind fun _ => some (en.map itemD) else none
        | _ => none)
      | _ => none)
    | .Name g _ => if sEq g "reversed" then (match as with
        | [a] => (gd (nameT tgt && ks.isEmpty && !star? a && lk g sc.names == some .globalImplicit)).bind fun _ => (E.ex sc σ a).bind fun d => (asLst d).bind fun ds => some ds.reverse
        | _ => none)
      else seqS E sc σ e tgt
    | _ => none)
  | _ => seqS E sc σ e tgt
noncomputable def loopS (E : Ev) (sc : Scope) (own : Bool) (tgt : PySem.Expr) (body : List Stmt) : List D → Sg → Option Out
  | [], σ => some (.next σ)
  | d :: ds, σ => forceD d fun d => (bindT sc own tgt d σ).bind fun σ₁ => (E.blk sc own σ₁ body).bind fun o => (match o with
    | .next σ₂ => loopS E sc own tgt body ds σ₂
    | .ret r => some (.ret r))
noncomputable def liveV : PySem.Expr → Bool
  | .List .. => true
  | .Dict .. => true
  | .BinOp (.List ..) .Mult _ _ => true
  | _ => false
noncomputable def pairS (E : Ev) (sc : Scope) (own : Bool) (σ : Sg) (x y : Str × Pos) (value : PySem.Expr) : Option Out := match value with
  | .Call f as ks p => (gd (ks.isEmpty && stO sc own x.1 && stO sc own y.1)).bind fun _ => (E.ex sc σ (.Call f as ks p)).bind fun a => (asTup a).bind fun l => (two? l).bind fun d =>
    some (.next (put y.1 (.val d.2) (put x.1 (.val d.1) σ)))
  | .Tuple es _ _ => (two? es).bind fun e => (gd (sc.names.lookup x.1 == some .local && sc.names.lookup y.1 == some .local && y.2.line == x.2.line && x.1 != y.1 && !star? e.1 && !star? e.2 && !([e.1, e.2].all (foldedForSure 8)) && !([e.1, e.2].all (constantsAlone 8)))).bind fun _ =>
    (E.ex sc σ e.1).bind fun d₁ => (E.nw sc σ e.2).bind fun d₂ => some (.next (put x.1 (.val d₁) (put y.1 (.live d₂) σ)))
  | _ => none
noncomputable def assS (E : Ev) (sc : Scope) (own : Bool) (σ : Sg) (t value : PySem.Expr) : Option Out := match t with
  | .Name x p => (gd (stO sc own x && noSet value)).bind fun _ =>
    (match swp sc value x p with
    | true => (match value with
      | .ListComp elt gens scope _ => (compS E sc σ elt gens scope).bind fun acc => some (.next (put x (.live (.lst acc)) σ))
      | _ => none)
    | false => (match liveV value with
      | true => (E.nw sc σ value).bind fun d => some (.next (put x (.live d) σ))
      | false => (E.ex sc σ value).bind fun d => forceD d fun d => some (.next (put x (.val d) σ))))
  | .Subscript o i _ => (gd (noComp value)).bind fun _ => (liveOf σ o).bind fun xd => (E.ex sc σ value).bind fun d => (E.ex sc σ i).bind fun a => (match xd.2 with
    | .lst ds => (asInt a).bind fun k => (gd (decide (0 ≤ k) && decide (k < 2 ^ 63) && decide (k < ds.length))).bind fun _ => some (.next (put xd.1 (.live (.lst (ds.set k.toNat d))) σ))
    | .dct en => (asTup a).bind fun l => (dKys l).bind fun ks => (gd (decide (en.length ≤ 900))).bind fun _ => some (.next (put xd.1 (.live (.dct (putE ks d en))) σ))
    | _ => none)
  | .Tuple ts _ _ => (two? ts).bind fun t => (nameP t.1).bind fun x => (nameP t.2).bind fun y => pairS E sc own σ x y value
  | _ => none
noncomputable def augS (E : Ev) (sc : Scope) (own : Bool) (σ : Sg) (t value : PySem.Expr) : Option Out := match t with
  | .Name y _ => (gd (!odd y && stO sc own y)).bind fun _ => (match lk y σ with
    | some (.val (.int j)) => (E.ex sc σ value).bind fun a => (asInt a).bind fun k => some (.next (put y (.val (.int (j + k))) σ))
    | _ => none)
  | .Subscript o i _ => (gd (!slice? i)).bind fun _ => (liveOf σ o).bind fun xd => (asLst xd.2).bind fun ds => (E.ex sc σ i).bind fun a => (asInt a).bind fun k => (idx ds k).bind fun b => (asInt b).bind fun j => (E.ex sc σ value).bind fun v => (asInt v).bind fun c =>
    some (.next (put xd.1 (.live (.lst (ds.set k.toNat (.int (j + c))))) σ))
  | _ => none
noncomputable def methS (E : Ev) (sc : Scope) (σ : Sg) (e : PySem.Expr) : Option Out := match e with
  | .Call f as ks pos => (match f with
    | .Attribute o nm ap => (gd (ks.isEmpty && ap.endLine == pos.line)).bind fun _ => (liveOf σ o).bind fun xd => (asLst xd.2).bind fun ds => (gd (decide (ds.length ≤ 900))).bind fun _ =>
      (match as with
      | [a] => (gd (nm == ("append" : Str) && !star? a)).bind fun _ => (E.ex sc σ a).bind fun d => some (.next (put xd.1 (.live (.lst (ds ++ [d]))) σ))
      | [] => (gd (nm == ("reverse" : Str))).bind fun _ => some (.next (put xd.1 (.val (.lst ds.reverse)) (put xd.1 (.live (.lst ds.reverse)) σ)))
      | _ => none)
    | _ => none)
  | _ => none
noncomputable def oneS (E : Ev) (sc : Scope) (own : Bool) (σ : Sg) (st : Stmt) : Option Out := match st with
  | .Assign ts value _ => (match ts with
    | [t] => assS E sc own σ t value
    | _ => none)
  | .AugAssign t op value _ => (match op with
    | .Add => augS E sc own σ t value
    | _ => none)
  | .For tgt iter body orelse _ => (gd (orelse.isEmpty && noSetD iter)).bind fun _ => (E.it sc σ iter tgt).bind fun ds => loopS E sc own tgt body ds σ
  | .If test body orelse _ => (E.tr sc σ test).bind fun b => E.blk sc own σ (if b then body else orelse)
  | .Return v _ => (match v with
    | some e => (match liveOf σ e with
      | some xd => some (.ret xd.2)
      | none => (E.ex sc σ e).bind fun d => some (.ret d))
    | none => none)
  | .Expr e _ => methS E sc σ e
  | _ => none
noncomputable def blkS (E : Ev) (sc : Scope) (own : Bool) (σ : Sg) (sts : List Stmt) : Option Out := match sts with
  | [] => some (.next σ)
  | st :: r => (oneS E sc own σ st).bind fun o => (match o with
    | .next σ₁ => E.blk sc own σ₁ r
    | .ret d => some (.ret d))

structure DefR where
  name : Str
  params : Arguments
  ibody : List Stmt
  iscope : Scope
  ipos : Pos
noncomputable def defOf (st : Stmt) : Option DefR := match st with
  | .FunctionDef name params ibody dl ret tp iscope ts bd pos => (match dl, ret, tp, ts with
    | [], none, [], none => if bd = name then some ⟨name, params, ibody, iscope, pos⟩ else none
    | _, _, _, _ => none)
  | _ => none
/-- an inner function's call's arguments -/
noncomputable def argC (E : Ev) (sc : Scope) (σ : Sg) (X : DefR) (f : PySem.Expr) (as : List PySem.Expr) (ks : List Keyword) : Option (List D) := match f with
  | .Name g _ => (gd (g == X.name && ks.isEmpty && !as.isEmpty && freeOk sc X.iscope σ)).bind fun _ => (exs E sc σ as).bind fun ds => (gd (ds.length == (X.params.args.map (·.arg)).length)).bind fun _ => some ds
  | _ => none
noncomputable def cloRet (E : Ev) (sc : Scope) (σ : Sg) (X : DefR) (st : Stmt) : Option D := (retOf st).bind fun v => v.bind fun e => (iteOf e).bind fun z => (callOf z.2.1).bind fun c => (E.tr sc σ z.1).bind fun b =>
  if b then (argC E sc σ X c.1 c.2.1 c.2.2).bind fun ds => (E.blk X.iscope false (argS (X.params.args.map (·.arg)) ds ++ seen X.iscope σ) X.ibody).bind fun o => (match o with
      | .ret d => some d
      | _ => none)
  else (nameOf c.1).bind fun g => (gd (g == X.name && !c.2.1.isEmpty && c.2.2.isEmpty)).bind fun _ => E.ex sc σ z.2.2
structure SetR where
  test : PySem.Expr
  y : Str
  i : PySem.Expr
  value : PySem.Expr
noncomputable def setOf (sts : List Stmt) : Option SetR := sts.head?.bind fun st => (ifOf st).bind fun z => (gd z.2.2.isEmpty).bind fun _ => (two? z.2.1).bind fun q => (assOf q.1).bind fun a => (only? a.1).bind fun t => (subOf t).bind fun u => (nameOf u.1).bind fun y =>
  (retOf q.2).bind fun v => (gd v.isNone).bind fun _ => some ⟨z.1, y, u.2, a.2⟩
noncomputable def cloSet (E : Ev) (sc : Scope) (σ : Sg) (X : DefR) (st ret : Stmt) : Option D := (ifOf st).bind fun z => (only? z.2.1).bind fun s1 => (exprOf s1).bind fun e1 => (callOf e1).bind fun c => (retOf ret).bind fun v => v.bind fun e2 => (nameOf e2).bind fun y => (setOf X.ibody).bind fun S =>
  (nameOf c.1).bind fun g => (gd (z.2.2.isEmpty && g == X.name && !c.2.1.isEmpty && c.2.2.isEmpty && S.y == y && !odd y && !(y == X.name) && noComp S.value)).bind fun _ => (match lk y σ with
      | some (.live (.lst l)) => (E.tr sc σ z.1).bind fun b => if b then
          (argC E sc σ X c.1 c.2.1 c.2.2).bind fun ds => (gd (X.iscope.names.lookup y == some .free)).bind fun _ =>
          (E.tr X.iscope (argS (X.params.args.map (·.arg)) ds ++ seen X.iscope σ) S.test).bind fun c => (gd c).bind fun _ =>
          (E.ex X.iscope (argS (X.params.args.map (·.arg)) ds ++ seen X.iscope σ) S.value).bind fun dv => (E.ex X.iscope (argS (X.params.args.map (·.arg)) ds ++ seen X.iscope σ) S.i).bind fun a => (asInt a).bind fun k =>
          (gd (decide (0 ≤ k) && decide (k < 2 ^ 63) && decide (k < l.length))).bind fun _ => some (.lst (l.set k.toNat dv))
        else some (.lst l)
      | _ => none)
noncomputable def defS (E : Ev) (sc : Scope) (σ : Sg) (X : DefR) (rest : List Stmt) : Option D :=
  (gd (seesOk sc X.iscope && !odd X.name && stO sc (anyCell sc) X.name)).bind fun _ => (match rest with
    | [st] => cloRet E sc (put X.name (.val .any) σ) X st
    | [st, ret] => cloSet E sc (put X.name (.val .any) σ) X st ret
    | _ => none)
noncomputable def runF (E : Ev) (sc : Scope) : Sg → List Stmt → Option D
  | _, [] => none
  | σ, st :: rest => (match defOf st with
    | some X => defS E sc σ X rest
    | none => (oneS E sc (anyCell sc) σ st).bind fun o => (match o with
      | .next σ₁ => runF E sc σ₁ rest
      | .ret d => some d))
noncomputable def fnS (E : Ev) (r : FR) (ds : List D) : Option D := (gd (ds.length == r.ps.length)).bind fun _ => runF E r.sc (argS r.ps ds) r.body

noncomputable def ev0 : Ev := ⟨fun _ _ _ => none, fun _ _ _ => none, fun _ _ _ => none, fun _ _ _ _ => none, fun _ _ _ _ => none, fun _ _ => none⟩
noncomputable def evS (C : Cx) (E : Ev) : Ev := ⟨exS C E, nwS E, trS E, itS E, blkS E, fnS E⟩
noncomputable def evN (C : Cx) (n : Nat) : Ev := Nat.rec ev0 (fun _ E => evS C E) n
end Mine

namespace Mine

structure CxOk (C : Cx) (T : Tabs) (g₀ : Heap) (mg mb : Str → Option Value) : Prop where
  L : Gl g₀ mg mb
  cons : ∀ x k, C.cons.lookup x = some k → ∃ t, mg x = some (.int k t)
  fns : ∀ f r, C.fns.lookup f = some r → ∃ b o fd, mg f = some (.ref b) ∧ g₀.get? b = some o ∧ o.data = .func fd ∧ fd.scope = r.sc ∧ FnOk g₀ b fd r.ps r.body ∧
    ∀ name params ibody iscope ipos, Stmt.FunctionDef name params ibody [] none [] iscope none name ipos ∈ r.body → seesOk fd.scope iscope = true → ∃ qual, DefSt T g₀ mg fd name params iscope ipos qual
structure Sound (C : Cx) (prog : Program) (w : World) (T : Tabs) (g₀ : Heap) (mg mb : Str → Option Value) (n : Nat) (E : Ev) : Prop where
  ex : ∀ sc σ e d, E.ex sc σ e = some d → EVs prog w T g₀ n sc σ e d
  nw : ∀ sc σ e d, E.nw sc σ e = some d → NVs prog w T g₀ n sc σ e d
  tr : ∀ sc σ e d, E.tr sc σ e = some d → TRs prog w T g₀ n sc σ e d
  it : ∀ sc σ e tgt d, E.it sc σ e tgt = some d → ITs prog w T g₀ n sc σ e tgt d
  blk : ∀ sc own σ sts out, E.blk sc own σ sts = some out → Xs prog w T g₀ n sc own σ sts out
  fn : ∀ f r ds d b, C.fns.lookup f = some r → mg f = some (.ref b) → E.fn r ds = some d → CallOk prog w T g₀ (n + 1) (.ref b) ds d

theorem gd_some {b : Bool} {u : Unit} (h : gd b = some u) : b = true := by
  unfold gd at h
  cases b with
  | true => rfl
  | false => cases h
theorem asInt_some {d : D} {i : Int} (h : asInt d = some i) : d = .int i := by
  cases d <;> first | (cases h; rfl) | cases h
theorem asLst_some {d : D} {l : List D} (h : asLst d = some l) : d = .lst l := by
  cases d <;> first | (cases h; rfl) | cases h
theorem asTup_some {d : D} {l : List D} (h : asTup d = some l) : d = .tup l := by
  cases d <;> first | (cases h; rfl) | cases h
theorem bnd {α β : Type} {o : Option α} {f : α → Option β} {b : β} (h : o.bind f = some b) : ∃ a, o = some a ∧ f a = some b := Option.bind_eq_some_iff.mp h
theorem bndG {β : Type} {c : Bool} {f : Unit → Option β} {b : β} (h : (gd c).bind f = some b) : c = true ∧ f () = some b := by
  replace h := bnd h; obtain ⟨u, h1, h2⟩ := h
  exact ⟨gd_some h1, h2⟩
theorem one_some {ds : List D} {d : D} (h : one? ds = some d) : ds = [d] := by
  unfold one? at h
  split at h
  · cases h; rfl
  · cases h
theorem noSetD_ok {e : PySem.Expr} (h : noSetD e = true) : ∀ env x, foldedSetIterable e env x = pure x := by
  cases e <;> first
    | (intro env x; rfl)
    | (simp [noSetD] at h)
theorem liveOf_some {σ : Sg} {e : PySem.Expr} {xd : Str × D} (h : liveOf σ e = some xd) : ∃ p, e = .Name xd.1 p ∧ odd xd.1 = false ∧ σ.lookup xd.1 = some (.live xd.2) := by
  unfold liveOf at h
  simp only [lk_eq] at h
  split at h
  · rename_i x p
    split at h
    · cases h
    · rename_i ho
      split at h
      · rename_i d hd
        cases h
        exact ⟨p, rfl, by simpa using ho, hd⟩
      · cases h
  · cases h
theorem idx_some {l : List D} {k : Int} {d : D} (h : idx l k = some d) : 0 ≤ k ∧ k < 2 ^ 63 ∧ l[k.toNat]? = some d := by
  replace h := bndG h; obtain ⟨h1, h2⟩ := h
  rw [Bool.and_eq_true] at h1
  exact ⟨of_decide_eq_true h1.1, of_decide_eq_true h1.2, h2⟩
theorem foldO_cons {α β : Type} {f : α → β → Option α} {a c : α} {b : β} {l : List β} (h : foldO f a (b :: l) = some c) : ∃ a', f a b = some a' ∧ foldO f a' l = some c := bnd h

section
variable {C : Cx} {Ee : Ev} {prog : Program} {w : World} {T : Tabs} {g₀ : Heap} {mg mb : Str → Option Value} {n m : Nat} {sc scope : Scope} {own : Bool} {σ σ' : Sg} {e l r i tgt f elt : PySem.Expr} {d d₁ d₂ : D} {es as ifs : List PySem.Expr} {ds : List D} {pos apos p : Pos} {ks : List Keyword} {gens : List Comprehension} {g : Str} {b : Bool} {st : Stmt} {sts : List Stmt} {out : Out}

theorem NVs.less (H : NVs prog w T g₀ m sc σ e d) (h : m ≤ n) : NVs prog w T g₀ n sc σ e d := fun A env s G a => H A env s G (a.less h)
theorem TRs.less (H : TRs prog w T g₀ m sc σ e b) (h : m ≤ n) : TRs prog w T g₀ n sc σ e b := fun A env s G a => H A env s G (a.less h)
theorem ITs.less (H : ITs prog w T g₀ m sc σ e tgt ds) (h : m ≤ n) : ITs prog w T g₀ n sc σ e tgt ds := fun A env s G a => H A env s G (a.less h)
theorem Xs.less (H : Xs prog w T g₀ m sc own σ sts out) (h : m ≤ n) : Xs prog w T g₀ n sc own σ sts out := fun A env Own s₀ G₀ its G s a => H A env Own s₀ G₀ its G s (a.less h)
theorem CallOk.less {v : Value} (H : CallOk prog w T g₀ m v ds d) (h : m ≤ n) : CallOk prog w T g₀ n v ds d := fun A s G vs a => H A s G vs (a.less h)

variable (S : Sound C prog w T g₀ mg mb n Ee)
include S
theorem Sound.xE (h : Ee.ex sc σ e = some d) : EVs prog w T g₀ (n + 1) sc σ e d := (S.ex _ _ _ _ h).less (Nat.le_succ _)
theorem Sound.tE (h : Ee.tr sc σ e = some b) : TRs prog w T g₀ (n + 1) sc σ e b := (S.tr _ _ _ _ h).less (Nat.le_succ _)
theorem Sound.iE (h : Ee.it sc σ e tgt = some ds) : ITs prog w T g₀ (n + 1) sc σ e tgt ds := (S.it _ _ _ _ _ h).less (Nat.le_succ _)
theorem Sound.bE (h : Ee.blk sc own σ sts = some out) : Xs prog w T g₀ (n + 1) sc own σ sts out := (S.blk _ _ _ _ _ h).less (Nat.le_succ _)
theorem Sound.vE (h : Ee.nw sc σ e = some d) : NVs prog w T g₀ (n + 1) sc σ e d := (S.nw _ _ _ _ h).less (Nat.le_succ _)
theorem Sound.exs : ∀ {es : List PySem.Expr} {ds : List D}, exs Ee sc σ es = some ds → ELs prog w T g₀ (n + 1) sc σ es ds ∧ stars es = false
  | [], ds, h => by cases h; exact ⟨el_nil, rfl⟩
  | e :: es, ds, h => by
    replace h := bndG h; obtain ⟨h1, h⟩ := h
    replace h := bnd h; obtain ⟨d, h2, h⟩ := h
    rw [forceD_eq] at h
    replace h := bnd h; obtain ⟨ds', h3, h⟩ := h
    cases h
    obtain ⟨q1, q2⟩ := Sound.exs h3
    have hs : star? e = false := by simpa using h1
    exact ⟨el_cons hs (S.xE h2) q1, by unfold stars at q2 ⊢; rw [List.any_cons, hs, q2]; rfl⟩
omit S

theorem sortD_ok (h : sortD ds = some d) : CallOk prog w T g₀ n (.builtin "sorted") [.lst ds] d := by
  unfold sortD at h
  split at h
  · rename_i ns hn
    replace h := bndG h; obtain ⟨h1, h⟩ := h
    cases h
    exact call_sorted_ints hn (of_decide_eq_true h1)
  · replace h := bnd h; obtain ⟨ps, h1, h⟩ := h
    replace h := bndG h; obtain ⟨h2, h⟩ := h
    replace h := bnd h; obtain ⟨q, h3, h⟩ := h
    replace h := bndG h; obtain ⟨h4, h⟩ := h
    cases h
    rw [Bool.and_eq_true] at h2
    exact call_sorted_pairs h1 (of_decide_eq_true h2.1) (of_decide_eq_true h2.2) h3 (of_decide_eq_true h4)
theorem biRun_ok (h : biRun g ds = some d) : (∃ id, biOf g = some (.builtin id) ∧ CallOk prog w T g₀ n (.builtin id) ds d) ∨ (∃ id, biOf g = some (.type id) ∧ CallOk prog w T g₀ n (.type id) ds d) := by
  unfold biRun at h
  split at h
  · rename_i hg; have hg := sEq_true hg
    replace h := bnd h; obtain ⟨d', h1, h⟩ := h
    replace h := bnd h; obtain ⟨k, h2, h⟩ := h
    cases h
    rw [one_some h1, asInt_some h2, hg]
    exact .inr ⟨_, by decide +kernel, call_range⟩
  split at h
  · rename_i hg; have hg := sEq_true hg
    replace h := bnd h; obtain ⟨d', h1, h⟩ := h
    replace h := bnd h; obtain ⟨k, h2, h⟩ := h
    rw [one_some h1, asLst_some h2, hg]
    exact .inl ⟨_, by decide +kernel, sortD_ok h⟩
  split at h
  · rename_i hg; have hg := sEq_true hg
    split at h
    · replace h := bndG h; obtain ⟨h1, h⟩ := h
      cases h
      rw [Bool.and_eq_true] at h1
      rw [hg]
      exact .inr ⟨_, by decide +kernel, call_list_rng (of_decide_eq_true h1.1) (of_decide_eq_true h1.2)⟩
    · cases h
  split at h
  · rename_i hg; have hg := sEq_true hg
    replace h := bnd h; obtain ⟨d', h1, h⟩ := h
    replace h := bnd h; obtain ⟨k, h2, h⟩ := h
    replace h := bndG h; obtain ⟨h3, h⟩ := h
    cases h
    rw [one_some h1, asLst_some h2, hg]
    exact .inr ⟨_, by decide +kernel, call_tuple (of_decide_eq_true h3)⟩
  split at h
  · rename_i hg; have hg := sEq_true hg
    replace h := bnd h; obtain ⟨d', h1, h⟩ := h
    replace h := bnd h; obtain ⟨k, h2, h⟩ := h
    replace h := bnd h; obtain ⟨ns, h3, h⟩ := h
    rw [one_some h1, asLst_some h2, hg]
    split at h
    · cases h; exact .inl ⟨_, by decide +kernel, call_max h3⟩
    · cases h
  split at h
  · rename_i hg; have hg := sEq_true hg
    replace h := bnd h; obtain ⟨d', h1, h⟩ := h
    replace h := bnd h; obtain ⟨k, h2, h⟩ := h
    replace h := bnd h; obtain ⟨ns, h3, h⟩ := h
    rw [one_some h1, asLst_some h2, hg]
    split at h
    · cases h; exact .inl ⟨_, by decide +kernel, call_min h3⟩
    · cases h
  split at h
  · rename_i hg; have hg := sEq_true hg
    split at h
    · replace h := bndG h; obtain ⟨h1, h⟩ := h
      cases h
      rw [Bool.and_eq_true] at h1
      rw [hg]
      exact .inl ⟨_, by decide +kernel, call_divmod (by simpa using h1.1) (by simpa using h1.2)⟩
    · cases h
  split at h
  · rename_i hg; have hg := sEq_true hg
    replace h := bnd h; obtain ⟨d', h1, h⟩ := h
    replace h := bnd h; obtain ⟨k, h2, h⟩ := h
    replace h := bndG h; obtain ⟨h3, h⟩ := h
    cases h
    rw [one_some h1, asLst_some h2, hg]
    exact .inl ⟨_, by decide +kernel, call_lenL (of_decide_eq_true h3)⟩
  · cases h
theorem lenLive_some {σ : Sg} (h : lenLive σ g as = some ds) : g = "len" ∧ ∃ x q, as = [.Name x q] ∧ odd x = false ∧ σ.lookup x = some (.live (.lst ds)) := by
  unfold lenLive at h
  split at h
  · split at h
    · rename_i hg; have hg := sEq_true hg
      replace h := bnd h; obtain ⟨xd, h1, h⟩ := h
      obtain ⟨q, rfl, h3, h4⟩ := liveOf_some h1
      rw [asLst_some h] at h4
      exact ⟨hg, _, q, rfl, h3, h4⟩
    · cases h
  · cases h

include S
theorem Sound.subS {v : PySem.Expr} (h : subS Ee sc σ v i = some d) : EVs prog w T g₀ (n + 1) sc σ (.Subscript v i pos) d := by
  unfold Mine.subS at h
  split at h
  · split at h
    · replace h := bnd h; obtain ⟨xd, h1, h⟩ := h
      replace h := bnd h; obtain ⟨ds, h2, h⟩ := h
      replace h := bnd h; obtain ⟨a, h3, h⟩ := h
      replace h := bnd h; obtain ⟨k, h4, h⟩ := h
      replace h := bndG h; obtain ⟨h5, h⟩ := h
      cases h
      rw [Bool.and_eq_true] at h5
      have hk := of_decide_eq_true h5.1
      obtain ⟨q, rfl, ho, hl⟩ := liveOf_some h1
      rw [asLst_some h2] at hl
      rw [asInt_some h4] at h3
      have e : k = -(((-k).toNat : Nat) : Int) := by omega
      refine ev_butLast (k := (-k).toNat) (of_decide_eq_true h5.2) (by omega) hl ho ?_
      rw [← e]
      exact S.xE h3
    · cases h
  · rename_i hns
    have hi : slice? i = false := by
      cases i <;> first | rfl | (exact absurd rfl (hns _ _ _ _))
    split at h
    · rename_i xd h1
      replace h := bnd h; obtain ⟨ds, h2, h⟩ := h
      replace h := bnd h; obtain ⟨a, h3, h⟩ := h
      replace h := bnd h; obtain ⟨k, h4, h⟩ := h
      obtain ⟨q, rfl, ho, hl⟩ := liveOf_some h1
      rw [asLst_some h2] at hl
      rw [asInt_some h4] at h3
      obtain ⟨k0, k1, k2⟩ := idx_some h
      exact ev_sub_live hi k0 k1 k2 hl ho (S.xE h3)
    · replace h := bnd h; obtain ⟨a, h1, h⟩ := h
      replace h := bnd h; obtain ⟨b, h2, h⟩ := h
      replace h := bnd h; obtain ⟨k, h3, h⟩ := h
      rw [asInt_some h3] at h2
      split at h
      · obtain ⟨k0, k1, k2⟩ := idx_some h
        exact ev_sub_list hi k0 k1 k2 (S.xE h1) (S.xE h2)
      · obtain ⟨k0, k1, k2⟩ := idx_some h
        exact ev_sub_tup hi k0 k1 k2 (S.xE h1) (S.xE h2)
      · cases h
theorem Sound.callS (K : CxOk C T g₀ mg mb) (h : callS C Ee sc σ f as ks pos = some d) : EVs prog w T g₀ (n + 1) sc σ (.Call f as ks pos) d := by
  unfold Mine.callS at h
  simp only [lk_eq] at h
  split at h
  · rename_i g q
    replace h := bndG h; obtain ⟨h1, h⟩ := h
    simp only [Bool.and_eq_true, Bool.not_eq_true', List.isEmpty_iff, beq_iff_eq] at h1
    obtain ⟨⟨⟨h1, h2⟩, h3⟩, h4⟩ := h1
    subst h2
    split at h
    · rename_i ds hl
      replace h := bndG h; obtain ⟨h5, h⟩ := h
      cases h
      obtain ⟨rfl, x, q', rfl, ho, hx⟩ := lenLive_some hl
      exact ev_lenLive K.L (of_decide_eq_true h5) (by decide +kernel) h4 h1 hx ho
    · replace h := bnd h; obtain ⟨ds, h5, h⟩ := h
      obtain ⟨e1, e2⟩ := S.exs h5
      cases as with
      | nil => simp at h3
      | cons a as =>
        split at h
        · rename_i v hv
          rcases biRun_ok (prog := prog) (w := w) (T := T) (g₀ := g₀) (n := n + 1) h with ⟨id, h6, h7⟩ | ⟨id, h6, h7⟩
          · exact ev_call_builtin K.L h6 h4 h1 e2 e1 h7
          · exact ev_call_type K.L h6 h4 h1 e2 e1 h7
        · replace h := bnd h; obtain ⟨r, h6, h⟩ := h
          obtain ⟨b, o, fd, m1, m2, m3, m4, m5, m6⟩ := K.fns g r h6
          exact ev_call_fn K.L m1 m2 m3 h4 h1 e2 e1 (S.fn g r ds d b h6 m1 h)
  · rename_i o nm ap
    split at h
    · rename_i x q
      replace h := bndG h; obtain ⟨h1, h⟩ := h
      simp only [Bool.and_eq_true, Bool.not_eq_true', List.isEmpty_iff, beq_iff_eq] at h1
      obtain ⟨⟨⟨⟨h1, h2⟩, h3⟩, h4⟩, h5⟩ := h1
      subst h2; subst h3; subst h5
      split at h
      · rename_i k hk
        cases h
        exact ev_bitlen hk h1 (by simpa using h4)
      · cases h
    · cases h
  · cases h
end
end Mine

namespace Mine
section
variable {C : Cx} {Ee : Ev} {prog : Program} {w : World} {T : Tabs} {g₀ : Heap} {mg mb : Str → Option Value} {n m : Nat} {sc scope : Scope} {own : Bool} {σ σ' : Sg} {e l r i tgt f elt : PySem.Expr} {d d₁ d₂ : D} {es as ifs : List PySem.Expr} {ds acc acc' : List D} {pos apos p : Pos} {ks : List Keyword} {gens gs : List Comprehension} {g : Str} {b : Bool} {st : Stmt} {sts : List Stmt} {out : Out} {depth : Nat}

theorem notT {b : Bool} (h : (!b) = true) : b = false := by simpa using h
theorem cmpD_ok {op : CmpOp} {a b : D} {c : Bool} (h : cmpD op a b = some c) : CmpOk prog w T g₀ n op a b c := by
  unfold cmpD at h
  split at h
  · replace h := bnd h; obtain ⟨i, h1, h⟩ := h
    replace h := bnd h; obtain ⟨j, h2, h⟩ := h
    cases h; rw [asInt_some h1, asInt_some h2]; exact cmp_lt
  · replace h := bnd h; obtain ⟨i, h1, h⟩ := h
    replace h := bnd h; obtain ⟨j, h2, h⟩ := h
    cases h; rw [asInt_some h1, asInt_some h2]; exact cmp_le
  · replace h := bnd h; obtain ⟨i, h1, h⟩ := h
    replace h := bnd h; obtain ⟨j, h2, h⟩ := h
    cases h; rw [asInt_some h1, asInt_some h2]; exact cmp_gt
  · replace h := bnd h; obtain ⟨i, h1, h⟩ := h
    replace h := bnd h; obtain ⟨j, h2, h⟩ := h
    cases h; rw [asInt_some h1, asInt_some h2]; exact cmp_eq
  · split at h
    · rename_i i j h1 h2
      cases h; rw [asInt_some h1, asInt_some h2]; exact cmp_ne
    · replace h := bndG h; obtain ⟨h1, h⟩ := h
      cases h
      simp only [Bool.and_eq_true] at h1
      exact cmp_ne_data h1.1.1.1 h1.1.1.2 h1.1.2 h1.2
  · replace h := bnd h; obtain ⟨l, h1, h⟩ := h
    replace h := bndG h; obtain ⟨h2, h⟩ := h
    cases h
    simp only [Bool.and_eq_true] at h2
    rw [asTup_some h1]
    exact cmp_in_tup h2.1.1.1.1 h2.1.1.1.2 h2.1.1.2 h2.1.2 (of_decide_eq_true h2.2)
  · cases h
theorem arith_ok {op : Operator} {i j k : Int} (h : arith op i j = some k) (hl : EVs prog w T g₀ n sc σ l (.int i)) (hr : EVs prog w T g₀ n sc σ r (.int j)) : EVs prog w T g₀ n sc σ (.BinOp l op r pos) (.int k) := by
  unfold arith at h
  split at h
  · cases h; exact ev_add hl hr
  · cases h; exact ev_sub hl hr
  · replace h := bndG h; obtain ⟨h1, h⟩ := h
    cases h; exact ev_mod (by simpa using h1) hl hr
  · replace h := bndG h; obtain ⟨h1, h⟩ := h
    cases h
    refine ev_mul ?_ hl hr
    unfold IntMulOk
    unfold mulOk at h1
    intro q; rw [q] at h1; cases h1
  · replace h := bndG h; obtain ⟨h1, h⟩ := h
    cases h
    rw [Bool.and_eq_true] at h1
    exact ev_fdiv (by simpa using h1.1) hl hr (by simpa using h1.2)
  · replace h := bndG h; obtain ⟨h1, h⟩ := h
    cases h
    simp only [Bool.and_eq_true] at h1
    exact ev_shl (of_decide_eq_true h1.1.1) (of_decide_eq_true h1.1.2) (of_decide_eq_true h1.2) hl hr
  · cases h

variable (S : Sound C prog w T g₀ mg mb n Ee)
include S
theorem Sound.exS (K : CxOk C T g₀ mg mb) (h : exS C Ee sc σ e = some d) : EVs prog w T g₀ (n + 1) sc σ e d := by
  cases e with
  | Constant c k p =>
    cases c with
    | int i => cases h; exact ev_int
    | str s => cases h; exact ev_str
    | bool b => cases h; exact ev_bool
    | _ => cases h
  | Name x p =>
    unfold Mine.exS at h
    dsimp only at h
    replace h := bndG h; obtain ⟨h1, h⟩ := h
    have ho := notT h1
    rw [lk_eq] at h
    cases hx : σ.lookup x with
    | some sl =>
      rw [hx] at h
      cases sl with
      | val d' => cases h; exact ev_name hx ho
      | live d' => cases h
    | none =>
      rw [hx] at h
      dsimp only at h
      replace h := bndG h; obtain ⟨h2, h⟩ := h
      replace h := bnd h; obtain ⟨k, h3, h⟩ := h
      cases h
      rw [lk_eq] at h2 h3
      obtain ⟨t, hm⟩ := K.cons _ _ h3
      exact ev_glob K.L hm (eq_of_beq h2) ho
  | BinOp l op r p =>
    unfold Mine.exS at h
    dsimp only at h
    replace h := bnd h; obtain ⟨a, h1, h⟩ := h
    replace h := bnd h; obtain ⟨b, h2, h⟩ := h
    replace h := bnd h; obtain ⟨i, h3, h⟩ := h
    replace h := bnd h; obtain ⟨j, h4, h⟩ := h
    replace h := bnd h; obtain ⟨k, h5, h⟩ := h
    rw [forceI_eq] at h
    cases h
    rw [asInt_some h3] at h1
    rw [asInt_some h4] at h2
    exact arith_ok h5 (S.xE h1) (S.xE h2)
  | UnaryOp op l p =>
    unfold Mine.exS at h
    dsimp only at h
    replace h := bnd h; obtain ⟨a, h1, h⟩ := h
    replace h := bnd h; obtain ⟨i, h3, h⟩ := h
    rw [asInt_some h3] at h1
    cases op with
    | Invert => cases h; exact ev_inv (S.xE h1)
    | USub => cases h; exact ev_neg (S.xE h1)
    | _ => cases h
  | IfExp t b o p =>
    unfold Mine.exS at h
    dsimp only at h
    replace h := bnd h; obtain ⟨c, h1, h⟩ := h
    exact ev_ite (S.tE h1) (S.xE h)
  | Compare l ops rs p =>
    unfold Mine.exS at h
    dsimp only at h
    match ops, rs, h with
    | [op], [r], h =>
      replace h := bndG h; obtain ⟨h1, h⟩ := h
      replace h := bnd h; obtain ⟨a, h2, h⟩ := h
      replace h := bnd h; obtain ⟨b, h3, h⟩ := h
      replace h := bnd h; obtain ⟨c, h4, h⟩ := h
      cases h
      exact ev_cmp (by simpa using h1) (S.xE h2) (S.xE h3) (cmpD_ok h4)
  | Subscript v i p => exact S.subS h
  | Tuple es k p =>
    unfold Mine.exS at h
    dsimp only at h
    replace h := bnd h; obtain ⟨ds, h1, h⟩ := h
    replace h := bndG h; obtain ⟨h2, h⟩ := h
    cases h
    exact ev_tuple (S.exs h1).1 (of_decide_eq_true h2)
  | Call f as ks p => exact S.callS K h
  | _ => exact (S.vE h).ev

theorem Sound.tests : ∀ {cs : List PySem.Expr} {b : Bool}, tests Ee sc σ cs = some b → TLs prog w T g₀ (n + 1) sc σ cs b
  | [], b, h => by cases h; exact tl_nil
  | c :: cs, b, h => by
    replace h := bnd h; obtain ⟨b', h1, h⟩ := h
    cases b' with
    | true => exact tl_true (S.tE h1) (Sound.tests h)
    | false => cases h; exact tl_false (S.tE h1)
theorem Sound.steps {e' : PySem.Expr} {gens : List Comprehension} {depth : Nat} (ih : ∀ q q', goC Ee sc elt gs q = some q' → CRs prog w T g₀ (n + 1) sc e' elt gens (depth + 1) q.1 q.2 q'.1 q'.2) :
    ∀ {ds : List D} {q q' : Sg × List D}, foldO (stepC Ee sc tgt ifs (goC Ee sc elt gs)) q ds = some q' → Steps prog w T g₀ (n + 1) sc e' elt gens depth tgt ifs ds q.1 q.2 q'.1 q'.2
  | [], q, q', h => by cases h; exact .nil
  | d :: ds, q, q', h => by
    obtain ⟨q₁, h1, h2⟩ := foldO_cons h
    refine .cons (σ₁ := q₁.1) (acc₁ := q₁.2) ?_ (Sound.steps ih h2)
    unfold stepC at h1
    rw [forceD_eq] at h1
    replace h1 := bnd h1; obtain ⟨σ₁, h3, h1⟩ := h1
    replace h1 := bnd h1; obtain ⟨b, h4, h1⟩ := h1
    refine ⟨σ₁, h3, ?_⟩
    cases b with
    | true => exact .inl ⟨S.tests h4, ih (σ₁, q.2) q₁ h1⟩
    | false =>
      cases h1
      exact .inr ⟨S.tests h4, rfl, rfl⟩
theorem Sound.goC {pos' : Pos} {scope' : Scope} : ∀ {gs : List Comprehension} {gens : List Comprehension} {depth : Nat} {q q' : Sg × List D}, gens.drop depth = gs → goC Ee sc elt gs q = some q' →
    CRs prog w T g₀ (n + 1) sc (.ListComp elt gens scope' pos') elt gens depth q.1 q.2 q'.1 q'.2
  | [], gens, depth, q, q', hd, h => by
    replace h := bndG h; obtain ⟨h1, h⟩ := h
    replace h := bnd h; obtain ⟨d, h2, h⟩ := h
    cases h
    have hg : gens[depth]? = none := by
      rw [List.getElem?_eq_none_iff]
      exact List.drop_eq_nil_iff.mp hd
    exact cr_elt hg (S.xE h2) (of_decide_eq_true h1)
  | g :: gs, gens, depth, q, q', hd, h => by
    replace h := bndG h; obtain ⟨h1, h⟩ := h
    replace h := bnd h; obtain ⟨ds, h2, h⟩ := h
    rw [Bool.and_eq_true] at h1
    have hlt : depth < gens.length := by
      by_cases q : depth < gens.length
      · exact q
      · rw [List.drop_eq_nil_iff.mpr (by omega)] at hd; cases hd
    have hd2 := hd.symm.trans (List.drop_eq_getElem_cons hlt)
    injection hd2 with e1 e2
    have hg : gens[depth]? = some g := by rw [List.getElem?_eq_getElem hlt, ← e1]
    obtain ⟨tgt, iter, ifs, as⟩ := g
    have ha : as = 0 := by simpa using h1.1
    subst ha
    exact cr_clause hg (noSetD_ok h1.2) (S.iE h2) (S.steps (fun q q' hq => Sound.goC e2.symm hq) h)
theorem Sound.compS {pos' : Pos} (h : compS Ee sc σ elt gens scope = some acc) : ∃ tgt iter ifs gs ds σ', gens = ⟨tgt, iter, ifs, 0⟩ :: gs ∧ freeOk sc scope σ = true ∧ namesOk scope = true ∧ (∀ env x, foldedSetIterable iter env x = pure x) ∧ ITs prog w T g₀ (n + 1) sc σ iter tgt ds ∧
    Steps prog w T g₀ (n + 1) (relabelS scope sc) (.ListComp elt (⟨tgt, iter, ifs, 0⟩ :: gs) scope pos') elt (⟨tgt, iter, ifs, 0⟩ :: gs) 0 tgt ifs ds (seen scope σ) [] σ' acc := by
  unfold Mine.compS at h
  split at h
  · cases h
  · rename_i g gs
    replace h := bndG h; obtain ⟨h1, h⟩ := h
    replace h := bnd h; obtain ⟨ds, h2, h⟩ := h
    replace h := bnd h; obtain ⟨q, h3, h⟩ := h
    cases h
    simp only [Bool.and_eq_true] at h1
    obtain ⟨tgt, iter, ifs, as⟩ := g
    have ha : as = 0 := by simpa using h1.1.2
    subst ha
    have hst := S.steps (sc := relabelS scope sc) (e' := .ListComp elt (⟨tgt, iter, ifs, 0⟩ :: gs) scope pos') (gens := ⟨tgt, iter, ifs, 0⟩ :: gs) (depth := 0) (fun q q' hq => S.goC (gens := ⟨tgt, iter, ifs, 0⟩ :: gs) (depth := 1) rfl hq) h3
    exact ⟨tgt, iter, ifs, gs, ds, q.1, rfl, h1.1.1.1, h1.1.1.2, noSetD_ok h1.2, S.iE h2, hst⟩
theorem Sound.nwS (h : nwS Ee sc σ e = some d) : NVs prog w T g₀ (n + 1) sc σ e d := by
  cases e with
  | List es p =>
    unfold Mine.nwS at h
    dsimp only at h
    replace h := bnd h; obtain ⟨ds, h1, h⟩ := h
    replace h := bndG h; obtain ⟨h2, h⟩ := h
    cases h
    exact nv_list (S.exs h1).1 (of_decide_eq_true h2)
  | Dict ks vs p =>
    unfold Mine.nwS at h
    dsimp only at h
    match ks, vs, h with
    | [], [], h => cases h; exact nv_dict0
    | [some k], [v], h =>
      replace h := bnd h; obtain ⟨a, h1, h⟩ := h
      replace h := bnd h; obtain ⟨l, h2, h⟩ := h
      replace h := bnd h; obtain ⟨kk, h3, h⟩ := h
      replace h := bnd h; obtain ⟨d, h4, h⟩ := h
      cases h
      rw [asTup_some h2] at h1
      exact nv_dict1 (S.xE h1) (S.xE h4) h3
  | BinOp l op r p =>
    cases l with
    | List es p' =>
      cases op with
      | Mult =>
        unfold Mine.nwS at h
        dsimp only at h
        replace h := bnd h; obtain ⟨ds, h1, h⟩ := h
        replace h := bnd h; obtain ⟨a, h2, h⟩ := h
        replace h := bnd h; obtain ⟨k, h3, h⟩ := h
        replace h := bndG h; obtain ⟨h4, h⟩ := h
        cases h
        simp only [Bool.and_eq_true] at h4
        rw [asInt_some h3] at h2
        refine nv_listMul (of_decide_eq_true h4.1.1.1.1) (of_decide_eq_true h4.1.1.1.2) (of_decide_eq_true h4.1.1.2) (of_decide_eq_true h4.1.2) (fun q => ?_) (S.exs h1).1 (S.xE h2)
        rw [q] at h4; simp at h4
      | _ => cases h
    | _ => cases h
  | ListComp elt gens scope p =>
    unfold Mine.nwS at h
    dsimp only at h
    replace h := bnd h; obtain ⟨acc, h1, h⟩ := h
    cases h
    obtain ⟨tgt, iter, ifs, gs, ds, σ', rfl, q1, q2, q3, q4, q5⟩ := S.compS h1
    exact nv_comp q1 q2 q3 q4 q5
  | _ => cases h
theorem Sound.trS (h : trS Ee sc σ e = some b) : TRs prog w T g₀ (n + 1) sc σ e b := by
  cases e with
  | Compare l ops rs p =>
    unfold Mine.trS at h
    dsimp only at h
    match ops, rs, h with
    | [op], [r], h =>
      replace h := bndG h; obtain ⟨h1, h⟩ := h
      cases hl : liveOf σ r with
      | none =>
        rw [hl] at h
        dsimp only at h
        replace h := bnd h; obtain ⟨a, h2, h⟩ := h
        replace h := bnd h; obtain ⟨b', h3, h⟩ := h
        exact tr_cmp (notT h1) (S.xE h2) (S.xE h3) (cmpD_ok h)
      | some xd =>
        rw [hl] at h
        obtain ⟨x, dd⟩ := xd
        cases dd with
        | dct en =>
          cases op with
          | In =>
            dsimp only at h
            replace h := bnd h; obtain ⟨a, h2, h⟩ := h
            replace h := bnd h; obtain ⟨l', h3, h⟩ := h
            replace h := bnd h; obtain ⟨ks, h4, h⟩ := h
            cases h
            obtain ⟨q, rfl, ho, hx⟩ := liveOf_some hl
            rw [asTup_some h3] at h2
            exact tr_in_live (notT h1) (S.xE h2) h4 hx ho
          | _ => cases h
        | _ => cases h
  | BoolOp op es p =>
    cases op with
    | Or =>
      unfold Mine.trS at h
      dsimp only at h
      match es, h with
      | [a, b], h =>
        replace h := bnd h; obtain ⟨c, h1, h⟩ := h
        cases c with
        | true => cases h
        | false => exact tr_or (S.tE h1) (S.tE h)
    | _ => cases h
  | Name x p =>
    unfold Mine.trS at h
    dsimp only at h
    replace h := bndG h; obtain ⟨h1, h⟩ := h
    rw [lk_eq] at h
    cases hx : σ.lookup x with
    | none => rw [hx] at h; cases h
    | some sl =>
      rw [hx] at h
      cases sl with
      | live _ => cases h
      | val d =>
        cases d with
        | int k => cases h; exact tr_nameInt hx (notT h1)
        | lst ds =>
          dsimp only at h
          replace h := bndG h; obtain ⟨h2, h⟩ := h
          cases h; exact tr_nameLst (of_decide_eq_true h2) hx (notT h1)
        | _ => cases h
  | _ => cases h
theorem Sound.seqS (h : seqS Ee sc σ e tgt = some ds) : ITs prog w T g₀ (n + 1) sc σ e tgt ds := by
  unfold Mine.seqS at h
  replace h := bnd h; obtain ⟨a, h1, h⟩ := h
  split at h
  · replace h := bndG h; obtain ⟨h2, h⟩ := h
    cases h
    rw [Bool.or_eq_true] at h2
    exact it_list h2 (S.xE h1)
  · replace h := bndG h; obtain ⟨h2, h⟩ := h
    cases h
    exact it_tup h2 (S.xE h1)
  · replace h := bndG h; obtain ⟨h2, h⟩ := h
    cases h
    simp only [Bool.and_eq_true] at h2
    exact it_rng h2.1.1 (of_decide_eq_true h2.1.2) (of_decide_eq_true h2.2) (S.xE h1)
  · replace h := bndG h; obtain ⟨h2, h⟩ := h
    cases h
    exact it_keys h2 (S.xE h1)
  · cases h
theorem Sound.itS (K : CxOk C T g₀ mg mb) (h : itS Ee sc σ e tgt = some ds) : ITs prog w T g₀ (n + 1) sc σ e tgt ds := by
  unfold Mine.itS at h
  simp only [lk_eq] at h
  split at h
  · split at h
    · split at h
      · replace h := bndG h; obtain ⟨h1, h⟩ := h
        simp only [Bool.and_eq_true, List.isEmpty_iff] at h1
        obtain ⟨⟨⟨h1, rfl⟩, rfl⟩, h2⟩ := h1
        split at h
        · rename_i en hx
          split at h
          · rename_i hnm; have hnm := sEq_true hnm
            subst hnm
            replace h := bndG h; obtain ⟨h3, h⟩ := h
            cases h
            exact it_vals h3 hx (notT h1) h2
          · split at h
            · rename_i hnm; have hnm := sEq_true hnm
              subst hnm
              replace h := bndG h; obtain ⟨h3, h⟩ := h
              cases h
              exact it_items h3 hx (notT h1) h2
            · cases h
        · cases h
      · cases h
    · split at h
      · rename_i hg; have hg := sEq_true hg
        subst hg
        split at h
        · replace h := bndG h; obtain ⟨h1, h⟩ := h
          simp only [Bool.and_eq_true, List.isEmpty_iff] at h1
          obtain ⟨⟨⟨h1, rfl⟩, h2⟩, h3⟩ := h1
          replace h := bnd h; obtain ⟨d, h4, h⟩ := h
          replace h := bnd h; obtain ⟨ds, h5, h⟩ := h
          cases h
          rw [asLst_some h5] at h4
          exact it_rev K.L h1 (notT h2) (by decide +kernel) (eq_of_beq h3) (by decide +kernel) (S.xE h4)
        · cases h
      · exact S.seqS h
    · cases h
  · exact S.seqS h
end
end Mine

namespace Mine
section
variable {C : Cx} {Ee : Ev} {prog : Program} {w : World} {T : Tabs} {g₀ : Heap} {mg mb : Str → Option Value} {n m : Nat} {sc scope : Scope} {own : Bool} {σ σ' : Sg} {e l r i tgt f elt t value : PySem.Expr} {d d₁ d₂ : D} {es as ifs : List PySem.Expr} {ds acc acc' : List D} {pos apos p : Pos} {ks : List Keyword} {gens gs : List Comprehension} {g : Str} {b : Bool} {st : Stmt} {sts body : List Stmt} {out : Out} {depth : Nat}

theorem augStore_ok {i : PySem.Expr} (h : slice? i = false) : ∀ ov iv new, augStore i ov iv new = (do holding [new, ov, iv] (setItem ov iv new); release [new, ov, iv] []; pure .next) := by
  cases i <;> first
    | (intro ov iv new; rfl)
    | (simp [slice?] at h)

variable (S : Sound C prog w T g₀ mg mb n Ee)
include S
theorem Sound.loopS : ∀ {ds : List D} {σ : Sg} {out : Out}, loopS Ee sc own tgt body ds σ = some out → FSteps prog w T g₀ (n + 1) sc own tgt body ds σ out
  | [], σ, out, h => by cases h; exact .nil
  | d :: ds, σ, out, h => by
    unfold Mine.loopS at h
    rw [forceD_eq] at h
    replace h := bnd h; obtain ⟨σ₁, h1, h⟩ := h
    replace h := bnd h; obtain ⟨o, h2, h⟩ := h
    cases o with
    | next σ₂ => exact .cons h1 (S.bE h2) (Sound.loopS h)
    | ret r => cases h; exact .ret h1 (S.bE h2)
theorem Sound.pairS {x y : Str × Pos} {kk : Nat} {q : Pos} (h : pairS Ee sc own σ x y value = some out) : X1 prog w T g₀ (n + 1) sc own σ (.Assign [.Tuple [.Name x.1 x.2, .Name y.1 y.2] kk q] value pos) out := by
  cases value with
  | Call f as ks p =>
    unfold Mine.pairS at h
    dsimp only at h
    replace h := bndG h; obtain ⟨h1, h⟩ := h
    simp only [Bool.and_eq_true, List.isEmpty_iff] at h1
    obtain ⟨⟨rfl, h1⟩, h2⟩ := h1
    replace h := bnd h; obtain ⟨a, h3, h⟩ := h
    replace h := bnd h; obtain ⟨l, h4, h⟩ := h
    replace h := bnd h; obtain ⟨d, h5, h⟩ := h
    cases h
    rw [asTup_some h4, two_some h5] at h3
    exact x_unpack2 h1 h2 (S.xE h3)
  | Tuple es k p =>
    unfold Mine.pairS at h
    dsimp only at h
    replace h := bnd h; obtain ⟨e, h0, h⟩ := h
    replace h := bndG h; obtain ⟨h1, h⟩ := h
    simp only [Bool.and_eq_true, beq_iff_eq, bne_iff_ne, ne_eq] at h1
    obtain ⟨⟨⟨⟨⟨⟨⟨a1, a2⟩, a3⟩, a4⟩, a5⟩, a6⟩, a7⟩, a8⟩ := h1
    replace h := bnd h; obtain ⟨d₁, h3, h⟩ := h
    replace h := bnd h; obtain ⟨d₂, h4, h⟩ := h
    cases h
    rw [two_some h0]
    exact x_pair a1 a2 a3 a4 (notT a5) (notT a6) (notT a7) (notT a8) (S.xE h3) (S.vE h4)
  | _ => cases h
theorem Sound.assS (h : assS Ee sc own σ t value = some out) : X1 prog w T g₀ (n + 1) sc own σ (.Assign [t] value pos) out := by
  cases t with
  | Name x p =>
    unfold Mine.assS at h
    dsimp only at h
    replace h := bndG h; obtain ⟨h1, h⟩ := h
    rw [Bool.and_eq_true] at h1
    cases hsw : swp sc value x p with
    | true =>
      rw [hsw] at h
      cases value with
      | ListComp elt gens scope p' =>
        dsimp only at h
        replace h := bnd h; obtain ⟨acc, h2, h⟩ := h
        cases h
        obtain ⟨tgt, iter, ifs, gs, ds, σ', rfl, q1, q2, q3, q4, q5⟩ := S.compS h2
        exact x_used hsw h1.1 q1 q2 q3 q4 q5
      | _ => cases h
    | false =>
      rw [hsw] at h
      dsimp only at h
      cases hl : liveV value with
      | true =>
        rw [hl] at h
        dsimp only at h
        replace h := bnd h; obtain ⟨d, h2, h⟩ := h
        cases h
        exact x_live h1.2 hsw h1.1 (S.vE h2)
      | false =>
        rw [hl] at h
        dsimp only at h
        replace h := bnd h; obtain ⟨d, h2, h⟩ := h
        rw [forceD_eq] at h
        cases h
        exact x_assign h1.2 hsw h1.1 (S.xE h2)
  | Subscript o i p =>
    unfold Mine.assS at h
    dsimp only at h
    replace h := bndG h; obtain ⟨h1, h⟩ := h
    replace h := bnd h; obtain ⟨xd, h2, h⟩ := h
    replace h := bnd h; obtain ⟨d, h3, h⟩ := h
    replace h := bnd h; obtain ⟨a, h4, h⟩ := h
    obtain ⟨q, rfl, ho, hx⟩ := liveOf_some h2
    cases hd : xd.2 with
    | lst ds =>
      rw [hd] at h hx
      dsimp only at h
      replace h := bnd h; obtain ⟨k, h5, h⟩ := h
      replace h := bndG h; obtain ⟨h6, h⟩ := h
      cases h
      simp only [Bool.and_eq_true] at h6
      rw [asInt_some h5] at h4
      exact x_setList h1 hx ho (of_decide_eq_true h6.1.1) (of_decide_eq_true h6.1.2) (of_decide_eq_true h6.2) (S.xE h3) (S.xE h4)
    | dct en =>
      rw [hd] at h hx
      dsimp only at h
      replace h := bnd h; obtain ⟨l, h5, h⟩ := h
      replace h := bnd h; obtain ⟨ks, h6, h⟩ := h
      replace h := bndG h; obtain ⟨h7, h⟩ := h
      cases h
      rw [asTup_some h5] at h4
      exact x_setDict h1 hx ho (of_decide_eq_true h7) h6 (S.xE h3) (S.xE h4)
    | _ => rw [hd] at h; cases h
  | Tuple ts k p =>
    unfold Mine.assS at h
    dsimp only at h
    replace h := bnd h; obtain ⟨t, h1, h⟩ := h
    replace h := bnd h; obtain ⟨x, h2, h⟩ := h
    replace h := bnd h; obtain ⟨y, h3, h⟩ := h
    rw [two_some h1, nameP_some h2, nameP_some h3]
    exact S.pairS h
  | _ => cases h
theorem Sound.augS (h : augS Ee sc own σ t value = some out) : X1 prog w T g₀ (n + 1) sc own σ (.AugAssign t .Add value pos) out := by
  unfold Mine.augS at h
  simp only [lk_eq] at h
  split at h
  · replace h := bndG h; obtain ⟨h1, h⟩ := h
    rw [Bool.and_eq_true] at h1
    split at h
    · rename_i j hj
      replace h := bnd h; obtain ⟨a, h2, h⟩ := h
      replace h := bnd h; obtain ⟨k, h3, h⟩ := h
      cases h
      rw [asInt_some h3] at h2
      exact x_augAdd hj (notT h1.1) h1.2 (S.xE h2)
    · cases h
  · replace h := bndG h; obtain ⟨h1, h⟩ := h
    replace h := bnd h; obtain ⟨xd, h2, h⟩ := h
    replace h := bnd h; obtain ⟨ds, h3, h⟩ := h
    replace h := bnd h; obtain ⟨a, h4, h⟩ := h
    replace h := bnd h; obtain ⟨k, h5, h⟩ := h
    replace h := bnd h; obtain ⟨b, h6, h⟩ := h
    replace h := bnd h; obtain ⟨j, h7, h⟩ := h
    replace h := bnd h; obtain ⟨v, h8, h⟩ := h
    replace h := bnd h; obtain ⟨c, h9, h⟩ := h
    cases h
    obtain ⟨q, rfl, ho, hx⟩ := liveOf_some h2
    rw [asLst_some h3] at hx
    rw [asInt_some h5] at h4
    rw [asInt_some h7] at h6
    rw [asInt_some h9] at h8
    obtain ⟨k0, k1, k2⟩ := idx_some h6
    exact x_augList (augStore_ok (notT h1)) hx ho k0 k1 k2 (S.xE h4) (S.xE h8)
  · cases h
theorem Sound.methS (h : methS Ee sc σ e = some out) : X1 prog w T g₀ (n + 1) sc own σ (.Expr e pos) out := by
  unfold Mine.methS at h
  split at h
  · split at h
    · replace h := bndG h; obtain ⟨h1, h⟩ := h
      simp only [Bool.and_eq_true, List.isEmpty_iff] at h1
      obtain ⟨rfl, h1⟩ := h1
      replace h := bnd h; obtain ⟨xd, h2, h⟩ := h
      replace h := bnd h; obtain ⟨ds, h3, h⟩ := h
      replace h := bndG h; obtain ⟨h4, h⟩ := h
      obtain ⟨q, rfl, ho, hx⟩ := liveOf_some h2
      rw [asLst_some h3] at hx
      split at h
      · replace h := bndG h; obtain ⟨h5, h⟩ := h
        replace h := bnd h; obtain ⟨d, h6, h⟩ := h
        cases h
        rw [Bool.and_eq_true, beq_iff_eq] at h5
        obtain ⟨rfl, h5⟩ := h5
        exact x_append hx ho (notT h5) (of_decide_eq_true h4) h1 (S.xE h6)
      · replace h := bndG h; obtain ⟨h5, h⟩ := h
        cases h
        rw [beq_iff_eq] at h5
        subst h5
        exact x_reverse hx ho (of_decide_eq_true h4) h1
      · cases h
    · cases h
  · cases h
theorem Sound.oneS (h : oneS Ee sc own σ st = some out) : X1 prog w T g₀ (n + 1) sc own σ st out := by
  cases st with
  | Assign ts value p =>
    unfold Mine.oneS at h
    dsimp only at h
    match ts, h with
    | [t], h => exact S.assS h
  | AugAssign t op value p =>
    cases op with
    | Add => exact S.augS h
    | _ => cases h
  | For tgt iter body orelse p =>
    unfold Mine.oneS at h
    dsimp only at h
    replace h := bndG h; obtain ⟨h1, h⟩ := h
    rw [Bool.and_eq_true, List.isEmpty_iff] at h1
    obtain ⟨rfl, h1⟩ := h1
    replace h := bnd h; obtain ⟨ds, h2, h⟩ := h
    exact x_for (noSetD_ok h1) (S.iE h2) (S.loopS h)
  | If test body orelse p =>
    unfold Mine.oneS at h
    dsimp only at h
    replace h := bnd h; obtain ⟨b, h1, h⟩ := h
    exact x_if (S.tE h1) (S.bE h)
  | Return v p =>
    cases v with
    | none => cases h
    | some e =>
      unfold Mine.oneS at h
      dsimp only at h
      cases hl : liveOf σ e with
      | some xd =>
        rw [hl] at h
        cases h
        obtain ⟨q, rfl, ho, hx⟩ := liveOf_some hl
        exact x_ret_live hx ho
      | none =>
        rw [hl] at h
        dsimp only at h
        replace h := bnd h; obtain ⟨d, h1, h⟩ := h
        cases h
        exact x_ret (S.xE h1)
  | Expr e p => exact S.methS h
  | _ => cases h
theorem Sound.blkS (h : blkS Ee sc own σ sts = some out) : Xs prog w T g₀ (n + 1) sc own σ sts out := by
  unfold Mine.blkS at h
  split at h
  · cases h; exact xs_nil
  · replace h := bnd h; obtain ⟨o, h1, h⟩ := h
    cases o with
    | next σ₁ => exact xs_cons (S.oneS h1) (S.bE h)
    | ret d => cases h; exact xs_ret (S.oneS h1)
omit S

/-- a function's block from here on gives d -/
noncomputable def FRet (prog : Program) (w : World) (T : Tabs) (g₀ : Heap) (n : Nat) (fd : FuncData) (b : Addr) (σ : Sg) (sts : List Stmt) (d : D) : Prop :=
  ∀ (A : Around) (L : Addr) (Own : List Addr) (s₀ : Shared) (G₀ : Gh) (its : List (Addr × Obj)) (G : Gh) (s : Shared), AOk n A → EnvOk fd.scope (callEnvC fd L b) → OwnOk fd.scope (callEnvC fd L b) Own → (anyCell fd.scope = true → Own ≠ []) →
    SR prog w T g₀ (callEnvC fd L b) Own s₀ G₀ σ its G s → wpAny (model prog w) A (execs sts (callEnvC fd L b)) (fun f s' => ∃ v, f = .ret v ∧ EvR prog w T g₀ G₀ s₀ d v s') (fun _ _ => False) s
theorem defOf_some {X : DefR} (h : defOf st = some X) : st = .FunctionDef X.name X.params X.ibody [] none [] X.iscope none X.name X.ipos := by
  unfold defOf at h
  split at h
  · split at h
    · split at h
      · rename_i hb
        cases h
        rw [hb]
      · cases h
    · cases h
  · cases h
theorem setOf_some {Z : SetR} (h : setOf sts = some Z) : ∃ p1 p2 p3 p4 p5 rest, sts = .If Z.test [.Assign [.Subscript (.Name Z.y p1) Z.i p2] Z.value p3, .Return none p4] [] p5 :: rest := by
  unfold setOf at h
  replace h := bnd h; obtain ⟨st, h1, h⟩ := h
  replace h := bnd h; obtain ⟨z, h2, h⟩ := h
  replace h := bndG h; obtain ⟨h3, h⟩ := h
  replace h := bnd h; obtain ⟨q, h4, h⟩ := h
  replace h := bnd h; obtain ⟨a, h5, h⟩ := h
  replace h := bnd h; obtain ⟨t, h6, h⟩ := h
  replace h := bnd h; obtain ⟨u, h7, h⟩ := h
  replace h := bnd h; obtain ⟨y, h8, h⟩ := h
  replace h := bnd h; obtain ⟨v, h9, h⟩ := h
  replace h := bndG h; obtain ⟨h10, h⟩ := h
  cases h
  obtain ⟨p5, e1⟩ := ifOf_some h2
  obtain ⟨p3, e2⟩ := assOf_some h5
  obtain ⟨p2, e3⟩ := subOf_some h7
  obtain ⟨p1, e4⟩ := nameOf_some h8
  obtain ⟨p4, e5⟩ := retOf_some h9
  have e6 := two_some h4
  have e7 := only_some h6
  have e8 : z.2.2 = [] := List.isEmpty_iff.mp h3
  have e9 : v = none := Option.isNone_iff_eq_none.mp h10
  subst e9
  rw [e4] at e3
  rw [e3] at e7
  rw [e7] at e2
  rw [e2, e5] at e6
  rw [e6, e8] at e1
  cases sts with
  | nil => cases h1
  | cons s0 rest =>
    cases h1
    exact ⟨p1, p2, p3, p4, p5, rest, by rw [e1]⟩
end

section
variable {C : Cx} {Ee : Ev} {prog : Program} {w : World} {T : Tabs} {g₀ : Heap} {mg mb : Str → Option Value} {n m : Nat} {sc scope : Scope} {own : Bool} {σ σ' : Sg} {e l r i tgt f elt t value : PySem.Expr} {d d₁ d₂ : D} {es as ifs : List PySem.Expr} {ds acc acc' : List D} {pos apos p : Pos} {ks : List Keyword} {gens gs : List Comprehension} {g : Str} {b : Addr} {st ret : Stmt} {sts body : List Stmt} {out : Out} {fd : FuncData} {X : DefR} {qual : Str}
variable (S : Sound C prog w T g₀ mg mb n Ee)
include S
theorem Sound.argC (h : argC Ee sc σ X f as ks = some ds) : ∃ p e es, f = .Name X.name p ∧ ks = [] ∧ as = e :: es ∧ ds.length = (X.params.args.map (·.arg)).length ∧ stars (e :: es) = false ∧ freeOk sc X.iscope σ = true ∧ ELs prog w T g₀ (n + 1) sc σ (e :: es) ds := by
  unfold Mine.argC at h
  split at h
  · rename_i g q
    replace h := bndG h; obtain ⟨h1, h⟩ := h
    simp only [Bool.and_eq_true, List.isEmpty_iff, beq_iff_eq] at h1
    obtain ⟨⟨⟨rfl, rfl⟩, h2⟩, h3⟩ := h1
    replace h := bnd h; obtain ⟨ds', h4, h⟩ := h
    replace h := bndG h; obtain ⟨h5, h⟩ := h
    cases h
    cases as with
    | nil => simp at h2
    | cons e es =>
      obtain ⟨q1, q2⟩ := S.exs h4
      exact ⟨q, e, es, rfl, rfl, rfl, eq_of_beq h5, q2, h3, q1⟩
  · cases h
theorem Sound.cloRet (D' : DefSt T g₀ mg fd X.name X.params X.iscope X.ipos qual) (hsees : seesOk fd.scope X.iscope = true) (hodd : odd X.name = false) (hst : stO fd.scope (anyCell fd.scope) X.name = true)
    (h : cloRet Ee fd.scope (put X.name (.val .any) σ) X st = some d) : FRet prog w T g₀ (n + 1) fd b σ [.FunctionDef X.name X.params X.ibody [] none [] X.iscope none X.name X.ipos, st] d := by
  unfold Mine.cloRet at h
  replace h := bnd h; obtain ⟨v, h1, h⟩ := h
  replace h := bnd h; obtain ⟨e, h2, h⟩ := h
  replace h := bnd h; obtain ⟨z, h3, h⟩ := h
  replace h := bnd h; obtain ⟨c, h4, h⟩ := h
  replace h := bnd h; obtain ⟨bt, h5, h⟩ := h
  obtain ⟨p1, e1⟩ := retOf_some h1
  obtain ⟨p2, e2⟩ := iteOf_some h3
  obtain ⟨p3, e3⟩ := callOf_some h4
  rw [e3] at e2
  rw [h2, e2] at e1
  subst e1
  cases bt with
  | true =>
    rw [if_pos rfl] at h
    replace h := bnd h; obtain ⟨ds, h6, h⟩ := h
    replace h := bnd h; obtain ⟨o, h7, h⟩ := h
    obtain ⟨q, e', es, e4, e5, e6, a1, a2, a3, a4⟩ := S.argC h6
    rw [e4, e5, e6]
    cases o with
    | next _ => cases h
    | ret d' =>
      cases h
      intro A L Own s₀ G₀ its G s a v ho hw x
      exact f_ret_clo D' hsees hodd hst (bt := true) (S.tE h5) (fun _ => ⟨ds, a1, a2, a3, a4, S.blk _ _ _ _ _ h7⟩) (fun q => by cases q) a v ho hw x
  | false =>
    rw [if_neg (by simp)] at h
    replace h := bnd h; obtain ⟨g, h6, h⟩ := h
    replace h := bndG h; obtain ⟨h7, h⟩ := h
    simp only [Bool.and_eq_true, beq_iff_eq, List.isEmpty_iff, Bool.not_eq_true'] at h7
    obtain ⟨⟨rfl, h8⟩, h9⟩ := h7
    obtain ⟨q, e4⟩ := nameOf_some h6
    rw [e4, h9]
    cases has : c.2.1 with
    | nil => rw [has] at h8; cases h8
    | cons e' es =>
      intro A L Own s₀ G₀ its G s a v ho hw x
      exact f_ret_clo D' hsees hodd hst (bt := false) (S.tE h5) (fun q => by cases q) (fun _ => S.xE h) a v ho hw x
theorem Sound.cloSet (D' : DefSt T g₀ mg fd X.name X.params X.iscope X.ipos qual) (hsees : seesOk fd.scope X.iscope = true) (hodd : odd X.name = false) (hst : stO fd.scope (anyCell fd.scope) X.name = true)
    (h : cloSet Ee fd.scope (put X.name (.val .any) σ) X st ret = some d) : FRet prog w T g₀ (n + 1) fd b σ [.FunctionDef X.name X.params X.ibody [] none [] X.iscope none X.name X.ipos, st, ret] d := by
  unfold Mine.cloSet at h
  simp only [lk_eq] at h
  replace h := bnd h; obtain ⟨z, h1, h⟩ := h
  replace h := bnd h; obtain ⟨s1, h2, h⟩ := h
  replace h := bnd h; obtain ⟨e1, h3, h⟩ := h
  replace h := bnd h; obtain ⟨c, h4, h⟩ := h
  replace h := bnd h; obtain ⟨v, h5, h⟩ := h
  replace h := bnd h; obtain ⟨e2, h6, h⟩ := h
  replace h := bnd h; obtain ⟨y, h7, h⟩ := h
  replace h := bnd h; obtain ⟨Z, h8, h⟩ := h
  replace h := bnd h; obtain ⟨g, h9, h⟩ := h
  replace h := bndG h; obtain ⟨h10, h⟩ := h
  simp only [Bool.and_eq_true, beq_iff_eq, List.isEmpty_iff] at h10
  obtain ⟨⟨⟨⟨⟨⟨⟨b1, rfl⟩, b2⟩, b3⟩, b4⟩, b5⟩, b6⟩, b7⟩ := h10
  obtain ⟨q1, i1⟩ := ifOf_some h1
  obtain ⟨q2, i2⟩ := exprOf_some h3
  obtain ⟨q3, i3⟩ := callOf_some h4
  obtain ⟨q4, i4⟩ := retOf_some h5
  obtain ⟨q5, i5⟩ := nameOf_some h7
  obtain ⟨q6, i6⟩ := nameOf_some h9
  have i7 := only_some h2
  rw [i3] at i2
  rw [i2] at i7
  rw [i7, b1] at i1
  rw [h6, i5] at i4
  rw [i6, b3] at i1
  subst i1; subst i4
  obtain ⟨p1, p2, p3, p4, p5, rest, hib⟩ := setOf_some h8
  cases has : c.2.1 with
  | nil => rw [has] at b2; cases b2
  | cons e es =>
    rw [has, b3] at h
    split at h
    · rename_i l hl
      have hyn := notT b6
      rw [lookup_put, hyn] at hl
      replace h := bnd h; obtain ⟨bt, h11, h⟩ := h
      rw [b4] at hib
      cases bt with
      | true =>
        rw [if_pos rfl] at h
        replace h := bnd h; obtain ⟨ds, h12, h⟩ := h
        replace h := bndG h; obtain ⟨h13, h⟩ := h
        replace h := bnd h; obtain ⟨c', h14, h⟩ := h
        replace h := bndG h; obtain ⟨h15, h⟩ := h
        replace h := bnd h; obtain ⟨dv, h16, h⟩ := h
        replace h := bnd h; obtain ⟨a', h17, h⟩ := h
        replace h := bnd h; obtain ⟨k, h18, h⟩ := h
        replace h := bndG h; obtain ⟨h19, h⟩ := h
        subst h15
        rw [asInt_some h18] at h17
        simp only [Bool.and_eq_true] at h19
        obtain ⟨q, e', es', j1, j2, j3, a1, a2, a3, a4⟩ := S.argC h12
        cases j3
        injection h with h
        intro A L Own s₀ G₀ its G s a v ho hw x
        exact f_set_clo D' hsees hodd (notT b5) hst hyn hl (bt := true) (S.tE h11) hib b7 (fun _ => ⟨ds, k, dv, a1, a2, a3, a4, eq_of_beq h13, S.tr _ _ _ _ h14, S.ex _ _ _ _ h16, S.ex _ _ _ _ h17, of_decide_eq_true h19.1.1, of_decide_eq_true h19.1.2, of_decide_eq_true h19.2, h.symm⟩) (fun q => by cases q) a v ho hw x
      | false =>
        rw [if_neg (by simp)] at h
        injection h with h
        intro A L Own s₀ G₀ its G s a v ho hw x
        exact f_set_clo D' hsees hodd (notT b5) hst hyn hl (bt := false) (S.tE h11) hib b7 (fun q => by cases q) (fun _ => h.symm) a v ho hw x
    · cases h
theorem Sound.runF (hdef : ∀ name params ibody iscope ipos, Stmt.FunctionDef name params ibody [] none [] iscope none name ipos ∈ sts → seesOk fd.scope iscope = true → ∃ qual, DefSt T g₀ mg fd name params iscope ipos qual)
    (h : runF Ee fd.scope σ sts = some d) : FRet prog w T g₀ (n + 1) fd b σ sts d := by
  induction sts generalizing σ with
  | nil => cases h
  | cons st rest ih =>
    unfold Mine.runF at h
    split at h
    · rename_i X hX
      have e := defOf_some hX
      subst e
      unfold Mine.defS at h
      replace h := bndG h; obtain ⟨h1, h⟩ := h
      simp only [Bool.and_eq_true] at h1
      obtain ⟨⟨h1, h2⟩, h3⟩ := h1
      obtain ⟨qual, D'⟩ := hdef _ _ _ _ _ (.head _) h1
      split at h
      · exact S.cloRet D' h1 (notT h2) h3 h
      · exact S.cloSet D' h1 (notT h2) h3 h
      · cases h
    · replace h := bnd h; obtain ⟨o, h1, h⟩ := h
      have hx := S.oneS h1
      intro A L Own s₀ G₀ its G s a v ho hw x
      cases o with
      | next σ₁ =>
        have ih' := ih (fun name params ibody iscope ipos hm => hdef name params ibody iscope ipos (.tail _ hm)) h
        refine wpAny_execs_cons (wpAny_mono (hx A _ Own s₀ G₀ its G s a v ho hw x) (fun f s₁ hf => ?_) fun _ _ q => q)
        obtain ⟨rfl, G₁, le, x₁⟩ := hf
        exact ih' A L Own s₀ G₀ its G₁ s₁ a v ho hw x₁
      | ret d' =>
        cases h
        refine wpAny_execs_cons (wpAny_mono (hx A _ Own s₀ G₀ its G s a v ho hw x) (fun f s₁ hf => ?_) fun _ _ q => q)
        obtain ⟨u, rfl, hu⟩ := hf
        exact ⟨u, rfl, hu⟩
theorem Sound.fnS (K : CxOk C T g₀ mg mb) {r : FR} (hf : C.fns.lookup g = some r) (hb : mg g = some (.ref b)) (h : fnS Ee r ds = some d) : CallOk prog w T g₀ (n + 2) (.ref b) ds d := by
  unfold Mine.fnS at h
  replace h := bndG h; obtain ⟨h1, h⟩ := h
  obtain ⟨b', o, fd, m1, m2, m3, m4, m5, m6⟩ := K.fns g r hf
  rw [hb] at m1
  cases m1
  rw [← m4] at h
  have hr := S.runF m6 h (b := b)
  exact callOk_raw m5 (eq_of_beq h1) fun A L s₀ G s a v ho x => hr A L _ s₀ G [] G s a v ho own_ne x
theorem Sound.step (K : CxOk C T g₀ mg mb) : Sound C prog w T g₀ mg mb (n + 1) (evS C Ee) where
  ex := fun sc σ e d h => S.exS K h
  nw := fun sc σ e d h => S.nwS h
  tr := fun sc σ e d h => S.trS h
  it := fun sc σ e tgt d h => S.itS K h
  blk := fun sc own σ sts out h => S.blkS h
  fn := fun f r ds d b hf hb h => S.fnS K hf hb h
end
theorem evN_sound {C : Cx} {prog : Program} {w : World} {T : Tabs} {g₀ : Heap} {mg mb : Str → Option Value} (K : CxOk C T g₀ mg mb) : ∀ n, Sound C prog w T g₀ mg mb n (evN C n)
  | 0 => ⟨fun _ _ _ _ h => (by cases h), fun _ _ _ _ h => (by cases h), fun _ _ _ _ h => (by cases h), fun _ _ _ _ _ h => (by cases h), fun _ _ _ _ _ h => (by cases h), fun _ _ _ _ _ _ _ h => (by cases h)⟩
  | n + 1 => (evN_sound K n).step K
end Mine

namespace Mine

noncomputable def recR (d : DefRec) : FR := ⟨d.params.args.map (·.arg), d.scope, d.body⟩
noncomputable def noAnn (p : Arguments) : Bool := p.args.all fun a => a.annotation.isNone
theorem annotations_none (env : Env) : ∀ (l : List Arg), (l.all fun a => a.annotation.isNone) = true → annotationsOf l env = []
  | [], _ => rfl
  | ⟨n, some e, q⟩ :: r, h => by simp at h
  | ⟨n, none, q⟩ :: r, h => by
    have : (r.all fun a => a.annotation.isNone) = true := by simpa using h
    show annotationsOf r env = []
    exact annotations_none env r this
theorem ann_none {p : Arguments} (h : noAnn p = true) (hp : plainP p = true) (env : Env) : annTrees p none env = [] := by
  obtain ⟨po, a, va, ko, kd, kwa, df⟩ := p
  unfold plainP at hp
  simp only [Bool.and_eq_true, List.isEmpty_iff, Option.isNone_iff_eq_none] at hp
  obtain ⟨⟨⟨⟨⟨rfl, rfl⟩, rfl⟩, rfl⟩, rfl⟩, rfl⟩ := hp
  unfold annTrees
  have : annotationsOf (a ++ [] ++ (none : Option Arg).toList ++ [] ++ (none : Option Arg).toList) env = [] := by
    simp only [List.append_nil, Option.toList_none]
    exact annotations_none env a h
  show annotationsOf (a ++ [] ++ (none : Option Arg).toList ++ [] ++ (none : Option Arg).toList) env ++ _ = []
  rw [this]
  rfl

noncomputable def okDef (sc : Scope) (X : DefR) : Bool := namesOk X.iscope && !X.iscope.isCoroutine && !X.iscope.isGenerator && plainP X.params && noAnn X.params && decide ((X.params.args.map (·.arg)).Nodup) &&
  ((X.params.args.map (·.arg)).all fun q => X.iscope.names.lookup q == some .local) && !(sc.names.lookup X.name == some .globalExplicit)
noncomputable def innerQ (f : Str) (X : DefR) : Str := (f ++ ".<locals>.") ++ X.name
noncomputable def okRec (d : DefRec) : Bool := plainP d.params && !d.scope.isCoroutine && !d.scope.isGenerator && d.scope.kind == .function && decide ((d.scope.names.map (·.1)).Nodup) && decide ((d.params.args.map (·.arg)).Nodup) &&
  ((d.params.args.map (·.arg)).all fun q => d.scope.names.lookup q == some .local || d.scope.names.lookup q == some .cell)
/-- its inner defs, if any, are those of the two tables -/
noncomputable def okIn (f₁ f₂ : Str) (X₁ X₂ : DefR) (d : DefRec) : Bool := d.body.all fun st => match defOf st with
  | none => true
  | some X => okDef d.scope X && ((d.name == f₁ && decide (X.ipos = X₁.ipos) && X.name == X₁.name) || (d.name == f₂ && decide (X.ipos = X₂.ipos) && X.name == X₂.name))
theorem defOf_def (name : Str) (params : Arguments) (ibody : List Stmt) (iscope : Scope) (ipos : Pos) : defOf (.FunctionDef name params ibody [] none [] iscope none name ipos) = some ⟨name, params, ibody, iscope, ipos⟩ := by
  unfold defOf; simp

section
variable {g₀ : Heap} {a : Addr} {o : Obj} {d : DefRec} {pm code doc : Value} {mg mb : Str → Option Value}
theorem fnOk_of (h : okRec d = true) (ho : g₀.get? a = some o) (hd : o.data = .func (docDef d.name d.params d.body d.scope pm code doc)) (hn : g₀.NoLimit) (hc : g₀.CodeRec code d.name) :
    FnOk g₀ a (docDef d.name d.params d.body d.scope pm code doc) (recR d).ps (recR d).body := by
  unfold okRec at h
  simp only [Bool.and_eq_true] at h
  obtain ⟨⟨⟨⟨⟨⟨h1, h2⟩, h3⟩, h4⟩, h5⟩, h6⟩, h7⟩ := h
  refine ⟨⟨o, ho, hd⟩, hn, hc, rfl, rfl, rfl, rfl, notT h2, notT h3, eq_of_beq h4, fun vs hv => bind_simple (fd := docDef d.name d.params d.body d.scope pm code doc) h1 rfl rfl hv (of_decide_eq_true h6), of_decide_eq_true h5, of_decide_eq_true h6, fun p hp => ?_⟩
  have := List.all_eq_true.mp h7 p hp
  rw [Bool.or_eq_true] at this
  rcases this with q | q
  · exact .inl (eq_of_beq q)
  · exact .inr (eq_of_beq q)
theorem defSt_of {T : Tabs} {X : DefR} {c P : Addr} (h : okDef d.scope X = true) (N : NestOk T P X.ipos (innerQ d.name X)) (hC : CodeHd g₀ c P) (hcode : code = .ref c) (g : g₀.Ns mainGlobals mg)
    (bm : ∃ bm ob, mg "__builtins__" = some (.ref bm) ∧ bm ≠ builtinsNs ∧ g₀.get? bm = some ob ∧ ob.cls = .type "module" ∧ ob.dict = some builtinsNs ∧ ob.data = .plain) (nl : g₀.NoLimit) :
    DefSt T g₀ mg (docDef d.name d.params d.body d.scope pm code doc) X.name X.params X.iscope X.ipos (innerQ d.name X) := by
  unfold okDef at h
  simp only [Bool.and_eq_true] at h
  obtain ⟨⟨⟨⟨⟨⟨⟨h1, h2⟩, h3⟩, h4⟩, h5⟩, h6⟩, h7⟩, h8⟩ := h
  refine ⟨⟨c, P, N, hC, hcode⟩, fun L b => ?_, ann_none h5 h4, ⟨h1, notT h2, notT h3, h4, of_decide_eq_true h6, fun q hq => eq_of_beq (List.all_eq_true.mp h7 q hq)⟩, g, bm, nl⟩
  unfold qualnameIn
  have h8' : ((callEnvC (docDef d.name d.params d.body d.scope pm code doc) L b).kindOf X.name == some NameKind.globalExplicit) = false := notT h8
  rw [h8', if_neg (by simp)]
  rfl
end

noncomputable def freeNames : List Str := ["range", "sorted", "list", "tuple", "max", "min", "divmod", "reversed", "len", "sum"]
theorem bi_free {f : Str} {v : Value} (h : biOf f = some v) : f ∈ freeNames ∧ bootBuiltins f = some v ∧ f ≠ "__name__" := by
  unfold biOf at h
  split at h
  · rename_i q; have q := sEq_true q; subst q; cases h; exact ⟨by decide +kernel, by kernel_rfl, by decide +kernel⟩
  split at h
  · rename_i q; have q := sEq_true q; subst q; cases h; exact ⟨by decide +kernel, by kernel_rfl, by decide +kernel⟩
  split at h
  · rename_i q; have q := sEq_true q; subst q; cases h; exact ⟨by decide +kernel, by kernel_rfl, by decide +kernel⟩
  split at h
  · rename_i q; have q := sEq_true q; subst q; cases h; exact ⟨by decide +kernel, by kernel_rfl, by decide +kernel⟩
  split at h
  · rename_i q; have q := sEq_true q; subst q; cases h; exact ⟨by decide +kernel, by kernel_rfl, by decide +kernel⟩
  split at h
  · rename_i q; have q := sEq_true q; subst q; cases h; exact ⟨by decide +kernel, by kernel_rfl, by decide +kernel⟩
  split at h
  · rename_i q; have q := sEq_true q; subst q; cases h; exact ⟨by decide +kernel, by kernel_rfl, by decide +kernel⟩
  split at h
  · rename_i q; have q := sEq_true q; subst q; cases h; exact ⟨by decide +kernel, by kernel_rfl, by decide +kernel⟩
  split at h
  · rename_i q; have q := sEq_true q; subst q; cases h; exact ⟨by decide +kernel, by kernel_rfl, by decide +kernel⟩
  split at h
  · rename_i q; have q := sEq_true q; subst q; cases h; exact ⟨by decide +kernel, by kernel_rfl, by decide +kernel⟩
  · cases h
end Mine

namespace Mine

noncomputable def cxOf (p : Program) : Cx := ⟨((recsOf p).filter fun d => !(d.name == ("law" : Str))).map fun d => (d.name, recR d), [("_DIV_LIMIT", 4000)]⟩
noncomputable def recOf (p : Program) (f : Str) : Option DefRec := (recsOf p).find? fun d => d.name == f
noncomputable def innerOf (p : Program) (f : Str) : Option DefR := (recOf p f).bind fun d => (d.body.filterMap defOf).head?
noncomputable def freeChk (p : Program) (loose : List Str) : Bool := freeNames.all fun x => !(startupNames.contains x) && !(loose.contains x) && !(((recsOf p).map (·.name)).contains x) && !(((litsOf p).map (·.1)).contains x) && !(((clssOf p loose).map (·.name)).contains x)
noncomputable def okView (p : Program) (loose : List Str) (X₁ X₂ : DefR) : Bool := (recsOf p).all okRec && ((recsOf p).filter fun d => !(d.name == ("law" : Str))).all (okIn "_int2digits" "_digits2int" X₁ X₂) && freeChk p loose && importsNone p
structure SumR where
  x : Str
  a : Int
  g : Str
  y : Str
  b : Int
/-- a first statement: a number, and the rest of a sum by a number -/
noncomputable def sumOf (st : Stmt) : Option SumR := (assOf st).bind fun q => (only? q.1).bind fun t => (nameOf t).bind fun x => (binOf q.2).bind fun v => (intC v.1).bind fun a => (binOf v.2.2).bind fun u => (callOf u.1).bind fun c => (nameOf c.1).bind fun g => (only? c.2.1).bind fun y' => (nameOf y').bind fun y => (intC u.2.2).bind fun b =>
  (gd (isAdd v.2.1 && isMod u.2.1 && c.2.2.isEmpty)).bind fun _ => some ⟨x, a, g, y, b⟩
theorem sumOf_some {st : Stmt} {Z : SumR} (h : sumOf st = some Z) : ∃ p1 k2 p2 p3 p4 p5 k6 p6 p7 p8 p9, st = .Assign [.Name Z.x p1] (.BinOp (.Constant (.int Z.a) k2 p2) .Add (.BinOp (.Call (.Name Z.g p3) [.Name Z.y p4] [] p5) .Mod (.Constant (.int Z.b) k6 p6) p7) p8) p9 := by
  unfold sumOf at h
  replace h := bnd h; obtain ⟨q, h1, h⟩ := h
  replace h := bnd h; obtain ⟨t, h2, h⟩ := h
  replace h := bnd h; obtain ⟨x, h3, h⟩ := h
  replace h := bnd h; obtain ⟨v, h4, h⟩ := h
  replace h := bnd h; obtain ⟨a, h5, h⟩ := h
  replace h := bnd h; obtain ⟨u, h6, h⟩ := h
  replace h := bnd h; obtain ⟨c, h7, h⟩ := h
  replace h := bnd h; obtain ⟨g, h8, h⟩ := h
  replace h := bnd h; obtain ⟨y', h9, h⟩ := h
  replace h := bnd h; obtain ⟨y, h10, h⟩ := h
  replace h := bnd h; obtain ⟨b, h11, h⟩ := h
  replace h := bndG h; obtain ⟨h12, h⟩ := h
  cases h
  simp only [Bool.and_eq_true, List.isEmpty_iff] at h12
  obtain ⟨⟨b1, b2⟩, b3⟩ := h12
  obtain ⟨p9, e1⟩ := assOf_some h1
  have e2 := only_some h2
  obtain ⟨p1, e3⟩ := nameOf_some h3
  obtain ⟨p8, e4⟩ := binOf_some h4
  obtain ⟨k2, p2, e5⟩ := intC_some h5
  obtain ⟨p7, e6⟩ := binOf_some h6
  obtain ⟨p5, e7⟩ := callOf_some h7
  obtain ⟨p3, e8⟩ := nameOf_some h8
  have e9 := only_some h9
  obtain ⟨p4, e10⟩ := nameOf_some h10
  obtain ⟨k6, p6, e11⟩ := intC_some h11
  rw [e10] at e9
  rw [e8, e9, b3] at e7
  rw [e7, e11, isMod_ok b2] at e6
  rw [e5, e6, isAdd_ok b1] at e4
  rw [e3] at e2
  rw [e2, e4] at e1
  exact ⟨p1, k2, p2, p3, p4, p5, k6, p6, p7, p8, p9, e1⟩
noncomputable def isT : Option Out → Bool
  | some (.ret (.bool true)) => true
  | _ => false
theorem isT_some {o : Option Out} (h : isT o = true) : o = some (.ret (.bool true)) := by
  unfold isT at h
  split at h
  · rfl
  · cases h
noncomputable def lawHd (d : DefRec) : Bool := match d.body with
  | st :: _ => (match sumOf st with
    | some Z => Z.x == ("players" : Str) && Z.a == 2 && Z.g == ("sum" : Str) && Z.y == ("script" : Str) && Z.b == 8 && d.scope.names.lookup Z.x == some .cell && d.scope.names.lookup Z.g == some .globalImplicit && decide (d.params.args.map (·.arg) = [("script" : Str)])
    | none => false)
  | [] => false
noncomputable def lawRun (p : Program) (d : DefRec) (k : Int) : Bool := isT ((evN (cxOf p) 40).blk d.scope (anyCell d.scope) [("players", .val (.int k))] (d.body.drop 1))

section
variable {prog : Program} {w : World} {T : Tabs} {g₀ : Heap} {mg mb : Str → Option Value} {p : Program}
theorem law_ret (K : CxOk (cxOf p) T g₀ mg mb) {d : DefRec} {pm code doc : Value} {b : Addr} (hh : lawHd d = true) (hr : ∀ k : Int, 2 ≤ k → k ≤ 9 → lawRun p d k = true) (ns : List Int) :
    FRet prog w T g₀ 41 (docDef d.name d.params d.body d.scope pm code doc) b (argS (recR d).ps [.lst (ns.map D.int)]) d.body (.bool true) := by
  intro A L Own s₀ G₀ its G s a v ho hw x
  unfold lawHd at hh
  split at hh
  · rename_i st rest hb
    split at hh
    · rename_i Z hZ
      simp only [Bool.and_eq_true, beq_iff_eq] at hh
      obtain ⟨⟨⟨⟨⟨⟨⟨e1, e2⟩, e3⟩, e4⟩, e5⟩, e6⟩, e7⟩, e8⟩ := hh
      obtain ⟨zx, za, zg, zy, zb⟩ := Z
      dsimp only at e1 e2 e3 e4 e5 e6 e7
      subst e1; subst e2; subst e3; subst e4; subst e5
      obtain ⟨p1, k2, p2, p3, p4, p5, k6, p6, p7, p8, p9, rfl⟩ := sumOf_some hZ
      have hps : (recR d).ps = [("script" : Str)] := of_decide_eq_true e8
      rw [hps] at x
      have hcell : anyCell d.scope = true := by
        unfold anyCell
        rw [List.any_eq_true]
        refine ⟨_, mem_of_lookup e6, ?_⟩
        rw [e6]; rfl
      have hst : stO d.scope (anyCell d.scope) "players" = true := by
        unfold stO
        rw [lk_eq, hcell, e6]; decide +kernel
      have hx : EVs prog w T g₀ 41 d.scope (argS ["script"] [.lst (ns.map D.int)]) (.Call (.Name "sum" p3) [.Name "script" p4] [] p5) (.int ns.sum) :=
        ev_call_builtin K.L (by decide +kernel) e7 (by decide +kernel) rfl (el_cons rfl (ev_name (by rfl) (by decide +kernel)) el_nil) call_sum
      have h1 : X1 prog w T g₀ 41 d.scope (anyCell d.scope) (argS ["script"] [.lst (ns.map D.int)]) (.Assign [.Name "players" p1] (.BinOp (.Constant (.int 2) k2 p2) .Add (.BinOp (.Call (.Name "sum" p3) [.Name "script" p4] [] p5) .Mod (.Constant (.int 8) k6 p6) p7) p8) p9)
          (.next (put "players" (.val (.int (2 + ns.sum.fmod 8))) (argS ["script"] [.lst (ns.map D.int)]))) := x_assign rfl rfl hst (ev_add ev_int (ev_mod (by decide) hx ev_int))
      rw [hb]
      refine wpAny_execs_cons (wpAny_mono (h1 A _ Own s₀ G₀ its G s a v ho hw x) (fun f s₁ hf => ?_) fun _ _ q => q)
      obtain ⟨rfl, G₁, le, x₁⟩ := hf
      have hk : 2 ≤ 2 + ns.sum.fmod 8 ∧ 2 + ns.sum.fmod 8 ≤ 9 := by
        have h1 := Int.fmod_nonneg_of_pos ns.sum (b := 8) (by decide)
        have h2 := Int.fmod_lt_of_pos ns.sum (b := 8) (by decide)
        omega
      have hrun := isT_some (hr _ hk.1 hk.2)
      rw [hb] at hrun
      have hxs := ((evN_sound (prog := prog) (w := w) K 40).blk _ _ _ _ _ hrun).less (Nat.le_succ 40)
      have x₂ := x₁.weak (σ' := [("players", .val (.int (2 + ns.sum.fmod 8)))]) fun z sl e => by
        rw [lookup_put]
        rw [List.lookup_cons] at e
        cases q : z == ("players" : Str) with
        | true => rw [q] at e; exact e
        | false => rw [q] at e; simp at e
      refine wpAny_mono (hxs A _ Own s₀ G₀ its G₁ s₁ a v ho hw x₂) (fun f s₂ hf => ?_) fun _ _ q => q
      obtain ⟨u, rfl, hu⟩ := hf
      exact ⟨u, rfl, hu⟩
    · cases hh
  · cases hh
end
end Mine

namespace Mine

section
variable {prog : Program} {w : World} {p : Program} {loose : List Str} {mean : ExcName → Option Value} {mg mb : Str → Option Value} {s : Shared} {K : Frag} {X₁ X₂ : DefR} {c₁ P₁ c₂ P₂ : Addr} {h : Heap}

theorem codeHd_ghost {tabs : List (Addr × Addr)} {c P : Addr} (hT : TabsAt tabs h) (C : CodeHd h c P) : CodeHd (ghostOf h tabs) c P := by
  obtain ⟨o, vs, file, tf, flags, tg, inF, text, tt, e1, r1, r⟩ := C
  exact ⟨o, vs, file, tf, flags, tg, inF, text, tt, ghost_get hT e1 (fun q => by rw [q] at r1; cases r1), r1, r⟩
theorem func_ghost {tabs : List (Addr × Addr)} {a : Addr} {o : Obj} {fd : FuncData} (hT : TabsAt tabs h) (e : h.get? a = some o) (hd : o.data = .func fd) : (ghostOf h tabs).get? a = some o := ghost_get hT e (fun q => by rw [q] at hd; cases hd)
theorem codeRec_ghost {tabs : List (Addr × Addr)} {cd : Value} {q : Str} (hT : TabsAt tabs h) (x : h.CodeRec cd q) : (ghostOf h tabs).CodeRec cd q := by
  obtain ⟨c, o, vs, t, e, g, hd, hv⟩ := x
  refine ⟨c, o, vs, t, e, ghost_get hT g (fun q' => ?_), hd, hv⟩
  rw [q'] at hd
  have : (#[] : Array Value) = vs := by injection hd
  rw [← this] at hv
  simp at hv
noncomputable def TT (P₁ P₂ : Addr) (X₁ X₂ : DefR) : Tabs := tabs2 P₁ P₂ X₁.ipos X₂.ipos (innerQ "_int2digits" X₁) (innerQ "_digits2int" X₂)

theorem cx_ok (T : Top p loose mean mg mb h) (X : K.In h) (hT : TabsAt [(c₂, P₂), (c₁, P₁)] h) (t1 : tabIn K "_int2digits" = some (c₁, P₁)) (t2 : tabIn K "_digits2int" = some (c₂, P₂)) (hne : P₁ ≠ P₂)
    (hok : okView p loose X₁ X₂ = true) (hlit : valOf p "_DIV_LIMIT" = some (.int 4000)) : CxOk (cxOf p) (TT P₁ P₂ X₁ X₂) (ghostOf h [(c₂, P₂), (c₁, P₁)]) mg mb := by
  have T' := ghost_top hT T
  unfold okView at hok
  simp only [Bool.and_eq_true] at hok
  obtain ⟨⟨⟨k1, k2⟩, k3⟩, k4⟩ := hok
  refine ⟨⟨T'.g, T'.b, T'.nolimit, fun f v hf => ?_⟩, fun x k hx => ?_, fun f r hf => ?_⟩
  · obtain ⟨h1, h2, h3⟩ := bi_free hf
    have hc := List.all_eq_true.mp k3 f h1
    simp only [Bool.and_eq_true, Bool.not_eq_true'] at hc
    obtain ⟨⟨⟨⟨q1, q2⟩, q3⟩, q4⟩, q5⟩ := hc
    have ne : ∀ {l : List Str}, l.contains f = false → f ∉ l := fun q m => by
      have := List.contains_iff_mem.mpr m
      rw [q] at this; cases this
    exact ⟨T.free f (ne q1) (ne q2) (ne q3) (ne q4) (ne q5), (T.builtins f h3).trans h2⟩
  · have hm := mem_of_lookup hx
    have e : (x, k) = (("_DIV_LIMIT" : Str), (4000 : Int)) := List.mem_singleton.mp hm
    cases e
    obtain ⟨v, hv, hr⟩ := T.const _ _ hlit
    have := hr h
    cases this
    exact ⟨_, hv⟩
  · have hm := mem_of_lookup hf
    obtain ⟨d, hd, e⟩ := List.mem_map.mp hm
    cases e
    have hd0 := (List.mem_filter.mp hd).1
    obtain ⟨a, o, pm, code, doc, m1, m2, m3, m4⟩ := T.fn d hd0
    refine ⟨a, o, _, m1, func_ghost hT m2 m3, m3, rfl, fnOk_of (List.all_eq_true.mp k1 d hd0) (func_ghost hT m2 m3) m3 T'.nolimit (codeRec_ghost hT m4), fun name params ibody iscope ipos hmem _ => ?_⟩
    have hin := List.all_eq_true.mp (List.all_eq_true.mp k2 d hd) _ hmem
    rw [defOf_def] at hin
    dsimp only at hin
    rw [Bool.and_eq_true, Bool.or_eq_true] at hin
    obtain ⟨i1, i2⟩ := hin
    have bm : ∃ bm ob, mg "__builtins__" = some (.ref bm) ∧ bm ≠ builtinsNs ∧ (ghostOf h [(c₂, P₂), (c₁, P₁)]).get? bm = some ob ∧ ob.cls = .type "module" ∧ ob.dict = some builtinsNs ∧ ob.data = .plain := T'.bmain
    rcases i2 with i2 | i2
    · simp only [Bool.and_eq_true, beq_iff_eq, decide_eq_true_eq] at i2
      obtain ⟨⟨j1, j2⟩, j3⟩ := i2
      have hcode : code = .ref c₁ := law_code X T.g t1 (by rw [← j1]; exact m1) m2 m3
      refine ⟨_, defSt_of (X := ⟨name, params, ibody, iscope, ipos⟩) (c := c₁) (P := P₁) i1 ?_ (codeHd_ghost hT (hT (c₁, P₁) (.tail _ (.head _))).1) hcode T'.g bm T'.nolimit⟩
      have e1 : innerQ d.name ⟨name, params, ibody, iscope, ipos⟩ = innerQ "_int2digits" X₁ := by unfold innerQ; rw [j1, j3]
      rw [e1]
      show NestOk _ P₁ ipos _
      rw [show ipos = X₁.ipos from j2]
      exact nest₁ hne
    · simp only [Bool.and_eq_true, beq_iff_eq, decide_eq_true_eq] at i2
      obtain ⟨⟨j1, j2⟩, j3⟩ := i2
      have hcode : code = .ref c₂ := law_code X T.g t2 (by rw [← j1]; exact m1) m2 m3
      refine ⟨_, defSt_of (X := ⟨name, params, ibody, iscope, ipos⟩) (c := c₂) (P := P₂) i1 ?_ (codeHd_ghost hT (hT (c₂, P₂) (.head _)).1) hcode T'.g bm T'.nolimit⟩
      have e1 : innerQ d.name ⟨name, params, ibody, iscope, ipos⟩ = innerQ "_digits2int" X₂ := by unfold innerQ; rw [j1, j3]
      rw [e1]
      show NestOk _ P₂ ipos _
      rw [show ipos = X₂.ipos from j2]
      exact nest₂ hne

theorem law_main {A : Around} {fa l : Addr} {vs : List Value} {ns : List Int} {d : DefRec} (T : Top p loose mean mg mb s.heap) (X : K.In s.heap) (hT : TabsAt [(c₂, P₂), (c₁, P₁)] s.heap) (t1 : tabIn K "_int2digits" = some (c₁, P₁)) (t2 : tabIn K "_digits2int" = some (c₂, P₂))
    (hne : P₁ ≠ P₂) (hok : okView p loose X₁ X₂ = true) (hlit : valOf p "_DIV_LIMIT" = some (.int 4000)) (hlaw : recOf p "law" = some d) (hh : lawHd d = true) (hr : ∀ k : Int, 2 ≤ k → k ≤ 9 → lawRun p d k = true)
    (hmg : mg "law" = some (.ref fa)) (hl : s.heap.IsList l vs.toArray) (hI : IntsAre vs ns) (hA : AOk 42 A) :
    codeAny (model prog w) A (.call (.ref fa) ⟨[.ref l], []⟩) (fun r s' => r = .ok (.ret (.bool true)) ∧ (∃ h' tk, s' = { s with heap := h', toks := tk }) ∧ (∀ b o, (ghostOf s.heap [(c₂, P₂), (c₁, P₁)]).get? b = some o → s'.heap.get? b = some o) ∧ GrownAll [(c₂, P₂), (c₁, P₁)] s'.heap) s := by
  have Kx := cx_ok T X hT t1 t2 hne hok hlit
  have T' := ghost_top hT T
  have hok' := hok
  unfold okView at hok'
  simp only [Bool.and_eq_true] at hok'
  obtain ⟨⟨⟨k1, k2⟩, k3⟩, k4⟩ := hok'
  obtain ⟨mm, hmm, _⟩ := (T.seer k4).mods
  have good : Good (TT P₁ P₂ X₁ X₂) (ghostOf s.heap [(c₂, P₂), (c₁, P₁)]) (ghostOf s.heap [(c₂, P₂), (c₁, P₁)]).get? s.heap := by
    refine ⟨fun b o e => of_hideAll _ e, fun b o e => e, ⟨⟨.inl (hT (c₁, P₁) (.tail _ (.head _))).2, hideAll_none _ (by simp)⟩, ⟨.inl (hT (c₂, P₂) (.head _)).2, hideAll_none _ (by simp)⟩⟩, ?_⟩
    obtain ⟨o, es, ep, e, hd, _⟩ := ghost_ns hT hmm
    exact ⟨o, e⟩
  have hname : d.name = "law" := by
    have := List.find?_some hlaw
    simpa using this
  have hd0 : d ∈ recsOf p := List.mem_of_find?_eq_some hlaw
  obtain ⟨a, o, pm, code, doc, m1, m2, m3, m4⟩ := T.fn d hd0
  rw [hname, hmg] at m1
  cases m1
  have F := fnOk_of (List.all_eq_true.mp k1 d hd0) (func_ghost hT m2 m3) m3 T'.nolimit (codeRec_ghost hT m4)
  have hps : (recR d).ps.length = 1 := by
    unfold lawHd at hh
    split at hh
    · split at hh
      · simp only [Bool.and_eq_true] at hh
        have := of_decide_eq_true hh.2
        show (d.params.args.map (·.arg)).length = 1
        rw [this]; rfl
      · cases hh
    · cases hh
  obtain ⟨ol, hol, hcl, m, hdl⟩ := ghost_list hT hl
  have hlist : Is prog w (ghostOf s.heap [(c₂, P₂), (c₁, P₁)]).get? (.ref l) (.lst (ns.map D.int)) := .ref hol (by
    cases q : l == sysModules with
    | false => rfl
    | true =>
      have e : l = sysModules := eq_of_beq q
      obtain ⟨o', es, ep, e', hd', _⟩ := ghost_ns hT hmm
      rw [e, e'] at hol
      cases hol
      rw [hd'] at hdl; cases hdl) (.lst hcl hdl (IsAll.of_ints hI))
  refine codeAny_mono (code_raw (T := TT P₁ P₂ X₁ X₂) (n := 41) (d := .bool true) (ds := [.lst (ns.map D.int)]) F (by rw [hps]; rfl) hA good (.cons hlist .nil) fun A' L s₀ G s' a v ho x => law_ret Kx hh hr ns A' L _ s₀ G [] G s' a v ho own_ne x) fun r s' hr' => ?_
  obtain ⟨v, rfl, G', st, hv⟩ := hr'
  rw [hv.bool_inv]
  have hsub : ∀ b o, (ghostOf s.heap [(c₂, P₂), (c₁, P₁)]).get? b = some o → s'.heap.get? b = some o := fun b o e => st.good.sub _ _ (st.gx.le _ _ e)
  refine ⟨rfl, st.same, hsub, ?_, ?_, trivial⟩
  · rcases st.good.tab.2.1 with e | ⟨c', e, _⟩
    · exact ⟨_, e⟩
    · exact ⟨_, e⟩
  · rcases st.good.tab.1.1 with e | ⟨c', e, _⟩
    · exact ⟨_, e⟩
    · exact ⟨_, e⟩

noncomputable def baseOk (p : Program) (loose : List Str) : Bool := match recOf p "law", innerOf p "_int2digits", innerOf p "_digits2int" with
  | some d, some X₁, some X₂ => okView p loose X₁ X₂ && lawHd d
  | _, _, _ => false
noncomputable def runOk (p : Program) (k : Int) : Bool := match recOf p "law" with
  | some d => lawRun p d k
  | none => false
theorem law_all {A : Around} {fa l : Addr} {vs : List Value} {ns : List Int} (hall : baseOk p loose = true) (r2 : runOk p 2 = true) (r3 : runOk p 3 = true) (r4 : runOk p 4 = true) (r5 : runOk p 5 = true) (r6 : runOk p 6 = true) (r7 : runOk p 7 = true)
    (r8 : runOk p 8 = true) (r9 : runOk p 9 = true) (T : Top p loose mean mg mb s.heap) (X : K.In s.heap) (hT : TabsAt [(c₂, P₂), (c₁, P₁)] s.heap) (t1 : tabIn K "_int2digits" = some (c₁, P₁)) (t2 : tabIn K "_digits2int" = some (c₂, P₂))
    (hne : P₁ ≠ P₂) (hlit : valOf p "_DIV_LIMIT" = some (.int 4000)) (hmg : mg "law" = some (.ref fa)) (hl : s.heap.IsList l vs.toArray) (hI : IntsAre vs ns) (hA : AOk 42 A) :
    codeAny (model prog w) A (.call (.ref fa) ⟨[.ref l], []⟩) (fun r s' => r = .ok (.ret (.bool true)) ∧ (∃ h' tk, s' = { s with heap := h', toks := tk }) ∧ (∀ b o, (ghostOf s.heap [(c₂, P₂), (c₁, P₁)]).get? b = some o → s'.heap.get? b = some o) ∧ GrownAll [(c₂, P₂), (c₁, P₁)] s'.heap) s := by
  unfold baseOk at hall
  split at hall
  · rename_i d X₁ X₂ h1 h2 h3
    rw [Bool.and_eq_true] at hall
    have run : ∀ k, runOk p k = true → lawRun p d k = true := fun k hk => by
      unfold runOk at hk
      rw [h1] at hk
      exact hk
    refine law_main T X hT t1 t2 hne hall.1 hlit h1 hall.2 (fun k k1 k2 => ?_) hmg hl hI hA
    have : k = 2 ∨ k = 3 ∨ k = 4 ∨ k = 5 ∨ k = 6 ∨ k = 7 ∨ k = 8 ∨ k = 9 := by omega
    rcases this with rfl | rfl | rfl | rfl | rfl | rfl | rfl | rfl
    · exact run _ r2
    · exact run _ r3
    · exact run _ r4
    · exact run _ r5
    · exact run _ r6
    · exact run _ r7
    · exact run _ r8
    · exact run _ r9
  · cases hall
end
theorem callerOk : AOk 42 callerA := ⟨rfl, by decide +kernel, by decide +kernel⟩
end Mine

end
namespace Mine
set_option maxRecDepth 100000 in
set_option maxHeartbeats 8000000 in
open_top hd for PySem.Challenge.rw_hc0004_01
end Mine
set_option maxRecDepth 100000 in
set_option maxHeartbeats 8000000 in
theorem PySem.Challenge.cw_hc0004_01_holds : PySem.Challenge.rw_hc0004_01.Holds := by
  refine Mine.hd ?_
  k_fill
  intro w s₀ s₁ mg mb G Y fa o pm cd doc dV kV ho hd hcd hD hmg hg args vals as hpre hlay hrd hwl hlo
  have KX := km_in_of Y
  km_tabs Y
  have X := (Ground.X G).1
  have V := (Ground.X G).2
  refine Ground.open G ?_
  intro T B D TE TW
  try (refine guard_noD D (by decide +kernel) ?_; clear D)
  km_lay T hmg ho hd cd
  wrow_args hpre hlay hrd hwl hlo
  all_goals (first | refine callC_kw (enter_call ?_) | refine enter_call ?_)
  w_top on
  kn_posts
  rename IntsAre _ _ => hI
  rename Heap.IsList _ _ _ => hL
  refine codeAny_mono (Mine.law_all (by decide +kernel) (by decide +kernel) (by decide +kernel) (by decide +kernel) (by decide +kernel) (by decide +kernel) (by decide +kernel) (by decide +kernel) (by decide +kernel) T KX hT9
    (by kernel_rfl) (by kernel_rfl) (by decide) (by kernel_rfl) hmg hL hI Mine.callerOk) ?_
  rintro r s' ⟨rfl, ⟨h', tk, rfl⟩, hsub, hgr⟩
  exact ⟨⟨.inl ⟨_, .bool true, [], rfl, fun _ => rfl, .bool true, by kernel_rfl, fun _ => ⟨List.nodup_nil, fun a h => nomatch h⟩⟩, hsub, rfl, hg⟩, hgr⟩
