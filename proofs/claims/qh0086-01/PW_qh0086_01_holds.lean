import PyProof.Rows.All
import Wide.All
import OpenK.AllK
import Wide.FinOn
import Lean
import PySem.Challenge.RW_qh0086_01
set_option autoImplicit false
set_option Elab.async false
set_option maxRecDepth 100000
set_option maxHeartbeats 8000000
set_option linter.unusedVariables false
set_option linter.unusedSimpArgs false
set_option compiler.extract_closed false
set_option genInjectivity false
set_option genSizeOfSpec false
/-! Fw1 -/
namespace Mine
open PySem PySem.W PySem.Calls PyProof.Rows

/-! ## data -/
inductive D where
  | val (v : Value)
  | int (i : Int)
  | str (x : Str)
  | bytes (b : Array UInt8)
  | tup (ds : List D)
  | lst (ds : List D)
  | dct (es : List (Str × Str))
  | its (es : List (Str × Str))
  | slc (ds : List D)

noncomputable abbrev D.bool (b : Bool) : D := .val (.bool b)
noncomputable abbrev D.none : D := .val .none

noncomputable def DctEs (P : Params) (es : List (Str × Str)) (l : List DictEntry) : Prop :=
  l.length = es.length ∧ ∀ (i : Nat) (k v : Str), es[i]? = some (k, v) → ∃ t u : Tok, l[i]? = some (⟨PyData.keyHash P k, .str k t, .str v u⟩ : DictEntry)

noncomputable def IsDct (P : Params) (h : Heap) (a : Addr) (es : List (Str × Str)) : Prop :=
  ∃ o l n, h.get? a = some o ∧ (o.cls = .type "dict" ∧ o.dict = none ∧ o.slots = #[]) ∧ o.data = .dict l n ∧ DctEs P es l.toList ∧ (a == sysModules) = false

mutual
inductive Rep (P : Params) (h : Heap) (ex : List Addr) : Value → D → Prop
  | val (v : Value) : Rep P h ex v (.val v)
  | int (i : Int) (t : Tok) : Rep P h ex (.int i t) (.int i)
  | str (x : Str) (t : Tok) : Rep P h ex (.str x t) (.str x)
  | bytes (b : Array UInt8) (t : Tok) : Rep P h ex (.bytes b t) (.bytes b)
  | tup {a : Addr} {vs : List Value} {ds : List D} : a ∉ ex → IsTup h a vs.toArray → RepAll P h ex vs ds → Rep P h ex (.ref a) (.tup ds)
  | lst {a : Addr} {vs : List Value} {ds : List D} : a ∉ ex → h.IsList a vs.toArray → RepAll P h ex vs ds → Rep P h ex (.ref a) (.lst ds)
  | dct {a : Addr} {es : List (Str × Str)} : a ∉ ex → IsDct P h a es → Rep P h ex (.ref a) (.dct es)
  | its {b a : Addr} {es : List (Str × Str)} : b ∉ ex → (∃ o, h.get? b = some o ∧ o.cls = .type "dict_items" ∧ o.data = .fields #[.ref a]) → a ∉ ex → IsDct P h a es → Rep P h ex (.ref b) (.its es)
  | slc {a : Addr} {vs : List Value} {ds : List D} : a ∉ ex → (∃ o, h.get? a = some o ∧ o.cls = .type "slice" ∧ o.data = .fields vs.toArray) → RepAll P h ex vs ds → Rep P h ex (.ref a) (.slc ds)
inductive RepAll (P : Params) (h : Heap) (ex : List Addr) : List Value → List D → Prop
  | nil : RepAll P h ex [] []
  | cons {v : Value} {vs : List Value} {d : D} {ds : List D} : Rep P h ex v d → RepAll P h ex vs ds → RepAll P h ex (v :: vs) (d :: ds)
end

theorem list_one {α : Type} {l : List α} (h : l.length = 1) : ∃ a, l = [a] := List.length_eq_one_iff.mp h
theorem list_two {α : Type} {l : List α} (h : l.length = 2) : ∃ a b, l = [a, b] := by
  cases l with
  | nil => cases h
  | cons a r => obtain ⟨b, rfl⟩ := list_one (Nat.succ.inj h); exact ⟨a, b, rfl⟩
section
variable {P : Params} {h h' : Heap} {ex ex' : List Addr}
theorem Rep.mono_both (hk : ∀ b o, b ∉ ex → h.get? b = some o → h'.get? b = some o) (he : ∀ b o, b ∉ ex → h.get? b = some o → b ∉ ex') :
    (∀ {v : Value} {d : D}, Rep P h ex v d → Rep P h' ex' v d) ∧ ∀ {vs : List Value} {ds : List D}, RepAll P h ex vs ds → RepAll P h' ex' vs ds := by
  have m4 : ∀ {a : Addr} {vs : List Value} {ds : List D} (ha : a ∉ ex) (hi : IsTup h a vs.toArray), RepAll P h ex vs ds → RepAll P h' ex' vs ds → Rep P h' ex' (.ref a) (.tup ds) := fun ha ⟨o, ho, r⟩ _ ih => .tup (he _ o ha ho) ⟨o, hk _ o ha ho, r⟩ ih
  have m5 : ∀ {a : Addr} {vs : List Value} {ds : List D} (ha : a ∉ ex) (hi : h.IsList a vs.toArray), RepAll P h ex vs ds → RepAll P h' ex' vs ds → Rep P h' ex' (.ref a) (.lst ds) := fun ha ⟨o, ho, r⟩ _ ih => .lst (he _ o ha ho) ⟨o, hk _ o ha ho, r⟩ ih
  have m6 : ∀ {a : Addr} {es : List (Str × Str)} (ha : a ∉ ex) (hi : IsDct P h a es), Rep P h' ex' (.ref a) (.dct es) := fun ha ⟨o, l, n, ho, r⟩ => .dct (he _ o ha ho) ⟨o, l, n, hk _ o ha ho, r⟩
  have m7 : ∀ {b a : Addr} {es : List (Str × Str)} (hb : b ∉ ex) (hi : ∃ o, h.get? b = some o ∧ o.cls = .type "dict_items" ∧ o.data = .fields #[.ref a]) (ha : a ∉ ex) (hd : IsDct P h a es), Rep P h' ex' (.ref b) (.its es) :=
    fun hb ⟨o, ho, r⟩ ha ⟨o', l, n, ho', r'⟩ => .its (he _ o hb ho) ⟨o, hk _ o hb ho, r⟩ (he _ o' ha ho') ⟨o', l, n, hk _ o' ha ho', r'⟩
  have m8 : ∀ {a : Addr} {vs : List Value} {ds : List D} (ha : a ∉ ex) (hi : ∃ o, h.get? a = some o ∧ o.cls = .type "slice" ∧ o.data = .fields vs.toArray), RepAll P h ex vs ds → RepAll P h' ex' vs ds → Rep P h' ex' (.ref a) (.slc ds) := fun ha ⟨o, ho, r⟩ _ ih => .slc (he _ o ha ho) ⟨o, hk _ o ha ho, r⟩ ih
  exact ⟨fun {v d} r => Rep.rec (motive_1 := fun v d _ => Rep P h' ex' v d) (motive_2 := fun vs ds _ => RepAll P h' ex' vs ds) .val .int .str .bytes m4 m5 m6 m7 m8 .nil (fun _ _ => .cons) r,
    fun {vs ds} r => RepAll.rec (motive_1 := fun v d _ => Rep P h' ex' v d) (motive_2 := fun vs ds _ => RepAll P h' ex' vs ds) .val .int .str .bytes m4 m5 m6 m7 m8 .nil (fun _ _ => .cons) r⟩
theorem Rep.mono (hk : ∀ b o, b ∉ ex → h.get? b = some o → h'.get? b = some o) (he : ∀ b o, b ∉ ex → h.get? b = some o → b ∉ ex') {v : Value} {d : D} (r : Rep P h ex v d) : Rep P h' ex' v d := (Rep.mono_both hk he).1 r
theorem RepAll.mono (hk : ∀ b o, b ∉ ex → h.get? b = some o → h'.get? b = some o) (he : ∀ b o, b ∉ ex → h.get? b = some o → b ∉ ex') {vs : List Value} {ds : List D} (r : RepAll P h ex vs ds) : RepAll P h' ex' vs ds := (Rep.mono_both hk he).2 r
end

/-! what a value is that bears d -/
section
variable {P : Params} {h : Heap} {ex : List Addr}
noncomputable def RepI (P : Params) (h : Heap) (ex : List Addr) (v : Value) : D → Prop
  | .val w => v = w
  | .int i => ∃ t, v = .int i t
  | .str x => ∃ t, v = .str x t
  | .bytes b => ∃ t, v = .bytes b t
  | .tup ds => ∃ a vs, v = .ref a ∧ a ∉ ex ∧ IsTup h a vs.toArray ∧ RepAll P h ex vs ds
  | .lst ds => ∃ a vs, v = .ref a ∧ a ∉ ex ∧ h.IsList a vs.toArray ∧ RepAll P h ex vs ds
  | .dct es => ∃ a, v = .ref a ∧ a ∉ ex ∧ IsDct P h a es
  | .its es => ∃ b a, v = .ref b ∧ b ∉ ex ∧ (∃ o, h.get? b = some o ∧ o.cls = .type "dict_items" ∧ o.data = .fields #[.ref a]) ∧ a ∉ ex ∧ IsDct P h a es
  | .slc ds => ∃ a vs, v = .ref a ∧ a ∉ ex ∧ (∃ o, h.get? a = some o ∧ o.cls = .type "slice" ∧ o.data = .fields vs.toArray) ∧ RepAll P h ex vs ds
theorem Rep.inv {v : Value} {d : D} (r : Rep P h ex v d) : RepI P h ex v d :=
  Rep.rec (motive_1 := fun v d _ => RepI P h ex v d) (motive_2 := fun _ _ _ => True) (fun _ => rfl) (fun _ t => ⟨t, rfl⟩) (fun _ t => ⟨t, rfl⟩) (fun _ t => ⟨t, rfl⟩) (fun h1 h2 h3 _ => ⟨_, _, rfl, h1, h2, h3⟩) (fun h1 h2 h3 _ => ⟨_, _, rfl, h1, h2, h3⟩) (fun h1 h2 => ⟨_, rfl, h1, h2⟩)
    (fun h1 h2 h3 h4 => ⟨_, _, rfl, h1, h2, h3, h4⟩) (fun h1 h2 h3 _ => ⟨_, _, rfl, h1, h2, h3⟩) trivial (fun _ _ _ _ => trivial) r
noncomputable def RepAllI (P : Params) (h : Heap) (ex : List Addr) (vs : List Value) : List D → Prop
  | [] => vs = []
  | d :: ds => ∃ v ws, vs = v :: ws ∧ Rep P h ex v d ∧ RepAll P h ex ws ds
theorem RepAll.inv {vs : List Value} {ds : List D} (r : RepAll P h ex vs ds) : RepAllI P h ex vs ds :=
  RepAll.rec (motive_1 := fun _ _ _ => True) (motive_2 := fun vs ds _ => RepAllI P h ex vs ds) (fun _ => trivial) (fun _ _ => trivial) (fun _ _ => trivial) (fun _ _ => trivial) (fun _ _ _ _ => trivial) (fun _ _ _ _ => trivial) (fun _ _ => trivial) (fun _ _ _ _ => trivial) (fun _ _ _ _ => trivial)
    rfl (fun h1 h2 _ _ => ⟨_, _, rfl, h1, h2⟩) r
noncomputable def RepAllV (P : Params) (h : Heap) (ex : List Addr) (ds : List D) : List Value → Prop
  | [] => ds = []
  | v :: vs => ∃ d es, ds = d :: es ∧ Rep P h ex v d ∧ RepAll P h ex vs es
theorem RepAll.invV {vs : List Value} {ds : List D} (r : RepAll P h ex vs ds) : RepAllV P h ex ds vs :=
  RepAll.rec (motive_1 := fun _ _ _ => True) (motive_2 := fun vs ds _ => RepAllV P h ex ds vs) (fun _ => trivial) (fun _ _ => trivial) (fun _ _ => trivial) (fun _ _ => trivial) (fun _ _ _ _ => trivial) (fun _ _ _ _ => trivial) (fun _ _ => trivial) (fun _ _ _ _ => trivial) (fun _ _ _ _ => trivial)
    rfl (fun h1 h2 _ _ => ⟨_, _, rfl, h1, h2⟩) r
theorem RepAll.two {v w : Value} {a b : D} (r : RepAll P h ex [v, w] [a, b]) : Rep P h ex v a ∧ Rep P h ex w b := by
  obtain ⟨_, _, e, r1, r2⟩ := r.inv
  obtain ⟨_, _, e', r3, _⟩ := r2.inv
  injection e with e1 e2
  subst e1
  rw [← e2] at e'
  injection e' with e3 _
  subst e3
  exact ⟨r1, r3⟩
theorem RepAll.inv1 {vs : List Value} {a : D} (r : RepAll P h ex vs [a]) : ∃ v, vs = [v] ∧ Rep P h ex v a := by
  obtain ⟨v, _, rfl, r1, r2⟩ := r.inv
  obtain rfl := r2.inv
  exact ⟨v, rfl, r1⟩
theorem RepAll.inv2 {vs : List Value} {a b : D} (r : RepAll P h ex vs [a, b]) : ∃ v w, vs = [v, w] ∧ Rep P h ex v a ∧ Rep P h ex w b := by
  obtain ⟨v, _, rfl, r1, r2⟩ := r.inv
  obtain ⟨w, rfl, r3⟩ := r2.inv1
  exact ⟨v, w, rfl, r1, r3⟩
theorem RepAll.inv3 {vs : List Value} {a b c : D} (r : RepAll P h ex vs [a, b, c]) : ∃ v w x, vs = [v, w, x] ∧ Rep P h ex v a ∧ Rep P h ex w b ∧ Rep P h ex x c := by
  obtain ⟨v, _, rfl, r1, r2⟩ := r.inv
  obtain ⟨w, x, rfl, r3, r4⟩ := r2.inv2
  exact ⟨v, w, x, rfl, r1, r3, r4⟩
end

section
variable {P : Params} {h : Heap} {ex : List Addr}
theorem RepAll.length {vs : List Value} {ds : List D} (r : RepAll P h ex vs ds) : vs.length = ds.length := by
  induction vs generalizing ds with
  | nil => obtain rfl := r.invV; rfl
  | cons v vs ih => obtain ⟨_, _, rfl, _, r⟩ := r.invV; rw [List.length_cons, List.length_cons, ih r]
theorem RepAll.append {vs ws : List Value} {ds es : List D} (r : RepAll P h ex vs ds) (q : RepAll P h ex ws es) : RepAll P h ex (vs ++ ws) (ds ++ es) := by
  induction vs generalizing ds with
  | nil => obtain rfl := r.invV; exact q
  | cons v vs ih => obtain ⟨_, _, rfl, a, r⟩ := r.invV; exact .cons a (ih r)
theorem RepAll.get {vs : List Value} {ds : List D} (r : RepAll P h ex vs ds) {k : Nat} {d : D} (hk : ds[k]? = some d) : ∃ v, vs[k]? = some v ∧ Rep P h ex v d := by
  induction vs generalizing ds k with
  | nil => obtain rfl := r.invV; cases hk
  | cons v vs ih =>
    obtain ⟨_, _, rfl, a, r⟩ := r.invV
    cases k with
    | zero => obtain rfl := Option.some.inj hk; exact ⟨v, rfl, a⟩
    | succ k => obtain ⟨w, hw, q⟩ := ih r hk; exact ⟨w, hw, q⟩
theorem RepAll.get' {vs : List Value} {ds : List D} (r : RepAll P h ex vs ds) {k : Nat} {v : Value} (hk : vs[k]? = some v) : ∃ d, ds[k]? = some d ∧ Rep P h ex v d := by
  induction vs generalizing ds k with
  | nil => cases hk
  | cons w vs ih =>
    obtain ⟨_, _, rfl, a, r⟩ := r.invV
    cases k with
    | zero => obtain rfl := Option.some.inj hk; exact ⟨_, rfl, a⟩
    | succ k => obtain ⟨d, hd, q⟩ := ih r hk; exact ⟨d, hd, q⟩
theorem RepAll.sub {vs : List Value} {ds : List D} (r : RepAll P h ex vs ds) : ∀ (ks : List Nat), (∀ k ∈ ks, k < ds.length) → RepAll P h ex (ks.filterMap fun k => vs[k]?) (ks.filterMap fun k => ds[k]?) := by
  intro ks
  induction ks with
  | nil => intro _; exact .nil
  | cons k ks ih =>
    intro hk
    have hk0 : k < ds.length := hk k (by simp)
    obtain ⟨v, hv, q⟩ := r.get (k := k) (d := ds[k]) (by simp [hk0])
    have e : ds[k]? = some ds[k] := by simp [hk0]
    rw [List.filterMap_cons, List.filterMap_cons, hv, e]
    exact .cons q (ih fun j hj => hk j (by simp [hj]))
theorem RepAll.take {vs : List Value} {ds : List D} (r : RepAll P h ex vs ds) (k : Nat) : RepAll P h ex (vs.take k) (ds.take k) := by
  induction vs generalizing ds k with
  | nil => obtain rfl := r.invV; cases k <;> exact .nil
  | cons v vs ih => obtain ⟨_, _, rfl, a, r⟩ := r.invV; cases k with
    | zero => exact .nil
    | succ k => exact .cons a (ih r k)
theorem RepAll.drop {vs : List Value} {ds : List D} (r : RepAll P h ex vs ds) (k : Nat) : RepAll P h ex (vs.drop k) (ds.drop k) := by
  induction vs generalizing ds k with
  | nil => obtain rfl := r.invV; cases k <;> exact .nil
  | cons v vs ih => obtain ⟨_, _, rfl, a, r⟩ := r.invV; cases k with
    | zero => exact .cons a r
    | succ k => exact ih r k
theorem Rep.ex_sub {ex' : List Addr} {v : Value} {d : D} (r : Rep P h ex v d) (hs : ∀ b ∈ ex', b ∈ ex) : Rep P h ex' v d :=
  r.mono (fun _ _ _ e => e) fun b _ hb _ hb' => hb (hs b hb')
theorem RepAll.ex_sub {ex' : List Addr} {v : List Value} {d : List D} (r : RepAll P h ex v d) (hs : ∀ b ∈ ex', b ∈ ex) : RepAll P h ex' v d :=
  r.mono (fun _ _ _ e => e) fun b _ hb _ hb' => hb (hs b hb')
end

/-! ## what a step keeps -/
noncomputable def FRA (fr : List Env) : List Addr := fr.filterMap (·.frame)

structure KP (fr : List Env) (mod : List Addr) (s s' : Shared) : Prop where
  sh : ∃ h' tk, s' = { s with heap := h', toks := tk }
  ex : ∀ b o, b ∉ mod → b ∉ FRA fr → s.heap.get? b = some o → s'.heap.get? b = some o
  sl : ∀ b o, b ∉ mod → s.heap.get? b = some o → ∃ sl, s'.heap.get? b = some { o with slots := sl }
  al : ∀ b o, s.heap.get? b = some o → ∃ o', s'.heap.get? b = some o'

section
variable {fr : List Env} {mod mod' : List Addr} {s s' s'' : Shared}
theorem KP.refl (fr : List Env) (mod : List Addr) (s : Shared) : KP fr mod s s := ⟨⟨s.heap, s.toks, rfl⟩, fun _ _ _ _ e => e, fun _ o _ e => ⟨o.slots, e⟩, fun _ o e => ⟨o, e⟩⟩
theorem KP.trans (x : KP fr mod s s') (y : KP fr mod s' s'') : KP fr mod s s'' := by
  obtain ⟨h', tk, rfl⟩ := x.sh
  obtain ⟨h'', tk', rfl⟩ := y.sh
  refine ⟨⟨h'', tk', rfl⟩, fun b o h1 h2 e => y.ex b o h1 h2 (x.ex b o h1 h2 e), fun b o h1 e => ?_, fun b o e => ?_⟩
  · obtain ⟨sl, e1⟩ := x.sl b o h1 e
    obtain ⟨sl', e2⟩ := y.sl b _ h1 e1
    exact ⟨sl', e2⟩
  · obtain ⟨o', e'⟩ := x.al b o e
    exact y.al b o' e'
theorem KP.mono (x : KP fr mod s s') (hm : ∀ b ∈ mod, b ∈ mod') : KP fr mod' s s' :=
  ⟨x.sh, fun b o h1 h2 e => x.ex b o (fun q => h1 (hm b q)) h2 e, fun b o h1 e => x.sl b o (fun q => h1 (hm b q)) e, x.al⟩
/-- a second step that may change what the first one has made -/
theorem KP.seq (x : KP fr mod s s') (y : KP fr mod' s' s'') (hm : ∀ b ∈ mod', b ∈ mod ∨ s.heap.get? b = none) : KP fr mod s s'' := by
  obtain ⟨h', tk, rfl⟩ := x.sh
  obtain ⟨h'', tk', rfl⟩ := y.sh
  have key : ∀ b o, b ∉ mod → s.heap.get? b = some o → b ∉ mod' := fun b o h1 e q => by
    rcases hm b q with z | z
    · exact h1 z
    · rw [z] at e; cases e
  refine ⟨⟨h'', tk', rfl⟩, fun b o h1 h2 e => y.ex b o (key b o h1 e) h2 (x.ex b o h1 h2 e), fun b o h1 e => ?_, fun b o e => ?_⟩
  · obtain ⟨sl, e1⟩ := x.sl b o h1 e
    obtain ⟨sl', e2⟩ := y.sl b _ (key b o h1 e) e1
    exact ⟨sl', e2⟩
  · obtain ⟨o', e'⟩ := x.al b o e
    exact y.al b o' e'
theorem KP.of_keep {h' : Heap} {tk : Nat} (hk : ∀ b o, s.heap.get? b = some o → h'.get? b = some o) : KP fr mod s { s with heap := h', toks := tk } :=
  ⟨⟨h', tk, rfl⟩, fun b o _ _ e => hk b o e, fun b o _ e => ⟨o.slots, hk b o e⟩, fun b o e => ⟨o, hk b o e⟩⟩
theorem KP.of_heap {h' : Heap} (hk : ∀ b o, s.heap.get? b = some o → h'.get? b = some o) : KP fr mod s { s with heap := h' } := KP.of_keep (tk := s.toks) hk
theorem KP.toks (fr : List Env) (mod : List Addr) (s : Shared) (tk : Nat) : KP fr mod s { s with toks := tk } := KP.of_keep (h' := s.heap) fun _ _ e => e
theorem KP.of_keeps (x : Keeps s s') : KP fr mod s s' := by
  obtain ⟨h', tk, rfl, hk⟩ := x
  exact KP.of_keep hk
theorem KP.push (o : Obj) : KP fr mod s { s with heap := s.heap.push o } := KP.of_heap fun _ _ e => Heap.get?_push_of_some _ e
theorem KP.but {a : Addr} {h' : Heap} {tk : Nat} (ha : a ∈ mod) (hs : Heap.SameBut a s.heap h') (hal : ∃ o, h'.get? a = some o) : KP fr mod s { s with heap := h', toks := tk } := by
  have e : ∀ b o, b ≠ a → s.heap.get? b = some o → h'.get? b = some o := fun b o hb e => (hs.2 b hb).trans e
  refine ⟨⟨h', tk, rfl⟩, fun b o h1 _ q => e b o (fun z => h1 (z ▸ ha)) q, fun b o h1 q => ⟨o.slots, e b o (fun z => h1 (z ▸ ha)) q⟩, fun b o q => ?_⟩
  by_cases hb : b = a
  · subst hb; exact hal
  · exact ⟨o, e b o hb q⟩
theorem Rep.kp {P : Params} {ex : List Addr} {v : Value} {d : D} (r : Rep P s.heap ex v d) (k : KP fr mod s s') (hf : ∀ b ∈ FRA fr, b ∈ ex) (hm : ∀ b ∈ mod, b ∈ ex) : Rep P s'.heap ex v d :=
  r.mono (fun b o hb e => k.ex b o (fun q => hb (hm b q)) (fun q => hb (hf b q)) e) fun _ _ h _ => h
theorem RepAll.kp {P : Params} {ex : List Addr} {v : List Value} {d : List D} (r : RepAll P s.heap ex v d) (k : KP fr mod s s') (hf : ∀ b ∈ FRA fr, b ∈ ex) (hm : ∀ b ∈ mod, b ∈ ex) : RepAll P s'.heap ex v d :=
  r.mono (fun b o hb e => k.ex b o (fun q => hb (hm b q)) (fun q => hb (hf b q)) e) fun _ _ h _ => h
end

end Mine

/-! Fw2 -/
namespace Mine
open PySem PySem.W PySem.Calls PyProof.Rows

/-! ## exceptions on their way -/
structure XD where
  cls : Value
  msg : Option Str
noncomputable def MsgOk (x : XD) (vs : List Value) : Prop := ∀ m, x.msg = some m → ∃ t, vs = [.str m t]

inductive FlySt (B : Heap) (fr : List Env) (a : Addr) (x : XD) (h' : Heap) : Prop
  | new (h : Heap) (vs : List Value) : B.StaysIn h → h.FunFrames B fr → Heap.MadeExcOf h h' a x.cls vs → MsgOk x vs → FlySt B fr a x h'
  | on (t : Addr) (vs : List Value) : Heap.FlyingW B fr a x.cls (.ref t) h' → h'.TupAt t vs → B.get? t = none → MsgOk x vs → FlySt B fr a x h'
  | held (L t : Addr) (vs : List Value) : fr.head?.bind (·.frame) = some L → Heap.HeldW B fr a x.cls (.ref t) L h' → h'.TupAt t vs → B.get? t = none → MsgOk x vs → FlySt B fr a x h'

structure Fly (fr : List Env) (mod : List Addr) (s : Shared) (x : XD) (e : Value) (s' : Shared) : Prop where
  sh : ∃ h' tk, s' = { s with heap := h', toks := tk }
  st : ∃ a B, e = .ref a ∧ (∀ b o, b ∉ mod → b ∉ FRA fr → s.heap.get? b = some o → B.get? b = some o) ∧ FlySt B fr a x s'.heap
  sl : ∀ b o, b ∈ FRA fr → b ∉ mod → s.heap.get? b = some o → ∃ sl, s'.heap.get? b = some { o with slots := sl }

theorem Fly.pre {fr : List Env} {mod mod' : List Addr} {s s₁ s' : Shared} {x : XD} {e : Value} (k : KP fr mod s s₁) (f : Fly fr mod' s₁ x e s')
    (hm : ∀ b ∈ mod', b ∈ mod ∨ s.heap.get? b = none) : Fly fr mod s x e s' := by
  obtain ⟨h1, tk1, rfl⟩ := k.sh
  obtain ⟨h2, tk2, rfl⟩ := f.sh
  have key : ∀ b o, b ∉ mod → s.heap.get? b = some o → b ∉ mod' := fun b o h1 e q => by
    rcases hm b q with z | z
    · exact h1 z
    · rw [z] at e; cases e
  refine ⟨⟨h2, tk2, rfl⟩, ?_, fun b o h1 h2 q => ?_⟩
  · obtain ⟨a, B, e1, e2, e3⟩ := f.st
    exact ⟨a, B, e1, fun b o q1 q2 q3 => e2 b o (key b o q1 q3) q2 (k.ex b o q1 q2 q3), e3⟩
  · obtain ⟨sl, q1⟩ := k.sl b o h2 q
    obtain ⟨sl', q2⟩ := f.sl b _ h1 (key b o h2 q) q1
    exact ⟨sl', q2⟩

/-! ## context -/
structure Gx where
  prog : Program
  w : World
  base : Heap
  K : Frag
  p : Program
  loose : List Str
  mg : Str → Option Value
  mb : Str → Option Value
  X : K.In base
  T : TopRead p loose mg mb base

noncomputable abbrev Gx.M (g : Gx) : Model := model g.prog g.w
noncomputable abbrev Gx.P (g : Gx) : Params := g.w.params

structure Cx where
  g : Gx
  A : Around
  env : Env
  fr : List Env
  sys : List Addr
  rk : Nat
  comp : Bool
  kf : env.scope.kind = .function
  gl : env.globals = mainGlobals
  bi : env.builtins = builtinsNs
  hA : A.frames = some fr
  hg : A.guards = some []
  hh : A.handled = none
  hd : A.depth + rk ≤ 600
  hu : A.units + 20 * rk ≤ 900
  locs : env.locals ∈ sys
  cinj : comp = false → env.cells.Pairwise fun x y => x.2 ≠ y.2
  ckn : ∀ x, env.kindOf x = some .cell → (env.cells.lookup x).isSome = true
  cloc : ∀ n c, (n, c) ∈ env.cells → c ≠ env.locals
  csys : comp = false → ∀ n c, (n, c) ∈ env.cells → c ∈ sys
  hfr : comp = false → ∃ outer L, fr = env :: outer ∧ env.frame = some L

inductive LV where
  | dat (d : D)
  | own (d : D)
noncomputable abbrev St := List (Str × LV)

noncomputable def slotVal (env : Env) (h : Heap) (x : Str) (v : Value) : Prop :=
  match env.kindOf x with
  | some .local => ∃ m, h.Ns env.locals m ∧ m x = some v
  | some .cell => ∃ c, env.cells.lookup x = some c ∧ h.IsCell c (some v)
  | some .free => ∃ c, env.cells.lookup x = some c ∧ h.IsCell c (some v)
  | _ => False

noncomputable def OwnAt (P : Params) (h : Heap) (ex : List Addr) (a : Addr) : D → Prop
  | .lst ds => ∃ vs, h.PlainList a vs.toArray ∧ RepAll P h ex vs ds
  | .dct es => IsDct P h a es
  | _ => False

noncomputable abbrev Cx.ex (C : Cx) (ow : List (Str × Addr)) (fx : List Addr) : List Addr := C.sys ++ (ow.map (·.2) ++ fx)
noncomputable abbrev Cx.mu (C : Cx) (ow : List (Str × Addr)) : List Addr := C.sys ++ ow.map (·.2)

noncomputable def LVok (C : Cx) (h : Heap) (ow : List (Str × Addr)) (fx : List Addr) (x : Str) (v : Value) : LV → Prop
  | .dat d => Rep C.g.P h (C.ex ow fx) v d
  | .own d => ∃ a, v = .ref a ∧ (x, a) ∈ ow ∧ OwnAt C.g.P h (C.ex ow fx) a d

structure Inv (C : Cx) (σ : St) (ow : List (Str × Addr)) (fx : List Addr) (s : Shared) : Prop where
  base : C.g.base.StaysIn s.heap
  frames : s.heap.FunFrames C.g.base C.fr
  frx : ∀ b ∈ FRA C.fr, b ∈ C.sys ++ fx
  al : ∀ b ∈ C.ex ow fx, ∃ o, s.heap.get? b = some o
  owd : (ow.map (·.2)).Nodup
  owf : ∀ p ∈ ow, p.2 ∉ C.sys ∧ p.2 ∉ fx ∧ C.g.base.get? p.2 = none
  owl : ∀ p ∈ ow, C.env.kindOf p.1 = some .local
  sysf : ∀ a ∈ C.sys, a ∉ fx ∧ C.g.base.get? a = none
  ns : ∃ m, s.heap.Ns C.env.locals m
  cel : ∀ n c, (n, c) ∈ C.env.cells → ∃ v, s.heap.IsCell c v
  vars : ∀ x lv, σ.lookup x = some lv → ∃ v, slotVal C.env s.heap x v ∧ LVok C s.heap ow fx x v lv

/-- the ground of a primitive step -/
structure Gd (C : Cx) (ex : List Addr) (s : Shared) : Prop where
  base : C.g.base.StaysIn s.heap
  frames : s.heap.FunFrames C.g.base C.fr
  frx : ∀ b ∈ FRA C.fr, b ∈ ex
  al : ∀ b ∈ ex, ∃ o, s.heap.get? b = some o

section
variable {C : Cx} {σ : St} {ow : List (Str × Addr)} {fx ex : List Addr} {s s' : Shared}

theorem Inv.gd (I : Inv C σ ow fx s) : Gd C (C.ex ow fx) s :=
  ⟨I.base, I.frames, fun b hb => by
    rcases List.mem_append.mp (I.frx b hb) with h | h
    · exact List.mem_append.mpr (.inl h)
    · exact List.mem_append.mpr (.inr (List.mem_append.mpr (.inr h))), I.al⟩

theorem frames_kp {base : Heap} {fr : List Env} (k : KP fr [] s s') {l : List Env} (h : s.heap.FunFrames base l) : s'.heap.FunFrames base l :=
  h.of_keeps fun b o e _ => by obtain ⟨sl, e'⟩ := k.sl b o (by simp) e; exact ⟨_, e', rfl⟩
theorem base_kp (k : KP C.fr [] s s') (hb : C.g.base.StaysIn s.heap) (hf : s.heap.FunFrames C.g.base C.fr) : C.g.base.StaysIn s'.heap := fun b o e =>
  k.ex b o (by simp) (fun q => by rw [(hf.mem q).1] at e; cases e) (hb b o e)

theorem Gd.kp (G : Gd C ex s) (k : KP C.fr [] s s') : Gd C ex s' :=
  ⟨base_kp k G.base G.frames, frames_kp k G.frames, G.frx, fun b hb => let ⟨o, e⟩ := G.al b hb; k.al b o e⟩

theorem ns_sl {h h' : Heap} {a : Addr} {m : Str → Option Value} (hn : h.Ns a m) (k : ∀ o, h.get? a = some o → ∃ sl, h'.get? a = some { o with slots := sl }) : h'.Ns a m := by
  obtain ⟨o, es, ep, ho, hd, r⟩ := hn
  obtain ⟨sl, e⟩ := k o ho
  exact ⟨_, es, ep, e, hd, r⟩
theorem cell_sl {h h' : Heap} {a : Addr} {v : Option Value} (hn : h.IsCell a v) (k : ∀ o, h.get? a = some o → ∃ sl, h'.get? a = some { o with slots := sl }) : h'.IsCell a v := by
  obtain ⟨o, ho, hd⟩ := hn
  obtain ⟨sl, e⟩ := k o ho
  exact ⟨_, e, hd⟩
theorem slotVal_kp {fr : List Env} {env : Env} {x : Str} {v : Value} (k : KP fr [] s s') (h : slotVal env s.heap x v) : slotVal env s'.heap x v := by
  unfold slotVal at h ⊢
  split
  · rename_i q; rw [q] at h; obtain ⟨m, hn, hm⟩ := h
    exact ⟨m, ns_sl hn fun o e => k.sl _ o (by simp) e, hm⟩
  · rename_i q; rw [q] at h; obtain ⟨c, hc, hv⟩ := h
    exact ⟨c, hc, cell_sl hv fun o e => k.sl _ o (by simp) e⟩
  · rename_i q; rw [q] at h; obtain ⟨c, hc, hv⟩ := h
    exact ⟨c, hc, cell_sl hv fun o e => k.sl _ o (by simp) e⟩
  · rename_i q1 q2 q3
    split at h
    · rename_i q; exact absurd q q1
    · rename_i q; exact absurd q q2
    · rename_i q; exact absurd q q3
    · exact h

theorem ownAt_mono {P : Params} {h h' : Heap} {ex ex' : List Addr} {a : Addr} {d : D} (hk : ∀ b o, b ∉ ex → h.get? b = some o → h'.get? b = some o) (he : ∀ b o, b ∉ ex → h.get? b = some o → b ∉ ex')
    (ha : ∀ o, h.get? a = some o → h'.get? a = some o) (x : OwnAt P h ex a d) : OwnAt P h' ex' a d := by
  cases d with
  | lst ds => obtain ⟨vs, ⟨n, ho⟩, q⟩ := x; exact ⟨vs, ⟨n, ha _ ho⟩, q.mono hk he⟩
  | dct es => obtain ⟨o, l, n, ho, r⟩ := x; exact ⟨o, l, n, ha o ho, r⟩
  | _ => exact x

theorem Inv.kp (I : Inv C σ ow fx s) (k : KP C.fr [] s s') : Inv C σ ow fx s' := by
  have G := I.gd.kp k
  refine ⟨G.base, G.frames, I.frx, G.al, I.owd, I.owf, I.owl, I.sysf, ?_, fun n c hc => ?_, fun x lv hx => ?_⟩
  · obtain ⟨m, hn⟩ := I.ns; exact ⟨m, ns_sl hn fun o e => k.sl _ o (by simp) e⟩
  · obtain ⟨v, hv⟩ := I.cel n c hc; exact ⟨v, cell_sl hv fun o e => k.sl _ o (by simp) e⟩
  · obtain ⟨v, hs, hv⟩ := I.vars x lv hx
    refine ⟨v, slotVal_kp k hs, ?_⟩
    cases lv with
    | dat d => exact Rep.kp hv k I.gd.frx (by simp)
    | own d =>
      obtain ⟨a, e, hm, ho⟩ := hv
      refine ⟨a, e, hm, ownAt_mono (fun b o hb q => k.ex b o (by simp) (fun z => hb (I.gd.frx b z)) q) (fun _ _ h _ => h) (fun o q => k.ex a o (by simp) (fun z => ?_) q) ho⟩
      have hf := I.owf _ hm
      rcases List.mem_append.mp (I.frx a z) with y | y
      · exact hf.1 y
      · exact hf.2.1 y

theorem Inv.weaken {σ' : St} (I : Inv C σ ow fx s) (h : ∀ x lv, σ'.lookup x = some lv → σ.lookup x = some lv) : Inv C σ' ow fx s :=
  ⟨I.base, I.frames, I.frx, I.al, I.owd, I.owf, I.owl, I.sysf, I.ns, I.cel, fun x lv hx => I.vars x lv (h x lv hx)⟩
end

/-! ## the judgements -/
noncomputable def XQ (fr : List Env) (mod : List Addr) (s : Shared) (Ξ : XD → Prop) (e : Value) (s' : Shared) : Prop := ∃ x, Ξ x ∧ Fly fr mod s x e s'

noncomputable def VQ (C : Cx) (ex : List Addr) (s : Shared) (Φ : D → Prop) (v : Value) (s' : Shared) : Prop := ∃ d, Φ d ∧ KP C.fr [] s s' ∧ Rep C.g.P s'.heap ex v d
noncomputable def LQ (C : Cx) (ex : List Addr) (s : Shared) (Φ : List D → Prop) (v : List Value) (s' : Shared) : Prop := ∃ d, Φ d ∧ KP C.fr [] s s' ∧ RepAll C.g.P s'.heap ex v d

/-- the tree t, run where σ is known, gives a value that bears some d with Φ d -/
noncomputable def EV (C : Cx) (σ : St) (t : Sem Value) (Φ : D → Prop) (Ξ : XD → Prop) : Prop :=
  ∀ ow fx s, Inv C σ ow fx s → wpAny C.g.M C.A t (VQ C (C.ex ow fx) s Φ) (XQ C.fr [] s Ξ) s
noncomputable def EVL (C : Cx) (σ : St) (t : Sem (List Value)) (Φ : List D → Prop) (Ξ : XD → Prop) : Prop :=
  ∀ ow fx s, Inv C σ ow fx s → wpAny C.g.M C.A t (LQ C (C.ex ow fx) s Φ) (XQ C.fr [] s Ξ) s
noncomputable def EVB (C : Cx) (σ : St) (t : Sem Bool) (Φ : Bool → Prop) (Ξ : XD → Prop) : Prop :=
  ∀ ow fx s, Inv C σ ow fx s → wpAny C.g.M C.A t (fun b s' => Φ b ∧ KP C.fr [] s s') (XQ C.fr [] s Ξ) s

/-- a primitive step over values that bear ds -/
noncomputable def PR (C : Cx) (ds : List D) (t : List Value → Sem Value) (Φ : D → Prop) (Ξ : XD → Prop) : Prop :=
  ∀ ex s vs, Gd C ex s → RepAll C.g.P s.heap ex vs ds → wpAny C.g.M C.A (t vs) (VQ C ex s Φ) (XQ C.fr [] s Ξ) s

inductive Fl where
  | next | brk | cont
  | ret (d : D)

noncomputable def flM (P : Params) (h : Heap) (ex : List Addr) : Flow → Fl → Prop
  | .next, .next => True
  | .brk, .brk => True
  | .cont, .cont => True
  | .ret v, .ret d => Rep P h ex v d
  | _, _ => False

noncomputable def SQ (C : Cx) (ow : List (Str × Addr)) (fx : List Addr) (s : Shared) (Ψ : Fl → St → Prop) (f : Flow) (s' : Shared) : Prop :=
  ∃ fl σ' ow', Ψ fl σ' ∧ Inv C σ' ow' fx s' ∧ KP C.fr (C.mu ow) s s' ∧ (∀ p ∈ ow', p.2 ∈ ow.map (·.2) ∨ s.heap.get? p.2 = none) ∧ flM C.g.P s'.heap (C.ex ow' fx) f fl

noncomputable def EX (C : Cx) (σ : St) (t : Sem Flow) (Ψ : Fl → St → Prop) (Ξ : XD → Prop) : Prop :=
  ∀ ow fx s, Inv C σ ow fx s → wpAny C.g.M C.A t (SQ C ow fx s Ψ) (XQ C.fr (C.mu ow) s Ξ) s

section
variable {C : Cx} {σ : St} {ow : List (Str × Addr)} {fx ex : List Addr} {s s' : Shared} {Ξ : XD → Prop}
theorem XQ.pre {fr : List Env} {mod : List Addr} {s₁ : Shared} {e : Value} (k : KP fr mod s s₁) (h : XQ fr mod s₁ Ξ e s') : XQ fr mod s Ξ e s' :=
  let ⟨x, hx, f⟩ := h; ⟨x, hx, f.pre k fun _ hb => .inl hb⟩
theorem XQ.pre0 {fr : List Env} {mod : List Addr} {s₁ : Shared} {e : Value} (k : KP fr mod s s₁) (h : XQ fr [] s₁ Ξ e s') : XQ fr mod s Ξ e s' :=
  let ⟨x, hx, f⟩ := h; ⟨x, hx, f.pre k fun _ hb => nomatch hb⟩
theorem KP.mod (k : KP C.fr [] s s') (mod : List Addr) : KP C.fr mod s s' := k.mono fun _ h => nomatch h
theorem VQ.mono {Φ Φ' : D → Prop} {v : Value} (h : VQ C ex s Φ v s') (hi : ∀ d, Φ d → Φ' d) : VQ C ex s Φ' v s' := let ⟨d, a, b⟩ := h; ⟨d, hi d a, b⟩
theorem VQ.pre {Φ : D → Prop} {v : Value} {s₁ : Shared} (k : KP C.fr [] s s₁) (h : VQ C ex s₁ Φ v s') : VQ C ex s Φ v s' := let ⟨d, a, b, c⟩ := h; ⟨d, a, k.trans b, c⟩

theorem ev_mono {t : Sem Value} {Φ Φ' : D → Prop} {Ξ' : XD → Prop} (h : EV C σ t Φ Ξ) (hi : ∀ d, Φ d → Φ' d) (hx : ∀ x, Ξ x → Ξ' x) : EV C σ t Φ' Ξ' := fun ow fx s I =>
  wpAny_mono (h ow fx s I) (fun _ _ q => q.mono hi) fun _ _ ⟨x, a, b⟩ => ⟨x, hx x a, b⟩

/-- one value, then the rest of the tree -/
theorem EV.run {t : Sem Value} {Φ : D → Prop} (h : EV C σ t Φ Ξ) {ow : List (Str × Addr)} {fx : List Addr} {s : Shared} (I : Inv C σ ow fx s) {Q : Value → Shared → Prop} {E : Value → Shared → Prop}
    (k : ∀ v s' d, Φ d → KP C.fr [] s s' → Rep C.g.P s'.heap (C.ex ow fx) v d → Inv C σ ow fx s' → Q v s') (hE : ∀ e s', XQ C.fr [] s Ξ e s' → E e s') : wpAny C.g.M C.A t Q E s :=
  wpAny_mono (h ow fx s I) (fun v s' ⟨d, a, b, c⟩ => k v s' d a b c (I.kp b)) hE
theorem EVL.run {t : Sem (List Value)} {Φ : List D → Prop} (h : EVL C σ t Φ Ξ) {ow : List (Str × Addr)} {fx : List Addr} {s : Shared} (I : Inv C σ ow fx s) {Q : List Value → Shared → Prop} {E : Value → Shared → Prop}
    (k : ∀ v s' d, Φ d → KP C.fr [] s s' → RepAll C.g.P s'.heap (C.ex ow fx) v d → Inv C σ ow fx s' → Q v s') (hE : ∀ e s', XQ C.fr [] s Ξ e s' → E e s') : wpAny C.g.M C.A t Q E s :=
  wpAny_mono (h ow fx s I) (fun v s' ⟨d, a, b, c⟩ => k v s' d a b c (I.kp b)) hE
theorem EVB.run {t : Sem Bool} {Φ : Bool → Prop} (h : EVB C σ t Φ Ξ) {ow : List (Str × Addr)} {fx : List Addr} {s : Shared} (I : Inv C σ ow fx s) {Q : Bool → Shared → Prop} {E : Value → Shared → Prop}
    (k : ∀ b s', Φ b → KP C.fr [] s s' → Inv C σ ow fx s' → Q b s') (hE : ∀ e s', XQ C.fr [] s Ξ e s' → E e s') : wpAny C.g.M C.A t Q E s :=
  wpAny_mono (h ow fx s I) (fun v s' ⟨a, b⟩ => k v s' a b (I.kp b)) hE
theorem PR.run {ds : List D} {t : List Value → Sem Value} {Φ : D → Prop} (h : PR C ds t Φ Ξ) {ex : List Addr} {s : Shared} {vs : List Value} (G : Gd C ex s) (r : RepAll C.g.P s.heap ex vs ds)
    {s₀ : Shared} (k : KP C.fr [] s₀ s) : wpAny C.g.M C.A (t vs) (VQ C ex s₀ Φ) (XQ C.fr [] s₀ Ξ) s :=
  wpAny_mono (h ex s vs G r) (fun _ _ q => q.pre k) fun _ _ q => q.pre k
end

end Mine

/-! Fw3 -/
namespace Mine
open PySem PySem.W PySem.Calls PyProof.Rows

section
variable {C : Cx} {σ : St} {Φ : D → Prop} {Ξ : XD → Prop}


/-! constants -/
theorem ev_int {i : Int} {k : Nat} {pos : Pos} (h : Φ (.int i)) : EV C σ (eval (.Constant (.int i) k pos) C.env) Φ Ξ :=
  fun _ _ s _ => wpAny_Constant_int ⟨_, h, KP.toks _ _ _ _, .int _ _⟩
theorem ev_str {x : Str} {k : Nat} {pos : Pos} (h : Φ (.str x)) : EV C σ (eval (.Constant (.str x) k pos) C.env) Φ Ξ :=
  fun _ _ s _ => wpAny_Constant_str ⟨_, h, KP.toks _ _ _ _, .str _ _⟩
theorem ev_bytes {x : List UInt8} {k : Nat} {pos : Pos} (h : Φ (.bytes x.toArray)) : EV C σ (eval (.Constant (.bytes x) k pos) C.env) Φ Ξ :=
  fun _ _ s _ => Constant_bytes ⟨_, h, KP.toks _ _ _ _, .bytes _ _⟩
theorem ev_bool {b : Bool} {k : Nat} {pos : Pos} (h : Φ (.bool b)) : EV C σ (eval (.Constant (.bool b) k pos) C.env) Φ Ξ :=
  fun _ _ s _ => wpAny_Constant_bool ⟨_, h, KP.refl _ _ _, .val _⟩
theorem ev_none {k : Nat} {pos : Pos} (h : Φ .none) : EV C σ (eval (.Constant .none k pos) C.env) Φ Ξ :=
  fun _ _ s _ => wpAny_Constant_none ⟨_, h, KP.refl _ _ _, .val _⟩

/-! names -/
theorem load_slot {M : Model} {A : Around} {E : Value → Shared → Prop} {env : Env} {s : Shared} {x : Str} {v : Value} {Q : Value → Shared → Prop} (hk : env.scope.kind = .function) (hs : slotVal env s.heap x v)
    (hn : (x == ("__classdict__" : Str)) = false) (h : Q v s) : wpAny M A (loadName env x) Q E s := by
  unfold slotVal at hs
  split at hs
  · rename_i q; obtain ⟨m, h1, h2⟩ := hs; exact wpAny_loadName_local hk q h1 h2 h
  · rename_i q; obtain ⟨c, h1, h2⟩ := hs; exact wpAny_loadName_cell hk q h1 h2 h
  · rename_i q; obtain ⟨c, h1, h2⟩ := hs; exact wpAny_loadName_free hk q h1 h2 h hn
  · exact hs.elim
theorem ev_name {x : Str} {pos : Pos} {d : D} (hx : σ.lookup x = some (.dat d)) (h : Φ d) (hd : (x == ("__debug__" : Str)) = false := by decide) (hn : (x == ("__classdict__" : Str)) = false := by decide) :
    EV C σ (eval (.Name x pos) C.env) Φ Ξ := fun ow fx s I => by
  obtain ⟨v, hs, hv⟩ := I.vars x _ hx
  exact wpAny_Name (load_slot C.kf hs hn ⟨d, h, KP.refl _ _ _, hv⟩) hd
theorem ev_global {x : Str} {pos : Pos} {v : Value} {sc : Scope} (hsc : C.env.scope = sc) (hx : sc.names.lookup x = some .globalImplicit) (e : nsIn C.g.K mainGlobals x = some (some v)) (h : Φ (.val v))
    (hd : (x == ("__debug__" : Str)) = false := by decide) : EV C σ (eval (.Name x pos) C.env) Φ Ξ := fun ow fx s I => by
  refine Name_function_global C.kf (by unfold Env.kindOf; rw [hsc]; exact hx) (loadGlobal_global (mg := C.g.mg) (by rw [C.gl]; exact C.g.T.g.keeps I.base) (mg_of C.g.X C.g.T.g e) ⟨_, h, KP.refl _ _ _, .val _⟩) hd
theorem ev_builtin {x : Str} {pos : Pos} {v : Value} {sc : Scope} (hsc : C.env.scope = sc) (hx : sc.names.lookup x = some .globalImplicit) (e : nsIn C.g.K mainGlobals x = some none) (hv : bootBuiltins x = some v) (h : Φ (.val v))
    (hn : x ≠ "__name__" := by decide) (hd : (x == ("__debug__" : Str)) = false := by decide) : EV C σ (eval (.Name x pos) C.env) Φ Ξ := fun ow fx s I => by
  refine Name_function_global C.kf (by unfold Env.kindOf; rw [hsc]; exact hx) (loadGlobal_builtin (mg := C.g.mg) (mb := C.g.mb) (by rw [C.gl]; exact C.g.T.g.keeps I.base) (mg_none_of C.g.X C.g.T.g e) (by rw [C.bi]; exact C.g.T.b.keeps I.base)
    ((C.g.T.builtins x hn).trans hv) ⟨_, h, KP.refl _ _ _, .val _⟩) hd

/-! operators -/
theorem ev_binop {l r : Expr} {op : Operator} {pos : Pos} (h : EV C σ (eval l C.env) (fun a => EV C σ (eval r C.env) (fun b => PR C [a, b] (fun vs => binaryOp op (vs.getD 0 .none) (vs.getD 1 .none)) Φ Ξ) Ξ) Ξ) :
    EV C σ (eval (.BinOp l op r pos) C.env) Φ Ξ := fun ow fx s I => by
  refine wpAny_BinOp (h.run I (fun v1 s1 d1 h1 k1 r1 I1 => ?_) fun _ _ e => e)
  refine h1.run I1 (fun v2 s2 d2 h2 k2 r2 I2 => ?_) fun _ _ e => e.pre k1
  exact h2.run (vs := [v1, v2]) I2.gd (.cons (r1.kp k2 I.gd.frx (by simp)) (.cons r2 .nil)) (k1.trans k2)
theorem ev_unop {x : Expr} {op : UnaryOp} {pos : Pos} (h : EV C σ (eval x C.env) (fun a => PR C [a] (fun vs => unaryOp op (vs.getD 0 .none)) Φ Ξ) Ξ) :
    EV C σ (eval (.UnaryOp op x pos) C.env) Φ Ξ := fun ow fx s I => by
  refine wpAny_UnaryOp (h.run I (fun v1 s1 d1 h1 k1 r1 I1 => ?_) fun _ _ e => e)
  exact h1.run (vs := [v1]) I1.gd (.cons r1 .nil) k1

/-! tests -/
noncomputable def TR (C : Cx) (d : D) (Φ : Bool → Prop) : Prop := ∀ ex s v (E : Value → Shared → Prop), Gd C ex s → Rep C.g.P s.heap ex v d → wpAny C.g.M C.A (truthy v) (fun b s' => Φ b ∧ KP C.fr [] s s') E s
theorem tr_bool {b : Bool} {Φ : Bool → Prop} (h : Φ b) : TR C (.bool b) Φ := fun ex s v E G r => by
  (first | obtain ⟨_, rfl⟩ := r.inv | obtain rfl := r.inv | obtain ⟨_, rfl, _⟩ := r.inv | obtain ⟨_, _, rfl, _⟩ := r.inv); exact wpAny_truthy_bool ⟨h, KP.refl _ _ _⟩

variable {Θ : Bool → Prop}
theorem evb_compare {l r : Expr} {op : CmpOp} {pos : Pos} {whole : Sem Value} (h : EV C σ (eval l C.env) (fun a => EV C σ (eval r C.env) (fun b => PR C [a, b] (fun vs => compareOp op (vs.getD 0 .none) (vs.getD 1 .none)) (fun d => TR C d Θ) Ξ) Ξ) Ξ)
    (hm : behindInMarks op r = false := by with_unfolding_all rfl) :
    EVB C σ (isTrue (.Compare l [op] [r] pos) C.env whole) Θ Ξ := fun ow fx s I => by
  refine wpAny_isTrue_Compare1 (h.run I (fun v1 s1 d1 h1 k1 r1 I1 => ?_) fun _ _ e => e) hm
  refine h1.run I1 (fun v2 s2 d2 h2 k2 r2 I2 => ?_) fun _ _ e => e.pre k1
  refine wpAny_mono (h2.run (vs := [v1, v2]) I2.gd (.cons (r1.kp k2 I.gd.frx (by simp)) (.cons r2 .nil)) (k1.trans k2)) (fun v s3 q => ?_) fun _ _ e => e
  obtain ⟨d, hd, k, rr⟩ := q
  exact wpAny_mono (hd _ _ v (XQ C.fr [] s Ξ) (I.gd.kp k) rr) (fun b s' x => ⟨x.1, k.trans x.2⟩) fun _ _ e => e
theorem evb_plain {e : Expr} {whole : Sem Value} (h : EV C σ whole (fun d => TR C d Θ) Ξ)
    (he : isTrue e C.env whole = (do let v ← whole; standAt e.pos; holding [v] (truthy v)) := by rfl) : EVB C σ (isTrue e C.env whole) Θ Ξ := fun ow fx s I => by
  refine isTrue_plain (h.run I (fun v1 s1 d1 h1 k1 r1 I1 => ?_) fun _ _ e => e) he
  exact wpAny_mono (h1 _ _ v1 (XQ C.fr [] s Ξ) I1.gd r1) (fun b s' x => ⟨x.1, k1.trans x.2⟩) fun _ _ e => e
theorem evb_and_nil {pos : Pos} {whole : Sem Value} (h : Θ true) : EVB C σ (isTrue (.BoolOp .And [] pos) C.env whole) Θ Ξ := fun _ _ _ _ => isTrue_and_nil ⟨h, KP.refl _ _ _⟩
theorem evb_or_nil {pos : Pos} {whole : Sem Value} (h : Θ false) : EVB C σ (isTrue (.BoolOp .Or [] pos) C.env whole) Θ Ξ := fun _ _ _ _ => isTrue_or_nil ⟨h, KP.refl _ _ _⟩
theorem evb_and {x : Expr} {rest : List Expr} {pos : Pos} {whole : Sem Value} (h : EVB C σ (isTrue x C.env (eval x C.env)) (fun b => (b = true → EVB C σ (isTrue (.BoolOp .And rest pos) C.env whole) Θ Ξ) ∧ (b = false → Θ false)) Ξ) :
    EVB C σ (isTrue (.BoolOp .And (x :: rest) pos) C.env whole) Θ Ξ := fun ow fx s I => by
  refine isTrue_and (h.run I (fun b s1 hb k I1 => ?_) fun _ _ e => e)
  cases b with
  | false => exact ⟨hb.2 rfl, k⟩
  | true => exact (hb.1 rfl).run I1 (fun b s2 hb' k' _ => ⟨hb', k.trans k'⟩) fun _ _ e => e.pre k
theorem evb_or {x : Expr} {rest : List Expr} {pos : Pos} {whole : Sem Value} (h : EVB C σ (isTrue x C.env (eval x C.env)) (fun b => (b = true → Θ true) ∧ (b = false → EVB C σ (isTrue (.BoolOp .Or rest pos) C.env whole) Θ Ξ)) Ξ) :
    EVB C σ (isTrue (.BoolOp .Or (x :: rest) pos) C.env whole) Θ Ξ := fun ow fx s I => by
  refine isTrue_or (h.run I (fun b s1 hb k I1 => ?_) fun _ _ e => e)
  cases b with
  | true => exact ⟨hb.1 rfl, k⟩
  | false => exact (hb.2 rfl).run I1 (fun b s2 hb' k' _ => ⟨hb', k.trans k'⟩) fun _ _ e => e.pre k
theorem testChain_two {M : Model} {A : Around} {E : Value → Shared → Prop} {s : Shared} {pos : Pos} {a : Value} {op op' : CmpOp} {r r' : Sem Value} {Q : Bool → Shared → Prop}
    (h : wpAny M A r (fun b s₁ => wpAny M A (compareOp op a b) (fun c s₂ => wpAny M A (truthy c)
      (fun t s₃ => if t then wpAny M A r' (fun b' s₄ => wpAny M A (compareOp op' b b') (fun c' s₅ => wpAny M A (truthy c') Q E s₅) E s₄) E s₃ else Q false s₃) E s₂) E s₁) E s) :
    wpAny M A (testChain pos a [op, op'] [r, r']) Q E s := by
  show wpAny M A (do
    let rv ← holding [a] r
    standAt pos
    let c ← holding [a, rv] (compareOp op a rv)
    release [a, rv] [c]
    if ← holding [c, rv] (truthy c) then (do
      let rv' ← holding [rv] r'
      standAt pos
      let c ← operate [rv, rv'] (compareOp op' rv rv')
      holding [c] (truthy c)) else pure false) Q E s
  refine wpAny_bind (wpAny_holding (wpAny_mono h (fun b s₁ h₁ => wpAny_bind (wpAny_standAt (wpAny_bind (wpAny_holding (wpAny_mono h₁ (fun c s₂ h₂ =>
    wpAny_bind (wpAny_release' (wpAny_bind (wpAny_holding (wpAny_mono h₂ (fun t s₃ h₃ => ?_) fun _ _ x => x))))) fun _ _ x => x))))) fun _ _ x => x))
  cases t with
  | false => exact wpAny_pure h₃
  | true => exact wpAny_bind (wpAny_holding (wpAny_mono h₃ (fun b' s₄ h₄ => wpAny_bind (wpAny_standAt (wpAny_bind (wpAny_operate' (wpAny_mono h₄ (fun c' s₅ h₅ => wpAny_holding h₅) fun _ _ x => x))))) fun _ _ x => x))
theorem evb_chain {l r r' : Expr} {op op' : CmpOp} {pos : Pos} {whole : Sem Value}
    (h : EV C σ (eval l C.env) (fun a => EV C σ (eval r C.env) (fun b => PR C [a, b] (fun vs => compareOp op (vs.getD 0 .none) (vs.getD 1 .none)) (fun d => ∃ t, d = .bool t ∧ (t = false → Θ false) ∧
      (t = true → EV C σ (eval r' C.env) (fun c => PR C [b, c] (fun vs => compareOp op' (vs.getD 0 .none) (vs.getD 1 .none)) (fun d => TR C d Θ) Ξ) Ξ)) Ξ) Ξ) Ξ)
    (hm : lastMarks [op, op'] [r, r'] = false := by with_unfolding_all rfl) :
    EVB C σ (isTrue (.Compare l [op, op'] [r, r'] pos) C.env whole) Θ Ξ := fun ow fx s I => by
  refine isTrue_chain (h.run I (fun v1 s1 d1 h1 k1 r1 I1 => ?_) fun _ _ e => e) hm
  refine testChain_two (h1.run I1 (fun v2 s2 d2 h2 k2 r2 I2 => ?_) fun _ _ e => e.pre k1)
  refine wpAny_mono (h2 _ s2 [v1, v2] I2.gd (.cons (r1.kp k2 I.gd.frx (by simp)) (.cons r2 .nil))) (fun v s3 q => ?_) fun _ _ e => e.pre (k1.trans k2)
  obtain ⟨d, ⟨t, rfl, hf, ht⟩, k, rr⟩ := q
  (first | obtain ⟨_, rfl⟩ := rr.inv | obtain rfl := rr.inv | obtain ⟨_, rfl, _⟩ := rr.inv | obtain ⟨_, _, rfl, _⟩ := rr.inv)
  refine wpAny_truthy_bool ?_
  have k3 := (k1.trans k2).trans k
  cases t with
  | false => exact ⟨hf rfl, k3⟩
  | true =>
    have I3 := I2.kp k
    refine (ht rfl).run I3 (fun v3 s4 d3 h3 k4 r3 I4 => ?_) fun _ _ e => e.pre k3
    refine wpAny_mono (h3 _ s4 [v2, v3] I4.gd (.cons (r2.kp (k.trans k4) I.gd.frx (by simp)) (.cons r3 .nil))) (fun v s5 q => ?_) fun _ _ e => e.pre (k3.trans k4)
    obtain ⟨d, hd, k5, rr⟩ := q
    exact wpAny_mono (hd _ _ v (XQ C.fr [] s Ξ) (I4.gd.kp k5) rr) (fun b s' x => ⟨x.1, ((k3.trans k4).trans k5).trans x.2⟩) fun _ _ e => e

/-! conditional expression -/
theorem ev_ifexp {t b o : Expr} {pos : Pos} (h : EVB C σ (isTrue t C.env (eval t C.env)) (fun c => (c = true → EV C σ (eval b C.env) Φ Ξ) ∧ (c = false → EV C σ (eval o C.env) Φ Ξ)) Ξ) :
    EV C σ (eval (.IfExp t b o pos) C.env) Φ Ξ := fun ow fx s I => by
  refine wpAny_IfExp (h.run I (fun b s1 hb k I1 => ?_) fun _ _ e => e)
  cases b with
  | true => exact wpAny_mono (hb.1 rfl ow fx s1 I1) (fun _ _ q => q.pre k) fun _ _ e => e.pre k
  | false => exact wpAny_mono (hb.2 rfl ow fx s1 I1) (fun _ _ q => q.pre k) fun _ _ e => e.pre k
end

end Mine

/-! Fw4 -/
namespace Mine
open PySem PySem.W PySem.Calls PyProof.Rows

section
variable {C : Cx} {σ : St} {Φ : D → Prop} {Λ : List D → Prop} {Ξ : XD → Prop}

theorem Gd.fresh {ex : List Addr} {s : Shared} (G : Gd C ex s) : s.heap.objs.size ∉ ex := fun h => by
  obtain ⟨o, e⟩ := G.al _ h
  exact absurd (Heap.lt_size e) (Nat.lt_irrefl _)

/-! argument lists -/
theorem evl_nil {pos : Pos} (h : Λ []) : EVL C σ (spliced (backTo pos (starEach [] C.env))) Λ Ξ := fun _ _ _ _ => spliced_nil ⟨_, h, KP.refl _ _ _, .nil⟩
theorem evl_cons {e : Expr} {rest : List Expr} {pos : Pos} (h : EV C σ (eval e C.env) (fun d => EVL C σ (spliced (backTo pos (starEach rest C.env))) (fun ds => Λ (d :: ds)) Ξ) Ξ)
    (he : starEach (e :: rest) C.env = (false, eval e C.env) :: starEach rest C.env := by rfl) : EVL C σ (spliced (backTo pos (starEach (e :: rest) C.env))) Λ Ξ := fun ow fx s I => by
  rw [he]
  refine spliced_cons (h.run I (fun v1 s1 d1 h1 k1 r1 I1 => ?_) fun _ _ e => e)
  refine h1.run I1 (fun vs s2 ds h2 k2 r2 I2 => ?_) fun _ _ e => e.pre k1
  exact ⟨_, h2, k1.trans k2, .cons (r1.kp k2 I.gd.frx (by simp)) r2⟩
theorem evk_nil {pos : Pos} (h : Λ []) : EVL C σ (evalAll ((backToKw pos (keywordEach [] C.env)).map (·.2))) Λ Ξ := fun _ _ _ _ => wpAny_evalAll_nil ⟨_, h, KP.refl _ _ _, .nil⟩
theorem evk_cons {n : Option Str} {e : Expr} {rest : List Keyword} {pos kp : Pos} (h : EV C σ (eval e C.env) (fun d => EVL C σ (evalAll ((backToKw pos (keywordEach rest C.env)).map (·.2))) (fun ds => Λ (d :: ds)) Ξ) Ξ) :
    EVL C σ (evalAll ((backToKw pos (keywordEach (⟨n, e, kp⟩ :: rest) C.env)).map (·.2))) Λ Ξ := fun ow fx s I => by
  show wpAny _ _ (evalAll ((do let v ← eval e C.env; standAt pos; pure v) :: (backToKw pos (keywordEach rest C.env)).map (·.2))) _ _ _
  refine wpAny_evalAll_cons (wpAny_bind (h.run I (fun v1 s1 d1 h1 k1 r1 I1 => wpAny_bind (wpAny_standAt (wpAny_pure ?_))) fun _ _ e => e))
  refine h1.run I1 (fun vs s2 ds h2 k2 r2 I2 => ?_) fun _ _ e => e.pre k1
  exact ⟨_, h2, k1.trans k2, .cons (r1.kp k2 I.gd.frx (by simp)) r2⟩

/-! displays -/
theorem new_list {ex : List Addr} {s : Shared} {vs : List Value} {ds : List D} (G : Gd C ex s) (r : RepAll C.g.P s.heap ex vs ds) (h : Φ (.lst ds)) (hl : ds.length ≤ sizeLine) {E : Value → Shared → Prop} :
    wpAny C.g.M C.A (newList vs) (VQ C ex s Φ) E s := by
  have hl' : vs.length ≤ sizeLine := by rw [r.length]; exact hl
  refine wpAny_newObj_type ⟨_, h, KP.push _, .lst G.fresh ⟨_, Heap.get?_push_size _ rfl, rfl, _, rfl⟩ (r.mono (fun b o _ e => Heap.get?_push_of_some _ e) fun _ _ h _ => h)⟩ (by show vs.toArray.size ≤ sizeLine; rw [List.size_toArray]; exact hl')
theorem new_tuple {ex : List Addr} {s : Shared} {vs : List Value} {ds : List D} (G : Gd C ex s) (r : RepAll C.g.P s.heap ex vs ds) (h : Φ (.tup ds)) (hl : ds.length ≤ sizeLine) {E : Value → Shared → Prop} :
    wpAny C.g.M C.A (newTuple vs) (VQ C ex s Φ) E s := by
  have hl' : vs.length ≤ sizeLine := by rw [r.length]; exact hl
  refine wpAny_newObj_type ⟨_, h, KP.push _, .tup G.fresh ⟨_, Heap.get?_push_size _ rfl, rfl, _, rfl⟩ (r.mono (fun b o _ e => Heap.get?_push_of_some _ e) fun _ _ h _ => h)⟩ (by show vs.toArray.size ≤ sizeLine; rw [List.size_toArray]; exact hl')
theorem ev_list {es : List Expr} {pos : Pos} (h : EVL C σ (spliced (backTo pos (starEach es C.env))) (fun ds => ds.length ≤ sizeLine ∧ Φ (.lst ds)) Ξ) : EV C σ (eval (.List es pos) C.env) Φ Ξ := fun ow fx s I =>
  List_ (h.run I (fun vs s1 ds h1 k1 r1 I1 => wpAny_mono (new_list I1.gd r1 h1.2 h1.1) (fun _ _ q => q.pre k1) fun _ _ e => e) fun _ _ e => e)
theorem ev_tuple {es : List Expr} {n : Nat} {pos : Pos} (h : EVL C σ (spliced (backTo pos (starEach es C.env))) (fun ds => ds.length ≤ sizeLine ∧ Φ (.tup ds)) Ξ) : EV C σ (eval (.Tuple es n pos) C.env) Φ Ξ := fun ow fx s I =>
  Tuple_ (h.run I (fun vs s1 ds h1 k1 r1 I1 => wpAny_mono (new_tuple I1.gd r1 h1.2 h1.1) (fun _ _ q => q.pre k1) fun _ _ e => e) fun _ _ e => e)

/-! subscripts -/
theorem ev_sub {value slice : Expr} {pos : Pos} (h : EV C σ (eval value C.env) (fun a => EV C σ (eval slice C.env) (fun b => PR C [a, b] (fun vs => subscriptTail value slice (vs.getD 0 .none) (vs.getD 1 .none)) Φ Ξ) Ξ) Ξ) :
    EV C σ (eval (.Subscript value slice pos) C.env) Φ Ξ := fun ow fx s I => by
  refine Subscript_ (h.run I (fun v1 s1 d1 h1 k1 r1 I1 => ?_) fun _ _ e => e)
  refine h1.run I1 (fun v2 s2 d2 h2 k2 r2 I2 => ?_) fun _ _ e => e.pre k1
  exact h2.run (vs := [v1, v2]) I2.gd (.cons (r1.kp k2 I.gd.frx (by simp)) (.cons r2 .nil)) (k1.trans k2)
theorem evp_none (h : Φ .none) : EV C σ (evalPart none C.env) Φ Ξ := fun _ _ _ _ => wpAny_pure ⟨_, h, KP.refl _ _ _, .val _⟩
theorem evp_some {e : Expr} (h : EV C σ (eval e C.env) Φ Ξ) : EV C σ (evalPart (some e) C.env) Φ Ξ := h
theorem ev_slice {l u st : Option Expr} {pos : Pos} (h : EV C σ (evalPart l C.env) (fun a => EV C σ (evalPart u C.env) (fun b => EV C σ (evalPart st C.env) (fun c => Φ (.slc [a, b, c])) Ξ) Ξ) Ξ) :
    EV C σ (eval (.Slice l u st pos) C.env) Φ Ξ := fun ow fx s I => by
  refine wpAny_Slice (h.run I (fun v1 s1 d1 h1 k1 r1 I1 => ?_) fun _ _ e => e)
  refine h1.run I1 (fun v2 s2 d2 h2 k2 r2 I2 => ?_) fun _ _ e => e.pre k1
  refine h2.run I2 (fun v3 s3 d3 h3 k3 r3 I3 => ?_) fun _ _ e => e.pre (k1.trans k2)
  refine ⟨_, h3, ((k1.trans k2).trans k3).trans (KP.push _), .slc (vs := [v1, v2, v3]) I3.gd.fresh ⟨_, Heap.get?_push_size _ rfl, rfl, rfl⟩ ?_⟩
  exact RepAll.mono (fun b o _ e => Heap.get?_push_of_some _ e) (fun _ _ h _ => h) (.cons (r1.kp (k2.trans k3) I.gd.frx (by simp)) (.cons (r2.kp k3 I.gd.frx (by simp)) (.cons r3 .nil)))

noncomputable def DT : D → String
  | .int _ => "int" | .str _ => "str" | .bytes _ => "bytes" | .tup _ => "tuple" | .lst _ => "list" | .dct _ => "dict" | .its _ => "dict_items" | .slc _ => "slice"
  | .val (.bool _) => "bool" | .val .none => "NoneType" | .val _ => ""
theorem Rep.typeIs {ex : List Addr} {s : Shared} {v : Value} {d : D} (r : Rep C.g.P s.heap ex v d) (hd : ∀ w, d ≠ .val w) : s.TypeIs v (DT d) := by
  have q := r.inv
  cases d with
  | val v => exact absurd rfl (hd v)
  | int i => obtain ⟨_, rfl⟩ := q; exact rfl
  | str i => obtain ⟨_, rfl⟩ := q; exact rfl
  | bytes i => obtain ⟨_, rfl⟩ := q; exact rfl
  | tup _ => obtain ⟨_, _, rfl, _, ⟨o, ho, hc, _⟩, _⟩ := q; exact ⟨o, ho, hc⟩
  | lst _ => obtain ⟨_, _, rfl, _, ⟨o, ho, hc, _⟩, _⟩ := q; exact ⟨o, ho, hc⟩
  | dct _ => obtain ⟨_, rfl, _, ⟨o, _, _, ho, hc, _⟩⟩ := q; exact ⟨o, ho, hc.1⟩
  | its _ => obtain ⟨_, _, rfl, _, ⟨o, ho, hc, _⟩, _⟩ := q; exact ⟨o, ho, hc⟩
  | slc _ => obtain ⟨_, _, rfl, _, ⟨o, ho, hc, _⟩, _⟩ := q; exact ⟨o, ho, hc⟩

theorem pr_tail {value slice : Expr} {a b : D} {id : String} (ha : ∀ w, a ≠ .val w) (hl : typeLookup (.type (DT a)) "__getitem__" = pure (some (.builtin id)))
    (h : PR C [a, b] (fun vs => getItem (vs.getD 0 .none) (vs.getD 1 .none)) Φ Ξ) (hs : ∀ o i, ∃ ops, subscripted slice false o i = operate ops (getItem o i) := by intro o i; exact ⟨_, rfl⟩) :
    PR C [a, b] (fun vs => subscriptTail value slice (vs.getD 0 .none) (vs.getD 1 .none)) Φ Ξ := fun ex s vs G r => by
  have hr := r
  obtain ⟨_, _, rfl, r1, _⟩ := r.inv2
  obtain ⟨ops, e⟩ := hs _ _
  exact tail_any (r1.typeIs ha) hl (h ex s _ G hr) e

/-! calls -/
noncomputable def CL (C : Cx) (f : Value) (ds : List D) (ns : List Str) (ks : List D) (Φ : D → Prop) (Ξ : XD → Prop) : Prop :=
  ∀ ex s vs kvs, Gd C ex s → RepAll C.g.P s.heap ex vs ds → RepAll C.g.P s.heap ex kvs ks → wpAny C.g.M C.A (call f vs (ns.zip kvs)) (VQ C ex s Φ) (XQ C.fr [] s Ξ) s
noncomputable def KeepOk (C : Cx) (f : Value) : Prop := ∀ h, C.g.base.StaysIn h → ∃ k, (k = Keeper.frame ∨ k = Keeper.machine ∨ k = Keeper.boundFrame) ∧ Looks C.g.M h (keeperOf f) k
theorem keep_K {f : Value} (h : keepIn C.g.K f = true) : KeepOk C f := fun hp hb => keeps_K h hp (C.g.X.keeps hb)
theorem keep_B {id : String} : KeepOk C (.builtin id) := fun _ _ => ⟨.machine, .inr (.inl rfl), Looks.of_pure rfl⟩
theorem keep_T {id : String} : KeepOk C (.type id) := fun _ _ => ⟨.machine, .inr (.inl rfl), Looks.of_pure rfl⟩

/-- a call once the callee is known -/
noncomputable def CALL (C : Cx) (σ : St) (first : List D) (df : D) (pos : Pos) (args : List Expr) (kws : List Keyword) (Φ : D → Prop) (Ξ : XD → Prop) : Prop :=
  ∀ ow fx s f vs, Inv C σ ow fx s → Rep C.g.P s.heap (C.ex ow fx) f df → RepAll C.g.P s.heap (C.ex ow fx) vs first →
    wpAny C.g.M C.A (callWith pos f vs (backTo pos (starEach args C.env)) (backToKw pos (keywordEach kws C.env))) (VQ C (C.ex ow fx) s Φ) (XQ C.fr [] s Ξ) s

theorem ev_call {id : Str} {np pos : Pos} {args : List Expr} {kws : List Keyword} (h : EV C σ (eval (.Name id np) C.env) (fun df => CALL C σ [] df pos args kws Φ Ξ) Ξ) :
    EV C σ (eval (.Call (.Name id np) args kws pos) C.env) Φ Ξ := fun ow fx s I => by
  refine wpAny_Call_Name_kw (h.run I (fun v1 s1 d1 h1 k1 r1 I1 => ?_) fun _ _ e => e)
  exact wpAny_mono (h1 ow fx s1 v1 [] I1 r1 .nil) (fun _ _ q => q.pre k1) fun _ _ e => e.pre k1
theorem call_pos {f : Value} {first : List D} {pos : Pos} {e : Expr} {rest : List Expr} (hk : KeepOk C f) (h : EVL C σ (spliced (backTo pos (starEach (e :: rest) C.env))) (fun ds => CL C f (first ++ ds) [] [] Φ Ξ) Ξ)
    (he : starEach (e :: rest) C.env = (false, eval e C.env) :: starEach rest C.env := by rfl) (hp : (backTo pos (starEach rest C.env)).any (·.1) = false := by rfl) :
    CALL C σ first (.val f) pos (e :: rest) [] Φ Ξ := fun ow fx s v vs I r rv => by
  (first | obtain ⟨_, rfl⟩ := r.inv | obtain rfl := r.inv | obtain ⟨_, rfl, _⟩ := r.inv | obtain ⟨_, _, rfl, _⟩ := r.inv)
  rw [he] at h ⊢
  refine callWith_of (P := C.g.base.StaysIn) (by show ((false || (backTo pos (starEach rest C.env)).any (·.1)) || false) = false; rw [hp]; rfl) hk ?_
  refine evalArgs_plain (h.run I (fun ws s1 ds h1 k1 r1 I1 => ⟨I1.base, ?_⟩) fun _ _ e => e)
  exact wpAny_mono (h1 _ s1 (vs ++ ws) [] I1.gd ((rv.kp k1 I.gd.frx (by simp)).append r1) .nil) (fun _ _ q => q.pre k1) fun _ _ e => e.pre k1
theorem call_nil {f : Value} {first : List D} {pos : Pos} (hk : KeepOk C f) (h : CL C f first [] [] Φ Ξ) : CALL C σ first (.val f) pos [] [] Φ Ξ := fun ow fx s v vs I r rv => by
  (first | obtain ⟨_, rfl⟩ := r.inv | obtain rfl := r.inv | obtain ⟨_, rfl, _⟩ := r.inv | obtain ⟨_, _, rfl, _⟩ := r.inv)
  refine callWith_of (P := C.g.base.StaysIn) rfl hk (evalArgs_nil3 ⟨I.base, ?_⟩)
  have := h _ s vs [] I.gd rv .nil
  rw [List.append_nil]; exact this
theorem call_kw {f : Value} {first : List D} {pos : Pos} {e : Expr} {rest : List Expr} {kws : List Keyword} {ns : List Str} (hk : KeepOk C f)
    (h : EVL C σ (spliced (backTo pos (starEach (e :: rest) C.env))) (fun ds => EVL C σ (evalAll ((backToKw pos (keywordEach kws C.env)).map (·.2))) (fun ks => CL C f (first ++ ds) ns ks Φ Ξ) Ξ) Ξ)
    (he : starEach (e :: rest) C.env = (false, eval e C.env) :: starEach rest C.env := by rfl) (hp : (backTo pos (starEach rest C.env)).any (·.1) = false := by rfl)
    (hn : (backToKw pos (keywordEach kws C.env)).filterMap (·.1) = ns := by rfl) (ha : (backToKw pos (keywordEach kws C.env)).all (·.1.isSome) = true := by rfl) (hb : (backToKw pos (keywordEach kws C.env)).any (·.1.isNone) = false := by rfl) :
    CALL C σ first (.val f) pos (e :: rest) kws Φ Ξ := fun ow fx s v vs I r rv => by
  (first | obtain ⟨_, rfl⟩ := r.inv | obtain rfl := r.inv | obtain ⟨_, rfl, _⟩ := r.inv | obtain ⟨_, _, rfl, _⟩ := r.inv)
  rw [he] at h ⊢
  refine callWith_of (P := C.g.base.StaysIn) (by rw [hb]; show ((false || (backTo pos (starEach rest C.env)).any (·.1)) || false) = false; rw [hp]; rfl) hk ?_
  refine evalArgs_kw ha (h.run I (fun ws s1 ds h1 k1 r1 I1 => ?_) fun _ _ e => e)
  refine h1.run I1 (fun kv s2 ks h2 k2 r2 I2 => ⟨I2.base, ?_⟩) fun _ _ e => e.pre k1
  have k := k1.trans k2
  rw [hn]
  exact wpAny_mono (h2 _ s2 (vs ++ ws) kv I2.gd ((rv.kp k I.gd.frx (by simp)).append (r1.kp k2 I.gd.frx (by simp))) r2) (fun _ _ q => q.pre k) fun _ _ e => e.pre k

/-! methods of built-in types -/
theorem ev_method {o : Expr} {name : Str} {apos pos : Pos} {args : List Expr} (h : EV C σ (eval o C.env) (fun d => (∀ w, d ≠ .val w) ∧ (∀ ds, d ≠ .lst ds) ∧ (∀ ds, d ≠ .tup ds) ∧ (∀ ds, d ≠ .slc ds) ∧ (∀ ds, d ≠ .its ds) ∧ ∃ id, PlainAttrs (DT d) ∧ Slot (DT d) name id ∧ typeOf (.builtin id) = pure (.type "method_descriptor") ∧
      CALL C σ [d] (.val (.builtin id)) pos args [] Φ Ξ) Ξ)
    (hbase : attributeBase o name C.env (eval o C.env) = eval o C.env := by rfl)
    (hfew : ((backTo pos (starEach args C.env)).all (fun x => !x.1) && (backToKw pos (keywordEach [] C.env)).all (fun x => x.1.isSome)
      && decide (args.length + ([] : List Keyword).length + (if ([] : List Keyword).isEmpty then 0 else 1) < 30)) = true := by rfl)
    (hline : (apos.endLine == pos.line) = true := by rfl) : EV C σ (eval (.Call (.Attribute o name apos) args [] pos) C.env) Φ Ξ := fun ow fx s I => by
  have step : ∀ v1 s1 d1, ((∀ w, d1 ≠ .val w) ∧ (∀ ds, d1 ≠ .lst ds) ∧ (∀ ds, d1 ≠ .tup ds) ∧ (∀ ds, d1 ≠ .slc ds) ∧ (∀ ds, d1 ≠ .its ds) ∧ ∃ id, PlainAttrs (DT d1) ∧ Slot (DT d1) name id ∧ typeOf (.builtin id) = pure (.type "method_descriptor") ∧
      CALL C σ [d1] (.val (.builtin id)) pos args [] Φ Ξ) → KP C.fr [] s s1 → Rep C.g.P s1.heap (C.ex ow fx) v1 d1 → Inv C σ ow fx s1 →
      wpAny C.g.M C.A (standAt apos.atName >>= fun _ => methodCall o name apos pos C.env v1 (args.length + ([] : List Keyword).length) (backTo pos (starEach args C.env)) (backToKw pos (keywordEach [] C.env))) (VQ C (C.ex ow fx) s Φ) (XQ C.fr [] s Ξ) s1 := by
    rintro v1 s1 d1 ⟨hv, hnl, hnt, hns, hni, id, pa, slot, hty, hc⟩ k1 r1 I1
    refine wpAny_bind (wpAny_standAt ?_)
    have hform : methodCallForm (args.length + ([] : List Keyword).length) (backTo pos (starEach args C.env)) (backToKw pos (keywordEach [] C.env)) = true := hfew
    have hpos : methodCallPos true o C.env apos pos = pure pos := by unfold methodCallPos; simp [hline]
    unfold methodCall
    rw [hform]
    refine wpAny_bind (wpAny_holding (getMethod_builtin (r1.typeIs hv) pa slot hty (fun a e => ?_) ?_))
    · subst e
      cases r1 with
      | val v => exact absurd rfl (hv _)
      | lst => exact absurd rfl (hnl _)
      | tup => exact absurd rfl (hnt _)
      | slc => exact absurd rfl (hns _)
      | its => exact absurd rfl (hni _)
      | dct _ h => obtain ⟨o, _, _, ho, hc, _⟩ := h; exact ⟨o, ho, hc.2.1⟩
    · exact wpAny_bind (wpAny_of_eq hpos (wpAny_mono (hc ow fx s1 _ [v1] I1 (.val _) (.cons r1 .nil)) (fun _ _ q => q.pre k1) fun _ _ e => e.pre k1))
  rw [arm_eval_Call, hbase]
  exact wpAny_bind (h.run I (fun v1 s1 d1 h1 k1 r1 I1 => step v1 s1 d1 h1 k1 r1 I1) fun _ _ e => e)
end

end Mine

/-! Fw5 -/
namespace Mine
open PySem PySem.W PySem.Calls PyProof.Rows

section
variable {C : Cx} {σ : St} {ow : List (Str × Addr)} {fx ex : List Addr} {s s' : Shared} {Ξ : XD → Prop}

theorem mem_ex_sys {a : Addr} (h : a ∈ C.sys) : a ∈ C.ex ow fx := List.mem_append.mpr (.inl h)
theorem mem_ex_ow {p : Str × Addr} (h : p ∈ ow) : p.2 ∈ C.ex ow fx := List.mem_append.mpr (.inr (List.mem_append.mpr (.inl (List.mem_map_of_mem h))))
theorem mem_ex_fx {a : Addr} (h : a ∈ fx) : a ∈ C.ex ow fx := List.mem_append.mpr (.inr (List.mem_append.mpr (.inr h)))

/-- one object of the activation's own system (its names' dict, a cell) is changed -/
theorem Inv.touch {a : Addr} {h' : Heap} {tk : Nat} (I : Inv C σ ow fx s) (ha : a ∈ C.sys) (hs : Heap.SameBut a s.heap h') (hal : ∃ o, h'.get? a = some o)
    (hnf : ∀ o, h'.get? a = some o → ∀ vs, o.data ≠ .fields vs)
    (hns : ∃ m, h'.Ns C.env.locals m) (hcel : ∀ n c, (n, c) ∈ C.env.cells → ∃ v, h'.IsCell c v) {σ' : St}
    (hv : ∀ x lv, σ'.lookup x = some lv → (∃ v, slotVal C.env h' x v ∧ LVok C s.heap ow fx x v lv)) : Inv C σ' ow fx { s with heap := h', toks := tk } := by
  have keep : ∀ b o, b ≠ a → s.heap.get? b = some o → h'.get? b = some o := fun b o hb e => (hs.2 b hb).trans e
  refine ⟨fun b o e => keep b o (fun q => ?_) (I.base b o e), ?_, I.frx, fun b hb => ?_, I.owd, I.owf, I.owl, I.sysf, hns, hcel, fun x lv hx => ?_⟩
  · rw [q, (I.sysf a ha).2] at e; cases e
  · exact frames_touch I.frames
  · obtain ⟨o, e⟩ := I.al b hb
    by_cases hba : b = a
    · subst hba; exact hal
    · exact ⟨o, keep b o hba e⟩
  · obtain ⟨v, h1, h2⟩ := hv x lv hx
    refine ⟨v, h1, ?_⟩
    cases lv with
    | dat d => exact Rep.mono (fun b o hb e => keep b o (fun q => hb (q ▸ mem_ex_sys ha)) e) (fun _ _ h _ => h) h2
    | own d =>
      obtain ⟨a', e, hm, ho⟩ := h2
      exact ⟨a', e, hm, ownAt_mono (fun b o hb e => keep b o (fun q => hb (q ▸ mem_ex_sys ha)) e) (fun _ _ h _ => h) (fun o e => keep a' o (fun q => (I.owf _ hm).1 (q ▸ ha)) e) ho⟩
where
  frames_touch {l : List Env} (h : s.heap.FunFrames C.g.base l) : h'.FunFrames C.g.base l := by
    induction l with
    | nil => trivial
    | cons env rest ih =>
      obtain ⟨h1, ⟨L, o, hf, hn, ho, hd⟩, hr⟩ := h
      refine ⟨h1, ?_, ih hr⟩
      by_cases hL : L = a
      · subst hL
        obtain ⟨o', e'⟩ := hal
        exact ⟨L, o', hf, hn, e', hnf o' e'⟩
      · exact ⟨L, o, hf, hn, (hs.2 L hL).trans ho, hd⟩

theorem ns_noFields {h : Heap} {a : Addr} {m : Str → Option Value} (hn : h.Ns a m) : (∃ o, h.get? a = some o) ∧ ∀ o, h.get? a = some o → ∀ vs, o.data ≠ .fields vs := by
  obtain ⟨o, es, ep, ho, hd, _⟩ := hn
  exact ⟨⟨o, ho⟩, fun o' e vs q => by rw [ho] at e; cases e; rw [hd] at q; cases q⟩
theorem cell_noFields {h : Heap} {a : Addr} {v : Option Value} (hn : h.IsCell a v) : (∃ o, h.get? a = some o) ∧ ∀ o, h.get? a = some o → ∀ vs, o.data ≠ .fields vs := by
  obtain ⟨o, ho, hd⟩ := hn
  exact ⟨⟨o, ho⟩, fun o' e vs q => by rw [ho] at e; cases e; rw [hd] at q; cases q⟩

theorem lookup_cons_ne {α : Type} {x y : Str} {a : α} {l : List (Str × α)} (h : x ≠ y) : List.lookup x ((y, a) :: l) = List.lookup x l := by
  rw [List.lookup_cons]; have : (x == y) = false := by simpa using h
  rw [this]
theorem lookup_cons_eq {α : Type} {x : Str} {a : α} {l : List (Str × α)} : List.lookup x ((x, a) :: l) = some a := by
  rw [List.lookup_cons]; simp

/-- storing under a name -/
theorem store_any {x : Str} {v : Value} {lv : LV} {Q : Unit → Shared → Prop} {E : Value → Shared → Prop} (hx : C.env.kindOf x = some .local ∨ (C.env.kindOf x = some .cell ∧ C.comp = false))
    (I : Inv C σ ow fx s) (hv : LVok C s.heap ow fx x v lv)
    (k : ∀ s', Inv C ((x, lv) :: σ) ow fx s' → KP C.fr C.sys s s' → Q () s') : wpAny C.g.M C.A (storeName C.env x v) Q E s := by
  obtain ⟨m, hn⟩ := I.ns
  rcases hx with hx | ⟨hx, hcomp⟩
  · refine wpAny_storeName_local hx hn (fun h' hn' hs => ?_) (by rw [C.kf]; rfl)
    obtain ⟨hal, hnf⟩ := ns_noFields hn'
    refine k _ (I.touch C.locs hs hal hnf ⟨_, hn'⟩ (fun n c hc => ?_) fun y lv' hy => ?_) (KP.but C.locs hs hal)
    · obtain ⟨v', hv'⟩ := I.cel n c hc
      exact ⟨v', hv'.sameBut hs (C.cloc n c hc)⟩
    · by_cases hyx : y = x
      · subst hyx
        rw [lookup_cons_eq] at hy; cases hy
        exact ⟨v, by unfold slotVal; rw [hx]; exact ⟨_, hn', by simp⟩, hv⟩
      · rw [lookup_cons_ne hyx] at hy
        obtain ⟨u, h1, h2⟩ := I.vars y lv' hy
        refine ⟨u, ?_, h2⟩
        unfold slotVal at h1 ⊢
        split
        · rename_i q; rw [q] at h1; obtain ⟨m₁, a1, a2⟩ := h1
          refine ⟨_, hn', ?_⟩
          rw [if_neg hyx, hn.agree a1]; exact a2
        · rename_i q; rw [q] at h1; obtain ⟨c, a1, a2⟩ := h1
          exact ⟨c, a1, a2.sameBut hs (C.cloc y c (mem_of_lookup a1))⟩
        · rename_i q; rw [q] at h1; obtain ⟨c, a1, a2⟩ := h1
          exact ⟨c, a1, a2.sameBut hs (C.cloc y c (mem_of_lookup a1))⟩
        · rename_i q1 q2 q3
          split at h1
          · rename_i q; exact absurd q q1
          · rename_i q; exact absurd q q2
          · rename_i q; exact absurd q q3
          · exact h1
  · obtain ⟨c, hc⟩ := Option.isSome_iff_exists.mp (C.ckn x hx)
    have hcm := mem_of_lookup hc
    have hcs := C.csys hcomp x c hcm
    obtain ⟨v₀, hv₀⟩ := I.cel x c hcm
    refine wpAny_storeName_cell C.kf hx hc hv₀ fun h' hc' hs => ?_
    obtain ⟨hal, hnf⟩ := cell_noFields hc'
    have hcl : C.env.locals ≠ c := fun q => C.cloc x c hcm q.symm
    refine k _ (I.touch (tk := s.toks) hcs hs hal hnf ⟨m, hn.sameBut hs hcl⟩ (fun n c₁ hc₁ => ?_) fun y lv' hy => ?_) (KP.but (tk := s.toks) hcs hs hal)
    · by_cases q : c₁ = c
      · subst q; exact ⟨_, hc'⟩
      · obtain ⟨v', hv'⟩ := I.cel n c₁ hc₁
        exact ⟨v', hv'.sameBut hs q⟩
    · by_cases hyx : y = x
      · subst hyx
        rw [lookup_cons_eq] at hy; cases hy
        exact ⟨v, by unfold slotVal; rw [hx]; exact ⟨_, hc, hc'⟩, hv⟩
      · rw [lookup_cons_ne hyx] at hy
        obtain ⟨u, h1, h2⟩ := I.vars y lv' hy
        refine ⟨u, ?_, h2⟩
        have hcne : ∀ c₁, C.env.cells.lookup y = some c₁ → c₁ ≠ c := fun c₁ q e => hyx (name_of_addr (C.cinj hcomp) (mem_of_lookup q) (e ▸ hcm))
        unfold slotVal at h1 ⊢
        split
        · rename_i q; rw [q] at h1; obtain ⟨m₁, a1, a2⟩ := h1
          exact ⟨m₁, a1.sameBut hs hcl, a2⟩
        · rename_i q; rw [q] at h1; obtain ⟨c₁, a1, a2⟩ := h1
          exact ⟨c₁, a1, a2.sameBut hs (hcne c₁ a1)⟩
        · rename_i q; rw [q] at h1; obtain ⟨c₁, a1, a2⟩ := h1
          exact ⟨c₁, a1, a2.sameBut hs (hcne c₁ a1)⟩
        · rename_i q1 q2 q3
          split at h1
          · rename_i q; exact absurd q q1
          · rename_i q; exact absurd q q2
          · rename_i q; exact absurd q q3
          · exact h1

noncomputable def StoreOk (C : Cx) (x : Str) : Prop := C.env.kindOf x = some .local ∨ (C.env.kindOf x = some .cell ∧ C.comp = false)
end

end Mine

/-! Fw6 -/
namespace Mine
open PySem PySem.W PySem.Calls PyProof.Rows

section
variable {M : Model} {A : Around} {E : Value → Shared → Prop} {s : Shared}

/-- an exception that this frame holds: its flight is set to this frame once more -/
theorem setFlight_held {B : Heap} {l : List Env} {e L : Addr} {cls a0 : Value} {Q : Unit → Shared → Prop} (hh : Heap.HeldW B l e cls a0 L s.heap)
    (hQ : ∀ h', Heap.HeldW B l e cls a0 L h' → s.heap.UpToSlots h' → Q () { s with heap := h' }) : wpAny M A (setFlight (.ref e) (some L)) Q E s := by
  obtain ⟨f1, f2, f3, oe, vs, T, oT, ts, he, hc, hd, h1, hnT, hTe, hT, hdT, h3⟩ := hh
  have hsz : 3 < ts.size := (Array.getElem?_eq_some_iff.mp h3).1
  unfold setFlight
  refine wpAny_bind (wpAny_field he hd h1 ?_)
  rw [if_pos (show (Value.ref T != Value.none) = true from by simp)]
  refine wpAny_setField hT hdT hsz (hQ _ ?_ ?_)
  · have other : ∀ b, b ≠ T → (s.heap.update T (Obj.mapFields (·.setIfInBounds 3 ((some L).elim Value.none fun f => rawInt f)))).get? b = s.heap.get? b := fun b hb => Heap.get?_update_other _ _ (Ne.symm hb)
    refine ⟨fun b o hb => (other b fun q => by rw [q, hnT] at hb; cases hb).trans (f1 b o hb), f2, f3.of_keeps fun b o hb hnf => ⟨o, (other b fun q => ?_).trans hb, rfl⟩,
      oe, vs, T, _, _, (other e (Ne.symm hTe)).trans he, hc, hd, h1, hnT, hTe, Heap.get?_update_self _ hT (Obj.isFreed_of_fields (Obj.data_mapFields hdT _)), Obj.data_mapFields hdT _, by simp [hsz]⟩
    rw [q, hT] at hb; cases hb; exact hnf ts hdT
  · intro b o hb hnf
    refine ⟨o.slots, (Heap.get?_update_other _ _ fun q => ?_).trans hb⟩
    subst q; rw [hT] at hb; cases hb; exact hnf ts hdT

theorem noteFrame_new {B h : Heap} {env : Env} {outer : List Env} {L e : Addr} {cls : Value} {vs : List Value} {Q : Unit → Shared → Prop} (hfr : A.frames = some (env :: outer)) (hf : env.frame = some L)
    (hkb : B.StaysIn h) (hl : h.FunFrames B (env :: outer)) (hx : Heap.MadeExcOf h s.heap e cls vs)
    (hQ : ∀ h' t, Heap.HeldW B (env :: outer) e cls (.ref t) L h' → h'.TupAt t vs → B.get? t = none → s.heap.UpToSlots h' → Q () { s with heap := h' }) : wpAny M A (noteFrame (.ref e) env) Q E s := by
  obtain ⟨t, he, htn, ht⟩ := hx.there
  have fresh : ∀ b, h.get? b = none → B.get? b = none := fun b hb => by
    cases hq : B.get? b with
    | none => rfl
    | some o' => have := hkb b o' hq; rw [hb] at this; cases this
  unfold noteFrame
  simp only [hf]
  refine wpAny_bind (wpAny_field he rfl (x := .none) rfl ?_)
  rw [if_neg (by decide)]
  refine wpAny_entryW hfr (hl.of_keeps fun b o hb _ => ⟨o, hx.keeps b o hb, rfl⟩) hf he (fun b o hb => hx.keeps b o (hkb b o hb)) (fresh e hx.new) rfl (by simp) (a0 := .ref t) rfl fun h' hN => ?_
  obtain ⟨k1, k2, k3, k4⟩ := hN
  exact hQ h' t ⟨k1, fresh e hx.new, k2, k3⟩ (Heap.TupAt.of_slots ⟨_, _, ht, rfl, rfl⟩ k4) (fresh t htn) k4
end

section
variable {C : Cx} {σ : St} {ow : List (Str × Addr)} {fx ex : List Addr} {s s' : Shared} {Ξ : XD → Prop}

theorem sl_step {fr : List Env} {B : Heap} {h h' : Heap} (hf : h.FunFrames B fr) (k : h.UpToSlots h') {b : Addr} {o : Obj} (hb : b ∈ FRA fr) (e : ∃ sl, h.get? b = some { o with slots := sl }) : ∃ sl, h'.get? b = some { o with slots := sl } := by
  obtain ⟨sl, e⟩ := e
  obtain ⟨_, o', e', hn⟩ := hf.mem hb
  rw [e] at e'; cases e'
  obtain ⟨sl', e2⟩ := k b _ e hn
  exact ⟨sl', e2⟩

/-- noted by this frame -/
theorem fly_note {mod : List Addr} {x : XD} {e : Value} (hc : C.comp = false) (f : Fly C.fr mod s x e s') {Q : Unit → Shared → Prop} {E : Value → Shared → Prop}
    (hQ : ∀ h' a L B t vs, e = .ref a → C.env.frame = some L → C.fr.head?.bind (·.frame) = some L → (∀ b o, b ∉ mod → b ∉ FRA C.fr → s.heap.get? b = some o → B.get? b = some o) → Heap.HeldW B C.fr a x.cls (.ref t) L h' → h'.TupAt t vs → B.get? t = none → MsgOk x vs →
      (∀ b o, b ∈ FRA C.fr → b ∉ mod → s.heap.get? b = some o → ∃ sl, h'.get? b = some { o with slots := sl }) → Q () { s' with heap := h' }) : wpAny C.g.M C.A (noteFrame e C.env) Q E s' := by
  obtain ⟨outer, L, hfr, hL⟩ := C.hfr hc
  have hA : C.A.frames = some (C.env :: outer) := by rw [C.hA, hfr]
  have hhead : C.fr.head?.bind (·.frame) = some L := by rw [hfr]; exact hL
  obtain ⟨a, B, rfl, hB, st⟩ := f.st
  cases st with
  | new h vs h1 h2 h3 h4 =>
    rw [hfr] at h2
    refine noteFrame_new hA hL h1 h2 h3 fun h' t k1 k2 k3 k4 => hQ h' a L B t vs rfl hL hhead hB (hfr ▸ k1) k2 k3 h4 fun b o hb hm q => ?_
    have h2' : s'.heap.FunFrames B C.fr := by rw [hfr]; exact h2.of_keeps fun b o hb _ => ⟨o, h3.keeps b o hb, rfl⟩
    exact sl_step h2' k4 hb (f.sl b o hb hm q)
  | on t vs h1 h2 h3 h4 =>
    have h1' := h1
    rw [hfr] at h1
    refine wpAny_looks_onW hA hL h1 fun h' k1 k2 => hQ h' a L B t vs rfl hL hhead hB (hfr ▸ k1) (h2.of_slots k2) h3 h4 fun b o hb hm q => ?_
    exact sl_step h1'.2.2.1 k2 hb (f.sl b o hb hm q)
  | held L' t vs h0 h1 h2 h3 h4 =>
    have hLL : L' = L := by rw [hhead] at h0; exact (Option.some.inj h0).symm
    subst hLL
    exact wpAny_noteFrame_againW hL h1.2.2.2 (hQ s'.heap a L' B t vs rfl hL hhead hB h1 h2 h3 h4 f.sl)

/-- out of a loop's own activation -/
theorem fly_loop {mod : List Addr} {e : Value} (hc : C.comp = false) (f : XQ C.fr mod s Ξ e s') : notedBy C.g.M C.A C.env (cameBackBy C.g.M C.A C.env (XQ C.fr mod s Ξ)) e s' := by
  obtain ⟨x, hx, f⟩ := f
  have hsh := f.sh
  refine fly_note hc f fun h' a L B t vs e1 e2 e3 e4 e5 e6 e7 e8 e9 => ?_
  subst e1
  unfold cameBackBy
  have e5' := e5
  obtain ⟨f1, f2, f3, oe, ws, T, oT, ts, he, hcc, hd, h1, hnT, hTe, hT, hdT, h3⟩ := e5
  refine wpAny_bind (wpAny_field he hd h1 ?_)
  show wpAny _ _ (setFlight (.ref a) C.env.frame) _ _ _
  rw [e2]
  refine setFlight_held (s := { s' with heap := h' }) e5' fun h'' k1 k2 => ⟨x, hx, ?_⟩
  obtain ⟨h0, tk, rfl⟩ := hsh
  exact ⟨⟨h'', tk, rfl⟩, ⟨a, B, rfl, e4, .held L t vs e3 k1 (e6.of_slots k2) e7 e8⟩, fun b o hb hm q => sl_step f3 k2 hb (e9 b o hb hm q)⟩

/-! ## statements -/
variable {Ψ : Fl → St → Prop}

/-- what holds behind a statement, the rest of its block to come -/
noncomputable def Then (C : Cx) (rest : List Stmt) (Ψ : Fl → St → Prop) (Ξ : XD → Prop) : Fl → St → Prop
  | .next, σ' => EX C σ' (execs rest C.env) Ψ Ξ
  | fl, σ' => Ψ fl σ'

theorem none_of_kp {fr : List Env} {mod : List Addr} (k : KP fr mod s s') {b : Addr} (h : s'.heap.get? b = none) : s.heap.get? b = none := by
  cases q : s.heap.get? b with
  | none => rfl
  | some o => obtain ⟨o', e⟩ := k.al b o q; rw [h] at e; cases e
theorem mu_step {ow' : List (Str × Addr)} (h : ∀ p ∈ ow', p.2 ∈ ow.map (·.2) ∨ s.heap.get? p.2 = none) : ∀ b ∈ C.mu ow', b ∈ C.mu ow ∨ s.heap.get? b = none := fun b hb => by
  rcases List.mem_append.mp hb with q | q
  · exact .inl (List.mem_append.mpr (.inl q))
  · obtain ⟨p, hp, rfl⟩ := List.mem_map.mp q
    rcases h p hp with z | z
    · exact .inl (List.mem_append.mpr (.inr z))
    · exact .inr z

/-- the state goes on from s₁, what was known holds from s -/
theorem SQ.pre {ow' : List (Str × Addr)} {s₁ : Shared} {f : Flow} (k : KP C.fr (C.mu ow) s s₁) (hw : ∀ p ∈ ow', p.2 ∈ ow.map (·.2) ∨ s.heap.get? p.2 = none) (h : SQ C ow' fx s₁ Ψ f s') : SQ C ow fx s Ψ f s' := by
  obtain ⟨fl, σ', ow'', h1, h2, h3, h4, h5⟩ := h
  refine ⟨fl, σ', ow'', h1, h2, k.seq h3 (mu_step hw), fun p hp => ?_, h5⟩
  rcases h4 p hp with q | q
  · obtain ⟨p', hp', e⟩ := List.mem_map.mp q
    rcases hw p' hp' with z | z
    · exact .inl (e ▸ z)
    · exact .inr (e ▸ z)
  · exact .inr (none_of_kp k q)
theorem XQ.seq {ow' : List (Str × Addr)} {s₁ : Shared} {e : Value} (k : KP C.fr (C.mu ow) s s₁) (hw : ∀ p ∈ ow', p.2 ∈ ow.map (·.2) ∨ s.heap.get? p.2 = none) (h : XQ C.fr (C.mu ow') s₁ Ξ e s') : XQ C.fr (C.mu ow) s Ξ e s' :=
  let ⟨x, hx, f⟩ := h; ⟨x, hx, f.pre k (mu_step hw)⟩
theorem own_refl : ∀ p ∈ ow, p.2 ∈ ow.map (·.2) ∨ s.heap.get? p.2 = none := fun p hp => .inl (List.mem_map_of_mem hp)

theorem ex_nil (h : Ψ .next σ) : EX C σ (execs [] C.env) Ψ Ξ := fun ow fx s I => wpAny_execs_nil ⟨.next, σ, ow, h, I, KP.refl _ _ _, own_refl, trivial⟩
theorem ex_cons {st : Stmt} {rest : List Stmt} (h : EX C σ (exec st C.env) (Then C rest Ψ Ξ) Ξ) : EX C σ (execs (st :: rest) C.env) Ψ Ξ := fun ow fx s I => by
  refine wpAny_execs_cons (wpAny_mono (h ow fx s I) (fun f s₁ q => ?_) fun _ _ e => e)
  obtain ⟨fl, σ', ow', h1, h2, h3, h4, h5⟩ := q
  cases f <;> cases fl <;> first | exact h5.elim | skip
  · exact wpAny_mono (h1 ow' fx s₁ h2) (fun f' s₂ q => q.pre h3 h4) fun e s₂ q => q.seq h3 h4
  · exact ⟨.brk, σ', ow', h1, h2, h3, h4, h5⟩
  · exact ⟨.cont, σ', ow', h1, h2, h3, h4, h5⟩
  · exact ⟨_, σ', ow', h1, h2, h3, h4, h5⟩
theorem then_next {rest : List Stmt} (h : EX C σ (execs rest C.env) Ψ Ξ) : Then C rest Ψ Ξ .next σ := h

theorem ex_return {e : Expr} {pos : Pos} (h : EV C σ (eval e C.env) (fun d => Ψ (.ret d) σ) Ξ) : EX C σ (exec (.Return (some e) pos) C.env) Ψ Ξ := fun ow fx s I =>
  wpAny_Return_some (h.run I (fun v s1 d h1 k1 r1 I1 => ⟨.ret d, σ, ow, h1, I1, k1.mod _, own_refl, r1⟩) fun _ _ e => e.pre0 (KP.refl _ _ _))
theorem ex_continue {pos : Pos} (h : Ψ .cont σ) : EX C σ (exec (.Continue pos) C.env) Ψ Ξ := fun ow fx s I => wpAny_Continue ⟨.cont, σ, ow, h, I, KP.refl _ _ _, own_refl, trivial⟩
theorem ex_assign {x : Str} {np pos : Pos} {value : Expr} (hx : StoreOk C x) (h : EV C σ (eval value C.env) (fun d => Ψ .next ((x, .dat d) :: σ)) Ξ)
    (hs : swapsWith value (some (.Name x np)) pos.line C.env = pure false := by rfl) : EX C σ (exec (.Assign [.Name x np] value pos) C.env) Ψ Ξ := fun ow fx s I => by
  refine wpAny_Assign_Name (h.run I (fun v s1 d h1 k1 r1 I1 => ?_) fun _ _ e => e.pre0 (KP.refl _ _ _)) hs
  exact store_any (lv := .dat d) hx I1 r1 fun s2 I2 k2 => ⟨.next, _, ow, h1, I2, (k1.mod _).trans (k2.mono fun b hb => List.mem_append.mpr (.inl hb)), own_refl, trivial⟩
theorem ex_if {t : Expr} {body orelse : List Stmt} {pos : Pos} (h : EVB C σ (isTrue t C.env (eval t C.env)) (fun b => (b = true → EX C σ (execs body C.env) Ψ Ξ) ∧ (b = false → EX C σ (execs orelse C.env) Ψ Ξ)) Ξ) :
    EX C σ (exec (.If t body orelse pos) C.env) Ψ Ξ := fun ow fx s I => by
  refine wpAny_If (h.run I (fun b s1 hb k1 I1 => ?_) fun _ _ e => e.pre0 (KP.refl _ _ _))
  cases b with
  | true => exact wpAny_mono (hb.1 rfl ow fx s1 I1) (fun _ _ q => q.pre (k1.mod _) own_refl) fun _ _ q => q.seq (k1.mod _) own_refl
  | false => exact wpAny_mono (hb.2 rfl ow fx s1 I1) (fun _ _ q => q.pre (k1.mod _) own_refl) fun _ _ q => q.seq (k1.mod _) own_refl
theorem ex_assert {t : Expr} {m : Option Expr} {pos : Pos} (h : EVB C σ (isTrue t C.env (eval t C.env)) (fun b => b = true ∧ Ψ .next σ) Ξ) : EX C σ (exec (.Assert t m pos) C.env) Ψ Ξ := fun ow fx s I => by
  rw [arm_exec_Assert]
  refine wpAny_bind (wpAny_standAt (wpAny_bind (h.run I (fun b s1 hb k1 I1 => ?_) fun _ _ e => e.pre0 (KP.refl _ _ _))))
  obtain ⟨rfl, hb⟩ := hb
  exact wpAny_pure ⟨.next, σ, ow, hb, I1, k1.mod _, own_refl, trivial⟩
end

end Mine

/-! Fw7 -/
namespace Mine
open PySem PySem.W PySem.Calls PyProof.Rows

section
variable {C : Cx} {σ : St} {ow : List (Str × Addr)} {fx ex : List Addr} {s s' : Shared} {Ξ : XD → Prop} {Ψ : Fl → St → Prop} {Φ : D → Prop}

/-! ## own lists -/
theorem mem_ex {b : Addr} : b ∈ C.ex ow fx ↔ b ∈ C.sys ∨ b ∈ ow.map (·.2) ∨ b ∈ fx := by simp [Cx.ex]

theorem LVok.mono {h h' : Heap} {ow ow' : List (Str × Addr)} {fx fx' : List Addr} {x : Str} {v : Value} {lv : LV} (hk : ∀ b o, b ∉ C.ex ow fx → h.get? b = some o → h'.get? b = some o)
    (he : ∀ b o, b ∉ C.ex ow fx → h.get? b = some o → b ∉ C.ex ow' fx') (hw : ∀ a, (x, a) ∈ ow → (x, a) ∈ ow' ∧ ∀ o, h.get? a = some o → h'.get? a = some o) (r : LVok C h ow fx x v lv) : LVok C h' ow' fx' x v lv := by
  cases lv with
  | dat d => exact Rep.mono hk he r
  | own d => obtain ⟨a, e, hm, ho⟩ := r; exact ⟨a, e, (hw a hm).1, ownAt_mono hk he (hw a hm).2 ho⟩

/-- a fresh object becomes an own one -/
theorem Inv.addOwn (I : Inv C σ ow fx s) (x : Str) (o : Obj) (hf : o.isFreed = false) (hloc : C.env.kindOf x = some .local) : Inv C σ ((x, s.heap.objs.size) :: ow) fx { s with heap := s.heap.push o } := by
  have fr := I.gd.fresh
  have kp : KP C.fr [] s { s with heap := s.heap.push o } := KP.push o
  have I' := I.kp kp
  have hn : C.g.base.get? s.heap.objs.size = none := I.base.fresh
  rw [mem_ex, not_or, not_or] at fr
  refine ⟨I'.base, I'.frames, I'.frx, fun b hb => ?_, ?_, fun p hp => ?_, fun p hp => ?_, I'.sysf, I'.ns, I'.cel, fun y lv hy => ?_⟩
  · rw [mem_ex, List.map_cons, List.mem_cons] at hb
    rcases hb with q | (q | q) | q
    · exact I'.al b (mem_ex.mpr (.inl q))
    · subst q; exact ⟨o, Heap.get?_push_size _ hf⟩
    · exact I'.al b (mem_ex.mpr (.inr (.inl q)))
    · exact I'.al b (mem_ex.mpr (.inr (.inr q)))
  · rw [List.map_cons]; exact List.nodup_cons.mpr ⟨fr.2.1, I.owd⟩
  · rcases List.mem_cons.mp hp with rfl | hp
    · exact ⟨fr.1, fr.2.2, hn⟩
    · exact I.owf p hp
  · rcases List.mem_cons.mp hp with rfl | hp
    · exact hloc
    · exact I.owl p hp
  · obtain ⟨v, h1, h2⟩ := I.vars y lv hy
    refine ⟨v, slotVal_kp kp h1, LVok.mono (fun b o _ e => Heap.get?_push_of_some _ e) (fun b o hb e q => ?_) (fun a ha => ⟨.tail _ ha, fun o e => Heap.get?_push_of_some _ e⟩) h2⟩
    rw [mem_ex, List.map_cons, List.mem_cons] at q
    rcases q with q | (q | q) | q
    · exact hb (mem_ex.mpr (.inl q))
    · subst q; exact absurd (Heap.lt_size e) (Nat.lt_irrefl _)
    · exact hb (mem_ex.mpr (.inr (.inl q)))
    · exact hb (mem_ex.mpr (.inr (.inr q)))

/-- an own object is changed -/
theorem Inv.updOwn {x : Str} {a : Addr} {d d' : D} {h' : Heap} {tk : Nat} (I : Inv C σ ow fx s) (hx : σ.lookup x = some (.own d)) (hv : slotVal C.env s.heap x (.ref a)) (hm : (x, a) ∈ ow) (hs : Heap.SameBut a s.heap h')
    (hd' : OwnAt C.g.P h' (C.ex ow fx) a d') (hal : ∃ o, h'.get? a = some o) : Inv C ((x, .own d') :: σ) ow fx { s with heap := h', toks := tk } ∧ KP C.fr (C.mu ow) s { s with heap := h', toks := tk } := by
  obtain ⟨hs1, hs2, hs3⟩ := I.owf _ hm
  have hmu : a ∈ C.mu ow := List.mem_append.mpr (.inr (List.mem_map_of_mem hm))
  have keep : ∀ b o, b ≠ a → s.heap.get? b = some o → h'.get? b = some o := fun b o hb e => (hs.2 b hb).trans e
  have nex : ∀ b, b ∉ C.ex ow fx → b ≠ a := fun b hb q => hb (q ▸ mem_ex_ow hm)
  have hLa : C.env.locals ≠ a := fun q => hs1 (q ▸ C.locs)
  refine ⟨⟨fun b o e => keep b o (fun q => by rw [q, hs3] at e; cases e) (I.base b o e), ?_, I.frx, fun b hb => ?_, I.owd, I.owf, I.owl, I.sysf, ?_, fun n c hc => ?_, fun y lv hy => ?_⟩, KP.but hmu hs hal⟩
  · refine frames_but I.frames fun env he => ?_
    intro q
    rcases List.mem_append.mp (I.frx a (List.mem_filterMap.mpr ⟨env, he, q⟩)) with z | z
    · exact hs1 z
    · exact hs2 z
  · obtain ⟨o, e⟩ := I.al b hb
    by_cases q : b = a
    · subst q; exact hal
    · exact ⟨o, keep b o q e⟩
  · obtain ⟨m, hn⟩ := I.ns; exact ⟨m, hn.sameBut hs hLa⟩
  · obtain ⟨v, hv⟩ := I.cel n c hc
    exact ⟨v, hv.sameBut hs (cell_ne n c hc)⟩
  · have slot : ∀ y v, slotVal C.env s.heap y v → slotVal C.env h' y v := fun y v h1 => by
      unfold slotVal at h1 ⊢
      split
      · rename_i q; rw [q] at h1; obtain ⟨m₁, a1, a2⟩ := h1
        exact ⟨m₁, a1.sameBut hs hLa, a2⟩
      · rename_i q; rw [q] at h1; obtain ⟨c₁, a1, a2⟩ := h1
        exact ⟨c₁, a1, a2.sameBut hs (cell_ne y c₁ (mem_of_lookup a1))⟩
      · rename_i q; rw [q] at h1; obtain ⟨c₁, a1, a2⟩ := h1
        exact ⟨c₁, a1, a2.sameBut hs (cell_ne y c₁ (mem_of_lookup a1))⟩
      · rename_i q1 q2 q3
        split at h1
        · rename_i q; exact absurd q q1
        · rename_i q; exact absurd q q2
        · rename_i q; exact absurd q q3
        · exact h1
    by_cases hyx : y = x
    · subst hyx
      rw [lookup_cons_eq] at hy; cases hy
      exact ⟨.ref a, slot _ _ hv, a, rfl, hm, hd'⟩
    · rw [lookup_cons_ne hyx] at hy
      obtain ⟨v, h1, h2⟩ := I.vars y lv hy
      refine ⟨v, slot y v h1, LVok.mono (fun b o hb e => keep b o (nex b hb) e) (fun _ _ h _ => h) (fun a' ha' => ⟨ha', fun o e => keep a' o (fun q => ?_) e⟩) h2⟩
      subst q
      exact hyx (own_inj I.owd ha' hm)
where
  frames_but {l : List Env} (h : s.heap.FunFrames C.g.base l) (hn : ∀ env ∈ l, env.frame ≠ some a) : h'.FunFrames C.g.base l := by
    induction l with
    | nil => trivial
    | cons env rest ih =>
      obtain ⟨h1, ⟨L, o, hf, hb, ho, hd⟩, hr⟩ := h
      exact ⟨h1, ⟨L, o, hf, hb, (hs.2 L fun q => hn env (.head _) (q ▸ hf)).trans ho, hd⟩, ih hr fun e he => hn e (.tail _ he)⟩
  cell_ne (n : Str) (c : Addr) (hc : (n, c) ∈ C.env.cells) : c ≠ a := by
    obtain ⟨v, o, ho, hdt⟩ := I.cel n c hc
    rintro rfl
    obtain ⟨v', h1, a', e, hm', ho'⟩ := I.vars x _ hx
    have hva : v' = .ref c := slot_fun h1 hv
    cases hva.symm.trans e
    cases d with
    | lst ds => obtain ⟨vs, ⟨n, e1⟩, _⟩ := ho'; rw [ho] at e1; cases e1; cases hdt
    | dct es => obtain ⟨o1, l1, n1, e1, _, e2, _⟩ := ho'; rw [ho] at e1; cases e1; rw [hdt] at e2; cases e2
    | _ => exact ho'
  slot_fun {env : Env} {h : Heap} {x : Str} {v v' : Value} (h1 : slotVal env h x v) (h2 : slotVal env h x v') : v = v' := by
    unfold slotVal at h1 h2
    split at h1
    · rename_i q; rw [q] at h2
      obtain ⟨m, a1, a2⟩ := h1; obtain ⟨m', b1, b2⟩ := h2
      have := a1.agree b1 x; rw [a2, b2] at this; exact Option.some.inj this
    · rename_i q; rw [q] at h2
      obtain ⟨c, a1, o, a2, a3⟩ := h1; obtain ⟨c', b1, o', b2, b3⟩ := h2
      rw [a1] at b1; cases b1; rw [a2] at b2; cases b2; rw [a3] at b3; cases b3; rfl
    · rename_i q; rw [q] at h2
      obtain ⟨c, a1, o, a2, a3⟩ := h1; obtain ⟨c', b1, o', b2, b3⟩ := h2
      rw [a1] at b1; cases b1; rw [a2] at b2; cases b2; rw [a3] at b3; cases b3; rfl
    · exact h1.elim
  own_inj {l : List (Str × Addr)} (hn : (l.map (·.2)).Nodup) {x y : Str} {a : Addr} (h1 : (x, a) ∈ l) (h2 : (y, a) ∈ l) : x = y := by
    induction l with
    | nil => cases h1
    | cons p l ih =>
      rw [List.map_cons, List.nodup_cons] at hn
      rcases List.mem_cons.mp h1 with e1 | q1 <;> rcases List.mem_cons.mp h2 with e2 | q2
      · rw [← e1] at e2; exact (Prod.mk.inj e2).1.symm
      · subst e1; exact absurd (List.mem_map_of_mem (f := (·.2)) q2) hn.1
      · subst e2; exact absurd (List.mem_map_of_mem (f := (·.2)) q1) hn.1
      · exact ih hn.2 q1 q2

/-- an own object is own no more -/
theorem Inv.freeze {x : Str} {d : D} (I : Inv C σ ow fx s) (hx : σ.lookup x = some (.own d)) : ∃ ow', Inv C ((x, .dat d) :: σ) ow' fx s ∧ ∀ p ∈ ow', p ∈ ow := by
  obtain ⟨v, h1, a, rfl, hm, ho⟩ := I.vars x _ hx
  have sub : ∀ p ∈ ow.filter (fun p => decide (p.2 ≠ a)), p ∈ ow ∧ p.2 ≠ a := fun p hp => by simpa using List.mem_filter.mp hp
  have subm : ∀ b ∈ C.ex (ow.filter (fun p => decide (p.2 ≠ a))) fx, b ∈ C.ex ow fx ∧ b ≠ a := fun b hb => by
    rw [mem_ex] at hb ⊢
    rcases hb with q | q | q
    · exact ⟨.inl q, fun z => (I.owf _ hm).1 (z ▸ q)⟩
    · obtain ⟨p, hp, rfl⟩ := List.mem_map.mp q
      exact ⟨.inr (.inl (List.mem_map_of_mem (sub p hp).1)), (sub p hp).2⟩
    · exact ⟨.inr (.inr q), fun z => (I.owf _ hm).2.1 (z ▸ q)⟩
  refine ⟨_, ⟨I.base, I.frames, I.frx, fun b hb => I.al b (subm b hb).1, ?_, fun p hp => I.owf p (sub p hp).1, fun p hp => I.owl p (sub p hp).1, I.sysf, I.ns, I.cel, fun y lv hy => ?_⟩, fun p hp => (sub p hp).1⟩
  · exact I.owd.sublist (List.Sublist.map _ List.filter_sublist)
  · have he : ∀ b (o : Obj), b ∉ C.ex ow fx → s.heap.get? b = some o → b ∉ C.ex (ow.filter (fun p => decide (p.2 ≠ a))) fx := fun b o hb _ q => hb (subm b q).1
    have hna : a ∉ C.ex (ow.filter (fun p => decide (p.2 ≠ a))) fx := fun q => (subm a q).2 rfl
    by_cases hyx : y = x
    · subst hyx
      rw [lookup_cons_eq] at hy; cases hy
      refine ⟨_, h1, ?_⟩
      cases d with
      | lst ds => obtain ⟨vs, h2, h3⟩ := ho; exact .lst hna h2.isList (h3.mono (fun _ _ _ e => e) he)
      | dct es => exact .dct hna ho
      | _ => exact ho.elim
    · rw [lookup_cons_ne hyx] at hy
      obtain ⟨u, k1, k2⟩ := I.vars y lv hy
      refine ⟨u, k1, LVok.mono (fun _ _ _ e => e) he (fun a' ha' => ⟨List.mem_filter.mpr ⟨ha', ?_⟩, fun o e => e⟩) k2⟩
      have : a' ≠ a := fun q => hyx (Inv.updOwn.own_inj I.owd (q ▸ ha') hm)
      simpa using this

theorem ex_freeze {x : Str} {d : D} {t : Sem Flow} (hx : σ.lookup x = some (.own d)) (h : EX C ((x, .dat d) :: σ) t Ψ Ξ) : EX C σ t Ψ Ξ := fun ow fx s I => by
  obtain ⟨ow', I', hs⟩ := I.freeze hx
  have hw : ∀ p ∈ ow', p.2 ∈ ow.map (·.2) ∨ s.heap.get? p.2 = none := fun p hp => .inl (List.mem_map_of_mem (hs p hp))
  exact wpAny_mono (h ow' fx s I') (fun f s' q => q.pre (KP.refl _ _ _) hw) fun e s' q => q.seq (KP.refl _ _ _) hw
theorem evb_peek {x : Str} {d : D} {t : Sem Bool} {Θ : Bool → Prop} (hx : σ.lookup x = some (.own d)) (h : EVB C ((x, .dat d) :: σ) t Θ Ξ) : EVB C σ t Θ Ξ := fun ow fx s I => by
  obtain ⟨ow', I', hs⟩ := I.freeze hx
  exact h ow' fx s I'

theorem ex_own_list {x : Str} {np lp pos : Pos} (hx : C.env.kindOf x = some .local) (h : Ψ .next ((x, .own (.lst [])) :: σ)) : EX C σ (exec (.Assign [.Name x np] (.List [] lp) pos) C.env) Ψ Ξ := fun ow fx s I => by
  refine wpAny_Assign_Name (List_ (spliced_nil (wpAny_newObj_type ?_))) rfl
  have I1 := I.addOwn x { cls := .type "list", data := .seq ([] : List Value).toArray } rfl hx
  refine store_any (lv := .own (.lst [])) (.inl hx) I1 ⟨_, rfl, .head _, [], ⟨_, Heap.get?_push_size _ rfl⟩, .nil⟩ fun s2 I2 k2 => ⟨.next, _, _, h, I2, ?_, fun p hp => ?_, trivial⟩
  · exact (KP.push _).trans (k2.mono fun b hb => List.mem_append.mpr (.inl hb))
  · rcases List.mem_cons.mp hp with rfl | hp
    · exact .inr (Heap.get?_none_of_le (Nat.le_refl _))
    · exact .inl (List.mem_map_of_mem hp)

theorem ex_append {x : Str} {np ap cp pos : Pos} {e : Expr} {ds : List D} (hx : σ.lookup x = some (.own (.lst ds))) (hsz : ds.length ≤ sizeLine)
    (h : EV C σ (eval e C.env) (fun d => Ψ .next ((x, .own (.lst (ds ++ [d]))) :: σ)) Ξ)
    (hd : (x == ("__debug__" : Str)) = false := by decide) (hn : (x == ("__classdict__" : Str)) = false := by decide)
    (hbase : attributeBase (.Name x np) "append" C.env (eval (.Name x np) C.env) = eval (.Name x np) C.env := by rfl)
    (hfew : ((backTo cp (starEach [e] C.env)).all (fun x => !x.1) && (backToKw cp (keywordEach [] C.env)).all (fun x => x.1.isSome)
      && decide (([e] : List Expr).length + ([] : List Keyword).length + (if ([] : List Keyword).isEmpty then 0 else 1) < 30)) = true := by rfl)
    (hline : (ap.endLine == cp.line) = true := by rfl) (htrees : backTo cp (starEach [e] C.env) = [(false, eval e C.env)] := by rfl)
    (hi : interactive C.env = false) :
    EX C σ (exec (.Expr (.Call (.Attribute (.Name x np) "append" ap) [e] [] cp) pos) C.env) Ψ Ξ := fun ow fx s I => by
  obtain ⟨v, h1, a, rfl, hm, vs, hp, hr⟩ := I.vars x _ hx
  refine wpAny_Expr_any (wpAny_Call_append hbase hfew hline htrees ?_) hi rfl
  refine wpAny_Name (load_slot C.kf h1 hn ?_) hd
  refine ⟨a, vs.toArray, rfl, (by obtain ⟨n, q⟩ := hp; exact ⟨_, n, q, rfl, rfl, rfl⟩), ?_⟩
  refine h.run I (fun w s1 d h2 k1 r1 I1 => ?_) fun _ _ e => e.pre0 (KP.refl _ _ _)
  obtain ⟨v', h1', a', e', hm', vs', hp', hr'⟩ := I1.vars x _ hx
  have hva := Inv.updOwn.slot_fun h1' (slotVal_kp k1 h1)
  cases hva.symm.trans e'
  have hl : vs'.toArray.size ≤ sizeLine := by rw [List.size_toArray, hr'.length]; exact hsz
  refine wpAny_list_append_plain (hsz := hl) hp' fun h' hp'' hs => ?_
  have hne : ∀ b o, b ∉ C.ex ow fx → s1.heap.get? b = some o → h'.get? b = some o := fun b o hb e => (hs.2 b fun q => hb (q ▸ mem_ex_ow hm')).trans e
  obtain ⟨I2, k2⟩ := I1.updOwn (tk := s1.toks) hx (slotVal_kp k1 h1) hm' hs (d' := .lst (ds ++ [d])) ⟨vs' ++ [w], by simpa using hp'', (hr'.mono hne fun _ _ h _ => h).append (.cons (r1.mono hne fun _ _ h _ => h) .nil)⟩ (by obtain ⟨n, q⟩ := hp''; exact ⟨_, q⟩)
  exact ⟨.next, _, ow, h2, I2, (k1.mod _).trans k2, own_refl, trivial⟩
end

end Mine

/-! Fw8 -/
namespace Mine
open PySem PySem.W PySem.Calls PyProof.Rows

/-- an iterator I, changing wr alone, that yields items to the target -/
structure It (C : Cx) (target : Expr) (I : Addr) (wr : List Addr) (items : List D) (St : List Addr → Nat → Heap → Prop) (Mid : List Addr → Nat → Value → Heap → Prop) : Prop where
  iwr : I ∈ wr
  frame : ∀ ex ex' i h h', St ex i h → (∀ b o, (b ∈ wr ∨ b ∉ ex) → h.get? b = some o → h'.get? b = some o) → (∀ b o, b ∉ ex → h.get? b = some o → b ∉ ex') → St ex' i h'
  item : ∀ ex i s d (Q : Option Value → Shared → Prop) (E : Value → Shared → Prop), items[i]? = some d → Gd C ex s → (∀ b ∈ wr, b ∈ ex) → St ex i s.heap →
    (∀ v h' tk, Rep C.g.P h' ex v d → Mid ex i v h' → (∀ b o, b ∉ wr → s.heap.get? b = some o → h'.get? b = some o) → (∀ b ∈ wr, ∃ o, h'.get? b = some o) → Q (some v) { s with heap := h', toks := tk }) →
    wpAny C.g.M C.A (pyNext (.ref I)) Q E s
  done : ∀ ex s (Q : Option Value → Shared → Prop) (E : Value → Shared → Prop), Gd C ex s → (∀ b ∈ wr, b ∈ ex) → St ex items.length s.heap →
    (∀ h' tk, (∀ b o, b ∉ wr → s.heap.get? b = some o → h'.get? b = some o) → Q none { s with heap := h', toks := tk }) → wpAny C.g.M C.A (pyNext (.ref I)) Q E s
  self : ∀ ex i s (Q : Value → Shared → Prop) (E : Value → Shared → Prop), St ex i s.heap → Q (.ref I) s → wpAny C.g.M C.A (pyIter (.ref I)) Q E s
  own : ∀ ex i s v (Q : Unit → Shared → Prop) (E : Value → Shared → Prop), Mid ex i v s.heap → (∀ b ∈ wr, b ∈ ex) → (∀ b ∈ wr, ∃ o, s.heap.get? b = some o) →
    (∀ h', St ex (i + 1) h' → (∀ b o, b ∉ wr → s.heap.get? b = some o → h'.get? b = some o) → (∀ b ∈ wr, ∃ o, h'.get? b = some o) → Q () { s with heap := h' }) → wpAny C.g.M C.A (letOwnedTupleGo target (.ref I) v) Q E s

/-- the iterator that a loop's head makes -/
noncomputable def IQ (C : Cx) (target : Expr) (ow : List (Str × Addr)) (fx : List Addr) (s : Shared) (Φ : List D → Prop) (it : Value) (s₂ : Shared) : Prop :=
  ∃ I wr items St Mid, Φ items ∧ it = .ref I ∧ (∀ b ∈ wr, s.heap.get? b = none) ∧ (∀ b ∈ wr, ∃ o, s₂.heap.get? b = some o) ∧ It C target I wr items St Mid ∧ St (C.ex ow (wr ++ fx)) 0 s₂.heap ∧ KP C.fr [] s s₂

noncomputable def EVI (C : Cx) (σ : St) (target : Expr) (t : Sem Value) (Φ : List D → Prop) (Ξ : XD → Prop) : Prop :=
  ∀ ow fx s, Inv C σ ow fx s → wpAny C.g.M C.A t (fun x s₁ => wpAny C.g.M C.A (pyIter x) (IQ C target ow fx s Φ) (XQ C.fr [] s Ξ) s₁) (XQ C.fr [] s Ξ) s

/-- assigning a value that bears d to a target -/
noncomputable def ASG (C : Cx) (σ : St) (target : Expr) (d : D) (K : St → Prop) (Ξ : XD → Prop) : Prop :=
  ∀ ow fx s v, Inv C σ ow fx s → Rep C.g.P s.heap (C.ex ow fx) v d →
    wpAny C.g.M C.A (assign target C.env v) (fun _ s' => ∃ σ', K σ' ∧ Inv C σ' ow fx s' ∧ KP C.fr C.sys s s') (XQ C.fr [] s Ξ) s

section
variable {C : Cx} {σ : St} {ow : List (Str × Addr)} {fx ex : List Addr} {s s' : Shared} {Ξ : XD → Prop} {Ψ : Fl → St → Prop} {Φ : D → Prop} {K : St → Prop}

theorem asg_name {x : Str} {pos : Pos} {d : D} (hx : StoreOk C x) (h : K ((x, .dat d) :: σ)) : ASG C σ (.Name x pos) d K Ξ := fun ow fx s v I r =>
  wpAny_assign_Name (store_any (lv := .dat d) hx I r fun s' I' k => ⟨_, h, I', k⟩)

theorem asg_tup2 {x y : Str} {px py pos : Pos} {n : Nat} {a b : D} (hx : StoreOk C x) (hy : StoreOk C y) (h : K ((y, .dat b) :: (x, .dat a) :: σ)) :
    ASG C σ (.Tuple [.Name x px, .Name y py] n pos) (.tup [a, b]) K Ξ := fun ow fx s v I r => by
  obtain ⟨_, _, rfl, ha, ht, hr⟩ := r.inv
  rename_i t vs
  have hl := hr.length
  obtain ⟨v1, v2, rfl⟩ : ∃ v1 v2, vs = [v1, v2] := list_two hl
  show wpAny _ _ (do standAt pos; unpack (.ref t) [(false, assign (.Name x px) C.env), (false, assign (.Name y py) C.env)]) _ _ _
  refine wpAny_bind (wpAny_standAt (unpack_tuple C.hh ht rfl rfl fun h' hk => ?_))
  have kp : KP C.fr [] s { s with heap := h' } := KP.of_heap fun b o e => hk b o (Nat.ne_of_lt (Heap.lt_size e)) e
  have I1 := I.kp kp
  have hr' := hr.kp kp I.gd.frx (by simp)
  obtain ⟨r1, r2⟩ := hr'.two
  show wpAny _ _ (do holding [v2] (assign (.Name x px) C.env v1); (do holding [] (assign (.Name y py) C.env v2); pure ())) _ _ _
  refine wpAny_bind (wpAny_holding (wpAny_assign_Name (store_any (lv := .dat a) hx I1 r1 fun s2 I2 k2 => ?_)))
  have r2' := r2.kp k2 I.gd.frx fun b hb => mem_ex_sys hb
  refine wpAny_bind (wpAny_holding (wpAny_assign_Name (store_any (lv := .dat b) hy I2 r2' fun s3 I3 k3 => wpAny_pure ?_)))
  exact ⟨_, h, I3, ((kp.mod _).trans k2).trans k3⟩

theorem Inv.addFx {wr : List Addr} {s₂ : Shared} (I : Inv C σ ow fx s) (k : KP C.fr [] s s₂) (hn : ∀ b ∈ wr, s.heap.get? b = none) (ha : ∀ b ∈ wr, ∃ o, s₂.heap.get? b = some o) : Inv C σ ow (wr ++ fx) s₂ := by
  have I2 := I.kp k
  have nw : ∀ b o, s.heap.get? b = some o → b ∉ wr := fun b o e q => by rw [hn b q] at e; cases e
  have he : ∀ b o, b ∉ C.ex ow fx → s.heap.get? b = some o → b ∉ C.ex ow (wr ++ fx) := fun b o hb e q => by
    rw [mem_ex] at q
    rcases q with q | q | q
    · exact hb (mem_ex.mpr (.inl q))
    · exact hb (mem_ex.mpr (.inr (.inl q)))
    · rcases List.mem_append.mp q with q | q
      · exact nw b o e q
      · exact hb (mem_ex.mpr (.inr (.inr q)))
  have hk : ∀ b o, b ∉ C.ex ow fx → s.heap.get? b = some o → s₂.heap.get? b = some o := fun b o hb e => k.ex b o (by simp) (fun z => hb (I.gd.frx b z)) e
  refine ⟨I2.base, I2.frames, fun b hb => ?_, fun b hb => ?_, I.owd, fun p hp => ?_, I.owl, fun a ha' => ?_, I2.ns, I2.cel, fun x lv hx => ?_⟩
  · rcases List.mem_append.mp (I.frx b hb) with q | q
    · exact List.mem_append.mpr (.inl q)
    · exact List.mem_append.mpr (.inr (List.mem_append.mpr (.inr q)))
  · rw [mem_ex] at hb
    rcases hb with q | q | q
    · exact I2.al b (mem_ex.mpr (.inl q))
    · exact I2.al b (mem_ex.mpr (.inr (.inl q)))
    · rcases List.mem_append.mp q with q | q
      · exact ha b q
      · exact I2.al b (mem_ex.mpr (.inr (.inr q)))
  · obtain ⟨h1, h2, h3⟩ := I.owf p hp
    refine ⟨h1, fun q => ?_, h3⟩
    obtain ⟨o, e⟩ := I.al p.2 (mem_ex_ow hp)
    rcases List.mem_append.mp q with q | q
    · exact nw _ o e q
    · exact h2 q
  · obtain ⟨h1, h2⟩ := I.sysf a ha'
    refine ⟨fun q => ?_, h2⟩
    obtain ⟨o, e⟩ := I.al a (mem_ex_sys ha')
    rcases List.mem_append.mp q with q | q
    · exact nw _ o e q
    · exact h1 q
  · obtain ⟨v, h1, h2⟩ := I.vars x lv hx
    refine ⟨v, slotVal_kp k h1, LVok.mono hk he (fun a ha' => ⟨ha', fun o e => k.ex a o (by simp) (fun z => ?_) e⟩) h2⟩
    obtain ⟨q1, q2, _⟩ := I.owf _ ha'
    rcases List.mem_append.mp (I.frx a z) with y | y
    · exact q1 y
    · exact q2 y

theorem Inv.dropFx {wr : List Addr} (I : Inv C σ ow (wr ++ fx) s) (hf : ∀ b ∈ FRA C.fr, b ∈ C.sys ++ fx) : Inv C σ ow fx s := by
  have sub : ∀ b ∈ C.ex ow fx, b ∈ C.ex ow (wr ++ fx) := fun b hb => by
    rw [mem_ex] at hb ⊢
    exact hb.elim .inl fun q => .inr (q.elim .inl fun q => .inr (List.mem_append.mpr (.inr q)))
  refine ⟨I.base, I.frames, hf, fun b hb => I.al b (sub b hb), I.owd, fun p hp => ?_, I.owl, fun a ha => ?_, I.ns, I.cel, fun x lv hx => ?_⟩
  · obtain ⟨h1, h2, h3⟩ := I.owf p hp; exact ⟨h1, fun q => h2 (List.mem_append.mpr (.inr q)), h3⟩
  · obtain ⟨h1, h2⟩ := I.sysf a ha; exact ⟨fun q => h1 (List.mem_append.mpr (.inr q)), h2⟩
  · obtain ⟨v, h1, h2⟩ := I.vars x lv hx
    exact ⟨v, h1, LVok.mono (fun _ _ _ e => e) (fun b o hb _ q => hb (sub b q)) (fun a ha => ⟨ha, fun o e => e⟩) h2⟩

/-- what a step of an iterator keeps -/
theorem kp_wr {wr : List Addr} {h' : Heap} {tk : Nat} (hk : ∀ b o, b ∉ wr → s.heap.get? b = some o → h'.get? b = some o) (ha : ∀ b ∈ wr, ∃ o, h'.get? b = some o) : KP C.fr wr s { s with heap := h', toks := tk } :=
  ⟨⟨h', tk, rfl⟩, fun b o h1 _ e => hk b o h1 e, fun b o h1 e => ⟨o.slots, hk b o h1 e⟩, fun b o e => by
    by_cases q : b ∈ wr
    · exact ha b q
    · exact ⟨o, hk b o q e⟩⟩

/-- foreign objects (an iterator, an accumulator) are changed -/
theorem Inv.foreign {wr : List Addr} {h' : Heap} {tk : Nat} (I : Inv C σ ow fx s) (hw : ∀ b ∈ wr, b ∈ fx) (hwb : ∀ b ∈ wr, C.g.base.get? b = none) (hf : ∀ b ∈ FRA C.fr, b ∉ wr) (hcl : ∀ n c, (n, c) ∈ C.env.cells → c ∉ wr)
    (hk : ∀ b o, b ∉ wr → s.heap.get? b = some o → h'.get? b = some o) (ha : ∀ b ∈ wr, ∃ o, h'.get? b = some o) : Inv C σ ow fx { s with heap := h', toks := tk } := by
  have wex : ∀ b ∈ wr, b ∈ C.ex ow fx := fun b hb => mem_ex_fx (hw b hb)
  have nsys : ∀ a ∈ C.sys, a ∉ wr := fun a ha q => (I.sysf a ha).1 (hw a q)
  have slot : ∀ x v, slotVal C.env s.heap x v → slotVal C.env h' x v := fun y v h1 => by
    unfold slotVal at h1 ⊢
    split
    · rename_i q; rw [q] at h1; obtain ⟨m₁, ⟨o, es, ep, ho, r⟩, a2⟩ := h1
      exact ⟨m₁, ⟨o, es, ep, hk _ o (nsys _ C.locs) ho, r⟩, a2⟩
    · rename_i q; rw [q] at h1; obtain ⟨c₁, a1, o, ho, r⟩ := h1
      exact ⟨c₁, a1, o, hk _ o (hcl y c₁ (mem_of_lookup a1)) ho, r⟩
    · rename_i q; rw [q] at h1; obtain ⟨c₁, a1, o, ho, r⟩ := h1
      exact ⟨c₁, a1, o, hk _ o (hcl y c₁ (mem_of_lookup a1)) ho, r⟩
    · rename_i q1 q2 q3
      split at h1
      · rename_i q; exact absurd q q1
      · rename_i q; exact absurd q q2
      · rename_i q; exact absurd q q3
      · exact h1
  refine ⟨fun b o e => hk b o (fun q => by rw [hwb b q] at e; cases e) (I.base b o e), frames_ch I.frames fun env he L hL q => hf L (List.mem_filterMap.mpr ⟨env, he, hL⟩) q, I.frx, fun b hb => ?_, I.owd, I.owf, I.owl, I.sysf, ?_, fun n c hc => ?_, fun x lv hx => ?_⟩
  · obtain ⟨o, e⟩ := I.al b hb
    by_cases q : b ∈ wr
    · exact ha b q
    · exact ⟨o, hk b o q e⟩
  · obtain ⟨m, o, es, ep, ho, r⟩ := I.ns; exact ⟨m, o, es, ep, hk _ o (nsys _ C.locs) ho, r⟩
  · obtain ⟨v, o, ho, r⟩ := I.cel n c hc; exact ⟨v, o, hk _ o (hcl n c hc) ho, r⟩
  · obtain ⟨v, h1, h2⟩ := I.vars x lv hx
    exact ⟨v, slot x v h1, LVok.mono (fun b o hb e => hk b o (fun q => hb (wex b q)) e) (fun _ _ h _ => h) (fun a ha' => ⟨ha', fun o e => hk a o (fun q => (I.owf _ ha').2.1 (hw a q)) e⟩) h2⟩
where
  frames_ch {l : List Env} (h : s.heap.FunFrames C.g.base l) (hn : ∀ env ∈ l, ∀ L, env.frame = some L → L ∉ wr) : h'.FunFrames C.g.base l := by
    induction l with
    | nil => trivial
    | cons env rest ih =>
      obtain ⟨h1, ⟨L, o, hf, hb, ho, hd⟩, hr⟩ := h
      exact ⟨h1, ⟨L, o, hf, hb, hk L o (hn env (.head _) L hf) ho, hd⟩, ih hr fun e he => hn e (.tail _ he)⟩

/-- foreign objects are changed or lost, and known no more -/
theorem Inv.lose {wr : List Addr} {h' : Heap} {tk : Nat} (I : Inv C σ ow (wr ++ fx) s) (hwb : ∀ b ∈ wr, C.g.base.get? b = none) (hf : ∀ b ∈ FRA C.fr, b ∉ wr) (hcl : ∀ n c, (n, c) ∈ C.env.cells → c ∉ wr) (hfx : ∀ b ∈ fx, b ∉ wr)
    (hk : ∀ b o, b ∉ wr → s.heap.get? b = some o → h'.get? b = some o) : Inv C σ ow fx { s with heap := h', toks := tk } := by
  have I0 := I.dropFx fun b hb => by
    rcases List.mem_append.mp (I.frx b hb) with q | q
    · exact List.mem_append.mpr (.inl q)
    · rcases List.mem_append.mp q with q | q
      · exact absurd q (hf b hb)
      · exact List.mem_append.mpr (.inr q)
  have nsys : ∀ a ∈ C.sys, a ∉ wr := fun a ha q => (I.sysf a ha).1 (List.mem_append.mpr (.inl q))
  have now : ∀ p ∈ ow, p.2 ∉ wr := fun p hp q => (I.owf p hp).2.1 (List.mem_append.mpr (.inl q))
  have nex : ∀ b ∈ C.ex ow fx, b ∉ wr := fun b hb q => by
    rw [mem_ex] at hb
    rcases hb with z | z | z
    · exact nsys b z q
    · obtain ⟨p, hp, rfl⟩ := List.mem_map.mp z; exact now p hp q
    · exact hfx b z q
  have sub : ∀ b ∈ C.ex ow fx, b ∈ C.ex ow (wr ++ fx) := fun b hb => by
    rw [mem_ex] at hb ⊢
    exact hb.elim .inl fun q => .inr (q.elim .inl fun q => .inr (List.mem_append.mpr (.inr q)))
  have wex : ∀ b ∈ wr, b ∈ C.ex ow (wr ++ fx) := fun b hb => mem_ex_fx (List.mem_append.mpr (.inl hb))
  have slot : ∀ x v, slotVal C.env s.heap x v → slotVal C.env h' x v := fun y v h1 => by
    unfold slotVal at h1 ⊢
    split
    · rename_i q; rw [q] at h1; obtain ⟨m₁, ⟨o, es, ep, ho, r⟩, a2⟩ := h1
      exact ⟨m₁, ⟨o, es, ep, hk _ o (nsys _ C.locs) ho, r⟩, a2⟩
    · rename_i q; rw [q] at h1; obtain ⟨c₁, a1, o, ho, r⟩ := h1
      exact ⟨c₁, a1, o, hk _ o (hcl y c₁ (mem_of_lookup a1)) ho, r⟩
    · rename_i q; rw [q] at h1; obtain ⟨c₁, a1, o, ho, r⟩ := h1
      exact ⟨c₁, a1, o, hk _ o (hcl y c₁ (mem_of_lookup a1)) ho, r⟩
    · rename_i q1 q2 q3
      split at h1
      · rename_i q; exact absurd q q1
      · rename_i q; exact absurd q q2
      · rename_i q; exact absurd q q3
      · exact h1
  refine ⟨fun b o e => hk b o (fun q => by rw [hwb b q] at e; cases e) (I.base b o e), Inv.foreign.frames_ch hk I.frames fun env he L hL q => hf L (List.mem_filterMap.mpr ⟨env, he, hL⟩) q, I0.frx, fun b hb => ?_, I.owd, I0.owf, I.owl, I0.sysf, ?_, fun n c hc => ?_, fun x lv hx => ?_⟩
  · obtain ⟨o, e⟩ := I0.al b hb; exact ⟨o, hk b o (nex b hb) e⟩
  · obtain ⟨m, o, es, ep, ho, r⟩ := I.ns; exact ⟨m, o, es, ep, hk _ o (nsys _ C.locs) ho, r⟩
  · obtain ⟨v, o, ho, r⟩ := I.cel n c hc; exact ⟨v, o, hk _ o (hcl n c hc) ho, r⟩
  · obtain ⟨v, h1, h2⟩ := I.vars x lv hx
    exact ⟨v, slot x v h1, LVok.mono (fun b o hb e => hk b o (fun q => hb (wex b q)) e) (fun b o hb _ q => hb (sub b q)) (fun a ha' => ⟨ha', fun o e => hk a o (now _ ha') e⟩) h2⟩

/-! ## for -/
/-- one turn's end -/
noncomputable def TurnQ (Ψ : Fl → St → Prop) (J : St → Prop) : Fl → St → Prop
  | .next, σ => J σ
  | .cont, σ => J σ
  | .brk, σ => Ψ .next σ
  | .ret d, σ => Ψ (.ret d) σ

theorem flM_inv {P : Params} {h : Heap} {ex : List Addr} {f : Flow} {fl : Fl} (q : flM P h ex f fl) : (f = .next ∧ fl = .next) ∨ (f = .brk ∧ fl = .brk) ∨ (f = .cont ∧ fl = .cont) ∨ ∃ v d, f = .ret v ∧ fl = .ret d ∧ Rep P h ex v d := by
  cases f <;> cases fl <;> first | exact q.elim | exact .inl ⟨rfl, rfl⟩ | exact .inr (.inl ⟨rfl, rfl⟩) | exact .inr (.inr (.inl ⟨rfl, rfl⟩)) | exact .inr (.inr (.inr ⟨_, _, rfl, rfl, q⟩))
structure ForAt (C : Cx) (fx wr : List Addr) (J : Nat → St → Prop) (Stt : List Addr → Nat → Heap → Prop) (ow : List (Str × Addr)) (s : Shared) (i : Nat) (σ' : St) (ow' : List (Str × Addr)) (s' : Shared) : Prop where
  j : J i σ'
  inv : Inv C σ' ow' (wr ++ fx) s'
  st : Stt (C.ex ow' (wr ++ fx)) i s'.heap
  kp : KP C.fr (C.mu ow ++ wr) s s'
  al : ∀ b ∈ wr, ∃ o, s'.heap.get? b = some o
  own : ∀ p ∈ ow', p.2 ∈ ow.map (·.2) ∨ s.heap.get? p.2 = none
noncomputable def ForI (C : Cx) (fx wr : List Addr) (J : Nat → St → Prop) (Stt : List Addr → Nat → Heap → Prop) (ow : List (Str × Addr)) (s : Shared) (N : Nat) (n : Nat) (s' : Shared) : Prop :=
  ∃ i σ' ow', n = N - i ∧ i ≤ N ∧ ForAt C fx wr J Stt ow s i σ' ow' s'
theorem ex_for {target iter : Expr} {body : List Stmt} {pos : Pos} (hc : C.comp = false)
    (h : EVI C σ target (eval iter C.env) (fun items => ∃ J : Nat → St → Prop, J 0 σ ∧ (∀ i d σ₁, items[i]? = some d → J i σ₁ → ASG C σ₁ target d (fun σ₂ => EX C σ₂ (execs body C.env) (TurnQ Ψ (J (i + 1))) Ξ) Ξ) ∧ ∀ σ₁, J items.length σ₁ → Ψ .next σ₁) Ξ)
    (hs : ∀ x, foldedSetIterable iter C.env x = pure x := by intro _; rfl) : EX C σ (exec (.For target iter body [] pos) C.env) Ψ Ξ := fun ow fx s I => by
  refine wpAny_For (wpAny_mono (h ow fx s I) (fun x s₁ h₁ => wpAny_mono h₁ (fun it s₂ h₂ => ?_) fun _ _ e => e.pre0 (KP.refl _ _ _)) fun _ _ e => e.pre0 (KP.refl _ _ _)) hs
  obtain ⟨I₀, wr, items, Stt, Mid, ⟨J, hJ0, hturn, hend⟩, rfl, hwn, hwa, it, hst, k0⟩ := h₂
  have I2 := I.addFx k0 hwn hwa
  have hfw : ∀ b ∈ FRA C.fr, b ∉ wr := fun b hb q => by
    obtain ⟨o, e⟩ := I.gd.al b (I.gd.frx b hb)
    rw [hwn b q] at e; cases e
  have hbw : ∀ b ∈ wr, C.g.base.get? b = none := fun b hb => by
    cases q : C.g.base.get? b with
    | none => rfl
    | some o => have := I.base b o q; rw [hwn b hb] at this; cases this
  have hclw : ∀ n c, (n, c) ∈ C.env.cells → c ∉ wr := fun n c hm q => (I2.sysf c (C.csys hc n c hm)).1 (List.mem_append.mpr (.inl q))
  have hwfx : ∀ b ∈ wr, b ∈ wr ++ fx := fun b hb => List.mem_append.mpr (.inl hb)
  refine codeAny_forLoop_any (ForI C fx wr J Stt ow s items.length) ?_ items.length ⟨0, σ, ow, rfl, Nat.zero_le _, ⟨hJ0, I2, hst, k0.mod _, hwa, own_refl⟩⟩
  rintro n s' ⟨i, σ', ow', rfl, hi, ⟨hJ, I', hst', k', hwa', how'⟩⟩
  have wex : ∀ b ∈ wr, b ∈ C.ex ow' (wr ++ fx) := fun b hb => mem_ex_fx (hwfx b hb)
  -- from s' back to s: what the turn may have changed is fresh or ours
  have back : ∀ b ∈ C.mu ow' , b ∈ C.mu ow ++ wr ∨ s.heap.get? b = none := fun b hb => (mu_step how' b hb).elim (fun q => .inl (List.mem_append.mpr (.inl q))) .inr
  have fin : ∀ s'' : Shared, KP C.fr (C.mu ow ++ wr) s s'' → KP C.fr (C.mu ow) s s'' := fun s'' k => by
    refine ⟨k.sh, fun b o h1 h2 e => k.ex b o (fun q => ?_) h2 e, fun b o h1 e => k.sl b o (fun q => ?_) e, k.al⟩
    · rcases List.mem_append.mp q with q | q
      · exact h1 q
      · rw [hwn b q] at e; cases e
    · rcases List.mem_append.mp q with q | q
      · exact h1 q
      · rw [hwn b q] at e; cases e
  have exq : ∀ (s₁ s₂ : Shared) (e : Value) (mod : List Addr), KP C.fr (C.mu ow ++ wr) s s₁ → (∀ b ∈ mod, b ∈ C.mu ow ++ wr ∨ s.heap.get? b = none) → XQ C.fr mod s₁ Ξ e s₂ → notedBy C.g.M C.A C.env (cameBackBy C.g.M C.A C.env (XQ C.fr (C.mu ow) s Ξ)) e s₂ := fun s₁ s₂ e mod k hm ⟨x, hx, f⟩ =>
    fly_loop hc ⟨x, hx, (f.pre k hm).pre (KP.refl _ (C.mu ow) _) fun b hb => by
      rcases List.mem_append.mp hb with q | q
      · exact .inl q
      · exact .inr (hwn b q)⟩
  by_cases hlt : i < items.length
  · refine it.item _ i s' items[i] _ _ (by simp [hlt]) I'.gd wex hst' fun v h1 tk1 r1 st1 hk1 ha1 => ?_
    have Ia := I'.foreign (tk := tk1) hwfx hbw hfw hclw hk1 ha1
    have ka : KP C.fr (C.mu ow ++ wr) s { s' with heap := h1, toks := tk1 } := k'.seq (kp_wr (C := C) hk1 ha1) fun b hb => .inl (List.mem_append.mpr (.inr hb))
    refine it.own _ i { s' with heap := h1, toks := tk1 } v _ _ st1 wex ha1 fun h2 st2 hk2 ha2 => ?_
    have Ib := Ia.foreign (tk := tk1) hwfx hbw hfw hclw hk2 ha2
    have kb : KP C.fr (C.mu ow ++ wr) s { s' with heap := h2, toks := tk1 } := ka.seq (kp_wr (C := C) hk2 ha2) fun b hb => .inl (List.mem_append.mpr (.inr hb))
    have rb : Rep C.g.P h2 (C.ex ow' (wr ++ fx)) v items[i] := r1.mono (fun b o hb e => hk2 b o (fun q => hb (wex b q)) e) fun _ _ h _ => h
    refine wpAny_mono (hturn i items[i] σ' (by simp [hlt]) hJ ow' (wr ++ fx) _ v Ib rb) (fun _ s3 q => ?_) fun e s3 q => exq _ _ e [] kb (fun b hb => nomatch hb) q
    obtain ⟨σ₂, hσ₂, Ic, kc⟩ := q
    have kc' : KP C.fr (C.mu ow ++ wr) s s3 := kb.seq kc fun b hb => .inl (List.mem_append.mpr (.inl (List.mem_append.mpr (.inl hb))))
    have stc : Stt (C.ex ow' (wr ++ fx)) (i + 1) s3.heap := it.frame _ _ _ _ _ st2 (fun b o hb e => kc.ex b o (fun q => ?_) (fun q => ?_) e) fun _ _ h _ => h
    · refine wpAny_mono (hσ₂ ow' (wr ++ fx) s3 Ic) (fun f s4 q => ?_) fun e s4 q => exq _ _ e _ kc' back q
      obtain ⟨fl, σ₃, ow₃, h1', h2', h3', h4', h5'⟩ := q
      have kd : KP C.fr (C.mu ow ++ wr) s s4 := kc'.seq h3' back
      have how₃ : ∀ p ∈ ow₃, p.2 ∈ ow.map (·.2) ∨ s.heap.get? p.2 = none := fun p hp => by
        rcases h4' p hp with q | q
        · obtain ⟨p', hp', e⟩ := List.mem_map.mp q
          exact e ▸ how' p' hp'
        · exact .inr (none_of_kp kc' q)
      have go : J (i + 1) σ₃ → ∃ m, m < items.length - i ∧ ForI C fx wr J Stt ow s items.length m s4 := fun hj => by
        refine ⟨items.length - (i + 1), by lia, i + 1, σ₃, ow₃, rfl, hlt, ⟨hj, h2', it.frame _ _ _ _ _ stc (fun b o hb e => ?_) (fun b o hb e q => ?_), kd, fun b hb => ?_, how₃⟩⟩
        · refine h3'.ex b o (fun q => ?_) (fun q => ?_) e
          · rcases hb with hb | hb
            · rcases List.mem_append.mp q with q | q
              · exact (Ic.sysf b q).1 (hwfx b hb)
              · obtain ⟨p, hp, rfl⟩ := List.mem_map.mp q; exact (Ic.owf p hp).2.1 (hwfx _ hb)
            · exact hb (by rw [mem_ex]; exact (List.mem_append.mp q).elim .inl fun q => .inr (.inl q))
          · rcases hb with hb | hb
            · exact hfw b q hb
            · exact hb (Ic.gd.frx b q)
        · rw [mem_ex] at q
          rcases q with q | q | q
          · exact hb (mem_ex.mpr (.inl q))
          · obtain ⟨p, hp, rfl⟩ := List.mem_map.mp q
            rcases h4' p hp with z | z
            · exact hb (mem_ex.mpr (.inr (.inl z)))
            · rw [z] at e; cases e
          · exact hb (mem_ex.mpr (.inr (.inr q)))
        · obtain ⟨o, e⟩ := h2'.al b (mem_ex_fx (hwfx b hb)); exact ⟨o, e⟩
      have out : ∀ (f : Flow) (fl : Fl), flM C.g.P s4.heap (C.ex ow₃ (wr ++ fx)) f fl → Ψ fl σ₃ → SQ C ow fx s Ψ f s4 := fun f fl hf hp =>
        ⟨fl, σ₃, ow₃, hp, h2'.dropFx I.frx, fin _ kd, how₃, flM_sub hf fun b hb => by
          rw [mem_ex] at hb ⊢
          exact hb.elim .inl fun q => .inr (q.elim .inl fun q => .inr (List.mem_append.mpr (.inr q)))⟩
      rcases flM_inv h5' with ⟨rfl, rfl⟩ | ⟨rfl, rfl⟩ | ⟨rfl, rfl⟩ | ⟨v', d', rfl, rfl, q'⟩
      · exact go h1'
      · exact out .next .next trivial h1'
      · exact go h1'
      · exact out (.ret v') (.ret d') q' h1'
    · rcases hb with hb | hb
      · exact (Ib.sysf b q).1 (hwfx b hb)
      · exact hb (mem_ex_sys q)
    · rcases hb with hb | hb
      · exact hfw b q hb
      · exact hb (Ib.gd.frx b q)
  · obtain rfl : i = items.length := by lia
    refine it.done _ s' _ _ I'.gd wex hst' fun h1 tk1 hk1 => ?_
    refine wpAny_execs_nil ?_
    have hfxw : ∀ b ∈ fx, b ∉ wr := fun b hb q => by
      obtain ⟨o, e⟩ := I.al b (mem_ex_fx hb)
      rw [hwn b q] at e; cases e
    refine ⟨.next, σ', ow', hend σ' hJ, I'.lose (tk := tk1) hbw hfw hclw hfxw hk1, ?_, how', trivial⟩
    have kk := fin _ k'
    have nw : ∀ b o, s.heap.get? b = some o → b ∉ wr := fun b o e q => by rw [hwn b q] at e; cases e
    obtain ⟨h0, tk0, rfl⟩ := kk.sh
    exact ⟨⟨h1, tk1, rfl⟩, fun b o q1 q2 e => hk1 b o (nw b o e) (kk.ex b o q1 q2 e), fun b o q1 e => by obtain ⟨sl, z⟩ := kk.sl b o q1 e; exact ⟨sl, hk1 b _ (nw b o e) z⟩,
      fun b o e => by obtain ⟨o', z⟩ := kk.al b o e; exact ⟨o', hk1 b _ (nw b o e) z⟩⟩
where
  flM_sub {P : Params} {h : Heap} {ex ex' : List Addr} {f : Flow} {fl : Fl} (x : flM P h ex f fl) (hs : ∀ b ∈ ex', b ∈ ex) : flM P h ex' f fl := by
    cases f <;> cases fl <;> first | exact x.elim | trivial | exact Rep.ex_sub x hs
end

end Mine

/-! Fw9 -/
namespace Mine
open PySem PySem.W PySem.Calls PyProof.Rows

section
variable {C : Cx} {σ : St} {ow : List (Str × Addr)} {fx ex : List Addr} {s s' : Shared} {Ξ : XD → Prop} {Ψ : Fl → St → Prop} {Φ : D → Prop} {K : St → Prop}

theorem ex_while {test : Expr} {body : List Stmt} {pos : Pos} (hc : C.comp = false) (J : Nat → St → Prop) (n : Nat) (h0 : J n σ)
    (turn : ∀ n σ₁, J n σ₁ → EVB C σ₁ (isTrue test C.env (eval test C.env)) (fun b => (b = true → EX C σ₁ (execs body C.env) (TurnQ Ψ (fun σ₂ => ∃ m, m < n ∧ J m σ₂)) Ξ) ∧ (b = false → Ψ .next σ₁)) Ξ) :
    EX C σ (exec (.While test body [] pos) C.env) Ψ Ξ := fun ow fx s I => by
  refine wpAny_While (codeAny_whileLoop (fun n s' => ∃ σ' ow', J n σ' ∧ Inv C σ' ow' fx s' ∧ KP C.fr (C.mu ow) s s' ∧ ∀ p ∈ ow', p.2 ∈ ow.map (·.2) ∨ s.heap.get? p.2 = none) ?_ n ⟨σ, ow, h0, I, KP.refl _ _ _, own_refl⟩)
  rintro n s' ⟨σ', ow', hJ, I', k', how'⟩
  have ex0 : ∀ (s₁ s₂ : Shared) (e : Value), KP C.fr (C.mu ow) s s₁ → XQ C.fr [] s₁ Ξ e s₂ → notedBy C.g.M C.A C.env (cameBackBy C.g.M C.A C.env (XQ C.fr (C.mu ow) s Ξ)) e s₂ := fun s₁ s₂ e k q => fly_loop hc (q.pre0 k)
  refine (turn n σ' hJ).run I' (fun b s1 hb k1 I1 => ?_) fun e s2 q => ex0 _ _ e k' q
  have k1' : KP C.fr (C.mu ow) s s1 := k'.trans (k1.mod _)
  cases b with
  | false =>
    simp only [Bool.false_eq_true, if_false]
    exact wpAny_execs_nil ⟨.next, σ', ow', hb.2 rfl, I1, k1', how', trivial⟩
  | true =>
    simp only [if_true]
    refine wpAny_mono (hb.1 rfl ow' fx s1 I1) (fun f s2 q => ?_) fun e s2 q => fly_loop hc (q.seq k1' how')
    have q' := q.pre k1' how'
    obtain ⟨fl, σ₃, ow₃, h1', h2', h3', h4', h5'⟩ := q'
    cases f <;> cases fl <;> first | exact h5'.elim | skip
    · obtain ⟨m, hm, hj⟩ := h1'; exact ⟨m, hm, σ₃, ow₃, hj, h2', h3', h4'⟩
    · exact ⟨.next, σ₃, ow₃, h1', h2', h3', h4', trivial⟩
    · obtain ⟨m, hm, hj⟩ := h1'; exact ⟨m, hm, σ₃, ow₃, hj, h2', h3', h4'⟩
    · exact ⟨_, σ₃, ow₃, h1', h2', h3', h4', h5'⟩

/-! ## comprehensions -/
theorem closure_ok {scope : Scope} {env : Env} (hf : ∀ n, (n, NameKind.free) ∈ scope.names → (env.cells.lookup n).isSome = true) :
    ∃ cl, closureFor scope env = pure cl ∧ (∀ n c, (n, c) ∈ cl → env.cells.lookup n = some c) ∧ ∀ n, (n, NameKind.free) ∈ scope.names → (cl.lookup n).isSome = true := by
  have key : ∀ (l : List (Str × NameKind)) (acc : List (Str × Addr)), (∀ n, (n, NameKind.free) ∈ l → (env.cells.lookup n).isSome = true) → (∀ n c, (n, c) ∈ acc → env.cells.lookup n = some c) →
      ∃ cl, (forIn l acc fun (x : Str × NameKind) r => if (x.2 == NameKind.free) = true then (do let a ← cellOf env x.1; pure (ForInStep.yield ((x.1, a) :: r))) else pure (ForInStep.yield r) : Sem (List (Str × Addr))) = pure cl ∧
        (∀ n c, (n, c) ∈ cl → env.cells.lookup n = some c) ∧ (∀ n, ((n, NameKind.free) ∈ l ∨ (acc.lookup n).isSome = true) → (cl.lookup n).isSome = true) := by
    intro l
    induction l with
    | nil => intro acc _ ha; exact ⟨acc, rfl, ha, fun n hn => hn.elim (fun q => nomatch q) id⟩
    | cons p l ih =>
      intro acc hl ha
      obtain ⟨n, k⟩ := p
      rw [List.forIn_cons]
      by_cases hk : k = .free
      · subst hk
        obtain ⟨c, hc⟩ := Option.isSome_iff_exists.mp (hl n (.head _))
        obtain ⟨cl, h1, h2, h3⟩ := ih ((n, c) :: acc) (fun m hm => hl m (.tail _ hm)) fun m c' hm => by
          rcases List.mem_cons.mp hm with e | hm
          · cases e; exact hc
          · exact ha m c' hm
        refine ⟨cl, ?_, h2, fun m hm => h3 m ?_⟩
        · show (do let a ← cellOf env n; pure (ForInStep.yield ((n, a) :: acc))) >>= _ = _
          unfold cellOf; rw [hc]; exact h1
        · by_cases q : m = n
          · subst q; right; rw [lookup_cons_eq]; rfl
          · rcases hm with hm | hm
            · rcases List.mem_cons.mp hm with e | hm
              · exact absurd (Prod.mk.inj e).1 q
              · exact .inl hm
            · right; rw [lookup_cons_ne q]; exact hm
      · have hb : (k == NameKind.free) = false := by simpa using hk
        obtain ⟨cl, h1, h2, h3⟩ := ih acc (fun m hm => hl m (.tail _ hm)) ha
        refine ⟨cl, ?_, h2, fun m hm => h3 m ?_⟩
        · simp only [hb, Bool.false_eq_true, if_false]; exact h1
        · rcases hm with hm | hm
          · rcases List.mem_cons.mp hm with e | hm
            · exact absurd (Prod.mk.inj e).2.symm hk
            · exact .inl hm
          · exact .inr hm
  obtain ⟨cl, h1, h2, h3⟩ := key scope.names [] hf fun n c h => nomatch h
  refine ⟨cl, ?_, h2, fun n hn => h3 n (.inl hn)⟩
  show ((forIn scope.names [] fun (x : Str × NameKind) r => if (x.2 == NameKind.free) = true then (do let a ← cellOf env x.1; pure (ForInStep.yield ((x.1, a) :: r))) else pure (ForInStep.yield r) : Sem (List (Str × Addr))) >>= fun cs => pure cs) = pure cl
  rw [h1]; rfl
end

end Mine

/-! Fw10 -/
namespace Mine
open PySem PySem.W PySem.Calls PyProof.Rows

/-- the comprehension's table, seen from the block around it -/
noncomputable def relabelS (scope sc : Scope) : Scope :=
  { scope with names := scope.names.map fun x => if (x.2 == .free && sc.kind == .function && sc.names.lookup x.1 == some .cell) then (x.1, .cell) else x }
theorem relabelS_eq {scope sc : Scope} {env : Env} (h : env.scope = sc) : relabel scope env = relabelS scope sc := by
  subst h; rfl

noncomputable def freeSt (scope : Scope) (σ : St) : St := σ.filter fun p => scope.names.lookup p.1 == some .free
theorem lookup_filter {α : Type} {p : Str → Bool} {x : Str} : ∀ {l : List (Str × α)}, (l.filter fun q => p q.1).lookup x = if p x then l.lookup x else none
  | [] => by simp
  | (y, a) :: l => by
    have ih := @lookup_filter α p x l
    by_cases hy : p y = true
    · rw [List.filter_cons_of_pos (by simpa using hy)]
      by_cases hxy : x = y
      · subst hxy; rw [lookup_cons_eq, lookup_cons_eq, if_pos hy]
      · rw [lookup_cons_ne hxy, lookup_cons_ne hxy]; exact ih
    · rw [List.filter_cons_of_neg (by simpa using hy), ih]
      by_cases hxy : x = y
      · subst hxy; rw [if_neg hy, if_neg hy]
      · rw [lookup_cons_ne hxy]
theorem lookup_freeSt {scope : Scope} {σ : St} {x : Str} {lv : LV} (h : (freeSt scope σ).lookup x = some lv) : scope.names.lookup x = some .free ∧ σ.lookup x = some lv := by
  unfold freeSt at h
  rw [lookup_filter (p := fun y => scope.names.lookup y == some .free)] at h
  split at h
  · rename_i q; exact ⟨by simpa using q, h⟩
  · cases h
theorem lk_free {scope : Scope} {σ : St} {x : Str} {lv : LV} (h1 : scope.names.lookup x = some .free) (h2 : σ.lookup x = some lv) : (freeSt scope σ).lookup x = some lv := by
  unfold freeSt
  rw [lookup_filter (p := fun y => scope.names.lookup y == some .free), if_pos (by rw [h1]; rfl)]; exact h2

theorem lookup_relabelS {scope sc : Scope} : ∀ {l : List (Str × NameKind)} {x : Str} {k : NameKind}, l.lookup x = some k →
    (l.map fun x => if (x.2 == .free && sc.kind == .function && sc.names.lookup x.1 == some .cell) then (x.1, NameKind.cell) else x).lookup x = some (if (k == .free && sc.kind == .function && sc.names.lookup x == some .cell) then .cell else k)
  | [], _, _, h => by simp at h
  | (n, k') :: l, x, k, h => by
    rw [List.map_cons]
    by_cases hx : x = n
    · subst hx
      rw [lookup_cons_eq] at h; cases h
      dsimp only
      split <;> exact lookup_cons_eq
    · rw [lookup_cons_ne hx] at h
      have ih := lookup_relabelS (scope := scope) (sc := sc) h
      dsimp only
      split
      · rw [lookup_cons_ne hx]; exact ih
      · rw [lookup_cons_ne hx]; exact ih
theorem lookup_relabelS_inv {sc : Scope} : ∀ {l : List (Str × NameKind)} {x : Str} {k : NameKind},
    (l.map fun x => if (x.2 == .free && sc.kind == .function && sc.names.lookup x.1 == some .cell) then (x.1, NameKind.cell) else x).lookup x = some k → ∃ k', (x, k') ∈ l ∧ (k' = k ∨ (k' = .free ∧ k = .cell))
  | [], _, _, h => by simp at h
  | (n, k') :: l, x, k, h => by
    rw [List.map_cons] at h
    dsimp only at h
    split at h
    · rename_i hc
      by_cases hx : x = n
      · subst hx
        rw [lookup_cons_eq] at h; cases h
        simp only [Bool.and_eq_true, beq_iff_eq] at hc
        exact ⟨k', .head _, .inr ⟨hc.1.1, rfl⟩⟩
      · rw [lookup_cons_ne hx] at h
        obtain ⟨k'', h1, h2⟩ := lookup_relabelS_inv h
        exact ⟨k'', .tail _ h1, h2⟩
    · by_cases hx : x = n
      · subst hx
        rw [lookup_cons_eq] at h; cases h
        exact ⟨_, .head _, .inl rfl⟩
      · rw [lookup_cons_ne hx] at h
        obtain ⟨k'', h1, h2⟩ := lookup_relabelS_inv h
        exact ⟨k'', .tail _ h1, h2⟩

/-- the comprehension's own context -/
noncomputable def Cx.sub (C : Cx) (scope : Scope) (cl : List (Str × Addr)) (a : Addr) (hk : scope.kind = .function) (hck : ∀ x, (compEnvC scope cl a C.env).kindOf x = some .cell → (cl.lookup x).isSome = true) (hcl : ∀ n c, (n, c) ∈ cl → c ≠ a) : Cx where
  g := C.g
  A := C.A
  env := compEnvC scope cl a C.env
  fr := C.fr
  sys := [a]
  rk := C.rk
  comp := true
  kf := hk
  gl := C.gl
  bi := C.bi
  hA := C.hA
  hg := C.hg
  hh := C.hh
  hd := C.hd
  hu := C.hu
  locs := .head _
  cinj := fun h => nomatch h
  ckn := hck
  cloc := hcl
  csys := fun h => nomatch h
  hfr := fun h => nomatch h

structure SubOf (C : Cx) (scope sc : Scope) (C' : Cx) : Prop where
  g : C'.g = C.g
  rk : C'.rk = C.rk
  comp : C'.comp = true
  scope : C'.env.scope = relabelS scope sc

section
variable {prog : Program} {w : World} {A : Around} {R : Result → Shared → Prop} {s : Shared}
theorem compLoop_any {elt target iter : Expr} {ifs : List Expr} {scope : Scope} {pos : Pos} {it acc : Value} {env : Env} (I : Nat → Shared → Prop)
    (turn : ∀ n s, I n s → wpAny (model prog w) A (pyNext it) (fun r s₁ => match r with
      | none => R (.ok .next) s₁
      | some v => wpAny (model prog w) A (letOwnedTupleGo target it v) (fun _ s₀ => wpAny (model prog w) A (assign target env v) (fun _ s₂ =>
          wpAny (model prog w) A (forIn ifs true fun c r => if r = true then do let ok ← isTrue c env (eval c env); pure (ForInStep.yield ok) else pure (ForInStep.yield r)) (fun ok s₃ =>
            if ok = true then wpAny (model prog w) A (eval elt env) (fun x s₄ =>
              wpAny (model prog w) A (call (.builtin "list.append") [acc, x]) (fun _ s₅ => ∃ m, m < n ∧ I m s₅) (fun _ _ => False) s₄) (fun _ _ => False) s₃
            else ∃ m, m < n ∧ I m s₃) (fun _ _ => False) s₂) (fun _ _ => False) s₀) (fun _ _ => False) s₁) (fun _ _ => False) s)
    (n : Nat) (h : I n s) : codeAny (model prog w) A (.compLoop (.ListComp elt [⟨target, iter, ifs, 0⟩] scope pos) 0 it acc env) R s := by
  refine codeAny_loop rfl I (fun n s hI => ?_) n h
  show wpAny _ A ((compTurn (.ListComp elt [⟨target, iter, ifs, 0⟩] scope pos) 0 it acc env).onRaise (fun x => do noteFrame x env; theTreesLotGoes x)) _ _ s
  refine wpAny_noted ?_
  refine wpAny_mono (E := fun _ _ => False) ?_ (fun _ _ x => x) (fun _ _ x => x.elim)
  rw [compTurn_list]
  refine wpAny_bind (wpAny_standAt (wpAny_bind (wpAny_mono (turn n s hI) (fun r s₁ h₁ => ?_) fun _ _ h' => h')))
  cases r with
  | none => exact wpAny_pure h₁
  | some v =>
    refine wpAny_bind (wpAny_mono h₁ (fun _ s₀ h₀ => ?_) fun _ _ h' => h')
    refine wpAny_bind (wpAny_mono h₀ (fun _ s₂ h₂ => wpAny_bind (wpAny_mono h₂ (fun ok s₃ h₃ => ?_) fun _ _ h' => h')) fun _ _ h' => h')
    cases ok with
    | false => exact wpAny_pure ⟨rfl, h₃⟩
    | true => exact wpAny_bind (wpAny_bind (wpAny_mono h₃ (fun x s₄ h₄ => wpAny_bind (wpAny_mono h₄ (fun _ s₅ h₅ => wpAny_pure (wpAny_pure ⟨rfl, h₅⟩)) fun _ _ h' => h')) fun _ _ h' => h'))
end

end Mine

/-! Fw11 -/
namespace Mine
open PySem PySem.W PySem.Calls PyProof.Rows

noncomputable abbrev NoX : XD → Prop := fun _ => False
noncomputable abbrev testsT (ifs : List Expr) (env : Env) : Sem Bool := forIn ifs true fun c r => if r = true then do let ok ← isTrue c env (eval c env); pure (ForInStep.yield ok) else pure (ForInStep.yield r)

section
variable {C : Cx} {σ : St} {ow : List (Str × Addr)} {fx ex : List Addr} {s s' : Shared} {Ξ : XD → Prop} {Ψ : Fl → St → Prop} {Φ : D → Prop} {K : St → Prop}

theorem tests_nil {Θ : Bool → Prop} (h : Θ true) : EVB C σ (testsT [] C.env) Θ Ξ := fun _ _ _ _ => wpAny_tests_nil ⟨h, KP.refl _ _ _⟩
theorem tests_one {c : Expr} {Θ : Bool → Prop} (h : EVB C σ (isTrue c C.env (eval c C.env)) Θ Ξ) : EVB C σ (testsT [c] C.env) Θ Ξ := fun ow fx s I => wpAny_tests_one (h ow fx s I)

theorem xq_false {fr : List Env} {mod : List Addr} {e : Value} (h : XQ fr mod s NoX e s') : False := let ⟨_, hx, _⟩ := h; hx

theorem Inv.restate {σ₂ : St} {s₀ s₁ : Shared} {mod : List Addr} (I0 : Inv C σ [] fx s₀) (I1 : Inv C σ₂ [] fx s₁) (k : KP C.fr mod s₀ s₁) (hm : ∀ b ∈ mod, b ∈ C.ex [] fx)
    (hc : ∀ x lv, σ.lookup x = some lv → C.env.kindOf x = some .cell ∧ ∀ c, C.env.cells.lookup x = some c → c ∉ mod) : Inv C σ [] fx s₁ := by
  refine ⟨I1.base, I1.frames, I1.frx, I1.al, I1.owd, I1.owf, I1.owl, I1.sysf, I1.ns, I1.cel, fun x lv hx => ?_⟩
  obtain ⟨v, h1, h2⟩ := I0.vars x lv hx
  obtain ⟨hk, hcm⟩ := hc x lv hx
  refine ⟨v, ?_, LVok.mono (fun b o hb e => k.ex b o (fun q => hb (hm b q)) (fun q => hb (I0.gd.frx b q)) e) (fun _ _ h _ => h) (fun a ha => nomatch ha) h2⟩
  unfold slotVal at h1 ⊢
  rw [hk] at h1 ⊢
  obtain ⟨c, a1, a2⟩ := h1
  exact ⟨c, a1, cell_sl a2 fun o e => k.sl c o (hcm c a1) e⟩

set_option maxHeartbeats 1000000 in
theorem comp_core {elt target iter : Expr} {ifs : List Expr} {scope sc : Scope} {pos p : Pos} {use : Option (Value → Sem Unit)} {Φ : List D → Prop} {Q : Value → Shared → Prop} {E : Value → Shared → Prop}
    (hsc : C.env.scope = sc) (hk : scope.kind = .function) (hnc : ∀ y ∈ scope.names, y.2 ≠ .cell) (hfree : ∀ y ∈ scope.names, y.2 = .free → sc.names.lookup y.1 = some .cell) (hnames : ∀ x ∈ scope.names, x.2 = .local → scope.names.lookup x.1 = some .local)
    (hs : ∀ x, foldedSetIterable iter C.env x = pure x)
    (h : EVI C σ target (eval iter C.env) (fun items => items.length ≤ sizeLine ∧ ∃ J : Nat → List D → Prop, J 0 [] ∧
      (∀ i d ys C', SubOf C scope sc C' → items[i]? = some d → J i ys → ASG C' (freeSt scope σ) target d (fun σ₂ => EVB C' σ₂ (testsT ifs C'.env) (fun ok => (ok = true → EV C' σ₂ (eval elt C'.env) (fun r => J (i + 1) (ys ++ [r])) NoX) ∧ (ok = false → J (i + 1) ys)) NoX) NoX) ∧
      ∀ ys, J items.length ys → Φ ys) Ξ)
    (I : Inv C σ ow fx s) (hE : ∀ e s', XQ C.fr [] s Ξ e s' → E e s')
    (hQ : ∀ D a s_e vs ys m, Φ ys → KP C.fr [] s s_e → s.heap.get? D = none → s.heap.get? a = none → D ≠ a → s_e.heap.PlainList D vs.toArray → RepAll C.g.P s_e.heap (a :: C.ex ow fx) vs ys → D ∉ C.ex ow fx → a ∉ C.ex ow fx → s_e.heap.Ns a m →
      compPost C.g.M C.A E use Q (.ref D) a (.ok .next) s_e) :
    wpAny C.g.M C.A (comprehension (.ListComp elt [⟨target, iter, ifs, 0⟩] scope pos) scope C.env p (newList []) false (eval iter C.env) use) Q E s := by
  have hck0 : ∀ n, (n, NameKind.free) ∈ scope.names → (C.env.cells.lookup n).isSome = true := fun n hn => C.ckn n (by unfold Env.kindOf; rw [hsc]; exact hfree _ hn rfl)
  obtain ⟨cl, hcl, hcl1, hcl2⟩ := closure_ok hck0
  refine wpAny_comprehension_free rfl hs hcl hk hnames (wpAny_mono (h ow fx s I) (fun x s₁ h₁ => wpAny_mono h₁ (fun it s₂ h₂ => ?_) hE) hE)
  obtain ⟨I₀, wr, items, Stt, Mid, ⟨hsz, J, hJ0, hturn, hend⟩, rfl, hwn, hwa, it, hst, k0⟩ := h₂
  have I2 := I.kp k0
  refine wpAny_newObj_type (wpAny_newFunctionEnv hnc (by intro y hy; simp at hy) (fun h₁ hns₁ hsb₁ => ?_) hk)
  dsimp only at hns₁ hsb₁ ⊢
  generalize hH2 : s₂.heap.push { cls := .type "list", dict := none, data := .seq ([] : List Value).toArray } = H2 at hns₁ hsb₁ ⊢
  have hC : H2.objs.size = s₂.heap.objs.size + 1 := by rw [← hH2, Heap.size_push]
  generalize hDd : s₂.heap.objs.size = D at *
  generalize hCa : H2.objs.size = Ca at *
  have hDC : D ≠ Ca := by lia
  have fresh2 : ∀ a, D ≤ a → s₂.heap.get? a = none := fun a ha => Heap.get?_none_of_le (hDd ▸ ha)
  have lt2 : ∀ b o, s₂.heap.get? b = some o → b < D := fun b o e => hDd ▸ Heap.lt_size e
  have old : ∀ b o, s₂.heap.get? b = some o → h₁.get? b = some o := fun b o e => hsb₁.extBut b o (by have := lt2 b o e; lia) (Heap.get?_push_of_some _ (hH2 ▸ Heap.get?_push_of_some _ e))
  have hDat : h₁.PlainList D #[] := ⟨_, hsb₁.extBut _ _ hDC (Heap.get?_push_of_some _ (by rw [← hH2, ← hDd]; exact Heap.get?_push_size _ rfl))⟩
  -- the state the loop starts in
  generalize hs3 : ({ s₂ with heap := h₁, toks := s₂.toks + ([] : List (Str × Value)).length } : Shared) = s3
  have k23 : KP C.fr [] s₂ s3 := hs3 ▸ KP.of_keep old
  have h3h : s3.heap = h₁ := by rw [← hs3]
  have k03 : KP C.fr [] s s3 := k0.trans k23
  have sfresh : ∀ a, D ≤ a → s.heap.get? a = none := fun a ha => none_of_kp k0 (fresh2 a ha)
  have hclo : ∀ n c, (n, c) ∈ cl → c < D := fun n c hm => by
    obtain ⟨v, o, ho, _⟩ := I2.cel n c (mem_of_lookup (hcl1 n c hm)); exact lt2 c o ho
  have hclw : ∀ n c, (n, c) ∈ cl → c ∉ wr := fun n c hm q => by
    obtain ⟨v, o, ho, _⟩ := I.cel n c (mem_of_lookup (hcl1 n c hm)); rw [hwn c q] at ho; cases ho
  have hckC : ∀ x, (compEnvC scope cl Ca C.env).kindOf x = some .cell → (cl.lookup x).isSome = true := fun x hx => by
    have hx' : (relabelS scope sc).names.lookup x = some .cell := by rw [← relabelS_eq hsc]; exact hx
    obtain ⟨k', h1, h2⟩ := lookup_relabelS_inv hx'
    rcases h2 with rfl | ⟨rfl, _⟩
    · exact absurd rfl (hnc _ h1)
    · exact hcl2 x h1
  let C' : Cx := C.sub scope cl Ca hk hckC fun n c hm => by have := hclo n c hm; lia
  have hsub : SubOf C scope sc C' := ⟨rfl, rfl, rfl, relabelS_eq hsc⟩
  let fx' : List Addr := D :: (wr ++ C.ex ow fx)
  have wlt : ∀ b ∈ wr, b < D := fun b hb => by obtain ⟨o, e⟩ := hwa b hb; exact lt2 b o e
  have exlt : ∀ b ∈ C.ex ow fx, b < D := fun b hb => by obtain ⟨o, e⟩ := I2.al b hb; exact lt2 b o e
  have mex' : ∀ b, b ∈ C'.ex [] fx' ↔ b = Ca ∨ b = D ∨ b ∈ wr ∨ b ∈ C.ex ow fx := fun b => by
    show b ∈ [Ca] ++ ([] ++ (D :: (wr ++ C.ex ow fx))) ↔ _
    simp only [List.nil_append, List.mem_append, List.mem_cons, List.mem_singleton, List.not_mem_nil, or_false]
  have frC : ∀ b ∈ FRA C.fr, b ∈ C.ex ow fx := I.gd.frx
  have exm : ∀ b o, b ∉ C.ex ow fx → s.heap.get? b = some o → b ∉ C'.ex [] fx' := fun b o hb e q => by
    rw [mex'] at q
    rcases q with q | q | q | q
    · rw [q, sfresh Ca (by lia)] at e; cases e
    · rw [q, sfresh D (Nat.le_refl _)] at e; cases e
    · rw [hwn b q] at e; cases e
    · exact hb q
  have base3 : C.g.base.StaysIn s3.heap := (I.kp k03).base
  have bfresh : ∀ a, s.heap.get? a = none → C.g.base.get? a = none := fun a ha => by
    cases q : C.g.base.get? a with
    | none => rfl
    | some o => have := I.base a o q; rw [ha] at this; cases this
  have kindC : ∀ x lv, (freeSt scope σ).lookup x = some lv → C'.env.kindOf x = some .cell ∧ C.env.kindOf x = some .cell ∧ (∃ c, cl.lookup x = some c ∧ C.env.cells.lookup x = some c) := fun x lv hx => by
    obtain ⟨h1, h2⟩ := lookup_freeSt hx
    have hm := mem_of_lookup h1
    have hcx := hfree _ hm rfl
    have hC1 : C.env.kindOf x = some .cell := by unfold Env.kindOf; rw [hsc]; exact hcx
    refine ⟨?_, hC1, ?_⟩
    · show (relabel scope C.env).names.lookup x = some .cell
      rw [relabelS_eq hsc]
      show List.lookup x (scope.names.map _) = _
      rw [lookup_relabelS (scope := scope) (sc := sc) h1]
      have hkk : sc.kind = .function := by rw [← hsc]; exact C.kf
      rw [hkk, hcx]; rfl
    · obtain ⟨c, hc⟩ := Option.isSome_iff_exists.mp (hcl2 x hm)
      exact ⟨c, hc, hcl1 x c (mem_of_lookup hc)⟩
  have I3 : Inv C' (freeSt scope σ) [] fx' s3 := by
    have Ik := I.kp k03
    refine ⟨base3, Ik.frames, fun b hb => ?_, fun b hb => ?_, List.nodup_nil, fun p hp => (nomatch hp), fun p hp => (nomatch hp), fun a ha => ?_, ⟨_, h3h ▸ hns₁⟩, fun n c hc => ?_, fun x lv hx => ?_⟩
    · exact List.mem_append.mpr (.inr (.tail _ (List.mem_append.mpr (.inr (frC b hb)))))
    · rcases (mex' b).mp hb with rfl | rfl | q | q
      · obtain ⟨o, es, ep, ho, _⟩ := hns₁; exact ⟨o, h3h ▸ ho⟩
      · obtain ⟨n, ho⟩ := hDat; exact ⟨_, h3h ▸ ho⟩
      · obtain ⟨o, e⟩ := hwa b q; exact ⟨o, h3h ▸ old b o e⟩
      · exact Ik.al b q
    · obtain rfl := List.mem_singleton.mp ha
      refine ⟨fun q => ?_, bfresh _ (sfresh _ (by lia))⟩
      rcases List.mem_cons.mp q with q | q
      · lia
      · rcases List.mem_append.mp q with q | q
        · have := wlt _ q; lia
        · have := exlt _ q; lia
    · obtain ⟨v, hv⟩ := Ik.cel n c (mem_of_lookup (hcl1 n c hc)); exact ⟨v, hv⟩
    · obtain ⟨hk1, hk2, c, hc1, hc2⟩ := kindC x lv hx
      obtain ⟨h1, h2⟩ := lookup_freeSt hx
      obtain ⟨v, h3, h4⟩ := I.vars x lv h2
      have h3' := slotVal_kp k03 h3
      refine ⟨v, ?_, ?_⟩
      · unfold slotVal at h3' ⊢
        rw [hk2] at h3'; rw [hk1]
        obtain ⟨c', a1, a2⟩ := h3'
        rw [hc2] at a1; cases a1
        exact ⟨c, hc1, a2⟩
      · cases lv with
        | dat d => exact Rep.mono (fun b o hb e => k03.ex b o (by simp) (fun z => hb (frC b z)) e) exm h4
        | own d =>
          obtain ⟨a, _, hm, _⟩ := h4
          have := I.owl _ hm
          rw [hk2] at this; cases this
  have hmodex : ∀ b ∈ Ca :: D :: wr, b ∈ C'.ex [] fx' := fun b hb => (mex' b).mpr (by
    rcases List.mem_cons.mp hb with q | q
    · exact .inl q
    · rcases List.mem_cons.mp q with q | q
      · exact .inr (.inl q)
      · exact .inr (.inr (.inl q)))
  have hcm : ∀ x lv, (freeSt scope σ).lookup x = some lv → C'.env.kindOf x = some .cell ∧ ∀ c, C'.env.cells.lookup x = some c → c ∉ Ca :: D :: wr := fun x lv hx => by
    obtain ⟨hk1, hk2, c, hc1, hc2⟩ := kindC x lv hx
    refine ⟨hk1, fun c' hc' q => ?_⟩
    have hc'' : cl.lookup x = some c' := hc'
    have hlt := hclo x c' (mem_of_lookup hc'')
    rcases List.mem_cons.mp q with q | q
    · lia
    · rcases List.mem_cons.mp q with q | q
      · lia
      · exact hclw x c' (mem_of_lookup hc'') q
  have hfw : ∀ b ∈ FRA C.fr, b ∉ wr := fun b hb q => by
    obtain ⟨o, e⟩ := I.al b (frC b hb)
    rw [hwn b q] at e; cases e
  have hwb : ∀ b ∈ wr, C.g.base.get? b = none := fun b hb => bfresh b (hwn b hb)
  have hwfx : ∀ b ∈ wr, b ∈ fx' := fun b hb => .tail _ (List.mem_append.mpr (.inl hb))
  have wex : ∀ b ∈ wr, b ∈ C'.ex [] fx' := fun b hb => (mex' b).mpr (.inr (.inr (.inl hb)))
  have hclw' : ∀ n c, (n, c) ∈ C'.env.cells → c ∉ wr := fun n c hm => hclw n c hm
  have hst3 : Stt (C'.ex [] fx') 0 s3.heap := it.frame _ _ _ _ _ hst (fun b o _ e => h3h ▸ old b o e) fun b o hb e q => by
    rcases (mex' b).mp q with rfl | rfl | q | q
    · have := lt2 _ o e; lia
    · have := lt2 _ o e; lia
    · exact hb (mem_ex_fx (List.mem_append.mpr (.inl q)))
    · rw [mem_ex] at q
      exact hb (mem_ex.mpr (q.elim .inl fun q => .inr (q.elim .inl fun q => .inr (List.mem_append.mpr (.inr q)))))
  have gdC : ∀ {ex : List Addr} {s : Shared}, Gd C' ex s → Gd C ex s := fun G => ⟨G.base, G.frames, G.frx, G.al⟩
  have loop : codeAny C.g.M C.A (.compLoop (.ListComp elt [⟨target, iter, ifs, 0⟩] scope pos) 0 (.ref I₀) (.ref D) C'.env) (compPost C.g.M C.A E use Q (.ref D) Ca) s3 := by
    refine compLoop_any (fun n s' => ∃ i ys vs, n = items.length + 1 - i ∧ i ≤ items.length ∧ J i ys ∧ ys.length ≤ i ∧ s'.heap.PlainList D vs.toArray ∧ RepAll C.g.P s'.heap (C'.ex [] fx') vs ys ∧ (∃ σ₁, Inv C' σ₁ [] fx' s') ∧ Stt (C'.ex [] fx') i s'.heap ∧
      KP C.fr (Ca :: D :: wr) s3 s' ∧ ∀ b ∈ wr, ∃ o, s'.heap.get? b = some o) ?_ (items.length + 1)
      ⟨0, [], [], rfl, Nat.zero_le _, hJ0, Nat.le_refl _, h3h ▸ hDat, .nil, ⟨_, I3⟩, hst3, KP.refl _ _ _, fun b hb => by obtain ⟨o, e⟩ := hwa b hb; exact ⟨o, h3h ▸ old b o e⟩⟩
    rintro n s' ⟨i, ys, vs, rfl, hi, hJ, hyl, hpl, hrep, ⟨σ₁, I1⟩, hst', k', hwa'⟩
    have I1 := Inv.restate I3 I1 k' hmodex hcm
    by_cases hlt : i < items.length
    · refine it.item _ i s' items[i] _ _ (by simp [hlt]) (gdC I1.gd) wex hst' fun v h1 tk1 r1 st1 hk1 ha1 => ?_
      have Ia := I1.foreign (tk := tk1) hwfx hwb hfw hclw' hk1 ha1
      have ka : KP C.fr (Ca :: D :: wr) s3 { s' with heap := h1, toks := tk1 } := k'.seq (kp_wr (C := C) hk1 ha1) fun b hb => .inl (.tail _ (.tail _ hb))
      refine it.own _ i { s' with heap := h1, toks := tk1 } v _ _ st1 wex ha1 fun h2 st2 hk2 ha2 => ?_
      have Ib := Ia.foreign (tk := tk1) hwfx hwb hfw hclw' hk2 ha2
      have kb : KP C.fr (Ca :: D :: wr) s3 { s' with heap := h2, toks := tk1 } := ka.seq (kp_wr (C := C) hk2 ha2) fun b hb => .inl (.tail _ (.tail _ hb))
      have rb : Rep C.g.P h2 (C'.ex [] fx') v items[i] := r1.mono (fun b o hb e => hk2 b o (fun q => hb (wex b q)) e) fun _ _ h _ => h
      refine wpAny_mono (hturn i items[i] ys C' hsub (by simp [hlt]) hJ [] fx' _ v Ib rb) (fun _ s4 q => ?_) fun e _ q => xq_false q
      obtain ⟨σ₂, hσ₂, Ic, kc⟩ := q
      have hnw : ∀ b ∈ wr, b ∉ C'.sys := fun b hb q => by obtain rfl := List.mem_singleton.mp q; have := wlt b hb; lia
      have stc : Stt (C'.ex [] fx') (i + 1) s4.heap := it.frame _ _ _ _ _ st2 (fun b o hb e => kc.ex b o (fun q => by
        rcases hb with hb | hb
        · exact hnw b hb q
        · exact hb (mem_ex_sys q)) (fun q => by
        rcases hb with hb | hb
        · exact hfw b q hb
        · exact hb (Ic.gd.frx b q)) e) fun _ _ h _ => h
      have kc' : KP C.fr (Ca :: D :: wr) s3 s4 := kb.seq kc fun b hb => by obtain rfl := List.mem_singleton.mp hb; exact .inl (.head _)
      have rc : RepAll C.g.P s4.heap (C'.ex [] fx') vs ys := hrep.mono (fun b o hb e => kc.ex b o (fun q => hb (mem_ex_sys q)) (fun q => hb (Ic.gd.frx b q)) (hk2 b o (fun q => hb (wex b q)) (hk1 b o (fun q => hb (wex b q)) e))) fun _ _ h _ => h
      have dne : D ∉ wr := fun q => by have := wlt D q; lia
      have plc : s4.heap.PlainList D vs.toArray := by
        obtain ⟨n0, q⟩ := hpl
        refine ⟨n0, kc.ex D _ (fun q => by obtain q := List.mem_singleton.mp q; exact hDC q) (fun q => ?_) (hk2 D _ dne (hk1 D _ dne q))⟩
        have := exlt D (frC D q); lia
      refine wpAny_mono (hσ₂ [] fx' s4 Ic) (fun ok s5 q => ?_) fun e _ q => xq_false q
      obtain ⟨hok, k5⟩ := q
      have I5 := Ic.kp k5
      have st5 : Stt (C'.ex [] fx') (i + 1) s5.heap := it.frame _ _ _ _ _ stc (fun b o hb e => k5.ex b o (by simp) (fun q => by
        rcases hb with hb | hb
        · exact hfw b q hb
        · exact hb (Ic.gd.frx b q)) e) fun _ _ h _ => h
      have k5' : KP C.fr (Ca :: D :: wr) s3 s5 := kc'.trans (k5.mono fun b hb => nomatch hb)
      have r5 := rc.kp k5 Ic.gd.frx (by simp)
      have pl5 : s5.heap.PlainList D vs.toArray := by
        obtain ⟨n0, q⟩ := plc
        exact ⟨n0, k5.ex D _ (by simp) (fun q => by have := exlt D (frC D q); lia) q⟩
      cases ok with
      | false =>
        simp only [Bool.false_eq_true, if_false]
        exact ⟨items.length + 1 - (i + 1), by lia, i + 1, ys, vs, rfl, hlt, hok.2 rfl, Nat.le_succ_of_le hyl, pl5, r5, ⟨_, I5⟩, st5, k5', fun b hb => I5.al b (wex b hb)⟩
      | true =>
        simp only [if_true]
        refine (hok.1 rfl).run I5 (fun r s6 d6 h6 k6 r6 I6 => ?_) fun e _ q => xq_false q
        have st6 : Stt (C'.ex [] fx') (i + 1) s6.heap := it.frame _ _ _ _ _ st5 (fun b o hb e => k6.ex b o (by simp) (fun q => by
          rcases hb with hb | hb
          · exact hfw b q hb
          · exact hb (Ic.gd.frx b q)) e) fun _ _ h _ => h
        have k6' : KP C.fr (Ca :: D :: wr) s3 s6 := k5'.trans (k6.mono fun b hb => nomatch hb)
        have r6' := r5.kp k6 Ic.gd.frx (by simp)
        have pl6 : s6.heap.PlainList D vs.toArray := by
          obtain ⟨n0, q⟩ := pl5
          exact ⟨n0, k6.ex D _ (by simp) (fun q => by have := exlt D (frC D q); lia) q⟩
        have hvl : vs.toArray.size ≤ sizeLine := by rw [List.size_toArray, hrep.length]; lia
        refine wpAny_list_append_plain (hsz := hvl) pl6 fun h7 pl7 hs7 => ?_
        have hDex : D ∈ C'.ex [] fx' := (mex' D).mpr (.inr (.inl rfl))
        have keep7 : ∀ b o, b ∉ [D] → s6.heap.get? b = some o → h7.get? b = some o := fun b o hb e => (hs7.2 b fun q => hb (by simp [q])).trans e
        have I7 := I6.foreign (wr := [D]) (tk := s6.toks) (fun b hb => by obtain rfl := List.mem_singleton.mp hb; exact .head _) (fun b hb => by obtain rfl := List.mem_singleton.mp hb; exact bfresh _ (sfresh _ (Nat.le_refl _)))
          (fun b hb q => by obtain rfl := List.mem_singleton.mp q; have := exlt _ (frC _ hb); lia) (fun n c hm q => by obtain rfl := List.mem_singleton.mp q; have := hclo n _ hm; lia) keep7
          (fun b hb => by obtain rfl := List.mem_singleton.mp hb; obtain ⟨n0, q⟩ := pl7; exact ⟨_, q⟩)
        have mono7 : ∀ b o, b ∉ C'.ex [] fx' → s6.heap.get? b = some o → h7.get? b = some o := fun b o hb e => keep7 b o (fun q => by obtain rfl := List.mem_singleton.mp q; exact hb hDex) e
        have st7 : Stt (C'.ex [] fx') (i + 1) h7 := it.frame _ _ _ _ _ st6 (fun b o hb e => keep7 b o (fun q => by
          obtain rfl := List.mem_singleton.mp q
          rcases hb with hb | hb
          · exact dne hb
          · exact hb hDex) e) fun _ _ h _ => h
        refine ⟨items.length + 1 - (i + 1), by lia, i + 1, ys ++ [d6], vs ++ [r], rfl, hlt, h6, by rw [List.length_append, List.length_singleton]; lia, by simpa using pl7,
          (r6'.mono mono7 fun _ _ h _ => h).append (.cons (r6.mono mono7 fun _ _ h _ => h) .nil), ⟨_, I7⟩, st7, ?_, fun b hb => I7.al b (wex b hb)⟩
        exact k6'.trans ((KP.but (mod := [D]) (tk := s6.toks) (by simp) hs7 (by obtain ⟨n0, q⟩ := pl7; exact ⟨_, q⟩)).mono fun b hb => by obtain rfl := List.mem_singleton.mp hb; exact .tail _ (.head _))
    · obtain rfl : i = items.length := by lia
      refine it.done _ s' _ _ (gdC I1.gd) wex hst' fun h1 tk1 hk1 => ?_
      have nmod : ∀ b o, s.heap.get? b = some o → b ∉ Ca :: D :: wr := fun b o e q => by
        rcases List.mem_cons.mp q with q | q
        · rw [q, sfresh Ca (by lia)] at e; cases e
        · rcases List.mem_cons.mp q with q | q
          · rw [q, sfresh D (Nat.le_refl _)] at e; cases e
          · rw [hwn b q] at e; cases e
      have nwr : ∀ b o, s.heap.get? b = some o → b ∉ wr := fun b o e q => by rw [hwn b q] at e; cases e
      have kend : KP C.fr [] s { s' with heap := h1, toks := tk1 } := by
        obtain ⟨h0, tk0, rfl⟩ := k'.sh
        obtain ⟨h0', tk0', e3⟩ := k03.sh
        refine ⟨⟨h1, tk1, by rw [e3]⟩, fun b o _ q2 e => hk1 b o (nwr b o e) (k'.ex b o (nmod b o e) q2 (k03.ex b o (by simp) q2 e)), fun b o _ e => ?_, fun b o e => ?_⟩
        · obtain ⟨sl, z⟩ := k03.sl b o (by simp) e
          obtain ⟨sl', z'⟩ := k'.sl b _ (nmod b o e) z
          exact ⟨sl', hk1 b _ (nwr b o e) z'⟩
        · obtain ⟨o', z⟩ := k03.al b o e
          obtain ⟨o'', z'⟩ := k'.al b _ z
          exact ⟨o'', hk1 b _ (nwr b o e) z'⟩
      obtain ⟨m', hn'⟩ := I1.ns
      have caw : Ca ∉ wr := fun q => by have := wlt Ca q; lia
      have dw : D ∉ wr := fun q => by have := wlt D q; lia
      refine hQ D Ca _ vs ys m' (hend ys hJ) kend (sfresh D (Nat.le_refl _)) (sfresh Ca (by lia)) hDC ?_ ?_ (fun q => by have := exlt D q; lia) (fun q => by have := exlt Ca q; lia) ?_
      · obtain ⟨n0, q⟩ := hpl; exact ⟨n0, hk1 D _ dw q⟩
      · exact hrep.mono (fun b o hb e => hk1 b o (fun q => hb (wex b q)) e) fun b o hb e q => hb ((mex' b).mpr ((List.mem_cons.mp q).elim .inl fun q => .inr (.inr (.inr q))))
      · obtain ⟨o, es, ep, ho, r⟩ := hn'; exact ⟨o, es, ep, hk1 _ o caw ho, r⟩
  exact codeAny_compStart_list loop (it.self (C'.ex [] fx') 0 s3 _ _ hst3 loop)
end

end Mine

/-! Fw12 -/
namespace Mine
open PySem PySem.W PySem.Calls PyProof.Rows

section
variable {C : Cx} {σ : St} {ow : List (Str × Addr)} {fx ex : List Addr} {s s' : Shared} {Ξ : XD → Prop} {Ψ : Fl → St → Prop} {Φ : D → Prop} {K : St → Prop}

/-- the head and the turns of a list comprehension -/
noncomputable def COMP (C : Cx) (σ : St) (scope sc : Scope) (elt target : Expr) (ifs : List Expr) (Λ : List D → Prop) (items : List D) : Prop :=
  items.length ≤ sizeLine ∧ ∃ J : Nat → List D → Prop, J 0 [] ∧
      (∀ i d ys C', SubOf C scope sc C' → items[i]? = some d → J i ys → ASG C' (freeSt scope σ) target d (fun σ₂ => EVB C' σ₂ (testsT ifs C'.env) (fun ok => (ok = true → EV C' σ₂ (eval elt C'.env) (fun r => J (i + 1) (ys ++ [r])) NoX) ∧ (ok = false → J (i + 1) ys)) NoX) NoX) ∧
      ∀ ys, J items.length ys → Λ ys

theorem plain_sameBut {h h' : Heap} {D a : Addr} {vs : Array Value} (x : h.PlainList D vs) (hs : Heap.SameBut a h h') (hn : D ≠ a) : h'.PlainList D vs := by
  obtain ⟨n, e⟩ := x; exact ⟨n, (hs.2 D hn).trans e⟩

theorem ev_comp {elt target iter : Expr} {ifs : List Expr} {scope sc : Scope} {pos : Pos} (hsc : C.env.scope = sc)
    (h : EVI C σ target (eval iter C.env) (COMP C σ scope sc elt target ifs fun ys => Φ (.lst ys)) Ξ)
    (hk : scope.kind = .function := by rfl) (hnc : ∀ y ∈ scope.names, y.2 ≠ .cell := by decide) (hfree : ∀ y ∈ scope.names, y.2 = .free → sc.names.lookup y.1 = some .cell := by decide) (hnames : ∀ x ∈ scope.names, x.2 = .local → scope.names.lookup x.1 = some .local := by decide)
    (hs : ∀ x, foldedSetIterable iter C.env x = pure x := by intro _; rfl) : EV C σ (eval (.ListComp elt [⟨target, iter, ifs, 0⟩] scope pos) C.env) Φ Ξ := fun ow fx s I => by
  rw [eval_ListComp]
  refine comp_core (use := none) hsc hk hnc hfree hnames hs h I (fun _ _ e => e) fun D a s_e vs ys m h1 h2 h3 h4 h5 h6 h7 h8 h9 h10 => ⟨m, h10, fun h' hs' => ?_⟩
  have keep : ∀ b o, b ≠ a → s_e.heap.get? b = some o → h'.get? b = some o := fun b o hb e => (hs'.2 b hb).trans e
  have na : ∀ b o, s.heap.get? b = some o → b ≠ a := fun b o e q => by rw [q, h4] at e; cases e
  have hra : a ∉ C.ex ow fx := h9
  refine ⟨_, h1, ?_, .lst h8 (plain_sameBut h6 hs' h5).isList ?_⟩
  · obtain ⟨h0, tk0, rfl⟩ := h2.sh
    exact ⟨⟨h', tk0, rfl⟩, fun b o q1 q2 e => keep b o (na b o e) (h2.ex b o q1 q2 e), fun b o q1 e => by obtain ⟨sl, z⟩ := h2.sl b o q1 e; exact ⟨sl, keep b _ (na b o e) z⟩,
      fun b o e => by obtain ⟨o', z⟩ := h2.al b o e; exact ⟨o', keep b _ (na b o e) z⟩⟩
  · exact h7.mono (fun b o hb e => keep b o (fun q => hb (q ▸ .head _)) e) fun b o hb _ q => hb (.tail _ q)

/-- the comprehension's value stored under a name of this block -/
theorem ex_assign_comp {x : Str} {np : Pos} {elt target iter : Expr} {ifs : List Expr} {scope sc : Scope} {pos cpos : Pos} (hsc : C.env.scope = sc) (hx : sc.names.lookup x = some .local)
    (h : EVI C σ target (eval iter C.env) (COMP C σ scope sc elt target ifs fun ys => Ψ .next ((x, .dat (.lst ys)) :: σ)) Ξ)
    (hsw : swapsWith (.ListComp elt [⟨target, iter, ifs, 0⟩] scope cpos) (some (.Name x np)) pos.line C.env = pure true)
    (hk : scope.kind = .function := by rfl) (hnc : ∀ y ∈ scope.names, y.2 ≠ .cell := by decide) (hfree : ∀ y ∈ scope.names, y.2 = .free → sc.names.lookup y.1 = some .cell := by decide) (hnames : ∀ x ∈ scope.names, x.2 = .local → scope.names.lookup x.1 = some .local := by decide)
    (hs : ∀ x, foldedSetIterable iter C.env x = pure x := by intro _; rfl) : EX C σ (exec (.Assign [.Name x np] (.ListComp elt [⟨target, iter, ifs, 0⟩] scope cpos) pos) C.env) Ψ Ξ := fun ow fx s I => by
  have hxl : C.env.kindOf x = some .local := by unfold Env.kindOf; rw [hsc]; exact hx
  rw [exec_Assign_Name_used _ _ _ _ hsw]
  refine wpAny_bind (wpAny_standAt (wpAny_bind ?_))
  show wpAny _ _ (do let _ ← comprehension (.ListComp elt [⟨target, iter, ifs, 0⟩] scope cpos) scope C.env _ (newList []) false (eval iter C.env) (some (assign (.Name x np) C.env))) _ _ s
  refine wpAny_bind (wpAny_mono (Q := fun _ s' => SQ C ow fx s Ψ .next s') ?_ (fun _ s' hq => wpAny_pure (wpAny_pure hq)) fun _ _ e => e)
  refine comp_core (use := some (assign (.Name x np) C.env)) hsc hk hnc hfree hnames hs h I (fun _ _ e => e.pre0 (KP.refl _ _ _)) fun D a s_e vs ys m h1 h2 h3 h4 h5 h6 h7 h8 h9 h10 => ?_
  show wpAny _ _ (assign (.Name x np) C.env (.ref D)) _ _ _
  have Ie := I.kp h2
  have r : Rep C.g.P s_e.heap (C.ex ow fx) (.ref D) (.lst ys) := .lst h8 h6.isList (h7.ex_sub fun b hb => .tail _ hb)
  -- the block's own dict is foreign while the name is stored
  have Ia : Inv C σ ow ([a] ++ fx) s_e := I.addFx h2 (fun b hb => by obtain rfl := List.mem_singleton.mp hb; exact h4) fun b hb => by obtain rfl := List.mem_singleton.mp hb; obtain ⟨o, es, ep, ho, _⟩ := h10; exact ⟨o, ho⟩
  have ra : Rep C.g.P s_e.heap (C.ex ow ([a] ++ fx)) (.ref D) (.lst ys) := by
    have sub : ∀ b ∈ C.ex ow ([a] ++ fx), b ∈ a :: C.ex ow fx := fun b hb => by
      rw [mem_ex] at hb
      rcases hb with q | q | q
      · exact .tail _ (mem_ex.mpr (.inl q))
      · exact .tail _ (mem_ex.mpr (.inr (.inl q)))
      · rcases List.mem_append.mp q with q | q
        · obtain rfl := List.mem_singleton.mp q; exact .head _
        · exact .tail _ (mem_ex.mpr (.inr (.inr q)))
    refine .lst (fun q => ?_) h6.isList (h7.ex_sub sub)
    rcases List.mem_cons.mp (sub _ q) with q | q
    · exact h5 q
    · exact h8 q
  refine wpAny_assign_Name (store_any (lv := .dat (.lst ys)) (.inl hxl) Ia ra fun s2 I2 k2 => ?_)
  have hns2 : s2.heap.Ns a m := ns_sl h10 fun o e => k2.sl a o (fun q => by
    obtain ⟨o', e'⟩ := I.al a (mem_ex_sys q); rw [h4] at e'; cases e') e
  refine ⟨m, hns2, fun h' hs' => ?_⟩
  have keep : ∀ b o, b ∉ [a] → s2.heap.get? b = some o → h'.get? b = some o := fun b o hb e => (hs'.2 b fun q => hb (by simp [q])).trans e
  have na : ∀ b o, s.heap.get? b = some o → b ∉ [a] := fun b o e q => by rw [List.mem_singleton.mp q, h4] at e; cases e
  have frC := I.gd.frx
  refine ⟨.next, _, ow, h1, I2.lose (tk := s2.toks) (fun b hb => ?_) (fun b hb q => ?_) (fun n c hm q => ?_) (fun b hb q => ?_) keep, ?_, own_refl, trivial⟩
  · obtain rfl := List.mem_singleton.mp hb
    cases q : C.g.base.get? b with
    | none => rfl
    | some o => have := I.base b o q; rw [h4] at this; cases this
  · obtain ⟨o, e⟩ := I.al b (frC b hb); exact na b o e q
  · obtain ⟨v, o, ho, _⟩ := I.cel n c hm; exact na c o ho q
  · obtain ⟨o, e⟩ := I.al b (mem_ex_fx hb); exact na b o e q
  · have k2' : KP C.fr (C.mu ow) s s2 := (h2.mod _).trans (k2.mono fun b hb => List.mem_append.mpr (.inl hb))
    obtain ⟨h0, tk0, rfl⟩ := k2'.sh
    exact ⟨⟨h', tk0, rfl⟩, fun b o q1 q2 e => keep b o (na b o e) (k2'.ex b o q1 q2 e), fun b o q1 e => by obtain ⟨sl, z⟩ := k2'.sl b o q1 e; exact ⟨sl, keep b _ (na b o e) z⟩,
      fun b o e => by obtain ⟨o', z⟩ := k2'.al b o e; exact ⟨o', keep b _ (na b o e) z⟩⟩

/-! ## calls of the text's own defs -/
/-- a contract: the function at f, called with values that bear ds and named ones that bear ks -/
noncomputable def FnOk (g : Gx) (r : Nat) (f : Value) (ds : List D) (ns : List Str) (ks : List D) (Φ : D → Prop) (Ξ : XD → Prop) : Prop :=
  ∀ (A : Around) (fr : List Env) (ex : List Addr) (s : Shared) (vs kvs : List Value), A.frames = some fr → A.guards = some [] → A.handled = none → A.depth + r ≤ 600 → A.units + 20 * r ≤ 900 →
    g.base.StaysIn s.heap → s.heap.FunFrames g.base fr → (∀ b ∈ FRA fr, b ∈ ex) → (∀ b ∈ ex, ∃ o, s.heap.get? b = some o) → RepAll g.P s.heap ex vs ds → RepAll g.P s.heap ex kvs ks →
    codeAny g.M A (.call f ⟨vs, ns.zip kvs⟩) (fun r s' => match r with
      | .ok (.ret v) => ∃ d, Φ d ∧ KP fr [] s s' ∧ Rep g.P s'.heap ex v d
      | .ok _ => False
      | .error e => XQ fr [] s Ξ e s') s

theorem cl_fn {f : Value} {ds : List D} {ns : List Str} {ks : List D} {r : Nat} (h : FnOk C.g r f ds ns ks Φ Ξ) (hr : r ≤ C.rk) : CL C f ds ns ks Φ Ξ := fun ex s vs kvs G rv rk => by
  have hd := C.hd
  have hu := C.hu
  refine wpAny_call (codeAny_mono (h C.A C.fr ex s vs kvs C.hA C.hg C.hh (by lia) (by lia) G.base G.frames G.frx G.al rv rk) fun r s' q => ?_)
  match r, q with
  | .ok (.ret v), q => exact q
  | .error e, q => exact q
end
end Mine

/-! Fw13 -/
namespace Mine
open PySem PySem.W PySem.Calls PyProof.Rows

theorem cellsFrom_has {x : Str} : ∀ (names : List (Str × NameKind)) (n : Nat) (acc : List (Str × Addr)), ((x, NameKind.cell) ∈ names ∨ (acc.lookup x).isSome = true) → ((cellsFrom n names acc).lookup x).isSome = true
  | [], _, _, h => by
    unfold cellsFrom
    exact h.elim (fun q => nomatch q) id
  | (y, k) :: r, n, acc, h => by
    unfold cellsFrom
    split
    · rename_i hk
      refine cellsFrom_has r _ _ ?_
      by_cases hxy : x = y
      · subst hxy; right; rw [lookup_cons_eq]; rfl
      · rcases h with h | h
        · rcases List.mem_cons.mp h with e | h
          · exact absurd (Prod.mk.inj e).1 hxy
          · exact .inl h
        · right; rw [lookup_cons_ne hxy]; exact h
    · rename_i hk
      refine cellsFrom_has r _ _ ?_
      rcases h with h | h
      · rcases List.mem_cons.mp h with e | h
        · exact absurd (by rw [← (Prod.mk.inj e).2]; rfl) hk
        · exact .inl h
      · exact .inr h

theorem bindL_of {kindOf : Str → Option NameKind} {x : Str} : ∀ {binds : List (Str × Value)} {m : Str → Option Value}, x ∉ binds.map (·.1) → bindL kindOf binds m x = m x
  | [], _, _ => rfl
  | (n, v) :: r, m, h => by
    rw [List.map_cons, List.mem_cons, not_or] at h
    unfold bindL
    rw [bindL_of h.2]
    split
    · exact if_neg h.1
    · rfl
theorem bindC_of {kindOf : Str → Option NameKind} {x : Str} : ∀ {binds : List (Str × Value)} {m : Str → Option Value}, x ∉ binds.map (·.1) → bindC kindOf binds m x = m x
  | [], _, _ => rfl
  | (n, v) :: r, m, h => by
    rw [List.map_cons, List.mem_cons, not_or] at h
    unfold bindC
    rw [bindC_of h.2]
    split
    · rfl
    · exact if_neg h.1
theorem bindL_mem {kindOf : Str → Option NameKind} {x : Str} {v : Value} (hk : kindOf x = some .local) : ∀ {binds : List (Str × Value)} {m : Str → Option Value}, (binds.map (·.1)).Nodup → (x, v) ∈ binds → bindL kindOf binds m x = some v
  | (n, w) :: r, m, hn, h => by
    rw [List.map_cons, List.nodup_cons] at hn
    unfold bindL
    rcases List.mem_cons.mp h with e | h
    · cases e
      rw [bindL_of hn.1, if_pos hk, if_pos rfl]
    · exact bindL_mem hk hn.2 h
theorem bindC_mem {kindOf : Str → Option NameKind} {x : Str} {v : Value} (hk : ¬ kindOf x = some .local) : ∀ {binds : List (Str × Value)} {m : Str → Option Value}, (binds.map (·.1)).Nodup → (x, v) ∈ binds → bindC kindOf binds m x = some v
  | (n, w) :: r, m, hn, h => by
    rw [List.map_cons, List.nodup_cons] at hn
    unfold bindC
    rcases List.mem_cons.mp h with e | h
    · cases e
      rw [bindC_of hn.1, if_neg hk, if_pos rfl]
    · exact bindC_mem hk hn.2 h

section
variable {C : Cx} {σ : St} {ow : List (Str × Addr)} {fx ex : List Addr} {s s' : Shared} {Ξ : XD → Prop} {Ψ : Fl → St → Prop} {Φ : D → Prop} {K : St → Prop}

/-- out of a frame -/
theorem fly_leave {M : Model} {A : Around} {env : Env} {outer : List Env} {L : Addr} {s₀ s₁ s₂ : Shared} {mod : List Addr} {x : XD} {e : Value} {Q : Unit → Shared → Prop} {E : Value → Shared → Prop}
    (hA : A.frames = some (env :: outer)) (hL : env.frame = some L) (f : Fly (env :: outer) mod s₁ x e s₂) (hsh : ∃ h' tk, s₁ = { s₀ with heap := h', toks := tk }) (hk : ∀ b o, s₀.heap.get? b = some o → s₁.heap.get? b = some o)
    (hm : ∀ b ∈ mod, s₀.heap.get? b = none) (hLn : s₀.heap.get? L = none) (hQ : ∀ s₃, Fly outer [] s₀ x e s₃ → Q () s₃) : wpAny M A (leaving env e) Q E s₂ := by
  obtain ⟨h1, tk1, rfl⟩ := hsh
  obtain ⟨h2, tk2, rfl⟩ := f.sh
  have hFRA : FRA (env :: outer) = L :: FRA outer := by unfold FRA; rw [List.filterMap_cons, hL]
  obtain ⟨a, B, rfl, hB, st⟩ := f.st
  have nm : ∀ b o, s₀.heap.get? b = some o → b ∉ mod ∧ b ≠ L := fun b o e => ⟨(fun q => by rw [hm b q] at e; cases e), (fun q => by rw [q, hLn] at e; cases e)⟩
  have hB' : ∀ b o, b ∉ ([] : List Addr) → b ∉ FRA outer → s₀.heap.get? b = some o → B.get? b = some o := fun b o _ q e => hB b o (nm b o e).1 (fun z => by
    rw [hFRA] at z
    rcases List.mem_cons.mp z with z | z
    · exact (nm b o e).2 z
    · exact q z) (hk b o e)
  have fin : ∀ (h3 : Heap) (t : Addr) (vs : List Value), h2.FunFrames B (env :: outer) → Heap.FlyingW B outer a x.cls (.ref t) h3 → h3.TupAt t vs → B.get? t = none → MsgOk x vs → h2.UpToSlots h3 → Fly outer [] s₀ x (.ref a) { s₀ with heap := h3, toks := tk2 } := fun h3 t vs hff q1 q2 q3 q4 q5 =>
    ⟨⟨h3, tk2, rfl⟩, ⟨a, B, rfl, hB', .on t vs q1 q2 q3 q4⟩, fun b o hb _ e => sl_step hff q5 (by rw [hFRA]; exact .tail _ hb) (f.sl b o (by rw [hFRA]; exact .tail _ hb) (nm b o e).1 (hk b o e))⟩
  cases st with
  | new h vs q1 q2 q3 q4 =>
    exact wpAny_leaves_madeW hA hL q1 q2 q3 fun h3 t z1 z2 z3 z4 => hQ _ (fin h3 t vs (q2.of_keeps fun b o hb _ => ⟨o, q3.keeps b o hb, rfl⟩) z1 z2 z3 q4 z4)
  | on t vs q1 q2 q3 q4 =>
    exact wpAny_leaves_onW hA hL q1 fun h3 z1 z2 => hQ _ (fin h3 t vs q1.2.2.1 z1 (q2.of_slots z2) q3 q4 z2)
  | held L' t vs q0 q1 q2 q3 q4 =>
    have : L' = L := by
      have q0' : env.frame = some L' := q0
      rw [hL] at q0'; exact (Option.some.inj q0').symm
    subst this
    unfold leaving
    refine wpAny_bind (wpAny_noteFrame_againW hL q1.2.2.2 (wpAny_landsW q1 fun h3 z1 z2 => hQ _ (fin h3 t vs q1.2.2.1 ?_ (q2.of_slots z2) q3 q4 z2)))
    obtain ⟨k1, k2, ⟨_, _, k3⟩, k4⟩ := z1
    exact ⟨k1, k2, k3, k4⟩

/-- how a call binds -/
noncomputable def Binds (g : Gx) (fd : FuncData) (ds : List D) (ns : List Str) (ks : List D) (bs : List (Str × D)) : Prop :=
  ∀ (ex : List Addr) (s : Shared) (vs kvs : List Value), g.base.StaysIn s.heap → RepAll g.P s.heap ex vs ds → RepAll g.P s.heap ex kvs ks →
    ∃ binds : List (Str × Value), BindsTo s fd ⟨vs, ns.zip kvs⟩ binds ∧ binds.map (·.1) = bs.map (·.1) ∧ RepAll g.P s.heap ex (binds.map (·.2)) (bs.map (·.2))

/-- the function's own context -/
structure FnCx (g : Gx) (qual : Str) (scope : Scope) (r : Nat) (C : Cx) : Prop where
  g : C.g = g
  rk : C.rk = r
  comp : C.comp = false
  scope : C.env.scope = scope

noncomputable def retQ (Φ : D → Prop) : Fl → St → Prop
  | .ret d, _ => Φ d
  | .next, _ => Φ .none
  | _, _ => False

theorem binds_mem {g : Gx} {ex : List Addr} {h : Heap} : ∀ {binds : List (Str × Value)} {bs : List (Str × D)} {x : Str} {d : D}, binds.map (·.1) = bs.map (·.1) → RepAll g.P h ex (binds.map (·.2)) (bs.map (·.2)) → (x, d) ∈ bs → ∃ v, (x, v) ∈ binds ∧ Rep g.P h ex v d
  | [], [], _, _, _, _, h => nomatch h
  | (n, v) :: r, (n', d') :: r', x, d, h1, h2, h3 => by
    simp only [List.map_cons, List.cons.injEq] at h1 h2
    cases h2 with
    | cons q1 q2 =>
      rcases List.mem_cons.mp h3 with e | h3
      · cases e; obtain ⟨rfl, _⟩ := h1; exact ⟨v, .head _, q1⟩
      · obtain ⟨w, hw, hr⟩ := binds_mem h1.2 q2 h3
        exact ⟨w, .tail _ hw, hr⟩

set_option maxHeartbeats 1000000 in
theorem fn_def {g : Gx} {r f : Nat} {ds : List D} {ns : List Str} {ks : List D} {oc : Value} {od : Option Addr} {osl : Array (Option Value)} {name qual : Str} {params : Arguments} {body : List Stmt} {scope : Scope} {dV kV doc pm cdv ct : Value} {an : Option Addr} {bs : List (Str × D)}
    (ho : g.K.lookup f = some ⟨oc, od, .func (fnOf name qual params body scope dV kV doc pm an cdv ct), osl⟩) (hcd : codeIn g.K cdv qual = true)
    (hb : Binds g (fnOf name qual params body scope dV kV doc pm an cdv ct) ds ns ks bs)
    (h : ∀ C : Cx, FnCx g qual scope r C → EX C (bs.map fun p => (p.1, LV.dat p.2)) (execs body C.env) (retQ Φ) Ξ)
    (xs : List Str) (hxs : bs.map (·.1) = xs := by rfl) (hkd' : ∀ x ∈ xs, scope.names.lookup x = some .local ∨ scope.names.lookup x = some .cell := by decide +kernel) (hbn' : xs.Nodup := by decide +kernel) (hcn : ((cellsFrom 0 scope.names []).map (·.1)).Nodup := by decide +kernel)
    (hco : scope.isCoroutine = false := by rfl) (hgen : scope.isGenerator = false := by rfl) (hk : scope.kind = .function := by rfl) : FnOk g (r + 1) (.ref f) ds ns ks Φ Ξ := fun A fr ex s vs kvs hA hg hh hd hu hbase hfr hfx hal rv rk => by
  have hbn : (bs.map (·.1)).Nodup := hxs ▸ hbn'
  have hkd : ∀ x ∈ bs, scope.names.lookup x.1 = some .local ∨ scope.names.lookup x.1 = some .cell := fun x hx => hkd' x.1 (hxs ▸ List.mem_map_of_mem hx)
  obtain ⟨binds, hbi, hb1, hb2⟩ := hb ex s vs kvs hbase rv rk
  have hkind : ∀ x ∈ binds, scope.names.lookup x.1 = some .local ∨ (scope.names.lookup x.1 = some .cell ∧ ((cellsFrom (s.heap.objs.size + 1) scope.names []).lookup x.1).isSome = true) := fun x hx => by
    have : x.1 ∈ bs.map (·.1) := hb1 ▸ List.mem_map_of_mem hx
    obtain ⟨p, hp, e⟩ := List.mem_map.mp this
    rcases hkd p hp with q | q
    · exact .inl (e ▸ q)
    · exact .inr ⟨e ▸ q, cellsFrom_has _ _ _ (.inl (mem_of_lookup (e ▸ q)))⟩
  refine codeAny_call_function (by show A.depth < 1000; lia) (g.X.keeps hbase _ _ ho) rfl hco hgen rfl (codeRec_of (g.X.keeps hbase) hcd) (hbi _ _ _ _ ?_)
  refine wpAny_newFunctionEnv_cells hk hkind fun env he s₁ x => ⟨(g.T.nolimit.keeps hbase).keeps x.toInCall.keep, codeAny_func ?_⟩
  have hloc : env.locals = s.heap.objs.size := by rw [he]; rfl
  have hes : env.scope = scope := by rw [he]; rfl
  have hec : env.cells = cellsFrom (s.heap.objs.size + 1) scope.names [] := by rw [he]; rfl
  have hef : env.frame = some env.locals := by rw [he]; rfl
  have hLn : s.heap.get? env.locals = none := by rw [hloc]; exact Heap.get?_none_of_le (Nat.le_refl _)
  have habove := x.above
  have hcn' : (env.cells.map (·.1)).Nodup := by rw [hec]; exact cellsFrom_names scope.names 0 (s.heap.objs.size + 1) [] [] rfl ▸ hcn
  have hcnone : ∀ n c, (n, c) ∈ env.cells → s.heap.get? c = none := fun n c hm => Heap.get?_none_of_le (by rw [← hloc]; exact Nat.le_of_lt (habove n c hm))
  let C : Cx := {
    g := g, A := A.deeper env, env := env, fr := env :: fr, sys := env.locals :: env.cells.map (·.2), rk := r, comp := false
    kf := by rw [hes]; exact hk
    gl := by rw [he]; rfl
    bi := by rw [he]; rfl
    hA := Around.frames_deeper hA
    hg := hg
    hh := hh
    hd := by show A.depth + 1 + r ≤ 600; lia
    hu := by show A.units + 3 + 20 * r ≤ 900; lia
    locs := .head _
    cinj := fun _ => x.apart
    ckn := fun y hy => by rw [hec]; exact cellsFrom_has _ _ _ (.inl (mem_of_lookup (by unfold Env.kindOf at hy; rw [hes] at hy; exact hy)))
    cloc := fun n c hm => Nat.ne_of_gt (habove n c hm)
    csys := fun _ n c hm => .tail _ (List.mem_map_of_mem (f := (·.2)) hm)
    hfr := fun _ => ⟨fr, env.locals, rfl, hef⟩ }
  have hC : FnCx g qual scope r C := ⟨rfl, rfl, rfl, hes⟩
  have keep := x.toInCall.keep
  have nsys : ∀ b o, s.heap.get? b = some o → b ∉ C.sys := fun b o e q => by
    rcases List.mem_cons.mp q with q | q
    · rw [q, hLn] at e; cases e
    · obtain ⟨p, hp, rfl⟩ := List.mem_map.mp q
      rw [hcnone p.1 p.2 hp] at e; cases e
  have bnone : ∀ b, s.heap.get? b = none → g.base.get? b = none := fun b hb => by
    cases q : g.base.get? b with
    | none => rfl
    | some o => have := hbase b o q; rw [hb] at this; cases this
  have hFRA : FRA (env :: fr) = env.locals :: FRA fr := by unfold FRA; rw [List.filterMap_cons, hef]
  have I : Inv C (bs.map fun p => (p.1, LV.dat p.2)) [] ex s₁ := by
    refine ⟨fun b o e => keep b o (hbase b o e), ?_, fun b hb => ?_, fun b hb => ?_, List.nodup_nil, fun p hp => (nomatch hp), fun p hp => (nomatch hp), fun a ha => ⟨fun q => ?_, ?_⟩, ⟨_, x.toInCall.ns⟩, fun n c hm => ⟨_, x.cell n c (lookup_of_mem_nodup hcn' hm)⟩, fun y lv hy => ?_⟩
    · refine ⟨by rw [hes, hk]; decide, ?_, hfr.of_keeps fun b o e _ => ⟨o, keep b o e, rfl⟩⟩
      obtain ⟨⟨o, ho⟩, hnf⟩ := ns_noFields x.toInCall.ns
      exact ⟨env.locals, o, hef, bnone _ hLn, ho, hnf o ho⟩
    · rw [show C.fr = env :: fr from rfl, hFRA] at hb
      rcases List.mem_cons.mp hb with q | q
      · rw [q]; exact List.mem_append.mpr (.inl (.head _))
      · exact List.mem_append.mpr (.inr (hfx b q))
    · rw [mem_ex] at hb
      rcases hb with q | q | q
      · rcases List.mem_cons.mp q with q | q
        · rw [q]; exact (ns_noFields x.toInCall.ns).1
        · obtain ⟨p, hp, rfl⟩ := List.mem_map.mp q
          obtain ⟨o, ho, _⟩ := x.cell p.1 p.2 (lookup_of_mem_nodup hcn' hp)
          exact ⟨o, ho⟩
      · nomatch q
      · obtain ⟨o, e⟩ := hal b q; exact ⟨o, keep b o e⟩
    · obtain ⟨o, e⟩ := hal a q; exact nsys a o e ha
    · rcases List.mem_cons.mp ha with q | q
      · rw [q]; exact bnone _ hLn
      · obtain ⟨p, hp, rfl⟩ := List.mem_map.mp q
        exact bnone _ (hcnone p.1 p.2 hp)
    · have hmem := mem_of_lookup hy
      obtain ⟨p, hp, e⟩ := List.mem_map.mp hmem
      cases e
      obtain ⟨v, hv, hr⟩ := binds_mem hb1 hb2 (show (p.1, p.2) ∈ bs from hp)
      refine ⟨v, ?_, ?_⟩
      · have hbn' : (binds.map (·.1)).Nodup := hb1 ▸ hbn
        unfold slotVal
        have hkk : C.env.kindOf p.1 = scope.names.lookup p.1 := by show env.scope.names.lookup p.1 = _; rw [hes]
        rcases hkd p hp with q | q
        · rw [hkk, q]
          exact ⟨_, x.toInCall.ns, bindL_mem (by rw [← q]; show env.scope.names.lookup p.1 = _; rw [hes]) hbn' hv⟩
        · rw [hkk, q]
          obtain ⟨c, hc⟩ := Option.isSome_iff_exists.mp (C.ckn p.1 (hkk.trans q))
          refine ⟨c, hc, ?_⟩
          have := x.cell p.1 c hc
          rw [bindC_mem (by show ¬ env.scope.names.lookup p.1 = _; rw [hes, q]; decide) hbn' hv] at this
          exact this
      · refine hr.mono (fun b o _ e => keep b o e) fun b o hb e q => ?_
        rw [mem_ex] at q
        rcases q with q | q | q
        · exact nsys b o e q
        · nomatch q
        · exact hb q
  obtain ⟨h₁, tk₁, hs₁, _⟩ := x.done
  refine wpAny_mono (h C hC [] ex s₁ I) (fun fl s₂ q => ?_) fun e s₂ q => ?_
  · obtain ⟨fd, σ', ow', q1, q2, q3, q4, q5⟩ := q
    have kk : KP fr [] s s₂ := by
      have nmu : ∀ b o, s.heap.get? b = some o → b ∉ C.mu [] := fun b o e z => nsys b o e (by simpa [Cx.mu] using z)
      have nfr : ∀ b o, s.heap.get? b = some o → b ∉ FRA fr → b ∉ FRA C.fr := fun b o e z1 z => by
        rw [show C.fr = env :: fr from rfl, hFRA] at z
        rcases List.mem_cons.mp z with z | z
        · rw [z, hLn] at e; cases e
        · exact z1 z
      obtain ⟨h2, tk2, rfl⟩ := q3.sh
      refine ⟨⟨h2, tk2, by rw [hs₁]⟩, fun b o _ z e => q3.ex b o (nmu b o e) (nfr b o e z) (keep b o e), fun b o _ e => q3.sl b o (nmu b o e) (keep b o e), fun b o e => q3.al b o (keep b o e)⟩
    have sub : ∀ b ∈ ex, b ∈ C.ex ow' ex := fun b hb => mem_ex_fx hb
    cases fl <;> cases fd <;> first | exact q5.elim | exact q1.elim | skip
    · exact ⟨_, q1, kk, .val _⟩
    · exact ⟨_, q1, kk, Rep.ex_sub q5 sub⟩
  · obtain ⟨xd, hx, fl⟩ := q
    refine fly_leave (s₀ := s) (Around.frames_deeper hA) hef fl ⟨h₁, tk₁, hs₁⟩ keep (fun b hb => ?_) hLn fun s₃ hf => ⟨xd, hx, hf⟩
    rcases List.mem_append.mp hb with z | z
    · rcases List.mem_cons.mp z with z | z
      · rw [z]; exact hLn
      · obtain ⟨p, hp, rfl⟩ := List.mem_map.mp z
        exact hcnone p.1 p.2 hp
    · nomatch z
end
end Mine

/-! Fw14 -/
namespace Mine
open PySem PySem.W PySem.Calls PyProof.Rows

section
variable {C : Cx} {σ : St} {Ξ : XD → Prop} {Φ : D → Prop}

theorem pr_one {a : D} {t : List Value → Sem Value} (h : ∀ ex s v, Gd C ex s → Rep C.g.P s.heap ex v a → wpAny C.g.M C.A (t [v]) (VQ C ex s Φ) (XQ C.fr [] s Ξ) s) : PR C [a] t Φ Ξ := fun ex s vs G r => by
  obtain ⟨v, rfl, r1⟩ := r.inv1; exact h ex s v G r1
theorem pr_two {a b : D} {t : List Value → Sem Value} (h : ∀ ex s v1 v2, Gd C ex s → Rep C.g.P s.heap ex v1 a → Rep C.g.P s.heap ex v2 b → wpAny C.g.M C.A (t [v1, v2]) (VQ C ex s Φ) (XQ C.fr [] s Ξ) s) : PR C [a, b] t Φ Ξ := fun ex s vs G r => by
  obtain ⟨v, w, rfl, r1, r2⟩ := r.inv2; exact h ex s v w G r1 r2

theorem vq_int {ex : List Addr} {s : Shared} {i : Int} {t tk : Tok} (h : Φ (.int i)) : VQ C ex s Φ (.int i t) { s with toks := tk } := ⟨_, h, KP.toks _ _ _ _, .int _ _⟩
theorem vq_str {ex : List Addr} {s : Shared} {i : Str} {t tk : Tok} (h : Φ (.str i)) : VQ C ex s Φ (.str i t) { s with toks := tk } := ⟨_, h, KP.toks _ _ _ _, .str _ _⟩
theorem vq_bytes {ex : List Addr} {s : Shared} {i : Array UInt8} {t tk : Tok} (h : Φ (.bytes i)) : VQ C ex s Φ (.bytes i t) { s with toks := tk } := ⟨_, h, KP.toks _ _ _ _, .bytes _ _⟩
theorem vq_val {ex : List Addr} {s : Shared} {v : Value} (h : Φ (.val v)) : VQ C ex s Φ v s := ⟨_, h, KP.refl _ _ _, .val _⟩

variable {a b : Int}
theorem pr_add_int (h : Φ (.int (a + b))) : PR C [.int a, .int b] (fun vs => binaryOp .Add (vs.getD 0 .none) (vs.getD 1 .none)) Φ Ξ := pr_two fun ex s v1 v2 G r1 r2 => by (first | obtain ⟨_, rfl⟩ := r1.inv | obtain rfl := r1.inv | obtain ⟨_, rfl, _⟩ := r1.inv | obtain ⟨_, _, rfl, _⟩ := r1.inv); (first | obtain ⟨_, rfl⟩ := r2.inv | obtain rfl := r2.inv | obtain ⟨_, rfl, _⟩ := r2.inv | obtain ⟨_, _, rfl, _⟩ := r2.inv); exact add_int (vq_int h)
theorem pr_sub_int (h : Φ (.int (a - b))) : PR C [.int a, .int b] (fun vs => binaryOp .Sub (vs.getD 0 .none) (vs.getD 1 .none)) Φ Ξ := pr_two fun ex s v1 v2 G r1 r2 => by (first | obtain ⟨_, rfl⟩ := r1.inv | obtain rfl := r1.inv | obtain ⟨_, rfl, _⟩ := r1.inv | obtain ⟨_, _, rfl, _⟩ := r1.inv); (first | obtain ⟨_, rfl⟩ := r2.inv | obtain rfl := r2.inv | obtain ⟨_, rfl, _⟩ := r2.inv | obtain ⟨_, _, rfl, _⟩ := r2.inv); exact sub_int (vq_int h)
theorem pr_mul_int (hs : a.natAbs < 2 ^ 64 ∨ b.natAbs < 2 ^ 64) (h : Φ (.int (a * b))) : PR C [.int a, .int b] (fun vs => binaryOp .Mult (vs.getD 0 .none) (vs.getD 1 .none)) Φ Ξ := pr_two fun ex s v1 v2 G r1 r2 => by
  (first | obtain ⟨_, rfl⟩ := r1.inv | obtain rfl := r1.inv | obtain ⟨_, rfl, _⟩ := r1.inv | obtain ⟨_, _, rfl, _⟩ := r1.inv); (first | obtain ⟨_, rfl⟩ := r2.inv | obtain rfl := r2.inv | obtain ⟨_, rfl, _⟩ := r2.inv | obtain ⟨_, _, rfl, _⟩ := r2.inv)
  exact mul_int (vq_int h) (hs.elim (fun q => IntMulOk.of_left (intBits_le_iff.mpr q)) fun q => IntMulOk.of_right (intBits_le_iff.mpr q))
theorem pr_div_int (hb : 0 < b) (hb2 : b ≤ 2 ^ 200) (h : Φ (.int (a / b))) : PR C [.int a, .int b] (fun vs => binaryOp .FloorDiv (vs.getD 0 .none) (vs.getD 1 .none)) Φ Ξ := pr_two fun ex s v1 v2 G r1 r2 => by
  (first | obtain ⟨_, rfl⟩ := r1.inv | obtain rfl := r1.inv | obtain ⟨_, rfl, _⟩ := r1.inv | obtain ⟨_, _, rfl, _⟩ := r1.inv); (first | obtain ⟨_, rfl⟩ := r2.inv | obtain rfl := r2.inv | obtain ⟨_, rfl, _⟩ := r2.inv | obtain ⟨_, _, rfl, _⟩ := r2.inv)
  refine floordiv_int (by lia) (vq_int ?_) (.inl (PyProof.noPylong_of_log2 (Nat.lt_of_le_of_lt (m := 200) ?_ (by decide))))
  · rw [Int.fdiv_eq_ediv_of_nonneg _ (by lia)]; exact h
  · rw [← Nat.lt_succ_iff]
    have h2 : b.natAbs ≤ 2 ^ 200 := by lia
    exact (Nat.log2_lt (by lia)).mpr (Nat.lt_of_le_of_lt h2 (by decide))
theorem pr_mod_int (hb : 0 < b) (h : Φ (.int (a % b))) : PR C [.int a, .int b] (fun vs => binaryOp .Mod (vs.getD 0 .none) (vs.getD 1 .none)) Φ Ξ := pr_two fun ex s v1 v2 G r1 r2 => by
  (first | obtain ⟨_, rfl⟩ := r1.inv | obtain rfl := r1.inv | obtain ⟨_, rfl, _⟩ := r1.inv | obtain ⟨_, _, rfl, _⟩ := r1.inv); (first | obtain ⟨_, rfl⟩ := r2.inv | obtain rfl := r2.inv | obtain ⟨_, rfl, _⟩ := r2.inv | obtain ⟨_, _, rfl, _⟩ := r2.inv)
  refine PyProof.Rows.mod_int (by lia) (vq_int ?_)
  rw [Int.fmod_eq_emod_of_nonneg _ (by lia)]; exact h
theorem pr_pow_int {n : Nat} (hn : b = (n : Int)) (hn2 : n ≤ 1000000) (ha : a.natAbs < 2 ^ 64) (h : Φ (.int (a ^ n))) : PR C [.int a, .int b] (fun vs => binaryOp .Pow (vs.getD 0 .none) (vs.getD 1 .none)) Φ Ξ := pr_two fun ex s v1 v2 G r1 r2 => by
  (first | obtain ⟨_, rfl⟩ := r1.inv | obtain rfl := r1.inv | obtain ⟨_, rfl, _⟩ := r1.inv | obtain ⟨_, _, rfl, _⟩ := r1.inv); (first | obtain ⟨_, rfl⟩ := r2.inv | obtain rfl := r2.inv | obtain ⟨_, rfl, _⟩ := r2.inv | obtain ⟨_, _, rfl, _⟩ := r2.inv)
  refine pow_int_small (by lia) (by lia) ha (vq_int ?_)
  rw [hn, Int.toNat_natCast]; exact h
theorem pr_shl_int {n : Nat} (hn : b = (n : Int)) (hn2 : n ≤ 1000000) (ha : a.natAbs < 2 ^ 64) (h : Φ (.int (a * 2 ^ n))) : PR C [.int a, .int b] (fun vs => binaryOp .LShift (vs.getD 0 .none) (vs.getD 1 .none)) Φ Ξ := pr_two fun ex s v1 v2 G r1 r2 => by
  (first | obtain ⟨_, rfl⟩ := r1.inv | obtain rfl := r1.inv | obtain ⟨_, rfl, _⟩ := r1.inv | obtain ⟨_, _, rfl, _⟩ := r1.inv); (first | obtain ⟨_, rfl⟩ := r2.inv | obtain rfl := r2.inv | obtain ⟨_, rfl, _⟩ := r2.inv | obtain ⟨_, _, rfl, _⟩ := r2.inv)
  refine lshift_int_small (by lia) (by lia) ha (vq_int ?_)
  rw [hn, Int.toNat_natCast]; exact h
theorem pr_shr_int {n : Nat} (hn : b = (n : Int)) (h : Φ (.int (a / 2 ^ n))) : PR C [.int a, .int b] (fun vs => binaryOp .RShift (vs.getD 0 .none) (vs.getD 1 .none)) Φ Ξ := pr_two fun ex s v1 v2 G r1 r2 => by
  (first | obtain ⟨_, rfl⟩ := r1.inv | obtain rfl := r1.inv | obtain ⟨_, rfl, _⟩ := r1.inv | obtain ⟨_, _, rfl, _⟩ := r1.inv); (first | obtain ⟨_, rfl⟩ := r2.inv | obtain rfl := r2.inv | obtain ⟨_, rfl, _⟩ := r2.inv | obtain ⟨_, _, rfl, _⟩ := r2.inv)
  refine rshift_int (by lia) (vq_int ?_)
  rw [hn, Int.toNat_natCast, Int.fdiv_eq_ediv_of_nonneg _ (by have : (0 : Int) < 2 ^ n := Int.pow_pos (by lia); lia)]; exact h
theorem pr_or_int (h : Φ (.int (Builtin.bitOr a b))) : PR C [.int a, .int b] (fun vs => binaryOp .BitOr (vs.getD 0 .none) (vs.getD 1 .none)) Φ Ξ := pr_two fun ex s v1 v2 G r1 r2 => by (first | obtain ⟨_, rfl⟩ := r1.inv | obtain rfl := r1.inv | obtain ⟨_, rfl, _⟩ := r1.inv | obtain ⟨_, _, rfl, _⟩ := r1.inv); (first | obtain ⟨_, rfl⟩ := r2.inv | obtain rfl := r2.inv | obtain ⟨_, rfl, _⟩ := r2.inv | obtain ⟨_, _, rfl, _⟩ := r2.inv); exact or_int (vq_int h)
theorem pr_and_int (h : Φ (.int (Builtin.bitAnd a b))) : PR C [.int a, .int b] (fun vs => binaryOp .BitAnd (vs.getD 0 .none) (vs.getD 1 .none)) Φ Ξ := pr_two fun ex s v1 v2 G r1 r2 => by (first | obtain ⟨_, rfl⟩ := r1.inv | obtain rfl := r1.inv | obtain ⟨_, rfl, _⟩ := r1.inv | obtain ⟨_, _, rfl, _⟩ := r1.inv); (first | obtain ⟨_, rfl⟩ := r2.inv | obtain rfl := r2.inv | obtain ⟨_, rfl, _⟩ := r2.inv | obtain ⟨_, _, rfl, _⟩ := r2.inv); exact and_int (vq_int h)
theorem pr_neg_int (h : Φ (.int (-a))) : PR C [.int a] (fun vs => unaryOp .USub (vs.getD 0 .none)) Φ Ξ := pr_one fun ex s v1 G r1 => by (first | obtain ⟨_, rfl⟩ := r1.inv | obtain rfl := r1.inv | obtain ⟨_, rfl, _⟩ := r1.inv | obtain ⟨_, _, rfl, _⟩ := r1.inv); exact PyProof.Rows.neg_int (vq_int h)

theorem pr_eq_int (h : Φ (.bool (decide (a = b)))) : PR C [.int a, .int b] (fun vs => compareOp .Eq (vs.getD 0 .none) (vs.getD 1 .none)) Φ Ξ := pr_two fun ex s v1 v2 G r1 r2 => by
  (first | obtain ⟨_, rfl⟩ := r1.inv | obtain rfl := r1.inv | obtain ⟨_, rfl, _⟩ := r1.inv | obtain ⟨_, _, rfl, _⟩ := r1.inv); (first | obtain ⟨_, rfl⟩ := r2.inv | obtain rfl := r2.inv | obtain ⟨_, rfl, _⟩ := r2.inv | obtain ⟨_, _, rfl, _⟩ := r2.inv)
  refine eq_int (vq_val ?_)
  have : (a == b) = decide (a = b) := by by_cases q : a = b <;> simp [q]
  rw [this]; exact h
theorem pr_ne_int (h : Φ (.bool (decide (a ≠ b)))) : PR C [.int a, .int b] (fun vs => compareOp .NotEq (vs.getD 0 .none) (vs.getD 1 .none)) Φ Ξ := pr_two fun ex s v1 v2 G r1 r2 => by
  (first | obtain ⟨_, rfl⟩ := r1.inv | obtain rfl := r1.inv | obtain ⟨_, rfl, _⟩ := r1.inv | obtain ⟨_, _, rfl, _⟩ := r1.inv); (first | obtain ⟨_, rfl⟩ := r2.inv | obtain rfl := r2.inv | obtain ⟨_, rfl, _⟩ := r2.inv | obtain ⟨_, _, rfl, _⟩ := r2.inv)
  refine ne_int (vq_val ?_)
  have : (a != b) = decide (a ≠ b) := by by_cases q : a = b <;> simp [q]
  rw [this]; exact h
theorem pr_lt_int (h : Φ (.bool (decide (a < b)))) : PR C [.int a, .int b] (fun vs => compareOp .Lt (vs.getD 0 .none) (vs.getD 1 .none)) Φ Ξ := pr_two fun ex s v1 v2 G r1 r2 => by (first | obtain ⟨_, rfl⟩ := r1.inv | obtain rfl := r1.inv | obtain ⟨_, rfl, _⟩ := r1.inv | obtain ⟨_, _, rfl, _⟩ := r1.inv); (first | obtain ⟨_, rfl⟩ := r2.inv | obtain rfl := r2.inv | obtain ⟨_, rfl, _⟩ := r2.inv | obtain ⟨_, _, rfl, _⟩ := r2.inv); exact lt_int (vq_val h)
theorem pr_le_int (h : Φ (.bool (decide (a ≤ b)))) : PR C [.int a, .int b] (fun vs => compareOp .LtE (vs.getD 0 .none) (vs.getD 1 .none)) Φ Ξ := pr_two fun ex s v1 v2 G r1 r2 => by (first | obtain ⟨_, rfl⟩ := r1.inv | obtain rfl := r1.inv | obtain ⟨_, rfl, _⟩ := r1.inv | obtain ⟨_, _, rfl, _⟩ := r1.inv); (first | obtain ⟨_, rfl⟩ := r2.inv | obtain rfl := r2.inv | obtain ⟨_, rfl, _⟩ := r2.inv | obtain ⟨_, _, rfl, _⟩ := r2.inv); exact le_int (vq_val h)
theorem pr_ge_int (h : Φ (.bool (decide (a ≥ b)))) : PR C [.int a, .int b] (fun vs => compareOp .GtE (vs.getD 0 .none) (vs.getD 1 .none)) Φ Ξ := pr_two fun ex s v1 v2 G r1 r2 => by (first | obtain ⟨_, rfl⟩ := r1.inv | obtain rfl := r1.inv | obtain ⟨_, rfl, _⟩ := r1.inv | obtain ⟨_, _, rfl, _⟩ := r1.inv); (first | obtain ⟨_, rfl⟩ := r2.inv | obtain rfl := r2.inv | obtain ⟨_, rfl, _⟩ := r2.inv | obtain ⟨_, _, rfl, _⟩ := r2.inv); exact ge_int (vq_val h)
theorem tr_int {Θ : Bool → Prop} (h : Θ (decide (a ≠ 0))) : TR C (.int a) Θ := fun ex s v E G r => by
  (first | obtain ⟨_, rfl⟩ := r.inv | obtain rfl := r.inv | obtain ⟨_, rfl, _⟩ := r.inv | obtain ⟨_, _, rfl, _⟩ := r.inv)
  refine PyProof.Rows.truthy_int ?_
  have e : (a != 0) = decide (a ≠ 0) := by by_cases q : a = 0 <;> simp [q]
  rw [e]; exact ⟨h, KP.refl _ _ _⟩
end
end Mine

/-! Fw15 -/
namespace Mine
open PySem PySem.W PySem.Calls PyProof.Rows

section
variable {g : Gx} {fd : FuncData}
theorem binds1 {x : Str} {a : D} (h : ∀ v, bindArgs fd ⟨[v], []⟩ = pure [(x, v)]) : Binds g fd [a] [] [] [(x, a)] := fun ex s vs kvs hb r rk => by
  obtain ⟨_, rfl, r1⟩ := r.inv1; obtain rfl := rk.inv; exact ⟨_, BindsTo.of_eq (h _), rfl, .cons r1 .nil⟩
theorem binds2 {x y : Str} {a b : D} (h : ∀ v w, bindArgs fd ⟨[v, w], []⟩ = pure [(x, v), (y, w)]) : Binds g fd [a, b] [] [] [(x, a), (y, b)] := fun ex s vs kvs hb r rk => by
  obtain ⟨_, _, rfl, r1, r2⟩ := r.inv2; obtain rfl := rk.inv; exact ⟨_, BindsTo.of_eq (h _ _), rfl, .cons r1 (.cons r2 .nil)⟩
end
section
variable {C : Cx} {σ : St} {Ξ : XD → Prop} {Φ : D → Prop}
theorem lk_here {x : Str} {lv : LV} : List.lookup x ((x, lv) :: σ) = some lv := lookup_cons_eq
theorem lk_there {x y : Str} {lv lv' : LV} (h : x ≠ y) (h' : List.lookup x σ = some lv) : List.lookup x ((y, lv') :: σ) = some lv := (lookup_cons_ne h).trans h'
theorem st_loc {x : Str} {sc : Scope} (hsc : C.env.scope = sc) (hx : sc.names.lookup x = some .local) : StoreOk C x := .inl (by unfold Env.kindOf; rw [hsc]; exact hx)
theorem st_cell {x : Str} {sc : Scope} (hsc : C.env.scope = sc) (hc : C.comp = false) (hx : sc.names.lookup x = some .cell) : StoreOk C x := .inr ⟨by unfold Env.kindOf; rw [hsc]; exact hx, hc⟩
end
end Mine

/-! Fw16 -/
namespace Mine
open PySem PySem.W PySem.Calls PyProof.Rows

/-! ## texts and slices as lists -/
noncomputable def S (l : List Nat) : Str := ⟨l.toArray⟩
noncomputable def codes (s : String) : List Nat := s.toList.map Char.toNat
theorem ofString_S (s : String) : Str.ofString s = S (codes s) := Str.ofString_eq_toList s
theorem S_len (l : List Nat) : (S l).length = l.length := by simp [S, Str.length]
theorem S_app (a b : List Nat) : S a ++ S b = S (a ++ b) := by
  show (⟨a.toArray ++ b.toArray⟩ : Str) = ⟨(a ++ b).toArray⟩
  simp
theorem S_inj {a b : List Nat} : S a = S b ↔ a = b := ⟨fun h => by
  have : a.toArray = b.toArray := congrArg Str.cps h
  simpa using this, fun h => by rw [h]⟩
theorem S_toList (l : List Nat) : (S l).cps.toList = l := by simp [S]

noncomputable def pickL {α : Type} (l : List α) (lo hi st : Option Int) : List α :=
  (sliceRange (sliceBounds lo hi st l.length).1 (sliceBounds lo hi st l.length).2.1 (sliceBounds lo hi st l.length).2.2).filterMap (l[·]?)
theorem pick_runL {α : Type} (l : List α) (a k : Nat) : ((List.range k).map (a + ·)).filterMap (l[·]?) = (l.drop a).take k := by
  have := pick_run l.toArray a k
  simpa using this
theorem pickL_plain {α : Type} (l : List α) (lo hi : Option Int) : pickL l lo hi none = (l.drop (lo.elim 0 (clipAt l.length))).take (hi.elim l.length (clipAt l.length) - lo.elim 0 (clipAt l.length)) := by
  unfold pickL
  rw [sliceBounds_plain]
  simp only [sliceRange_one, pick_runL]
theorem pickL_to {α : Type} (l : List α) (k : Nat) : pickL l none (some (k : Int)) none = l.take k := by
  rw [pickL_plain]
  simp only [Option.elim, clipAt_nat, List.drop_zero, Nat.sub_zero]
  rcases Nat.le_total k l.length with h | h
  · rw [Nat.min_eq_left h]
  · rw [Nat.min_eq_right h, List.take_of_length_le (Nat.le_refl _), List.take_of_length_le h]
theorem pickL_inner {α : Type} (l : List α) : pickL l (some 1) (some (-1)) none = (l.drop 1).take (l.length - 2) := by
  rw [pickL_plain]
  simp only [Option.elim, show (-1 : Int) = -((1 : Nat) : Int) from rfl, clipAt_neg _ _ (Nat.le_refl 1), show (1 : Int) = ((1 : Nat) : Int) from rfl, clipAt_nat]
  rcases Nat.lt_or_ge 0 l.length with h | h
  · rw [Nat.min_eq_left (show 1 ≤ l.length by lia)]; congr 1
  · have : l = [] := List.eq_nil_of_length_eq_zero (by lia)
    subst this; simp
theorem strSlice_pick (l : List Nat) (lo hi st : Option Int) : (Builtin.Str.strSliceIndices lo hi (st.getD 1) l.length).filterMap (l[·]?) = pickL l lo hi st := by
  unfold pickL sliceBounds Builtin.Str.strSliceIndices; rfl

section
variable {C : Cx} {σ : St} {Ξ : XD → Prop} {Φ : D → Prop}
theorem ev_strc {x : String} {k : Nat} {pos : Pos} (h : Φ (.str (S (codes x)))) : EV C σ (eval (.Constant (.str (Str.ofString x)) k pos) C.env) Φ Ξ := ev_str (by rw [ofString_S]; exact h)

theorem pr_add_str {x y : List Nat} (hs : x.length + y.length ≤ sizeLine) (h : Φ (.str (S (x ++ y)))) : PR C [.str (S x), .str (S y)] (fun vs => binaryOp .Add (vs.getD 0 .none) (vs.getD 1 .none)) Φ Ξ := pr_two fun ex s v1 v2 G r1 r2 => by
  (first | obtain ⟨_, rfl⟩ := r1.inv | obtain rfl := r1.inv | obtain ⟨_, rfl, _⟩ := r1.inv | obtain ⟨_, _, rfl, _⟩ := r1.inv); (first | obtain ⟨_, rfl⟩ := r2.inv | obtain rfl := r2.inv | obtain ⟨_, rfl, _⟩ := r2.inv | obtain ⟨_, _, rfl, _⟩ := r2.inv)
  refine PyProof.Rows.add_str (fun t' tk => ?_) (by rw [S_len, S_len]; exact hs)
  rw [S_app]; exact vq_str h
theorem beqS {x y : List Nat} : (S x == S y) = decide (x = y) := by
  by_cases h : x = y
  · subst h; simp
  · have : ¬ S x = S y := fun q => h (S_inj.mp q)
    simp [h, this]
theorem pr_eq_str {x y : List Nat} (h : Φ (.bool (decide (x = y)))) : PR C [.str (S x), .str (S y)] (fun vs => compareOp .Eq (vs.getD 0 .none) (vs.getD 1 .none)) Φ Ξ := pr_two fun ex s v1 v2 G r1 r2 => by
  (first | obtain ⟨_, rfl⟩ := r1.inv | obtain rfl := r1.inv | obtain ⟨_, rfl, _⟩ := r1.inv | obtain ⟨_, _, rfl, _⟩ := r1.inv); (first | obtain ⟨_, rfl⟩ := r2.inv | obtain rfl := r2.inv | obtain ⟨_, rfl, _⟩ := r2.inv | obtain ⟨_, _, rfl, _⟩ := r2.inv); refine PyProof.Rows.eq_str (vq_val ?_); rw [beqS]; exact h
theorem pr_ne_str {x y : List Nat} (h : Φ (.bool (decide (x ≠ y)))) : PR C [.str (S x), .str (S y)] (fun vs => compareOp .NotEq (vs.getD 0 .none) (vs.getD 1 .none)) Φ Ξ := pr_two fun ex s v1 v2 G r1 r2 => by
  (first | obtain ⟨_, rfl⟩ := r1.inv | obtain rfl := r1.inv | obtain ⟨_, rfl, _⟩ := r1.inv | obtain ⟨_, _, rfl, _⟩ := r1.inv); (first | obtain ⟨_, rfl⟩ := r2.inv | obtain rfl := r2.inv | obtain ⟨_, rfl, _⟩ := r2.inv | obtain ⟨_, _, rfl, _⟩ := r2.inv); refine PyProof.Rows.ne_str (vq_val ?_)
  have : (S x != S y) = decide (x ≠ y) := by simp only [bne, beqS, decide_not]
  rw [this]; exact h

/-! items -/
theorem seqIdx_nat {k n : Nat} (h : k < n) : seqIndex? (k : Int) n = some k := by
  unfold seqIndex?
  have a : ¬ ((k : Int) < 0) := by lia
  simp [a, h]
theorem seqIdx_last {n : Nat} (h : 0 < n) : seqIndex? (-1) n = some (n - 1) := by
  unfold seqIndex?
  have e : (-1 : Int) + (n : Int) = ((n - 1 : Nat) : Int) := by lia
  have h2 : n - 1 < n := by lia
  simp [e, h2]
theorem pr_item_str {value slice : Expr} {x : List Nat} {i : Int} {j c : Nat} (hi : -(2 ^ 63) ≤ i ∧ i < 2 ^ 63) (hj : seqIndex? i x.length = some j) (hc : x[j]? = some c) (h : Φ (.str (S [c])))
    (hs : ∀ o i, ∃ ops, subscripted slice false o i = operate ops (getItem o i) := by intro o i; exact ⟨_, rfl⟩) :
    PR C [.str (S x), .int i] (fun vs => subscriptTail value slice (vs.getD 0 .none) (vs.getD 1 .none)) Φ Ξ := pr_tail (fun w e => nomatch e) F.slot_str_getitem.lookup (pr_two fun ex s v1 v2 G r1 r2 => by
  (first | obtain ⟨_, rfl⟩ := r1.inv | obtain rfl := r1.inv | obtain ⟨_, rfl, _⟩ := r1.inv | obtain ⟨_, _, rfl, _⟩ := r1.inv); (first | obtain ⟨_, rfl⟩ := r2.inv | obtain rfl := r2.inv | obtain ⟨_, rfl, _⟩ := r2.inv | obtain ⟨_, _, rfl, _⟩ := r2.inv)
  refine PyProof.Rows.getItem_str (c := c) (by simp only [Bool.or_eq_false_iff, decide_eq_false_iff_not]; lia) ?_ (vq_str h)
  rw [S_len, hj]; simpa [S] using hc) hs
theorem pr_item_list {value slice : Expr} {ds : List D} {i : Int} {j : Nat} {d : D} (hi : -(2 ^ 63) ≤ i ∧ i < 2 ^ 63) (hj : seqIndex? i ds.length = some j) (hc : ds[j]? = some d) (h : Φ d)
    (hs : ∀ o i, ∃ ops, subscripted slice false o i = operate ops (getItem o i) := by intro o i; exact ⟨_, rfl⟩) :
    PR C [.lst ds, .int i] (fun vs => subscriptTail value slice (vs.getD 0 .none) (vs.getD 1 .none)) Φ Ξ := pr_tail (fun w e => nomatch e) slot_list_getitem.lookup (pr_two fun ex s v1 v2 G r1 r2 => by
  (first | obtain ⟨_, rfl⟩ := r2.inv | obtain rfl := r2.inv | obtain ⟨_, rfl, _⟩ := r2.inv | obtain ⟨_, _, rfl, _⟩ := r2.inv)
  obtain ⟨_, _, rfl, ha, hl, hr⟩ := r1.inv
  rename_i t a vs
  obtain ⟨v, hv, r⟩ := hr.get hc
  have hlen := hr.length
  by_cases h0 : 0 ≤ i
  · obtain ⟨k, rfl⟩ := Int.eq_ofNat_of_zero_le h0
    have hjk : j = k := by
      unfold seqIndex? at hj
      have a1 : ¬ ((k : Int) < 0) := by lia
      simp [a1] at hj; lia
    subst hjk
    exact wpAny_getItem_list hl (by lia) (by lia) (x := v) (by simpa using hv) ⟨d, h, KP.refl _ _ _, r⟩
  · have hneg : -(ds.length : Int) ≤ i := by
      unfold seqIndex? at hj
      have a1 : i < 0 := by lia
      simp only [a1, if_true] at hj
      by_cases q : 0 ≤ i + (ds.length : Int)
      · lia
      · simp [q] at hj
    have hjk : j = (i + (ds.length : Int)).toNat := by
      have := StrLaws.seqIndex_neg (i := i) (n := ds.length) (by lia) hneg
      rw [this] at hj; exact (Option.some.inj hj).symm
    have hlen' : (vs.toArray.size : Int) = ds.length := by rw [List.size_toArray, hlen]
    refine wpAny_getItem_list_neg hl (by lia) (by lia) (by lia) (x := v) ?_ ⟨d, h, KP.refl _ _ _, r⟩
    rw [hlen', ← hjk]; simpa using hv) hs
theorem pr_item_bytes {value slice : Expr} {x : List UInt8} {i : Int} (k : Nat) (hik : i = (k : Int)) {c : UInt8} (hx : x.length ≤ 2 ^ 20) (hc : x[k]? = some c) (h : Φ (.int c.toNat))
    (hs : ∀ o i, ∃ ops, subscripted slice false o i = operate ops (getItem o i) := by intro o i; exact ⟨_, rfl⟩) :
    PR C [.bytes x.toArray, .int i] (fun vs => subscriptTail value slice (vs.getD 0 .none) (vs.getD 1 .none)) Φ Ξ := pr_tail (fun w e => nomatch e) FB.slot_bytes_getitem.lookup (pr_two fun ex s v1 v2 G r1 r2 => by
  subst hik
  (first | obtain ⟨_, rfl⟩ := r2.inv | obtain rfl := r2.inv | obtain ⟨_, rfl, _⟩ := r2.inv | obtain ⟨_, _, rfl, _⟩ := r2.inv); (first | obtain ⟨_, rfl⟩ := r1.inv | obtain rfl := r1.inv | obtain ⟨_, rfl, _⟩ := r1.inv | obtain ⟨_, _, rfl, _⟩ := r1.inv)
  have hk : k < x.length := by
    rw [List.getElem?_eq_some_iff] at hc; exact hc.1
  refine getItem_bytes (by lia) (by lia) (by lia) ?_
  have e : x.getD ((k : Int)).toNat 0 = c := by
    rw [Int.toNat_natCast, List.getD_eq_getElem?_getD, hc]; rfl
  rw [e]; exact vq_int h) hs

/-! slices -/
theorem isSlice3 {P : Params} {h : Heap} {ex : List Addr} {a : Addr} {l u st : D} (r : Rep P h ex (.ref a) (.slc [l, u, st])) : ∃ vl vu vs, h.IsSliceOf a vl vu vs ∧ Rep P h ex vl l ∧ Rep P h ex vu u ∧ Rep P h ex vs st := by
  obtain ⟨_, vs, e, ha, ho, hr⟩ := r.inv
  obtain ⟨_, _, _, rfl, r1, r2, r3⟩ := hr.inv3
  injection e with e
  subst e
  exact ⟨_, _, _, ho, r1, r2, r3⟩
noncomputable def partD : Option Int → D
  | .none => .none
  | .some i => .int i
theorem isPart_of {P : Params} {h : Heap} {ex : List Addr} {v : Value} {p : Option Int} (r : Rep P h ex v (partD p)) : IsPart v p := by
  cases p with
  | none => obtain rfl := r.inv; exact .none
  | some i => obtain ⟨_, rfl⟩ := r.inv; exact .int _ _
theorem part_val {P : Params} {h : Heap} {ex : List Addr} {v : Value} {p : Option Int} (r : Rep P h ex v (partD p)) : ∃ q : Option (Int × Tok), v = partValue q ∧ q.map (·.1) = p := by
  cases p with
  | none => obtain rfl := r.inv; exact ⟨none, rfl, rfl⟩
  | some i => obtain ⟨_, rfl⟩ := r.inv; exact ⟨some (i, _), rfl, rfl⟩
theorem pr_slice_list {value slice : Expr} {ds : List D} {lo hi st : Option Int} (hz : ds.length ≤ sizeLine) (h0 : st ≠ some 0) (h : Φ (.lst (pickL ds lo hi st)))
    (hs : ∀ o i, ∃ ops, subscripted slice false o i = operate ops (getItem o i) := by intro o i; exact ⟨_, rfl⟩) :
    PR C [.lst ds, .slc [partD lo, partD hi, partD st]] (fun vs => subscriptTail value slice (vs.getD 0 .none) (vs.getD 1 .none)) Φ Ξ := pr_tail (fun w e => nomatch e) slot_list_getitem.lookup (pr_two fun ex s v1 v2 G r1 r2 => by
  obtain ⟨_, _, rfl, ha, hl, hr⟩ := r1.inv
  rename_i a vs
  obtain ⟨sl, rfl⟩ : ∃ sl, v2 = .ref sl := by (first | obtain ⟨_, rfl⟩ := r2.inv | obtain rfl := r2.inv | obtain ⟨_, rfl, _⟩ := r2.inv | obtain ⟨_, _, rfl, _⟩ := r2.inv); exact ⟨_, rfl⟩
  obtain ⟨vl, vu, vst, hsl, p1, p2, p3⟩ := isSlice3 r2
  have hlen := hr.length
  refine wpAny_getItem_list_slice hl hsl (isPart_of p1) (isPart_of p2) (isPart_of p3) h0 ⟨_, h, KP.push _, .lst (vs := pickL vs lo hi st) G.fresh ⟨_, Heap.get?_push_size _ rfl, rfl, 0, ?_⟩ ?_⟩ (by rw [List.size_toArray, hlen]; exact hz)
  · show Data.seq _ _ = Data.seq _ _
    congr 1
    unfold slicePick pickL
    simp
  · refine RepAll.mono (fun b o _ e => Heap.get?_push_of_some _ e) (fun _ _ h _ => h) ?_
    unfold pickL
    rw [hlen]
    exact pick_rep hr _) hs
where
  pick_rep {P : Params} {h : Heap} {ex : List Addr} {vs : List Value} {ds : List D} (r : RepAll P h ex vs ds) : ∀ (ks : List Nat), RepAll P h ex (ks.filterMap (vs[·]?)) (ks.filterMap (ds[·]?))
    | [] => .nil
    | k :: ks => by
      rw [List.filterMap_cons, List.filterMap_cons]
      by_cases hk : k < ds.length
      · obtain ⟨v, hv, q⟩ := r.get (k := k) (d := ds[k]) (by simp [hk])
        have e : ds[k]? = some ds[k] := by simp [hk]
        rw [hv, e]
        exact .cons q (pick_rep r ks)
      · have e1 : ds[k]? = none := by simp; lia
        have e2 : vs[k]? = none := by simp; rw [r.length]; lia
        rw [e1, e2]
        exact pick_rep r ks
theorem pr_slice_str {value slice : Expr} {x : List Nat} {lo hi : Option Int} (hz : x.length ≤ sizeLine) (h : Φ (.str (S (pickL x lo hi none))))
    (hs : ∀ o i, ∃ ops, subscripted slice false o i = operate ops (getItem o i) := by intro o i; exact ⟨_, rfl⟩) :
    PR C [.str (S x), .slc [partD lo, partD hi, .none]] (fun vs => subscriptTail value slice (vs.getD 0 .none) (vs.getD 1 .none)) Φ Ξ := pr_tail (fun w e => nomatch e) F.slot_str_getitem.lookup (pr_two fun ex s v1 v2 G r1 r2 => by
  (first | obtain ⟨_, rfl⟩ := r1.inv | obtain rfl := r1.inv | obtain ⟨_, rfl, _⟩ := r1.inv | obtain ⟨_, _, rfl, _⟩ := r1.inv)
  obtain ⟨sl, rfl⟩ : ∃ sl, v2 = .ref sl := by (first | obtain ⟨_, rfl⟩ := r2.inv | obtain rfl := r2.inv | obtain ⟨_, rfl, _⟩ := r2.inv | obtain ⟨_, _, rfl, _⟩ := r2.inv); exact ⟨_, rfl⟩
  obtain ⟨vl, vu, vst, hsl, p1, p2, p3⟩ := isSlice3 r2
  obtain ⟨l, rfl, hl⟩ := part_val p1
  obtain ⟨u, rfl, hu⟩ := part_val p2
  obtain rfl := p3.inv
  refine wpAny_getItem_str_slice (l := l) (u := u) (st := none) hsl rfl ?_
  unfold sliceMade slicePicked
  rw [hl, hu, S_len]
  have e : ∀ ks : List Nat, ks.filterMap ((S x).cps[·]?) = ks.filterMap (x[·]?) := fun ks => by simp [S]
  have e2 := strSlice_pick x lo hi none
  split
  · rename_i hc
    have hfull : pickL x lo hi none = x := by
      simp only [Option.map_none, Option.getD_none, Bool.and_eq_true, beq_iff_eq] at hc
      have e1 : Builtin.Str.strSliceIndices lo hi 1 x.length = sliceRange (sliceBounds lo hi none x.length).1 (sliceBounds lo hi none x.length).2.1 (sliceBounds lo hi none x.length).2.2 := rfl
      have hc2 := hc.2
      rw [e1, sliceBounds_plain] at hc2
      simp only [sliceRange_one, List.length_map, List.length_range] at hc2
      rw [pickL_plain]
      have hb : hi.elim x.length (clipAt x.length) ≤ x.length := by
        cases hi with
        | none => exact Nat.le_refl _
        | some i => have := clipAt_cast x.length i; simp only [Option.elim]; lia
      rw [hc2]
      by_cases hn : x.length = 0
      · have : x = [] := List.eq_nil_of_length_eq_zero hn
        subst this; simp
      · have ha : lo.elim 0 (clipAt x.length) = 0 := by lia
        rw [ha, List.drop_zero, List.take_length]
    rw [hfull] at h
    exact ⟨_, h, KP.refl _ _ _, .str _ _⟩
  · have e3 : (⟨((Builtin.Str.strSliceIndices lo hi ((Option.map (fun x => x.1) (none : Option (Int × Tok))).getD 1) x.length).filterMap ((S x).cps[·]?)).toArray⟩ : Str) = S (pickL x lo hi none) := by
      rw [e]; show S _ = S _; rw [← e2]; rfl
    rw [e3]
    refine ⟨?_, vq_str h⟩
    rw [S_len, pickL_plain]
    exact Nat.le_trans (List.length_take_le' _ _) (Nat.le_trans (by rw [List.length_drop]; lia) hz)) hs
end
end Mine

/-! Fw17 -/
namespace Mine
open PySem PySem.W PySem.Calls PyProof.Rows

section
variable {C : Cx} {σ : St} {Ξ : XD → Prop} {Φ : D → Prop}

theorem cl_one {f : Value} {a : D} (h : ∀ ex s v, Gd C ex s → Rep C.g.P s.heap ex v a → wpAny C.g.M C.A (call f [v]) (VQ C ex s Φ) (XQ C.fr [] s Ξ) s) : CL C f [a] [] [] Φ Ξ := fun ex s vs kvs G r rk => by
  obtain ⟨_, rfl, r1⟩ := r.inv1; obtain rfl := rk.inv; exact h ex s _ G r1
theorem cl_two {f : Value} {a b : D} (h : ∀ ex s v w, Gd C ex s → Rep C.g.P s.heap ex v a → Rep C.g.P s.heap ex w b → wpAny C.g.M C.A (call f [v, w]) (VQ C ex s Φ) (XQ C.fr [] s Ξ) s) : CL C f [a, b] [] [] Φ Ξ := fun ex s vs kvs G r rk => by
  obtain ⟨_, _, rfl, r1, r2⟩ := r.inv2; obtain rfl := rk.inv; exact h ex s _ _ G r1 r2
theorem vq_keep {ex : List Addr} {s : Shared} {v : Value} {d : D} {h' : Heap} {tk : Nat} (h : Φ d) (hk : ∀ b o, s.heap.get? b = some o → h'.get? b = some o) (r : Rep C.g.P h' ex v d) : VQ C ex s Φ v { s with heap := h', toks := tk } := ⟨d, h, KP.of_keep hk, r⟩

/-! len -/
theorem cl_len_list {ds : List D} (hz : ds.length ≤ 2 ^ 24) (h : Φ (.int ds.length)) : CL C (.builtin "len") [.lst ds] [] [] Φ Ξ := cl_one fun ex s v G r => by
  obtain ⟨_, _, rfl, ha, hl, hr⟩ := r.inv
  refine PyProof.Rows.len_list hl (by rw [List.size_toArray, hr.length]; lia) ?_
  rw [List.size_toArray, hr.length]; exact vq_int h
theorem cl_len_bytes {x : List UInt8} (hz : x.length ≤ 2 ^ 24) (h : Φ (.int x.length)) : CL C (.builtin "len") [.bytes x.toArray] [] [] Φ Ξ := cl_one fun ex s v G r => by
  (first | obtain ⟨_, rfl⟩ := r.inv | obtain rfl := r.inv | obtain ⟨_, rfl, _⟩ := r.inv | obtain ⟨_, _, rfl, _⟩ := r.inv)
  refine len_bytes (by rw [List.size_toArray]; lia) ?_
  rw [List.size_toArray]; exact vq_int h

/-! chr, type, str -/
theorem cl_chr {x : Int} (i : Nat) (hx : x = (i : Int)) (hi : i ≤ 1114111) (h : Φ (.str (S [i]))) : CL C (.builtin "chr") [.int x] [] [] Φ Ξ := cl_one fun ex s v G r => by
  subst hx
  (first | obtain ⟨_, rfl⟩ := r.inv | obtain rfl := r.inv | obtain ⟨_, rfl, _⟩ := r.inv | obtain ⟨_, _, rfl, _⟩ := r.inv)
  exact chr_of_range (by lia) (by lia) (vq_str h)
theorem cl_type {d : D} (hd : ∀ w, d ≠ .val w) (h : Φ (.val (.type (DT d)))) : CL C (.type "type") [d] [] [] Φ Ξ := cl_one fun ex s v G r => by
  refine call_type_of (r.typeIs hd) ?_ (vq_val h)
  cases d <;> first | rfl | (exact absurd rfl (hd _)) | decide
theorem cl_type_bool {b : Bool} (h : Φ (.val (.type "bool"))) : CL C (.type "type") [.bool b] [] [] Φ Ξ := cl_one fun ex s v G r => by
  (first | obtain ⟨_, rfl⟩ := r.inv | obtain rfl := r.inv | obtain ⟨_, rfl, _⟩ := r.inv | obtain ⟨_, _, rfl, _⟩ := r.inv)
  exact call_type_of (show s.TypeIs (.bool b) "bool" from rfl) (by decide) (vq_val h)
theorem cl_str_int {i : Int} (hi : i.natAbs < 2 ^ 64) (h : Φ (.str (S (codes (toString i))))) : CL C (.type "str") [.int i] [] [] Φ Ξ := cl_one fun ex s v G r => by
  (first | obtain ⟨_, rfl⟩ := r.inv | obtain rfl := r.inv | obtain ⟨_, rfl, _⟩ := r.inv | obtain ⟨_, _, rfl, _⟩ := r.inv)
  refine P.str_of_int ?_ (vq_str ?_)
  · by_cases q : i.natAbs = 0
    · rw [q]; decide
    · exact Nat.lt_trans ((Nat.log2_lt q).mpr hi) (by decide)
  · rw [show ((toString i : String) : Str) = S (codes (toString i)) from ofString_S _]; exact h

/-! is -/
theorem Rep.plain_none {P : Params} {h : Heap} {ex : List Addr} {v : Value} {d : D} (r : Rep P h ex v d) (hd : ∀ w, d ≠ .val w) : plainIs v .none = true := by
  have q := r.inv
  cases d with
  | val v => exact absurd rfl (hd v)
  | int i => obtain ⟨_, rfl⟩ := q; rfl
  | str i => obtain ⟨_, rfl⟩ := q; rfl
  | bytes i => obtain ⟨_, rfl⟩ := q; rfl
  | dct _ => obtain ⟨_, rfl, _⟩ := q; rfl
  | _ => obtain ⟨_, _, rfl, _⟩ := q; rfl
theorem Rep.not_none {P : Params} {h : Heap} {ex : List Addr} {v : Value} {d : D} (r : Rep P h ex v d) (hd : ∀ w, d ≠ .val w) : (v == Value.none) = false := by
  have q := r.inv
  cases d with
  | val v => exact absurd rfl (hd v)
  | int i => obtain ⟨_, rfl⟩ := q; rfl
  | str i => obtain ⟨_, rfl⟩ := q; rfl
  | bytes i => obtain ⟨_, rfl⟩ := q; rfl
  | dct _ => obtain ⟨_, rfl, _⟩ := q; rfl
  | _ => obtain ⟨_, _, rfl, _⟩ := q; rfl

theorem pr_is {v w : Value} {t : Bool} (hp : plainIs v w = true) (ht : (v == w) = t) (h : Φ (.bool t)) : PR C [.val v, .val w] (fun vs => compareOp .Is (vs.getD 0 .none) (vs.getD 1 .none)) Φ Ξ := pr_two fun ex s v1 v2 G r1 r2 => by
  (first | obtain ⟨_, rfl⟩ := r1.inv | obtain rfl := r1.inv | obtain ⟨_, rfl, _⟩ := r1.inv | obtain ⟨_, _, rfl, _⟩ := r1.inv); (first | obtain ⟨_, rfl⟩ := r2.inv | obtain rfl := r2.inv | obtain ⟨_, rfl, _⟩ := r2.inv | obtain ⟨_, _, rfl, _⟩ := r2.inv); subst ht; exact wpAny_is_plain hp (vq_val h)
theorem pr_isNot {v w : Value} {t : Bool} (hp : plainIs v w = true) (ht : (!(v == w)) = t) (h : Φ (.bool t)) : PR C [.val v, .val w] (fun vs => compareOp .IsNot (vs.getD 0 .none) (vs.getD 1 .none)) Φ Ξ := pr_two fun ex s v1 v2 G r1 r2 => by
  (first | obtain ⟨_, rfl⟩ := r1.inv | obtain rfl := r1.inv | obtain ⟨_, rfl, _⟩ := r1.inv | obtain ⟨_, _, rfl, _⟩ := r1.inv); (first | obtain ⟨_, rfl⟩ := r2.inv | obtain rfl := r2.inv | obtain ⟨_, rfl, _⟩ := r2.inv | obtain ⟨_, _, rfl, _⟩ := r2.inv); subst ht; exact wpAny_isNot_plain hp (vq_val h)
theorem pr_isNot_none {d : D} (hd : ∀ w, d ≠ .val w) (h : Φ (.bool true)) : PR C [d, .none] (fun vs => compareOp .IsNot (vs.getD 0 .none) (vs.getD 1 .none)) Φ Ξ := pr_two fun ex s v1 v2 G r1 r2 => by
  (first | obtain ⟨_, rfl⟩ := r2.inv | obtain rfl := r2.inv | obtain ⟨_, rfl, _⟩ := r2.inv | obtain ⟨_, _, rfl, _⟩ := r2.inv)
  have hp : plainIs v1 .none = true := r1.plain_none hd
  have e : (v1 == Value.none) = false := r1.not_none hd
  refine wpAny_isNot_plain (a := v1) (b := .none) hp ?_
  rw [e]; exact vq_val h

/-! lists of ints, of texts -/
theorem ints_of {P : Params} {h : Heap} {ex : List Addr} : ∀ {ns : List Int} {vs : List Value}, RepAll P h ex vs (ns.map .int) → IntsAre vs ns
  | [], _, r => by obtain rfl := r.inv; exact .nil
  | n :: ns, _, r => by obtain ⟨_, _, rfl, r1, r2⟩ := r.inv; obtain ⟨_, rfl⟩ := r1.inv; exact .cons _ _ (ints_of r2)
theorem strs_of {P : Params} {h : Heap} {ex : List Addr} : ∀ {xs : List (List Nat)} {vs : List Value}, RepAll P h ex vs (xs.map fun x => .str (S x)) → StrsAre vs (xs.map S)
  | [], _, r => by obtain rfl := r.inv; exact .nil
  | n :: ns, _, r => by obtain ⟨_, _, rfl, r1, r2⟩ := r.inv; obtain ⟨_, rfl⟩ := r1.inv; exact .cons _ _ (strs_of r2)

theorem pr_in_ints {k : Int} {ns : List Int} (h : Φ (.bool (decide (k ∈ ns)))) : PR C [.int k, .lst (ns.map .int)] (fun vs => compareOp .In (vs.getD 0 .none) (vs.getD 1 .none)) Φ Ξ := pr_two fun ex s v1 v2 G r1 r2 => by
  (first | obtain ⟨_, rfl⟩ := r1.inv | obtain rfl := r1.inv | obtain ⟨_, rfl, _⟩ := r1.inv | obtain ⟨_, _, rfl, _⟩ := r1.inv)
  obtain ⟨_, _, rfl, ha, hl, hr⟩ := r2.inv
  refine in_list_ints hl (ints_of hr) (vq_val ?_)
  have : (ns.any (· == k)) = decide (k ∈ ns) := by rw [List.any_beq']; simp
  rw [this]; exact h
theorem pr_notIn_ints {k : Int} {ns : List Int} (h : Φ (.bool (decide (k ∉ ns)))) : PR C [.int k, .lst (ns.map .int)] (fun vs => compareOp .NotIn (vs.getD 0 .none) (vs.getD 1 .none)) Φ Ξ := pr_two fun ex s v1 v2 G r1 r2 => by
  (first | obtain ⟨_, rfl⟩ := r1.inv | obtain rfl := r1.inv | obtain ⟨_, rfl, _⟩ := r1.inv | obtain ⟨_, _, rfl, _⟩ := r1.inv)
  obtain ⟨_, _, rfl, ha, hl, hr⟩ := r2.inv
  refine notin_list_ints hl (ints_of hr) (vq_val ?_)
  have : (!(ns.any (· == k))) = decide (k ∉ ns) := by rw [List.any_beq']; simp
  rw [this]; exact h

theorem cl_bytes_ints {ns : List Int} (hr : ∀ n ∈ ns, 0 ≤ n ∧ n < 256) (hz : ns.length ≤ sizeLine) (h : Φ (.bytes ((ns.map fun n => n.toNat.toUInt8).toArray))) : CL C (.type "bytes") [.lst (ns.map .int)] [] [] Φ Ξ := cl_one fun ex s v G r => by
  obtain ⟨_, _, rfl, ha, hl, hrr⟩ := r.inv
  refine call_bytes_ints hl (ints_of hrr) hr (by rw [hrr.length, List.length_map]; exact hz) C.hh fun h' t k hk => vq_keep h hk (.bytes _ _)

theorem cl_sum_ints {ns : List Int} (h : Φ (.int ns.sum)) : CL C (.builtin "sum") [.lst (ns.map .int)] [] [] Φ Ξ := cl_one fun ex s v G r => by
  obtain ⟨_, _, rfl, ha, hl, hr⟩ := r.inv
  rename_i l vs
  have hi := ints_of hr
  obtain ⟨o, ho, hc, n, hd⟩ := id hl
  have hne : l ≠ s.heap.objs.size := Nat.ne_of_lt (Heap.lt_size ho)
  have hlen : vs.length = ns.length := by rw [hr.length, List.length_map]
  have W := (Walks.list (prog := C.g.prog) (w := C.g.w) (A := C.A.in1) C.hh s.heap.objs.size l hne vs.toArray).toS
  refine call_sum_walkAnyS (wpAny_pyIter_list hl ?_)
  refine ⟨s.heap.objs.size, _, _, _, _, _, _, fun i => ns.getD i 0, rfl, W, ⟨⟨_, Heap.get?_push_size _ rfl, rfl, rfl⟩, hl.at fun o e => Heap.get?_push_of_some _ e⟩, fun b hb => ?_, fun i v hP => ?_, fun s' t' hm => ?_⟩
  · rcases List.mem_cons.mp hb with rfl | hb
    · exact Heap.lt_size (Heap.get?_push_size _ rfl)
    · obtain rfl := List.mem_singleton.mp hb
      exact Heap.lt_size (Heap.get?_push_of_some _ ho)
  · obtain ⟨n, t, rfl, hn⟩ := IntsAre.at hi i v (by simpa using hP)
    exact ⟨t, by show _ = Value.int (ns.getD i 0) t; rw [List.getD_eq_getElem?_getD, hn]; rfl⟩
  · obtain ⟨h', g', d', tk', os'⟩ := s'
    have e1 : g' = s.gens := hm.gens
    have e2 : d' = s.drawn := hm.drawn
    have e3 : os' = s.os := hm.os
    subst e1 e2 e3
    have hs : preSum (fun i => ns.getD i 0) vs.toArray.size = ns.sum := by rw [List.size_toArray, hlen]; exact preSum_eq ns
    rw [hs]
    exact vq_keep h (fun b o e => hm.heap b o (fun hb => absurd (Heap.lt_size e) ((List.mem_singleton.mp hb) ▸ Nat.lt_irrefl _)) (Heap.get?_push_of_some _ e)) (.int _ _)
where
  preSum_take (ns : List Int) : ∀ k, k ≤ ns.length → preSum (fun i => ns.getD i 0) k = (ns.take k).sum
    | 0, _ => by simp [preSum]
    | k + 1, h => by
      have hk : k < ns.length := h
      have e : ns.take (k + 1) = ns.take k ++ [ns[k]] := by rw [List.take_add_one, List.getElem?_eq_getElem hk]; rfl
      rw [preSum, preSum_take ns k (by lia), e, List.sum_append]
      simp [List.getD_eq_getElem?_getD, List.getElem?_eq_getElem hk]
  preSum_eq (ns : List Int) : preSum (fun i => ns.getD i 0) ns.length = ns.sum := by rw [preSum_take ns _ (Nat.le_refl _), List.take_length]

/-! + and * of lists and texts -/
theorem pr_add_list {as bs : List D} (hz : as.length + bs.length ≤ sizeLine) (h : Φ (.lst (as ++ bs))) : PR C [.lst as, .lst bs] (fun vs => binaryOp .Add (vs.getD 0 .none) (vs.getD 1 .none)) Φ Ξ := pr_two fun ex s v1 v2 G r1 r2 => by
  obtain ⟨_, _, rfl, ha, hl, hr⟩ := r1.inv
  obtain ⟨_, _, rfl, hb, hm, hq⟩ := r2.inv
  rename_i l vs b ws
  obtain ⟨⟨cls, dd, data, sl⟩, ho, hc, n, hd⟩ := id hl
  obtain ⟨⟨cls2, dd2, data2, sl2⟩, ho2, hc2, n2, hd2⟩ := id hm
  simp only at hc hd hc2 hd2
  subst hc hd hc2 hd2
  have e : vs.toArray ++ ws.toArray = (vs ++ ws).toArray := by simp
  refine concat_meets ⟨_, ho, rfl⟩ ⟨_, ho2, rfl⟩ noFill_list_add seq_list_add PySem.F.slot_list_add PySem.F.entry_list_add (PySem.F.args_list_add_2 _ _) (list_addW l b vs.toArray ws.toArray n n2 dd dd2 sl sl2 (by rw [List.size_toArray, List.size_toArray, hr.length, hq.length]; exact hz)) ⟨ho, ho2, ?_⟩
  rw [e]
  exact ⟨_, h, KP.push _, .lst G.fresh ⟨_, Heap.get?_push_size _ rfl, rfl, _, rfl⟩ (RepAll.mono (fun b o _ e => Heap.get?_push_of_some _ e) (fun _ _ h _ => h) (hr.append hq))⟩
theorem rep_flat {P : Params} {h : Heap} {ex : List Addr} {vs : List Value} {ds : List D} (r : RepAll P h ex vs ds) : ∀ k : Nat, RepAll P h ex (List.replicate k vs).flatten (List.replicate k ds).flatten
  | 0 => .nil
  | k + 1 => by rw [List.replicate_succ, List.replicate_succ, List.flatten_cons, List.flatten_cons]; exact r.append (rep_flat r k)
theorem pr_mul_list {as : List D} {x : Int} (k : Nat) (hxk : x = (k : Int)) (hk : k ≤ 2 ^ 20) (hz : as.length * k ≤ 2 ^ 20) (h : Φ (.lst (List.replicate k as).flatten)) : PR C [.lst as, .int x] (fun vs => binaryOp .Mult (vs.getD 0 .none) (vs.getD 1 .none)) Φ Ξ := pr_two fun ex s v1 v2 G r1 r2 => by
  (first | obtain ⟨_, rfl⟩ := r2.inv | obtain rfl := r2.inv | obtain ⟨_, rfl, _⟩ := r2.inv | obtain ⟨_, _, rfl, _⟩ := r2.inv)
  obtain ⟨_, _, rfl, ha, hl, hr⟩ := r1.inv
  rename_i u l vs
  obtain ⟨⟨cls, d, data, sl⟩, ho, hcl, n, hd⟩ := id hl
  simp only at hcl hd
  subst hcl hd
  have hkx : x.toNat = k := by lia
  have hsz' : vs.toArray.size * x.toNat ≤ 2 ^ 20 := by rw [List.size_toArray, hr.length, hkx]; exact hz
  generalize hg : vs.toArray.size * x.toNat = z at hsz'
  have f1 : ¬(!Builtin.List.listFitsIndex x) = true := by simp [Builtin.List.listFitsIndex]; lia
  have f2 : ¬vs.toArray.size * x.toNat > (2 ^ 63 - 1) / 8 := by rw [hg]; lia
  have f3 : ¬Builtin.List.listTooLong (vs.toArray.size * x.toNat) = true := by rw [hg]; simp [Builtin.List.listTooLong, sizeLine]; lia
  refine wpAny_binaryOp_repeat_ref (T := "list") (U := "int") (by decide) ⟨_, ho, rfl⟩ (fun s' => typeIs_int s' x u) noFill_list_mul F.fills_int_mul F.slot_int_rmul repeat_list F.slot_int_index.lookup
    (call_meets F.slot_int_rmul (typeIs_int s x u) F.entry_int_rmul (F.args_int_rmul_2 _ _) (lm_int_rmul_list_any x u l vs.toArray n d sl)
      ⟨ho, rfl, ⟨_, ho, rfl⟩, call_meets F.slot_list_mul ⟨_, ho, rfl⟩ F.entry_list_mul (F.args_list_mul_2 _ _)
        (lm_list_mul_any l vs.toArray n d sl x u f1 f2 f3) ⟨ho, ?_⟩⟩)
  rw [listMul_foldl_if, hkx]
  exact ⟨_, h, KP.push _, .lst G.fresh ⟨_, Heap.get?_push_size _ rfl, rfl, _, rfl⟩ (RepAll.mono (fun b o _ e => Heap.get?_push_of_some _ e) (fun _ _ h _ => h) (rep_flat hr k))⟩

/-! join -/
theorem glue_fold : ∀ (r : List (List Nat)) (acc : Array Nat), (r.map S).foldl (fun acc p => acc ++ (S []).cps ++ p.cps) acc = acc ++ r.flatten.toArray
  | [], acc => by simp
  | a :: r, acc => by
    rw [List.map_cons, List.foldl_cons, glue_fold r]
    simp [S]
theorem join_S (x : List (List Nat)) : Txt.join (S []) (x.map S) = S x.flatten := by
  unfold Txt.join Builtin.Str.glued
  cases x with
  | nil => rfl
  | cons a r =>
    rw [List.map_cons, List.drop_one, List.tail_cons, glue_fold]
    simp [S]
theorem cl_join {x : List (List Nat)} {ds : List D} (hd : ds = x.map fun y => .str (S y)) (hz : (x.map List.length).sum ≤ 2 ^ 20) (h : Φ (.str (S x.flatten))) : CL C (.builtin "str.join") [.str (S []), .lst ds] [] [] Φ Ξ := cl_two fun ex s v w G r1 r2 => by
  subst hd
  (first | obtain ⟨_, rfl⟩ := r1.inv | obtain rfl := r1.inv | obtain ⟨_, rfl, _⟩ := r1.inv | obtain ⟨_, _, rfl, _⟩ := r1.inv)
  obtain ⟨_, _, rfl, ha, hl, hr⟩ := r2.inv
  refine PyProof.Rows.join_list hl (by simpa using strs_of hr) ?_ fun t' k => ?_
  · have e : ((x.map S).map (·.length)) = x.map List.length := by rw [List.map_map]; exact List.map_congr_left fun y _ => S_len y
    rw [e, S_len, List.length_nil]; lia
  · rw [join_S]; exact vq_str h
end
end Mine

/-! Fw18 -/
namespace Mine
open PySem PySem.W PySem.Calls PyProof.Rows

section
variable {C : Cx} {σ : St} {ow : List (Str × Addr)} {fx ex : List Addr} {s s' : Shared} {Ξ : XD → Prop} {Φ : List D → Prop}

theorem it_walks {target : Expr} {I : Addr} {fp wr : List Addr} {n : Nat} {Pv : Nat → Value → Prop} {Stw : Nat → Heap → Prop} (W : Walks C.g.prog C.g.w C.A I fp wr n Pv Stw) (hI : I ∈ wr) (items : List D) (hn : items.length = n)
    (RI : List Addr → Heap → Prop) (hfr : ∀ ex ex' h h', RI ex h → (∀ b o, b ∉ ex → h.get? b = some o → h'.get? b = some o) → (∀ b o, b ∉ ex → h.get? b = some o → b ∉ ex') → RI ex' h')
    (hfp : ∀ ex h, RI ex h → ∀ b ∈ fp, b ∈ wr ∨ b ∉ ex) (hrep : ∀ ex h i v d, RI ex h → Pv i v → items[i]? = some d → Rep C.g.P h ex v d)
    (hal : ∀ i h, Stw i h → ∀ b ∈ wr, ∃ o, h.get? b = some o)
    (hown : ∀ i (s : Shared) v (Q : Unit → Shared → Prop) (E : Value → Shared → Prop), Stw (i + 1) s.heap → Q () s → wpAny C.g.M C.A (letOwnedTupleGo target (.ref I) v) Q E s) :
    It C target I wr items (fun ex i h => RI ex h ∧ Stw i h) (fun ex i v h => RI ex h ∧ Stw (i + 1) h) where
  iwr := hI
  frame := fun ex ex' i h h' st hk he => ⟨hfr ex ex' h h' st.1 (fun b o hb e => hk b o (.inr hb) e) he, W.frame i h h' st.2 fun b hb o e => hk b o (hfp ex h st.1 b hb) e⟩
  item := fun ex i s d Q E hi G hw st hQ => by
    have hlt : i < n := by rw [← hn]; exact (List.getElem?_eq_some_iff.mp hi).1
    refine W.item i s Q E hlt st.2 fun v h' tk hP hst hk => ?_
    have hr : RI ex h' := hfr ex ex _ h' st.1 (fun b o hb e => hk b o (fun q => hb (hw b q)) e) fun _ _ h _ => h
    exact hQ v h' tk (hrep ex h' i v d hr hP hi) ⟨hr, hst⟩ hk (hal _ _ hst)
  done := fun ex s Q E G hw st hQ => by
    rw [hn] at st
    exact W.done s Q E st.2 hQ
  self := fun ex i s Q E st hQ => W.self i s Q E st.2 hQ
  own := fun ex i s v Q E st hw ha hQ => hown i s v Q E st.2 (by
    have := hQ s.heap st (fun _ _ _ e => e) ha
    exact this)

theorem it_walksT {elts : List Expr} {k : Nat} {pos : Pos} {I : Addr} {fp wr : List Addr} {n : Nat} {Pt : Nat → Array Value → Prop} {Stw : Nat → Heap → Prop} {Mw : Nat → Addr → Heap → Prop} (W : WalksT C.g.prog C.g.w C.A I fp wr n Pt Stw Mw) (hI : I ∈ wr) (items : List (List D)) (hn : items.length = n)
    (RI : List Addr → Heap → Prop) (hfr : ∀ ex ex' h h', RI ex h → (∀ b o, b ∉ ex → h.get? b = some o → h'.get? b = some o) → (∀ b o, b ∉ ex → h.get? b = some o → b ∉ ex') → RI ex' h')
    (hfp : ∀ ex h, RI ex h → ∀ b ∈ fp, b ∈ wr ∨ b ∉ ex) (hrep : ∀ ex h i vals ds, RI ex h → Pt i vals → items[i]? = some ds → RepAll C.g.P h ex vals.toList ds)
    (hal : ∀ i h, Stw i h → ∀ b ∈ wr, ∃ o, h.get? b = some o) (halM : ∀ i T h, Mw i T h → ∀ b ∈ wr, ∃ o, h.get? b = some o) :
    It C (.Tuple elts k pos) I wr (items.map D.tup) (fun ex i h => RI ex h ∧ Stw i h) (fun ex i v h => RI ex h ∧ ∃ T, v = .ref T ∧ Mw i T h) where
  iwr := hI
  frame := fun ex ex' i h h' st hk he => ⟨hfr ex ex' h h' st.1 (fun b o hb e => hk b o (.inr hb) e) he, W.frame i h h' st.2 fun b hb o e => hk b o (hfp ex h st.1 b hb) e⟩
  item := fun ex i s d Q E hi G hw st hQ => by
    rw [List.getElem?_map] at hi
    obtain ⟨ds, hds, rfl⟩ := Option.map_eq_some_iff.mp hi
    have hlt : i < n := by rw [← hn]; exact (List.getElem?_eq_some_iff.mp hds).1
    refine W.item i s Q E hlt st.2 fun T vals h' tk hP hT htup hM hk => ?_
    have hr : RI ex h' := hfr ex ex _ h' st.1 (fun b o hb e => hk b o (fun q => hb (hw b q)) e) fun _ _ h _ => h
    have hTex : T ∉ ex := fun q => by obtain ⟨o, e⟩ := G.al T q; exact absurd (Heap.lt_size e) (Nat.not_lt.mpr hT)
    exact hQ (.ref T) h' tk (.tup (vs := vals.toList) hTex (by rw [Array.toArray_toList]; exact htup) (hrep ex h' i vals ds hr hP hds)) ⟨hr, T, rfl, hM⟩ hk (halM _ _ _ hM)
  done := fun ex s Q E G hw st hQ => by
    rw [List.length_map, hn] at st
    exact W.done s Q E st.2 hQ
  self := fun ex i s Q E st hQ => W.self i s Q E st.2 hQ
  own := fun ex i s v Q E st hw ha hQ => by
    obtain ⟨hr, T, rfl, hM⟩ := st
    refine W.go elts k pos i T s Q E hM fun h' hst hk => hQ h' ⟨hfr ex ex _ h' hr (fun b o hb e => hk b o (fun q => hb (hw b q)) e) fun _ _ h _ => h, hst⟩ hk (hal _ _ hst)

theorem IQ.pre {target : Expr} {it : Value} {s₁ s₂ : Shared} (k : KP C.fr [] s s₁) (h : IQ C target ow fx s₁ Φ it s₂) : IQ C target ow fx s Φ it s₂ := by
  obtain ⟨I, wr, items, Stt, Mid, h1, h2, h3, h4, h5, h6, h7⟩ := h
  exact ⟨I, wr, items, Stt, Mid, h1, h2, fun b hb => none_of_kp k (h3 b hb), h4, h5, h6, k.trans h7⟩

/-- what makes an iterator out of a value that bears d -/
noncomputable def ITR (C : Cx) (target : Expr) (d : D) (Φ : List D → Prop) (Ξ : XD → Prop) : Prop :=
  ∀ ow fx s v, Gd C (C.ex ow fx) s → Rep C.g.P s.heap (C.ex ow fx) v d → wpAny C.g.M C.A (pyIter v) (IQ C target ow fx s Φ) (XQ C.fr [] s Ξ) s
theorem evi_of {target : Expr} {t : Sem Value} (h : EV C σ t (fun d => ITR C target d Φ Ξ) Ξ) : EVI C σ target t Φ Ξ := fun ow fx s I =>
  h.run I (fun v s1 d h1 k1 r1 I1 => wpAny_mono (h1 ow fx s1 v I1.gd r1) (fun _ _ q => q.pre k1) fun _ _ e => e.pre k1) fun _ _ e => e

/-- a call that makes an iterator, or what one is made of -/
noncomputable def CLI (C : Cx) (target : Expr) (f : Value) (ds : List D) (Φ : List D → Prop) (Ξ : XD → Prop) : Prop :=
  ∀ ow fx s vs, Gd C (C.ex ow fx) s → RepAll C.g.P s.heap (C.ex ow fx) vs ds → wpAny C.g.M C.A (call f vs) (fun x s₁ => wpAny C.g.M C.A (pyIter x) (IQ C target ow fx s Φ) (XQ C.fr [] s Ξ) s₁) (XQ C.fr [] s Ξ) s
theorem evi_call {target : Expr} {id : Str} {np pos : Pos} {e : Expr} {rest : List Expr}
    (h : EV C σ (eval (.Name id np) C.env) (fun df => ∃ f, df = .val f ∧ KeepOk C f ∧ EVL C σ (spliced (backTo pos (starEach (e :: rest) C.env))) (fun ds => CLI C target f ds Φ Ξ) Ξ) Ξ)
    (he : starEach (e :: rest) C.env = (false, eval e C.env) :: starEach rest C.env := by rfl) (hp : (backTo pos (starEach rest C.env)).any (·.1) = false := by rfl) :
    EVI C σ target (eval (.Call (.Name id np) (e :: rest) [] pos) C.env) Φ Ξ := fun ow fx s I => by
  refine wpAny_Call_Name_kw (h.run I (fun v1 s1 d1 h1 k1 r1 I1 => ?_) fun _ _ e => e)
  obtain ⟨f, rfl, hk, h2⟩ := h1
  (first | obtain ⟨_, rfl⟩ := r1.inv | obtain rfl := r1.inv | obtain ⟨_, rfl, _⟩ := r1.inv | obtain ⟨_, _, rfl, _⟩ := r1.inv)
  rw [he] at h2 ⊢
  refine callWith_of (P := C.g.base.StaysIn) (by show ((false || (backTo pos (starEach rest C.env)).any (·.1)) || false) = false; rw [hp]; rfl) hk ?_
  refine evalArgs_plain (h2.run I1 (fun ws s2 ds h3 k2 r2 I2 => ⟨I2.base, ?_⟩) fun _ _ e => e.pre k1)
  have k := k1.trans k2
  exact wpAny_mono (h3 ow fx s2 ws I2.gd r2) (fun x s3 q => wpAny_mono q (fun _ _ q => q.pre k) fun _ _ e => e.pre k) fun _ _ e => e.pre k

/-! ### lists, bytes -/
noncomputable def NamedT : Expr → Prop
  | .Name _ _ => True
  | .Tuple _ _ _ => True
  | _ => False
theorem own_listiter {target : Expr} (ht : NamedT target) {I l : Addr} {i : Nat} {s : Shared} {v : Value} {Q : Unit → Shared → Prop} {E : Value → Shared → Prop} (hit : s.heap.IsListIter I l i) (hQ : Q () s) : wpAny C.g.M C.A (letOwnedTupleGo target (.ref I) v) Q E s := by
  cases target with
  | Name => exact wpAny_pure hQ
  | Tuple elts x pos =>
    cases v with
    | ref T => exact wpAny_letOwnedTupleGo_listiter hit hQ
    | _ => exact wpAny_pure hQ
  | _ => exact ht.elim

theorem itr_list {target : Expr} {ds : List D} (ht : NamedT target) (h : Φ ds) : ITR C target (.lst ds) Φ Ξ := fun ow fx s v G r => by
  obtain ⟨_, _, rfl, ha, hl, hr⟩ := r.inv
  rename_i l vs
  have hll : l < s.heap.objs.size := by obtain ⟨o, ho, _⟩ := hl; exact Heap.lt_size ho
  have hne : l ≠ s.heap.objs.size := Nat.ne_of_lt hll
  refine wpAny_pyIter_list hl ?_
  have hsz : ds.length = vs.toArray.size := by rw [List.size_toArray, hr.length]
  refine ⟨s.heap.objs.size, [s.heap.objs.size], ds, _, _, h, rfl, fun b hb => ?_, fun b hb => ?_, it_walks (Walks.list C.hh s.heap.objs.size l hne vs.toArray) (.head _) ds hsz
    (fun ex h => l ∉ ex ∧ RepAll C.g.P h ex vs ds ∧ ∃ o, h.get? l = some o) ?_ ?_ ?_ ?_ ?_, ⟨⟨?_, ?_, ?_⟩, ⟨⟨_, Heap.get?_push_size _ rfl, rfl, rfl⟩, hl.at fun o e => Heap.get?_push_of_some _ e⟩⟩, KP.push _⟩
  · obtain rfl := List.mem_singleton.mp hb; exact Heap.get?_none_of_le (Nat.le_refl _)
  · obtain rfl := List.mem_singleton.mp hb; exact ⟨_, Heap.get?_push_size _ rfl⟩
  · rintro ex ex' h h' ⟨h1, h2, o, h3⟩ hk he
    exact ⟨he l o h1 h3, h2.mono hk he, o, hk l o h1 h3⟩
  · rintro ex h ⟨h1, h2, h3⟩ b hb
    rcases List.mem_cons.mp hb with rfl | hb
    · exact .inl (.head _)
    · obtain rfl := List.mem_singleton.mp hb; exact .inr h1
  · rintro ex h i v d ⟨h1, h2, h3⟩ hv hd
    obtain ⟨d', hd', q⟩ := h2.get' (k := i) (v := v) (by simpa using hv)
    rw [hd] at hd'; cases hd'; exact q
  · rintro i h ⟨h1, h2⟩ b hb
    obtain rfl := List.mem_singleton.mp hb
    obtain ⟨o, ho, _⟩ := h1; exact ⟨o, ho⟩
  · rintro i s v Q E ⟨h1, h2⟩ hQ
    exact own_listiter ht h1 hQ
  · rw [mem_ex] at ha ⊢
    rintro (q | q | q)
    · exact ha (.inl q)
    · exact ha (.inr (.inl q))
    · rcases List.mem_append.mp q with q | q
      · exact hne (List.mem_singleton.mp q)
      · exact ha (.inr (.inr q))
  · refine hr.mono (fun b o _ e => Heap.get?_push_of_some _ e) fun b o hb e q => ?_
    rw [mem_ex] at hb q
    rcases q with q | q | q
    · exact hb (.inl q)
    · exact hb (.inr (.inl q))
    · rcases List.mem_append.mp q with q | q
      · obtain rfl := List.mem_singleton.mp q; exact absurd (Heap.lt_size e) (Nat.lt_irrefl _)
      · exact hb (.inr (.inr q))
  · obtain ⟨o, ho, _⟩ := hl; exact ⟨o, Heap.get?_push_of_some _ ho⟩

noncomputable def ofBytes (l : List UInt8) : List D := l.map fun c => .int c.toNat
theorem itr_bytes {x : Str} {px : Pos} {l : List UInt8} (h : Φ (ofBytes l)) : ITR C (.Name x px) (.bytes l.toArray) Φ Ξ := fun ow fx s v G r => by
  (first | obtain ⟨_, rfl⟩ := r.inv | obtain rfl := r.inv | obtain ⟨_, rfl, _⟩ := r.inv | obtain ⟨_, _, rfl, _⟩ := r.inv)
  rename_i t
  refine KBw.pyIter_bytes ?_
  refine ⟨s.heap.objs.size, [s.heap.objs.size], ofBytes l, _, _, h, rfl, fun b hb => ?_, fun b hb => ?_, it_walks (KBw.walks C.hh s.heap.objs.size l.toArray t) (.head _) (ofBytes l) (by simp [ofBytes])
      (fun ex h => True) (fun _ _ _ _ _ _ _ => trivial) ?_ ?_ ?_ ?_, ⟨trivial, ⟨_, Heap.get?_push_size _ rfl, rfl, rfl⟩⟩, KP.push _⟩
  · obtain rfl := List.mem_singleton.mp hb; exact Heap.get?_none_of_le (Nat.le_refl _)
  · obtain rfl := List.mem_singleton.mp hb; exact ⟨_, Heap.get?_push_size _ rfl⟩
  · intro ex h _ b hb; exact .inl hb
  · rintro ex h i v d _ ⟨c, u, hc, rfl⟩ hd
    simp only [ofBytes, List.getElem?_map] at hd
    have hc' : l[i]? = some c := by simpa using hc
    rw [hc'] at hd
    simp only [Option.map_some, Option.some.injEq] at hd
    subst hd
    exact .int _ _
  · rintro i h ⟨o, ho, _⟩ b hb
    obtain rfl := List.mem_singleton.mp hb; exact ⟨o, ho⟩
  · intro i s v Q E _ hQ; exact wpAny_pure hQ
end
end Mine

/-! Fw19 -/
namespace Mine
open PySem PySem.W PySem.Calls PyProof.Rows

section
variable {C : Cx} {σ : St} {ow : List (Str × Addr)} {fx ex : List Addr} {s s' : Shared} {Ξ : XD → Prop} {Φ : List D → Prop}

/-! ### range -/
theorem iq_range {x : Str} {px : Pos} {s s₁ : Shared} {r : Addr} {a b c : Int} {t u v : Tok} {n : Nat} (hr : IsRange s₁.heap r a b c t u v) (hs : Builtin.Range.small a b c = true) (hn : Builtin.Range.rangeSize a b c = n) (k : KP C.fr [] s s₁)
    (h : Φ ((List.range n).map fun (i : Nat) => .int (a + i * c))) {E : Value → Shared → Prop} : wpAny C.g.M C.A (pyIter (.ref r)) (IQ C (.Name x px) ow fx s Φ) E s₁ := by
  refine wpAny_pyIter_range hr hs ?_
  have k2 : KP C.fr [] s { s₁ with heap := s₁.heap.push { cls := .type "range_iterator", data := .fields #[rawInt a, rawInt (Builtin.Range.rangeSize a b c), rawInt c] } } := k.trans (KP.push _)
  refine ⟨s₁.heap.objs.size, [s₁.heap.objs.size], _, _, _, h, rfl, fun b hb => ?_, fun b hb => ?_, it_walks (Walks.range C.hh s₁.heap.objs.size a c n) (.head _) _ (by simp)
      (fun ex h => True) (fun _ _ _ _ _ _ _ => trivial) ?_ ?_ ?_ ?_, ⟨trivial, ?_⟩, k2⟩
  · obtain rfl := List.mem_singleton.mp hb; exact none_of_kp k (Heap.get?_none_of_le (Nat.le_refl _))
  · obtain rfl := List.mem_singleton.mp hb; exact ⟨_, Heap.get?_push_size _ rfl⟩
  · intro ex h _ b hb; exact .inl hb
  · rintro ex h i v d _ ⟨t, rfl⟩ hd
    rw [List.getElem?_map] at hd
    obtain ⟨j, hj, rfl⟩ := Option.map_eq_some_iff.mp hd
    obtain rfl : j = i := by
      rw [List.getElem?_eq_some_iff] at hj; obtain ⟨_, hj⟩ := hj; simpa using hj.symm
    exact .int _ _
  · intro i h hst b hb
    obtain rfl := List.mem_singleton.mp hb; exact ⟨_, hst⟩
  · intro i s v Q E _ hQ; exact wpAny_pure hQ
  · show IsRangeIter _ _ _ _ _
    have := Heap.get?_push_size s₁.heap (o := { cls := .type "range_iterator", data := .fields #[rawInt a, rawInt (Builtin.Range.rangeSize a b c), rawInt c] }) rfl
    rw [hn] at this ⊢
    simpa using this

theorem cli_range1 {x : Str} {px : Pos} {n : Int} (k : Nat) (hk : n = k) (hz : k < 2 ^ 62) (h : Φ ((List.range k).map fun (i : Nat) => .int i)) : CLI C (.Name x px) (.type "range") [.int n] Φ Ξ := fun ow fx s vs G r => by
  subst hk
  obtain ⟨_, rfl, r1⟩ := r.inv1
  (first | obtain ⟨_, rfl⟩ := r1.inv | obtain rfl := r1.inv | obtain ⟨_, rfl, _⟩ := r1.inv | obtain ⟨_, _, rfl, _⟩ := r1.inv)
  have hsz : Builtin.Range.rangeSize 0 (k : Int) 1 = k := by rw [rangeSize_one]; split <;> lia
  refine call_range_1 (iq_range (Heap.get?_push_size _ rfl) ?_ hsz (KP.of_keep fun b o e => Heap.get?_push_of_some _ e) ?_)
  · unfold Builtin.Range.small
    rw [hsz]
    simp [Builtin.Range.rangeFitsLong]; lia
  · have e : ((List.range k).map fun (i : Nat) => D.int (0 + (i : Int) * 1)) = (List.range k).map fun (i : Nat) => .int i := List.map_congr_left fun i _ => by simp
    rw [e]; exact h
theorem cli_range2 {x : Str} {px : Pos} {a n : Int} (k : Nat) (hk : (n - a).toNat = k) (ha : -(2 ^ 62) < a ∧ a < 2 ^ 62) (hz : -(2 ^ 62) < n ∧ n < 2 ^ 62) (h : Φ ((List.range k).map fun (i : Nat) => .int (a + (i : Int)))) : CLI C (.Name x px) (.type "range") [.int a, .int n] Φ Ξ := fun ow fx s vs G r => by
  obtain ⟨_, _, rfl, r1, r2⟩ := r.inv2
  (first | obtain ⟨_, rfl⟩ := r1.inv | obtain rfl := r1.inv | obtain ⟨_, rfl, _⟩ := r1.inv | obtain ⟨_, _, rfl, _⟩ := r1.inv); (first | obtain ⟨_, rfl⟩ := r2.inv | obtain rfl := r2.inv | obtain ⟨_, rfl, _⟩ := r2.inv | obtain ⟨_, _, rfl, _⟩ := r2.inv)
  have hsz : Builtin.Range.rangeSize a n 1 = k := by rw [rangeSize_one]; split <;> lia
  refine call_range_2 (iq_range (Heap.get?_push_size _ rfl) ?_ hsz (KP.of_keep fun b o e => Heap.get?_push_of_some _ e) ?_)
  · unfold Builtin.Range.small
    rw [hsz]
    simp [Builtin.Range.rangeFitsLong]; lia
  · have e : ((List.range k).map fun (i : Nat) => D.int (a + (i : Int) * 1)) = (List.range k).map fun (i : Nat) => .int (a + (i : Int)) := List.map_congr_left fun i _ => by simp
    rw [e]; exact h

/-! ### enumerate -/


/-! over bytes -/
section
variable {prog : Program} {w : World} {A : Around} {E : Value → Shared → Prop} {s : Shared}
end



end
end Mine

/-! Fw20 -/
namespace Mine
open PySem PySem.W PySem.Calls PyProof.Rows

/-! ## a heap without some addresses -/
noncomputable def hide (h : Heap) (l : List Addr) : Heap := ⟨h.objs.mapIdx fun i o => if i ∈ l then { o with data := .freed } else o, h.life⟩
theorem hide_get {h : Heap} {l : List Addr} {b : Addr} : (hide h l).get? b = if b ∈ l then none else h.get? b := by
  unfold Heap.get? hide
  simp only [Array.getElem?_mapIdx]
  cases e : h.objs[b]? with
  | none => simp
  | some o =>
    simp only [Option.map_some]
    by_cases hb : b ∈ l
    · simp [hb]
    · simp [hb]

section
variable {C : Cx} {σ : St} {ow : List (Str × Addr)} {fx ex : List Addr} {s s' : Shared} {Ξ : XD → Prop} {Φ : D → Prop}

theorem frames_hide {h base : Heap} {l : List Env} {hid : List Addr} (hf : h.FunFrames base l) (hs : ∀ b ∈ FRA l, b ∈ hid) : h.FunFrames (hide h hid) l := by
  induction l with
  | nil => trivial
  | cons env rest ih =>
    obtain ⟨hk, ⟨L, o, hfr, hn, ho, hd⟩, hr⟩ := hf
    have hF : FRA (env :: rest) = L :: FRA rest := by unfold FRA; rw [List.filterMap_cons, hfr]
    rw [hF] at hs
    exact ⟨hk, ⟨L, o, hfr, by rw [hide_get, if_pos (hs L (.head _))], ho, hd⟩, ih hr fun b hb => hs b (.tail _ hb)⟩

/-- an exception just made -/
theorem xq_new {h' : Heap} {tk : Nat} {e : Addr} {x : XD} {vs : List Value} (hf : s.heap.FunFrames C.g.base C.fr) (hm : Heap.MadeExcOf s.heap h' e x.cls vs) (ho : MsgOk x vs) (hx : Ξ x) : XQ C.fr [] s Ξ (.ref e) { s with heap := h', toks := tk } := by
  refine ⟨x, hx, ⟨h', tk, rfl⟩, ⟨e, hide s.heap (FRA C.fr), rfl, fun b o _ hb q => ?_, .new s.heap vs (fun b o q => ?_) (frames_hide hf fun _ h => h) hm ho⟩, fun b o hb _ q => ⟨o.slots, hm.keeps b o q⟩⟩
  · rw [hide_get, if_neg hb]; exact q
  · rw [hide_get] at q
    split at q
    · cases q
    · exact q

section
variable {α : Type} {M : Model} {A : Around} {E : Value → Shared → Prop}
theorem raise_made {cls msg : String} {Q : α → Shared → Prop} (hp : PlainExc cls) (hh : A.handled = none)
    (h : ∀ h' tk e t, Heap.MadeExcOf s.heap h' e (.type cls) [.str msg t] → E (.ref e) { s with heap := h', toks := tk }) (hm : (msg : Str).length ≤ sizeLine := by size_fits) :
    wpAny M A (raiseErrorMade cls msg : Sem α) Q E s := by
  unfold raiseErrorMade
  refine wpAny_bind (wpAny_mkStr (wpAny_bind ?_) hm)
  unfold newExc newTuple
  refine wpAny_bind (wpAny_newObj_type ?_)
  refine wpAny_bind (m := firstArgMember _ _) (wpAny_of_eq (a := Value.none) (by simp only [firstArgMember, hp.first]; rfl) ?_)
  rw [hp.own]
  refine wpAny_newObj_type ?_
  unfold raiseNew
  refine wpAny_bind (wpAny_handled ?_)
  rw [hh]
  first
    | refine wpAny_throw ?_
    | refine wpAny_bind (wpAny_pure (wpAny_throw ?_))
  exact h _ _ _ _ ⟨fun b o hb => Heap.get?_push_of_some _ (Heap.get?_push_of_some _ hb), Heap.get?_none_of_le (by simp), s.heap.objs.size, Heap.get?_push_size _ rfl, Heap.get?_none_of_le (Nat.le_refl _), Heap.get?_push_of_some _ (Heap.get?_push_size _ rfl)⟩
theorem raise_words {cls msg : String} {Q : α → Shared → Prop} (hp : PlainExc cls) (hh : A.handled = none)
    (h : ∀ h' tk e t, Heap.MadeExcOf s.heap h' e (.type cls) [.str msg t] → E (.ref e) { s with heap := h', toks := tk }) :
    wpAny M A (raiseErrorWords cls msg : Sem α) Q E s := by
  unfold raiseErrorWords
  refine wpAny_bind (wpAny_mkText (wpAny_bind ?_))
  unfold newExc newTuple
  refine wpAny_bind (wpAny_newObj_type ?_)
  refine wpAny_bind (m := firstArgMember _ _) (wpAny_of_eq (a := Value.none) (by simp only [firstArgMember, hp.first]; rfl) ?_)
  rw [hp.own]
  refine wpAny_newObj_type ?_
  unfold raiseNew
  refine wpAny_bind (wpAny_handled ?_)
  rw [hh]
  first
    | refine wpAny_throw ?_
    | refine wpAny_bind (wpAny_pure (wpAny_throw ?_))
  exact h _ _ _ _ ⟨fun b o hb => Heap.get?_push_of_some _ (Heap.get?_push_of_some _ hb), Heap.get?_none_of_le (by simp), s.heap.objs.size, Heap.get?_push_size _ rfl, Heap.get?_none_of_le (Nat.le_refl _), Heap.get?_push_of_some _ (Heap.get?_push_size _ rfl)⟩
end

/-! an index beyond a text -/
theorem pr_item_str_no {value slice : Expr} {i : Int} (hi : i = 0 ∨ i = -1) (h : Ξ ⟨.type "IndexError", none⟩)
    (hs : ∀ o i, ∃ ops, subscripted slice false o i = operate ops (getItem o i) := by intro o i; exact ⟨_, rfl⟩) :
    PR C [.str (S []), .int i] (fun vs => subscriptTail value slice (vs.getD 0 .none) (vs.getD 1 .none)) Φ Ξ := pr_tail (fun w e => nomatch e) F.slot_str_getitem.lookup (pr_two fun ex s v1 v2 G r1 r2 => by
  (first | obtain ⟨_, rfl⟩ := r1.inv | obtain rfl := r1.inv | obtain ⟨_, rfl, _⟩ := r1.inv | obtain ⟨_, _, rfl, _⟩ := r1.inv); (first | obtain ⟨_, rfl⟩ := r2.inv | obtain rfl := r2.inv | obtain ⟨_, rfl, _⟩ := r2.inv | obtain ⟨_, _, rfl, _⟩ := r2.inv)
  rename_i t u
  refine getItem_slot (typeIs_str s (S []) t) (by decide) slot_str_getitem (wpAny_call_entry slot_str_getitem (typeIs_str s (S []) t) entry_str_getitem ?_ (args_str_getitem _ _))
  show wpAny _ _ (if (decide (i < -(2 ^ 63 : Int)) || decide (i ≥ 2 ^ 63)) = true then _ else
          match (seqIndex? i (S []).length).bind ((S []).cps[·]?) with
          | some c => retStr ⟨#[c]⟩
          | none => (do rule "str.__getitem__.out-of-range"; raiseErrorWords "IndexError" "string index out of range")) _ _ s
  have e1 : (decide (i < -(2 ^ 63 : Int)) || decide (i ≥ 2 ^ 63)) = false := by rcases hi with rfl | rfl <;> decide
  have e2 : (seqIndex? i (S []).length).bind ((S []).cps[·]?) = none := by rcases hi with rfl | rfl <;> rfl
  rw [e1, e2]
  exact wpAny_bind (wpAny_rule (raise_words plainExc_IndexError C.hh fun h' tk e t hm => xq_new (x := ⟨.type "IndexError", none⟩) G.frames hm (fun m hm => nomatch hm) h))) hs

/-! split at the first equals sign -/
noncomputable def pre61 (l : List Nat) : List Nat := l.takeWhile (· != 61)
noncomputable def suf61 (l : List Nat) : List Nat := (l.dropWhile (· != 61)).drop 1
theorem takeWhile_at {c : Nat} : ∀ {l : List Nat} {i : Nat}, l[i]? = some c → (∀ k, k < i → l[k]? ≠ some c) → l.takeWhile (· != c) = l.take i
  | [], i, h, _ => by simp at h
  | k :: r, 0, h, _ => by
    have e : k = c := by simpa using h
    subst e
    simp
  | k :: r, i + 1, h, hn => by
    have h1 : k ≠ c := fun e => hn 0 (by lia) (by simp [e])
    rw [List.takeWhile_cons_of_pos (by simp [h1]), takeWhile_at (l := r) (i := i) (by simpa using h) fun j hj => by have := hn (j + 1) (by lia); simpa using this]
    rfl
theorem str_of_list {x : Str} {l : List Nat} (h : x.cps.toList = l) : x = S l := by
  obtain ⟨a⟩ := x
  show (⟨a⟩ : Str) = ⟨l.toArray⟩
  rw [← h]
open Builtin Builtin.Str in
theorem splitMax_eq (l : List Nat) : Txt.splitMax (S l) (S [61]) 1 = if 61 ∈ l then [S (pre61 l), S (suf61 l)] else [S l] := by
  have hlen : (S [61]).length = 1 := rfl
  have hkind : ¬ strKind (S l) < strKind (S [61]) := by
    have : Builtin.Str.strKind (S [61]) = 1 := by unfold Builtin.Str.strKind; rw [if_pos (by simp [S])]
    rw [this]; unfold Builtin.Str.strKind; split <;> (try split) <;> lia
  have hat : ∀ i, StrLaws.At (S l) (S [61]) (S l).length i ↔ l[i]? = some 61 := fun i => by
    have := StrLaws.subAt_one (S l) 61 i
    rw [S_toList] at this; exact this
  unfold Txt.splitMax
  by_cases h : 61 ∈ l
  · have hne : ¬ (S l).length < (S [61]).length := by
      rw [S_len, hlen]; have := List.length_pos_of_mem h; lia
    rw [if_neg (by simp [hne, hkind])]
    rw [if_pos h]
    rcases StrLaws.occ_head (S l) (S [61]) 1 (Nat.le_refl 1) with ⟨h0, hn⟩ | ⟨i, r, h0, hi, hn⟩
    · obtain ⟨j, hj⟩ := List.getElem?_of_mem h
      exact absurd ((hat j).mpr hj) (hn j)
    · have hl : limitOf (S l) 1 = 1 := rfl
      have hr : r = [] := by
        have := StrLaws.occ_length_le (S l) (S [61]) 0 (S l).length 1
        rw [h0] at this
        exact List.eq_nil_of_length_eq_zero (by simpa using this)
      subst hr
      rw [hl, h0, if_neg (by simp)]
      have hi' := (hat i).mp hi
      have hn' : ∀ k, k < i → l[k]? ≠ some 61 := fun k hk e => hn k hk ((hat k).mpr e)
      show [strSub (S l) 0 i, strSub (S l) (i + 1) (S l).length] = _
      have e1 : strSub (S l) 0 i = S (pre61 l) := str_of_list (by
        rw [StrLaws.strSub_toList, S_toList, List.drop_zero, Nat.sub_zero, pre61, takeWhile_at hi' hn'])
      have e2 : strSub (S l) (i + 1) (S l).length = S (suf61 l) := str_of_list (by
        rw [StrLaws.strSub_toList, S_toList, S_len, suf61, dropWhile_at hi' hn', List.drop_succ_cons, List.drop_zero, List.take_of_length_le (by simp)])
      rw [e1, e2]
  · rw [if_neg h]
    have hocc : occurrences (S l) (S [61]) 0 (S l).length (limitOf (S l) 1) = [] := by
      rcases StrLaws.occ_head (S l) (S [61]) 1 (Nat.le_refl 1) with ⟨h0, hn⟩ | ⟨i, r, h0, hi, hn⟩
      · exact h0
      · exact absurd (List.mem_of_getElem? ((hat i).mp hi)) h
    rw [hocc]
    split <;> rfl

open Builtin Builtin.Str in
theorem call_split_max {prog : Program} {w : World} {A : Around} {E : Value → Shared → Prop} {x y : Str} {t u v : Tok} {k : Int} {Q : Value → Shared → Prop} (hy : (y.length == 0) = false) (hk : (decide (k < -(2 ^ 63 : Int)) || decide (k ≥ 2 ^ 63)) = false)
    (h : ∀ l tk, l.map (·.1) = Txt.splitMax x y k → Q (.ref s.heap.objs.size) { s with heap := s.heap.push { cls := .type "list", data := .seq (strValues l).toArray }, toks := tk }) (hsz : x.length + 2 ≤ sizeLine) :
    wpAny (model prog w) A (call (.builtin "str.split") [.str x t, .str y u, .int k v]) Q E s := by
  have hn : (partsBetween x (occurrences x y 0 x.length (limitOf x k)) y.length).length ≤ sizeLine := by
    have e1 := StrLaws.occ_length_le_len x y 0 x.length (limitOf x k)
    rw [length_partsBetween]; lia
  cases h1 : (decide (x.length < y.length) || decide (strKind x < strKind y))
  · cases hf : (occurrences x y 0 x.length (limitOf x k)).isEmpty
    · refine call_meets F.slot_str_split (typeIs_str _ _ _) F.entry_str_split (F.args_str_split_3 _ _ _) (meets_str_split_sep_max x y k t u v hk h1 hy hf (by lia) hn) ?_
      show wants Q E _ { s with toks := _, heap := s.heap.push { cls := .type "list", data := .seq (strsFrom s.toks (partsBetween x (occurrences x y 0 x.length (limitOf x k)) y.length)).toArray } }
      rw [strsFrom_eq]
      exact h (numbered s.toks _) _ ((numbered_texts _ _).trans ((if_neg (ne_true_of_eq_false h1)).trans (if_neg (ne_true_of_eq_false hf))).symm)
    · exact call_meets F.slot_str_split (typeIs_str _ _ _) F.entry_str_split (F.args_str_split_3 _ _ _) (meets_str_split_max_not_found x y k t u v hk h1 hy hf)
        (h [(x, t)] s.toks ((if_neg (ne_true_of_eq_false h1)).trans (if_pos hf)).symm)
  · exact call_meets F.slot_str_split (typeIs_str _ _ _) F.entry_str_split (F.args_str_split_3 _ _ _) (meets_str_split_max_cannot_occur x y k t u v hk h1)
      (h [(x, t)] s.toks (if_pos h1).symm)
theorem reps_strs {P : Params} {h : Heap} {ex : List Addr} : ∀ {l : List (Str × Tok)} {xs : List (List Nat)}, l.map (·.1) = xs.map S → RepAll P h ex (strValues l) (xs.map fun x => .str (S x))
  | [], [], _ => .nil
  | (a, t) :: l, x :: xs, e => by
    simp only [List.map_cons, List.cons.injEq] at e
    obtain ⟨rfl, e⟩ := e
    exact .cons (.str _ _) (reps_strs e)
theorem cl_split {l : List Nat} (hz : l.length + 2 ≤ sizeLine) (h1 : 61 ∈ l → Φ (.lst [.str (S (pre61 l)), .str (S (suf61 l))])) (h2 : 61 ∉ l → Φ (.lst [.str (S l)])) : CL C (.builtin "str.split") [.str (S l), .str (S [61]), .int 1] [] [] Φ Ξ := fun ex s vs kvs G r rk => by
  obtain rfl := rk.inv
  obtain ⟨_, _, _, rfl, r1, r2, r3⟩ := r.inv3
  obtain ⟨_, rfl⟩ := r1.inv
  obtain ⟨_, rfl⟩ := r2.inv
  obtain ⟨_, rfl⟩ := r3.inv
  refine call_split_max rfl (by decide) (fun p tk hp => ?_) (by rw [S_len]; exact hz)
  rw [splitMax_eq] at hp
  by_cases hm : 61 ∈ l
  · rw [if_pos hm] at hp
    have := reps_strs (P := C.g.P) (h := s.heap) (ex := ex) (l := p) (xs := [pre61 l, suf61 l]) hp
    exact ⟨_, h1 hm, KP.of_keep fun b o e => Heap.get?_push_of_some _ e, .lst G.fresh ⟨_, Heap.get?_push_size _ rfl, rfl, _, rfl⟩ (RepAll.mono (fun b o _ e => Heap.get?_push_of_some _ e) (fun _ _ h _ => h) this)⟩
  · rw [if_neg hm] at hp
    have := reps_strs (P := C.g.P) (h := s.heap) (ex := ex) (l := p) (xs := [l]) hp
    exact ⟨_, h2 hm, KP.of_keep fun b o e => Heap.get?_push_of_some _ e, .lst G.fresh ⟨_, Heap.get?_push_size _ rfl, rfl, _, rfl⟩ (RepAll.mono (fun b o _ e => Heap.get?_push_of_some _ e) (fun _ _ h _ => h) this)⟩

/-! unpacking a list -/
section
variable {prog : Program} {w : World} {A : Around} {E : Value → Shared → Prop} {s : Shared}
theorem unpack_list2 {t : Addr} {v1 v2 : Value} {Q : List Value → Shared → Prop} (hh : A.handled = none) (ht : s.heap.IsList t #[v1, v2])
    (hQ : ∀ h', Heap.ExtBut s.heap.objs.size s.heap h' → Q [v1, v2] { s with heap := h' }) : wpAny (model prog w) A (unpackItems (.ref t) 2 none) Q E s := by
  have hlt : t ≠ s.heap.objs.size := by obtain ⟨o, ho, _⟩ := ht; exact Nat.ne_of_lt (Heap.lt_size ho)
  have hty : s.TypeIs (.ref t) "list" := by obtain ⟨o, ho, hc, _⟩ := ht; exact ⟨o, ho, hc⟩
  unfold unpackItems
  refine wpAny_bind ?_
  unfold notIterableAtAll
  refine wpAny_bind (wpAny_specialOf hty F.slot_list_iter.lookup ?_)
  refine wpAny_pure ?_
  simp only [Bool.false_eq_true, if_false]
  refine wpAny_bind (wpAny_holding (wpAny_pyIter_list ht ?_))
  refine wpAny_bind (wpAny_holding ?_)
  have hit0 : Heap.IsListIter (s.heap.push { cls := .type "list_iterator", data := .fields #[.ref t, .int 0 0] }) s.heap.objs.size t 0 := ⟨_, Heap.get?_push_size _ rfl, rfl, rfl⟩
  have hl0 : Heap.IsList (s.heap.push { cls := .type "list_iterator", data := .fields #[.ref t, .int 0 0] }) t #[v1, v2] := ht.at fun o e => Heap.get?_push_of_some _ e
  show wpAny _ _ (pyNext (.ref s.heap.objs.size) >>= _) _ _ _
  refine wpAny_bind (wpAny_pyNext_list_item hit0 hl0 (x := v1) rfl fun h1 hit1 hs1 => ?_)
  refine wpAny_bind (wpAny_holding ?_)
  show wpAny _ _ (pyNext (.ref s.heap.objs.size) >>= _) _ _ _
  have hl1 : h1.IsList t #[v1, v2] := hl0.extBut hs1.extBut hlt
  refine wpAny_bind (wpAny_pyNext_list_item hit1 hl1 (x := v2) rfl fun h2 hit2 hs2 => ?_)
  refine wpAny_bind (wpAny_holding (wpAny_pure (wpAny_pure (wpAny_pure ?_))))
  have hl2 : h2.IsList t #[v1, v2] := hl1.extBut hs2.extBut hlt
  rw [if_neg (by simp)]
  refine wpAny_bind (wpAny_holding (wpAny_pyNext_list_end hh hit2 hl2 rfl fun h3 he3 => ?_))
  simp only [Option.isSome_none, Bool.false_eq_true, if_false]
  exact wpAny_pure (hQ h3 fun b o hb e => he3 b o hb (hs2.extBut b o hb (hs1.extBut b o hb (Heap.get?_push_of_some _ e))))
theorem unpack_list1 {t : Addr} {v1 : Value} {Q : List Value → Shared → Prop} (hh : A.handled = none) (ht : s.heap.IsList t #[v1])
    (hE : ∀ h1 h' tk e u, (∀ b o, s.heap.get? b = some o → h1.get? b = some o) → Heap.MadeExcOf h1 h' e (.type "ValueError") [.str "not enough values to unpack (expected 2, got 1)" u] → E (.ref e) { s with heap := h', toks := tk }) : wpAny (model prog w) A (unpackItems (.ref t) 2 none) Q E s := by
  have hlt : t ≠ s.heap.objs.size := by obtain ⟨o, ho, _⟩ := ht; exact Nat.ne_of_lt (Heap.lt_size ho)
  have hty : s.TypeIs (.ref t) "list" := by obtain ⟨o, ho, hc, _⟩ := ht; exact ⟨o, ho, hc⟩
  unfold unpackItems
  refine wpAny_bind ?_
  unfold notIterableAtAll
  refine wpAny_bind (wpAny_specialOf hty F.slot_list_iter.lookup ?_)
  refine wpAny_pure ?_
  simp only [Bool.false_eq_true, if_false]
  refine wpAny_bind (wpAny_holding (wpAny_pyIter_list ht ?_))
  refine wpAny_bind (wpAny_holding ?_)
  have hit0 : Heap.IsListIter (s.heap.push { cls := .type "list_iterator", data := .fields #[.ref t, .int 0 0] }) s.heap.objs.size t 0 := ⟨_, Heap.get?_push_size _ rfl, rfl, rfl⟩
  have hl0 : Heap.IsList (s.heap.push { cls := .type "list_iterator", data := .fields #[.ref t, .int 0 0] }) t #[v1] := ht.at fun o e => Heap.get?_push_of_some _ e
  show wpAny _ _ (pyNext (.ref s.heap.objs.size) >>= _) _ _ _
  refine wpAny_bind (wpAny_pyNext_list_item hit0 hl0 (x := v1) rfl fun h1 hit1 hs1 => ?_)
  refine wpAny_bind (wpAny_holding ?_)
  show wpAny _ _ (pyNext (.ref s.heap.objs.size) >>= _) _ _ _
  have hl1 : h1.IsList t #[v1] := hl0.extBut hs1.extBut hlt
  refine wpAny_bind (wpAny_pyNext_list_end hh hit1 hl1 rfl fun h2 he2 => ?_)
  refine wpAny_pure (wpAny_pure ?_)
  rw [if_pos (by simp)]
  refine wpAny_bind (wpAny_rule ?_)
  rw [show (s!"not enough values to unpack (expected {2}, got {([v1] : List Value).length})" : String) = "not enough values to unpack (expected 2, got 1)" from by rw [show ([v1] : List Value).length = 1 from rfl]; decide +kernel]
  refine wpAny_bind (raise_made plainExc_ValueError hh (fun h' tk e u hm => hE h2 h' tk e u (fun b o q => ?_) hm) (by decide))
  have hb : b ≠ s.heap.objs.size := Nat.ne_of_lt (Heap.lt_size q)
  exact he2 b o hb (hs1.extBut b o hb (Heap.get?_push_of_some _ q))
end

theorem ex_unpack {x y : Str} {px py tpos pos : Pos} {n : Nat} {value : Expr} {Ψ : Fl → St → Prop} (hx : StoreOk C x) (hy : StoreOk C y)
    (h : EV C σ (eval value C.env) (fun d => (∃ a b, d = .lst [a, b] ∧ Ψ .next ((y, .dat b) :: (x, .dat a) :: σ)) ∨ (∃ a, d = .lst [a] ∧ Ξ ⟨.type "ValueError", none⟩)) Ξ)
    (hs : swapsWithSole [.Tuple [.Name x px, .Name y py] n tpos] value pos.line C.env = pure false := by rfl)
    (hw : swappedStores [.Tuple [.Name x px, .Name y py] n tpos] value C.env = pure none := by rfl) :
    EX C σ (exec (.Assign [.Tuple [.Name x px, .Name y py] n tpos] value pos) C.env) Ψ Ξ := fun ow fx s I => by
  refine Assign_Tuple (h.run I (fun v s1 d h1 k1 r1 I1 => ?_) fun _ _ e => e.pre0 (KP.refl _ _ _)) hs hw
  rcases h1 with ⟨a, b, rfl, hΨ⟩ | ⟨a, rfl, hΞ⟩
  · obtain ⟨_, _, rfl, ha, ht, hr⟩ := r1.inv
    rename_i t vs
    have hl := hr.length
    obtain ⟨v1, v2, rfl⟩ : ∃ v1 v2, vs = [v1, v2] := list_two hl
    show wpAny _ _ (do standAt tpos; unpack (.ref t) [(false, assign (.Name x px) C.env), (false, assign (.Name y py) C.env)]) _ _ _
    refine wpAny_bind (wpAny_standAt ?_)
    unfold unpack
    refine wpAny_bind (wpAny_holding (unpack_list2 C.hh ht fun h' hk => ?_))
    have kp : KP C.fr [] s1 { s1 with heap := h' } := KP.of_heap fun b o e => hk b o (Nat.ne_of_lt (Heap.lt_size e)) e
    have I2 := I1.kp kp
    have hr' := hr.kp kp I.gd.frx (by simp)
    obtain ⟨r1, r2⟩ := hr'.two
    show wpAny _ _ (do holding [v2] (assign (.Name x px) C.env v1); (do holding [] (assign (.Name y py) C.env v2); pure ())) _ _ _
    refine wpAny_bind (wpAny_holding (wpAny_assign_Name (store_any (lv := .dat a) hx I2 r1 fun s2 I3 k2 => ?_)))
    have r2' := r2.kp k2 I.gd.frx fun b hb => mem_ex_sys hb
    refine wpAny_bind (wpAny_holding (wpAny_assign_Name (store_any (lv := .dat b) hy I3 r2' fun s3 I4 k3 => wpAny_pure ?_)))
    exact ⟨.next, _, ow, hΨ, I4, ((k1.mod _).trans (kp.mod _)).trans ((k2.trans k3).mono fun b hb => List.mem_append.mpr (.inl hb)), own_refl, trivial⟩
  · obtain ⟨_, _, rfl, ha, ht, hr⟩ := r1.inv
    rename_i t vs
    have hl := hr.length
    obtain ⟨v1, rfl⟩ : ∃ v1, vs = [v1] := list_one hl
    show wpAny _ _ (do standAt tpos; unpack (.ref t) [(false, assign (.Name x px) C.env), (false, assign (.Name y py) C.env)]) _ _ _
    refine wpAny_bind (wpAny_standAt ?_)
    unfold unpack
    refine wpAny_bind (wpAny_holding (unpack_list1 C.hh ht fun h1 h' tk e u hk hm => ?_))
    have kp : KP C.fr [] s1 { s1 with heap := h1 } := KP.of_heap hk
    have I2 := I1.kp kp
    have := xq_new (C := C) (s := { s1 with heap := h1 }) (tk := tk) (Ξ := Ξ) (x := ⟨.type "ValueError", none⟩) I2.frames hm (fun m hm => nomatch hm) hΞ
    exact XQ.pre0 ((k1.trans kp).mod _) this
end
end Mine

/-! Fw21 -/
namespace Mine
open PySem PySem.W PySem.Calls PyProof.Rows

/-! ## dicts from texts to texts -/
noncomputable def put (es : List (Str × Str)) (k v : Str) : List (Str × Str) := if es.any (fun p => p.1 = k) then es.map (fun p => if p.1 = k then (p.1, v) else p) else es ++ [(k, v)]

inductive KvOf : List (Str × Value) → List (Str × Str) → Prop
  | nil : KvOf [] []
  | cons {k v : Str} {u : Tok} {kvs : List (Str × Value)} {es : List (Str × Str)} : KvOf kvs es → KvOf ((k, .str v u) :: kvs) ((k, v) :: es)
theorem KvOf.keys {kvs : List (Str × Value)} {es : List (Str × Str)} (h : KvOf kvs es) : kvs.map (·.1) = es.map (·.1) := by
  induction h with
  | nil => rfl
  | cons _ ih => simp [ih]
theorem KvOf.length {kvs : List (Str × Value)} {es : List (Str × Str)} (h : KvOf kvs es) : kvs.length = es.length := by
  have := congrArg List.length h.keys; simpa using this
theorem KvOf.any {kvs : List (Str × Value)} {es : List (Str × Str)} (h : KvOf kvs es) (k : Str) : (kvs.any fun p => decide (p.1 = k)) = es.any fun p => decide (p.1 = k) := by
  induction h with
  | nil => rfl
  | cons _ ih => simp only [List.any_cons, ih]
theorem KvOf.append {kvs : List (Str × Value)} {es : List (Str × Str)} (h : KvOf kvs es) (k v : Str) (u : Tok) : KvOf (kvs ++ [(k, .str v u)]) (es ++ [(k, v)]) := by
  induction h with
  | nil => exact .cons .nil
  | cons _ ih => exact .cons ih
theorem KvOf.change {kvs : List (Str × Value)} {es : List (Str × Str)} (h : KvOf kvs es) (k v : Str) (u : Tok) : KvOf (kvs.map fun p => if p.1 = k then (p.1, .str v u) else p) (es.map fun p => if p.1 = k then (p.1, v) else p) := by
  induction h with
  | nil => exact .nil
  | @cons k' v' u' kvs es _ ih =>
    rw [List.map_cons, List.map_cons]
    by_cases e : k' = k
    · simp only [e, if_true]; exact .cons ih
    · simp only [e, if_false]; exact .cons ih
theorem KvOf.stored {kvs : List (Str × Value)} {es : List (Str × Str)} (h : KvOf kvs es) (k v : Str) (u : Tok) : KvOf (PySem.stored kvs k (.str v u)) (put es k v) := by
  unfold PySem.stored put
  rw [h.any k]
  split
  · exact h.change k v u
  · exact h.append k v u
theorem KvOf.get {kvs : List (Str × Value)} {es : List (Str × Str)} (h : KvOf kvs es) {i : Nat} {k : Str} {v : Value} (hi : kvs[i]? = some (k, v)) : ∃ x u, v = .str x u ∧ es[i]? = some (k, x) := by
  induction h generalizing i with
  | nil => simp at hi
  | @cons k' v' u' kvs es _ ih =>
    cases i with
    | zero => simp at hi; obtain ⟨rfl, rfl⟩ := hi; exact ⟨_, _, rfl, rfl⟩
    | succ i => simp at hi; simpa using ih hi

section
variable {prog : Program} {w : World}
theorem hash_eq (k : Str) : (PySem.strKind prog w).hash k = PyData.keyHash w.params k := rfl
theorem isDct_of {h : Heap} {a : Addr} {kvs : List (Str × Value)} {es : List (Str × Str)} (hm : h.DictOf (PySem.strKind prog w) a kvs) (hk : KvOf kvs es) (hs : (a == sysModules) = false) : IsDct w.params h a es := by
  obtain ⟨o, l, ep, ho, hx, hd, hks, hp, hn⟩ := hm
  refine ⟨o, l, ep, ho, hx, hd, ⟨by rw [hp.length, hk.length], fun i k v hi => ?_⟩, hs⟩
  have hlt : i < kvs.length := by rw [hk.length]; exact (List.getElem?_eq_some_iff.mp hi).1
  have hkv : kvs[i]? = some (kvs[i].1, kvs[i].2) := by simp [hlt]
  obtain ⟨x, u, hx1, hx2⟩ := hk.get hkv
  rw [hi] at hx2
  obtain ⟨rfl, rfl⟩ : k = kvs[i].1 ∧ v = x := by simpa using hx2
  have hll : i < l.toList.length := by rw [hp.length]; exact hlt
  have hle : l.toList[i]? = some l.toList[i] := by simp [hll]
  obtain ⟨q1, q2⟩ := hp.get? hle hkv
  obtain ⟨t, ht⟩ := Value.isStrOf_shape q1
  obtain ⟨k', p1, p2⟩ := hks l.toList[i] (by simp)
  obtain ⟨t', ht'⟩ := Value.isStrOf_shape p1
  have hkk : k' = kvs[i].1 := by rw [ht] at ht'; injection ht' with z; exact z.symm
  rw [hkk, hash_eq] at p2
  refine ⟨t, u, ?_⟩
  rw [hle]
  generalize l.toList[i] = e at *
  obtain ⟨a1, a2, a3⟩ := e
  simp only at ht q2 p2
  rw [ht, p2, q2, hx1]
theorem dctPairs {P : Params} : ∀ {es : List (Str × Str)} {l : List DictEntry}, DctEs P es l → ∃ kvs, KvOf kvs es ∧ (∀ (prog : Program) (w : World), Pairs (PySem.strKind prog w) l kvs) ∧ ∀ e ∈ l, ∃ k t, e.key = .str k t ∧ e.hash = PyData.keyHash P k
  | [], [], _ => ⟨[], .nil, fun _ _ => .nil, fun e h => nomatch h⟩
  | [], e :: l, h => by simp [DctEs] at h
  | p :: es, [], h => by simp [DctEs] at h
  | (k, v) :: es, e :: l, h => by
    obtain ⟨h1, h2⟩ := h
    obtain ⟨t, u, e0⟩ := h2 0 k v rfl
    have e0' : e = ⟨PyData.keyHash P k, .str k t, .str v u⟩ := by simpa using e0
    obtain ⟨kvs, q1, q2, q3⟩ := dctPairs (es := es) (l := l) ⟨by simpa using h1, fun i k v hi => by simpa using h2 (i + 1) k v (by simpa using hi)⟩
    refine ⟨(k, .str v u) :: kvs, .cons q1, fun prog w => .cons (by rw [e0']; exact strKind_is prog w k t) (by rw [e0']) (q2 prog w), fun e' he' => ?_⟩
    rcases List.mem_cons.mp he' with rfl | he'
    · exact ⟨k, t, by rw [e0'], by rw [e0']⟩
    · exact q3 e' he'
theorem dictOf_of {h : Heap} {a : Addr} {es : List (Str × Str)} (hd : IsDct w.params h a es) (hn : (es.map (·.1)).Nodup) : ∃ kvs, h.DictOf (PySem.strKind prog w) a kvs ∧ KvOf kvs es := by
  obtain ⟨o, l, n, ho, hx, hdt, hes, _⟩ := hd
  obtain ⟨kvs, q1, q2, q3⟩ := dctPairs hes
  refine ⟨kvs, ⟨o, l, n, ho, hx, hdt, fun e he => ?_, q2 prog w, by rw [q1.keys]; exact hn⟩, q1⟩
  obtain ⟨k, t, e1, e2⟩ := q3 e (by simpa using he)
  exact ⟨k, by rw [e1]; exact strKind_is prog w k t, e2⟩
end

section
variable {C : Cx} {σ : St} {ow : List (Str × Addr)} {fx ex : List Addr} {s s' : Shared} {Ξ : XD → Prop} {Φ : D → Prop} {Ψ : Fl → St → Prop}

theorem not_modules (g : Gx) {h : Heap} (hb : g.base.StaysIn h) : (h.objs.size == sysModules) = false := by
  obtain ⟨mc, ⟨o, es, ep, ho, _⟩, _⟩ := g.T.nolimit
  have h1 : cStatics < h.objs.size := Heap.lt_size (hb _ _ ho)
  have h2 : sysModules < cStatics := by decide
  exact beq_eq_false_iff_ne.mpr (Nat.ne_of_gt (Nat.lt_trans h2 h1))

theorem ex_own_dict {x : Str} {np lp pos : Pos} (hx : C.env.kindOf x = some .local) (h : Ψ .next ((x, .own (.dct [])) :: σ)) : EX C σ (exec (.Assign [.Name x np] (.Dict [] [] lp) pos) C.env) Ψ Ξ := fun ow fx s I => by
  refine wpAny_Assign_Name (wpAny_Dict_empty ?_) rfl
  have I1 := I.addOwn x { cls := .type "dict", data := .dict #[] } rfl hx
  refine store_any (lv := .own (.dct [])) (.inl hx) I1 ⟨_, rfl, .head _, ?_⟩ fun s2 I2 k2 => ⟨.next, _, _, h, I2, ?_, fun p hp => ?_, trivial⟩
  · exact ⟨_, _, _, Heap.get?_push_size _ rfl, ⟨rfl, rfl, rfl⟩, rfl, ⟨rfl, fun i k v hi => by simp at hi⟩, not_modules C.g I.base⟩
  · exact (KP.push _).trans (k2.mono fun b hb => List.mem_append.mpr (.inl hb))
  · rcases List.mem_cons.mp hp with rfl | hp
    · exact .inr (Heap.get?_none_of_le (Nat.le_refl _))
    · exact .inl (List.mem_map_of_mem hp)

theorem ex_setitem {x : Str} {np spos pos : Pos} {i value : Expr} {es : List (Str × Str)} (hx : σ.lookup x = some (.own (.dct es))) (hsz : es.length ≤ sizeLine) (hnd : (es.map (·.1)).Nodup)
    (h : EV C σ (eval value C.env) (fun dv => EV C σ (eval i C.env) (fun dk => ∃ k v, dk = .str k ∧ dv = .str v ∧ Ψ .next ((x, .own (.dct (put es k v))) :: σ)) Ξ) Ξ)
    (hd : (x == ("__debug__" : Str)) = false := by decide) (hn : (x == ("__classdict__" : Str)) = false := by decide)
    (hs : swapsWith value (some (.Subscript (.Name x np) i spos)) pos.line C.env = pure false := by rfl) :
    EX C σ (exec (.Assign [.Subscript (.Name x np) i spos] value pos) C.env) Ψ Ξ := fun ow fx s I => by
  refine wpAny_Assign_Subscript (h.run I (fun v s1 dv h1 k1 r1 I1 => ?_) fun _ _ e => e.pre0 (KP.refl _ _ _)) hs
  obtain ⟨vv, hv1, a, rfl, hm, hdct⟩ := I1.vars x _ hx
  refine wpAny_Name (load_slot C.kf hv1 hn ?_) hd
  refine h1.run I1 (fun kv s2 dk h2 k2 r2 I2 => ?_) fun _ _ e => e.pre0 (k1.mod _)
  obtain ⟨k, vx, rfl, rfl, hΨ⟩ := h2
  have r1' := r1.kp k2 I.gd.frx (by simp)
  (first | obtain ⟨_, rfl⟩ := r1'.inv | obtain rfl := r1'.inv | obtain ⟨_, rfl, _⟩ := r1'.inv | obtain ⟨_, _, rfl, _⟩ := r1'.inv); (first | obtain ⟨_, rfl⟩ := r2.inv | obtain rfl := r2.inv | obtain ⟨_, rfl, _⟩ := r2.inv | obtain ⟨_, _, rfl, _⟩ := r2.inv)
  obtain ⟨vv', hv2, a', e', hm', hdct'⟩ := I2.vars x _ hx
  have hva := Inv.updOwn.slot_fun hv2 (slotVal_kp k2 hv1)
  cases hva.symm.trans e'
  rename_i t u
  have hs' : (a == sysModules) = false := by obtain ⟨_, _, _, _, _, _, _, q⟩ := hdct'; exact q
  obtain ⟨kvs, hD, hkv⟩ := dictOf_of (prog := C.g.prog) (w := C.g.w) hdct' hnd
  refine wpAny_setItem_pairs (hsz := by rw [hkv.length]; exact hsz) (strKind_is _ _ k u) hD fun h' hD' hsb => ?_
  have hdct'' := isDct_of hD' (hkv.stored k vx t) hs'
  obtain ⟨I3, k3⟩ := I2.updOwn (tk := s2.toks + 1) hx (slotVal_kp k2 hv1) hm' hsb (d' := .dct (put es k vx)) hdct'' (by obtain ⟨o, _, _, ho, _⟩ := hdct''; exact ⟨o, ho⟩)
  exact ⟨.next, _, ow, hΨ, I3, ((k1.trans k2).mod _).trans k3, own_refl, trivial⟩

/-! items, list of them -/
theorem cl_items {es : List (Str × Str)} (hnd : (es.map (·.1)).Nodup) (h : Φ (.its es)) : CL C (.builtin "dict.items") [.dct es] [] [] Φ Ξ := cl_one fun ex s v G r => by
  obtain ⟨_, rfl, ha, hd⟩ := r.inv
  rename_i a
  have hs' : (a == sysModules) = false := by obtain ⟨_, _, _, _, _, _, _, q⟩ := hd; exact q
  obtain ⟨kvs, hD, hkv⟩ := dictOf_of (prog := C.g.prog) (w := C.g.w) hd hnd
  refine call_meetsIn PySem.F.slot_dict_items hD.typeIs PySem.F.entry_dict_items (PySem.F.args_dict_items_1 _) (meets_dict_items _ a hs') ⟨⟨kvs, hD⟩, ?_⟩
  exact ⟨_, h, KP.push _, .its G.fresh ⟨_, Heap.get?_push_size _ rfl, rfl, rfl⟩ ha (by obtain ⟨o, l, n, ho, r⟩ := hd; exact ⟨o, l, n, Heap.get?_push_of_some _ ho, r⟩)⟩
noncomputable def pairD (p : Str × Str) : D := .tup [.str p.1, .str p.2]
theorem cl_list_its {es : List (Str × Str)} (hnd : (es.map (·.1)).Nodup) (hz : es.length ≤ sizeLine) (h : Φ (.lst (es.map pairD))) : CL C (.type "list") [.its es] [] [] Φ Ξ := cl_one fun ex s v G r => by
  obtain ⟨_, _, rfl, hb, hv, ha, hd⟩ := r.inv
  rename_i b a
  obtain ⟨kvs, hD, hkv⟩ := dictOf_of (prog := C.g.prog) (w := C.g.w) hd hnd
  obtain ⟨ep, hA⟩ := hD.dictAt
  refine kdx_call (knd := PySem.strKind C.g.prog C.g.w) (ep := ep) (kvs := kvs) C.hh hv hA (by rw [hkv.length]; exact hz) fun h' tk acc c as hk hS hl hG hacc => ?_
  have fresh : ∀ x, s.heap.objs.size ≤ x → x ∉ ex := fun x hx q => by obtain ⟨o, e⟩ := G.al x q; exact absurd (Heap.lt_size e) (Nat.not_lt.mpr hx)
  refine ⟨_, h, KP.of_keep hk, .lst (vs := as.map Value.ref) (fresh _ (Nat.le_refl _)) ⟨_, hS, rfl, c, by rw [← hacc]⟩ ?_⟩
  have key : ∀ (as : List Addr) (es : List (Str × Str)), as.length = es.length → (∀ (j : Nat) (x : Addr), as[j]? = some x → s.heap.objs.size < x ∧ ∃ t u k v, es[j]? = some (k, v) ∧ h'.get? x = some { cls := .type "tuple", data := .seq #[.str k t, .str v u] }) →
      RepAll C.g.P h' ex (as.map Value.ref) (es.map pairD) := by
    intro as
    induction as with
    | nil => intro es hl _; cases es with
      | nil => exact .nil
      | cons => simp at hl
    | cons x as ih =>
      intro es hl hq
      cases es with
      | nil => simp at hl
      | cons p es =>
        obtain ⟨h1, t, u, k, v, h2, h3⟩ := hq 0 x rfl
        have hp : p = (k, v) := by simpa using h2
        subst hp
        refine .cons (.tup (vs := [.str k t, .str v u]) (fresh x (Nat.le_of_lt h1)) ⟨_, h3, rfl, _, rfl⟩ (.cons (.str _ _) (.cons (.str _ _) .nil))) (ih es (by simpa using hl) fun j y hj => ?_)
        simpa using hq (j + 1) y (by simpa using hj)
  refine key as es (by rw [hl, hkv.length]) fun j x hj => ⟨hG.above x (List.mem_of_getElem? hj), ?_⟩
  obtain ⟨kk, k, v, e1, e2, e3⟩ := hG.pairs j x hj
  obtain ⟨vx, u, rfl, e4⟩ := hkv.get e1
  obtain ⟨t, rfl⟩ := Value.isStrOf_shape e2
  exact ⟨t, u, k, vx, e4, e3⟩
end
end Mine

/-! Fw22 -/
namespace Mine
open PySem PySem.W PySem.Calls PyProof.Rows

/-! ## str of an exception of a class of the text -/
noncomputable abbrev bmVE : List Value := [.type "ValueError", .type "Exception", .type "BaseException", .type "object"]
/-- the class at C, in the heap h -/
noncomputable def ErrAt (C : Addr) (h : Heap) : Prop :=
  ∃ nm q N bs hdct sn sub ab col dd k0 k1 k2 k3 k5 mN, h.get? C = some (excClassObj nm q C N bs bmVE hdct sn sub ab col dd k0 k1 k2 k3 k5 "ValueError.__new__") ∧ h.Ns N mN ∧ mN "__init__" = none ∧ mN "__str__" = none
theorem ErrAt.keeps {C : Addr} {h h' : Heap} (x : ErrAt C h) (hk : ∀ b o, h.get? b = some o → h'.get? b = some o) : ErrAt C h' := by
  obtain ⟨nm, q, N, bs, hdct, sn, sub, ab, col, dd, k0, k1, k2, k3, k5, mN, h1, h2, h3⟩ := x
  exact ⟨nm, q, N, bs, hdct, sn, sub, ab, col, dd, k0, k1, k2, k3, k5, mN, hk _ _ h1, h2.keeps hk, h3⟩
noncomputable def ExcOf (h : Heap) (e : Addr) (cls : Value) (t0 : Addr) : Prop := ∃ o vs, h.get? e = some o ∧ o.cls = cls ∧ o.data = .fields vs ∧ vs[0]? = some (.ref t0)

section
variable {prog : Program} {w : World} {A : Around} {E : Value → Shared → Prop} {s : Shared} {e t0 C : Addr}
open Builtin Builtin.Str Builtin.BaseException Builtin.Exceptions

theorem bexcArgs_of {M : Model} {cls : Value} {items : List Value} {Q : Value × List Value → Shared → Prop} (x : ExcOf s.heap e cls t0) (ht : s.heap.TupAt t0 items) (hq : Q (.ref t0, items) s) :
    wpAny M A (bexcArgs (.ref e)) Q E s := by
  obtain ⟨o, vs, ho, _, hd, h0⟩ := x
  obtain ⟨ot, k, hto, _, htd⟩ := ht
  unfold bexcArgs
  refine wpAny_bind (wpAny_field ho hd h0 (wpAny_bind (wpAny_seqItems hto htd ?_)))
  have : items.toArray.toList = items := by simp
  show wpAny M A (pure (Value.ref t0, items.toArray.toList)) Q E s
  rw [this]; exact wpAny_pure hq
theorem bexcStr_of {cls : Value} {m : Str} {tk : Tok} {Q : Fin → Shared → Prop} (x : ExcOf s.heap e cls t0) (ht : s.heap.TupAt t0 [.str m tk]) (hq : Q (.done (.ret (.str m tk))) s) :
    wpAny (model prog w) A (Builtin.«BaseException.__str__» ⟨[.ref e], []⟩) Q E s := by
  unfold Builtin.«BaseException.__str__»
  repeat (first | with_reducible refine bexcArgs_of x ht ?_ | wp_step)
  exact hq
theorem check_str_own {M : Model} {Q : Unit → Shared → Prop} (hC : ErrAt C s.heap) (x : ExcOf s.heap e (.ref C) t0) (hq : Q () s) : wpAny M A (checkBuiltinCall "BaseException.__str__" ⟨[.ref e], []⟩) Q E s := by
  have hk : builtinKind "BaseException.__str__" = some .slot := by decide +kernel
  have hsplit : splitId "BaseException.__str__" = some ("BaseException", "__str__") := by decide +kernel
  obtain ⟨nm, q, N, bs, hdct, sn, sub, ab, col, dd, k0, k1, k2, k3, k5, mN, hC, _⟩ := hC
  obtain ⟨o, vs, hx, hc, _⟩ := x
  have hcB : (Value.ref C :: bmVE).contains (.type "BaseException") = true := by rw [List.contains_cons, show bmVE.contains (.type "BaseException") = true from by decide, Bool.or_true]
  have ha := F.args_bexc_str (.ref e)
  obtain ⟨hp, g, d, tk, os⟩ := s
  simp only [checkBuiltinCall, hk, hsplit]
  refine wpAny_bind ?_
  · unfold isInstance
    repeat (first | (with_reducible refine wpAny_loadPart_at hx ?_; rw [hc]) | (with_reducible refine wpAny_isSubtype_exc hC ?_; rw [hcB]) | wp_step)
    exact hq
theorem callSpecial_str_own {m : Str} {tk : Tok} {Q : Option Value → Shared → Prop} (hC : ErrAt C s.heap) (x : ExcOf s.heap e (.ref C) t0) (ht : s.heap.TupAt t0 [.str m tk]) (hq : Q (some (.str m tk)) s) :
    wpAny (model prog w) A (callSpecial? (.ref e) "__str__") Q E s := by
  have hC' := hC
  have x' := x
  obtain ⟨nm, q, N, bs, hdct, sn, sub, ab, col, dd, k0, k1, k2, k3, k5, mN, hC, hN, _, hns⟩ := hC
  obtain ⟨o, vs, hx, hc, _⟩ := x
  have slot := PySem.F.excStr_ValueError.str
  obtain ⟨hp, g, d, tk', os⟩ := s
  unfold callSpecial? specialOf
  refine wpAny_bind ?_
  refine wpAny_bind ?_
  unfold typeOf
  repeat (first | (with_reducible refine wpAny_loadPart_at hx ?_; rw [hc]) | wp_step)
  refine wpAny_typeLookup_exc hC hN PySem.F.excBase_ValueError.mroIs slot.lookup ?_
  rw [hns]
  refine wpAny_holding (wpAny_bind (wpAny_of_eq (slot.bind _) ?_))
  refine wpAny_bind (wpAny_call (codeAny_call_builtin slot.plain F.entry_bexc_str (check_str_own hC' x' ?_)))
  exact bexcStr_of x' ht (wpAny_pure hq)
theorem strOf_own (hu : A.units < cLine) {m : Str} {tk : Tok} {Q : Value → Shared → Prop} (hC : ErrAt C s.heap) (x : ExcOf s.heap e (.ref C) t0) (ht : s.heap.TupAt t0 [.str m tk]) (hq : Q (.str m tk) s) :
    wpAny (model prog w) A (Builtin.Str.strOf (.ref e)) Q E s := by
  unfold Builtin.Str.strOf
  repeat (first | with_reducible refine wpAny_cRoomFor hu ?_ | with_reducible refine callSpecial_str_own hC x ht ?_ | wp_step)
  exact hq
theorem str_own (hu : A.units + 2 < cLine) {m : Str} {tk : Tok} {Q : Value → Shared → Prop} (hC : ErrAt C s.heap) (x : ExcOf s.heap e (.ref C) t0) (ht : s.heap.TupAt t0 [.str m tk]) (h : Q (.str m tk) s) :
    wpAny (model prog w) A (call (.type "str") [.ref e]) Q E s :=
  callType_new F.called_str (by decide) (F.typeCall_str_1 _) (F.newCall_str_1 _) (fun obj => F.args_object_init_2 obj _) F.entry_str_new
    (meets_str_new (S := fun A' R s' => A'.units + 1 < cLine ∧ ErrAt C s'.heap ∧ ExcOf s'.heap e (.ref C) t0 ∧ s'.heap.TupAt t0 [.str m tk] ∧ R (.ok (.ret (.str m tk))) s')
      fun _ _ A' _ _ hq => strOf_own (A := A'.in1) hq.1 hq.2.1 hq.2.2.1 hq.2.2.2.1 hq.2.2.2.2)
    ⟨(show A.units + 1 + 1 < cLine from hu), hC, x, ht, typeIs_str _ _ _, h⟩
end
end Mine

/-! Fw23 -/
namespace Mine
open PySem PySem.W PySem.Calls PyProof.Rows

section
variable {C : Cx} {σ : St} {ow : List (Str × Addr)} {fx ex : List Addr} {s s' : Shared} {Ξ : XD → Prop} {Φ : D → Prop} {Ψ : Fl → St → Prop}

theorem kp_slots {fr : List Env} {B h h' : Heap} {tk : Nat} (hf : h.FunFrames B fr) (hB : B.StaysIn h') (hs : h.UpToSlots h') (hk : ∀ b o, b ∉ FRA fr → s.heap.get? b = some o → B.get? b = some o)
    (hfr : ∀ b o, b ∈ FRA fr → s.heap.get? b = some o → ∃ sl, h.get? b = some { o with slots := sl }) : KP fr [] s { s with heap := h', toks := tk } := by
  have k1 : ∀ b o, b ∉ FRA fr → s.heap.get? b = some o → h'.get? b = some o := fun b o hb e => hB b o (hk b o hb e)
  have k2 : ∀ b o, s.heap.get? b = some o → ∃ sl, h'.get? b = some { o with slots := sl } := fun b o e => by
    by_cases hb : b ∈ FRA fr
    · exact sl_step hf hs hb (hfr b o hb e)
    · exact ⟨o.slots, k1 b o hb e⟩
  exact ⟨⟨h', tk, rfl⟩, fun b o _ hb e => k1 b o hb e, fun b o _ e => k2 b o e, fun b o e => let ⟨sl, q⟩ := k2 b o e; ⟨_, q⟩⟩

/-- an exception out of an expression, on its way to this block's handlers -/
theorem landed {e : Value} (hc : C.comp = false) (f : XQ C.fr [] s Ξ e s') {Q : Unit → Shared → Prop} {E : Value → Shared → Prop}
    (hQ : ∀ x a t vs B h' tk, Ξ x → e = .ref a → KP C.fr [] s { s with heap := h', toks := tk } → Heap.FlyingW B C.fr a x.cls (.ref t) h' → h'.TupAt t vs → MsgOk x vs → (∀ b o, b ∉ FRA C.fr → s.heap.get? b = some o → B.get? b = some o) →
      Q () { s with heap := h', toks := tk }) :
    wpAny C.g.M C.A (noteFrame e C.env) (fun _ s₂ => wpAny C.g.M C.A (setFlight e none) Q E s₂) E s' := by
  obtain ⟨x, hx, f⟩ := f
  obtain ⟨h0, tk, hs'⟩ := f.sh
  refine fly_note hc f fun h' a L B t vs e1 e2 e3 e4 e5 e6 e7 e8 e9 => ?_
  subst e1
  refine wpAny_landsW e5 fun h'' k1 k2 => ?_
  subst hs'
  refine hQ x a t vs B h'' tk hx rfl (kp_slots e5.2.2.1 k1.1 k2 (fun b o hb q => e4 b o (by simp) hb q) fun b o hb q => e9 b o hb (by simp) q) k1 (e6.of_slots k2) e8 fun b o hb q => e4 b o (by simp) hb q

theorem again_kp {B h h' : Heap} {tk tk' : Nat} {a : Addr} {cls a0 : Value} (hfl : Heap.FlyingW B C.fr a cls a0 h) (hfl' : Heap.FlyingW B C.fr a cls a0 h') (hs : h.UpToSlots h') (hk : ∀ b o, b ∉ FRA C.fr → s.heap.get? b = some o → B.get? b = some o)
    (k : KP C.fr [] s { s with heap := h, toks := tk }) : KP C.fr [] s { s with heap := h', toks := tk' } :=
  kp_slots hfl.2.2.1 hfl'.1 hs hk fun b o _ e => k.sl b o (by simp) e

/-- a name of the builtins, whatever is handled -/
theorem name_builtin {M : Model} {A : Around} {E : Value → Shared → Prop} {x : Str} {pos : Pos} {v : Value} {sc : Scope} {Q : Value → Shared → Prop} (I : C.g.base.StaysIn s.heap) (hsc : C.env.scope = sc) (hx : sc.names.lookup x = some .globalImplicit) (e : nsIn C.g.K mainGlobals x = some none) (hv : bootBuiltins x = some v) (h : Q v s)
    (hn : x ≠ "__name__" := by decide) (hd : (x == ("__debug__" : Str)) = false := by decide) : wpAny M A (eval (.Name x pos) C.env) Q E s :=
  Name_function_global C.kf (by unfold Env.kindOf; rw [hsc]; exact hx) (loadGlobal_builtin (mg := C.g.mg) (mb := C.g.mb) (by rw [C.gl]; exact C.g.T.g.keeps I) (mg_none_of C.g.X C.g.T.g e) (by rw [C.bi]; exact C.g.T.b.keeps I)
    ((C.g.T.builtins x hn).trans hv) h) hd

theorem sub_exc_ValueError : isSubtype (.type "ValueError") (.type "BaseException") = pure true := by rw [isSubtype_type]; kernel_rfl
theorem sub_exc_IndexError : isSubtype (.type "IndexError") (.type "BaseException") = pure true := by rw [isSubtype_type]; kernel_rfl
theorem nt_ValueError : isSubtype (.type ((Manifest.find? "ValueError").elim "type" fun x => x.metatype)) (.type "tuple") = pure false := by
  rw [find?_eq_fast, isSubtype_type]; kernel_rfl
theorem nt_IndexError : isSubtype (.type ((Manifest.find? "IndexError").elim "type" fun x => x.metatype)) (.type "tuple") = pure false := by
  rw [find?_eq_fast, isSubtype_type]; kernel_rfl
theorem sub_VV : isSubtype (.type "ValueError") (.type "ValueError") = pure true := by rw [isSubtype_type]; kernel_rfl
theorem sub_IV : isSubtype (.type "IndexError") (.type "ValueError") = pure false := by rw [isSubtype_type]; kernel_rfl
theorem sub_II : isSubtype (.type "IndexError") (.type "IndexError") = pure true := by rw [isSubtype_type]; kernel_rfl

set_option maxHeartbeats 1000000 in
/-- try: return e; except ValueError: return v1; except IndexError: return v2 -/
theorem ex_try_list {e : Expr} {rp p1 p2 q1 q2 r1 r2 hp1 hp2 tp : Pos} {k1 k2 : Nat} {v1 v2 : Str} {sc : Scope} (hc : C.comp = false) (hsc : C.env.scope = sc)
    (hx1 : sc.names.lookup ("ValueError" : Str) = some .globalImplicit) (hx2 : sc.names.lookup ("IndexError" : Str) = some .globalImplicit) (hn1 : nsIn C.g.K mainGlobals "ValueError" = some none) (hn2 : nsIn C.g.K mainGlobals "IndexError" = some none)
    (h : EV C σ (eval e C.env) (fun d => Ψ (.ret d) σ) (fun x => (x.cls = .type "ValueError" ∧ Ψ (.ret (.str v1)) σ) ∨ (x.cls = .type "IndexError" ∧ Ψ (.ret (.str v2)) σ))) :
    EX C σ (exec (.Try [.Return (some e) rp] [.ExceptHandler (some (.Name "ValueError" p1)) none [.Return (some (.Constant (.str v1) k1 q1)) r1] hp1, .ExceptHandler (some (.Name "IndexError" p2)) none [.Return (some (.Constant (.str v2) k2 q2)) r2] hp2] [] [] tp) C.env) Ψ Ξ := fun ow fx s I => by
  refine wpAny_Try_except (wpAny_execs_cons (wpAny_Return_some (h.run I (fun v s1 d h1 k1 r1 I1 => ?_) fun ev s1 hq => ?_)))
  · exact ⟨.ret d, σ, ow, h1, I1, k1.mod _, own_refl, r1⟩
  · refine landed hc hq fun x a t vs B h' tk hx hea kp hfl htup hmsg hBk => ?_
    subst hea
    have I1 := I.kp kp
    obtain ⟨oe, hoe, hcls⟩ := hfl.there
    have fin : ∀ (A' : Around) (E' : Value → Shared → Prop) (vv : Str) (kk : Nat) (qq rr : Pos), Ψ (.ret (.str vv)) σ → wpAny C.g.M A' (setFlight (.ref a) none) (fun _ s₂ => wpAny C.g.M A' (execs [.Return (some (.Constant (.str vv) kk qq)) rr] C.env) (SQ C ow fx s Ψ) E' s₂) E' { s with heap := h', toks := tk } := fun A' E' vv kk qq rr hΨ => by
      refine lands_againW hfl fun h'' hfl' hs' => ?_
      have kp2 := again_kp (tk' := tk) hfl hfl' hs' hBk kp
      refine wpAny_execs_cons (wpAny_Return_some (wpAny_Constant_str ?_))
      have kp3 : KP C.fr [] s { s with heap := h'', toks := tk + 1 } := kp2.trans (KP.toks _ _ _ _)
      exact ⟨.ret (.str vv), σ, ow, hΨ, I.kp kp3, kp3.mod _, own_refl, .str _ _⟩
    rcases hx with ⟨hxc, hΨ⟩ | ⟨hxc, hΨ⟩
    · refine wpAny_handleBy_builtin (X := "ValueError") (T := "ValueError") (b := true) sub_exc_ValueError nt_ValueError sub_VV (name_builtin I1.base hsc hx1 hn1 rfl ⟨rfl, ⟨oe, hoe, hcls.trans hxc⟩, ?_⟩)
      exact fin _ _ v1 k1 q1 r1 hΨ
    · refine wpAny_handleBy_builtin (X := "IndexError") (T := "ValueError") (b := false) sub_exc_ValueError nt_ValueError sub_IV (name_builtin I1.base hsc hx1 hn1 rfl ⟨rfl, ⟨oe, hoe, hcls.trans hxc⟩, ?_⟩)
      refine wpAny_handleBy_builtin (X := "IndexError") (T := "IndexError") (b := true) sub_exc_IndexError nt_IndexError sub_II (name_builtin I1.base hsc hx2 hn2 rfl ⟨rfl, ⟨oe, hoe, hcls.trans hxc⟩, ?_⟩)
      exact fin _ _ v2 k2 q2 r2 hΨ

set_option maxHeartbeats 1000000 in
/-- try: x = e; except ValueError as n: return str(n) -/
theorem ex_try_told {x n : Str} {e : Expr} {np ap p1 sp nn cp rp hp tp : Pos} {sc : Scope} (hc : C.comp = false) (hsc : C.env.scope = sc) (hx : StoreOk C x) (hnl : sc.names.lookup n = some .local) (herr : ErrAt 46 C.g.base)
    (hx1 : sc.names.lookup ("ValueError" : Str) = some .globalImplicit) (hx2 : sc.names.lookup ("str" : Str) = some .globalImplicit) (hn1 : nsIn C.g.K mainGlobals "ValueError" = some none) (hn2 : nsIn C.g.K mainGlobals "str" = some none)
    (h : EV C σ (eval e C.env) (fun d => Ψ .next ((x, .dat d) :: σ)) (fun x => x.cls = .ref 46 ∧ ∃ m, x.msg = some m ∧ Ψ (.ret (.str m)) []))
    (hs : swapsWith e (some (.Name x np)) ap.line C.env = pure false := by rfl) (hd : (n == ("__debug__" : Str)) = false := by decide) (hcd : (n == ("__classdict__" : Str)) = false := by decide)
    (hplain : (backTo cp (starEach [.Name n nn] C.env)) = [(false, eval (.Name n nn) C.env)] := by rfl) :
    EX C σ (exec (.Try [.Assign [.Name x np] e ap] [.ExceptHandler (some (.Name "ValueError" p1)) (some n) [.Return (some (.Call (.Name "str" sp) [.Name n nn] [] cp)) rp] hp] [] [] tp) C.env) Ψ Ξ := fun ow fx s I => by
  have hnk : C.env.kindOf n = some .local := by unfold Env.kindOf; rw [hsc]; exact hnl
  refine wpAny_Try_except (wpAny_execs_cons (wpAny_Assign_Name (h.run I (fun v s1 d h1 k1 r1 I1 => ?_) fun ev s1 hq => ?_) hs))
  · refine store_any (lv := .dat d) hx I1 r1 fun s2 I2 k2 => wpAny_execs_nil (wpAny_execs_nil ?_)
    exact ⟨.next, _, ow, h1, I2, (k1.mod _).trans (k2.mono fun b hb => List.mem_append.mpr (.inl hb)), own_refl, trivial⟩
  · refine landed hc hq fun x a t vs B h' tk hx hea kp hfl htup hmsg hBk => ?_
    subst hea
    obtain ⟨hxc, m, hxm, hΨ⟩ := hx
    obtain ⟨u, rfl⟩ := hmsg m hxm
    have I1 := I.kp kp
    obtain ⟨oe, hoe, hcls⟩ := hfl.there
    have herr1 := herr.keeps (h' := h') fun b o q => I1.base b o q
    refine wpAny_handleBy_cons (codeAny_handlers_test (name_builtin I1.base hsc hx1 hn1 rfl ?_)) (by intro q; cases q)
    obtain ⟨nm, qn, N, bs, hdct, sn, sub, ab, col, dd, k0, k1, k2, k3, k5, mN, hC, hN, _, _⟩ := id herr1
    refine wpAny_excMatches_sub_type (g := s.gens) (d := s.drawn) (t := tk) (os := s.os) hC hoe (hcls.trans hxc) sub_exc_ValueError nt_ValueError ?_
    refine codeAny_handlers_suite_as ?_
    refine lands_againW hfl fun h'' hfl' hs' => ?_
    have kp2 := again_kp (tk' := tk) hfl hfl' hs' hBk kp
    have I2 := I.kp kp2
    have htup2 := htup.of_slots hs'
    -- the name is bound: the locals alone change
    obtain ⟨m1, hn1'⟩ := I2.ns
    refine wpAny_storeName_local hnk hn1' (fun h3 hns3 hsb3 => ?_) (by rw [C.kf]; rfl)
    have hL : ∀ b o, b ≠ C.env.locals → h''.get? b = some o → h3.get? b = some o := fun b o hb q => (hsb3.2 b hb).trans q
    have hLb : C.g.base.get? C.env.locals = none := (I.sysf _ C.locs).2
    have base3 : C.g.base.StaysIn h3 := fun b o q => hL b o (fun z => by rw [z, hLb] at q; cases q) (I2.base b o q)
    have nf : ∀ vs, (∃ o, h''.get? C.env.locals = some o ∧ o.data = .fields vs) → False := fun vs ⟨o, e1, e2⟩ => (ns_noFields hn1').2 o e1 vs e2
    obtain ⟨oe2, ws, hoe2, hcls2, hdat2, h02⟩ := hfl'.first
    have hex3 : ExcOf h3 a (.ref 46) t := ⟨oe2, ws, hL a oe2 (fun z => nf ws ⟨oe2, z ▸ hoe2, hdat2⟩) hoe2, hcls2.trans hxc, hdat2, h02⟩
    have htup3 : h3.TupAt t [.str m u] := by
      obtain ⟨ot, n', hto, htc, htd⟩ := htup2
      obtain ⟨oL, es, ep, hoL, hdL, _⟩ := id hn1'
      refine ⟨ot, n', hL t ot (fun z => ?_) hto, htc, htd⟩
      rw [z, hoL] at hto; cases hto; rw [hdL] at htd; cases htd
    have fin : ∀ (s4 : Shared), s4 = { s with heap := h3, toks := s4.toks } → wpAny C.g.M C.A (do bindName C.env n .none; unbindBehindTheSuite C.env n hp) (fun _ s5 => SQ C ow fx s Ψ (.ret (.str m u)) s5) (XQ C.fr (C.mu ow) s Ξ) s4 := fun s4 e4 => by
      rw [e4]
      refine wpAny_nameGoes hnk hns3 (by rw [C.kf]; rfl) fun h5 m5 hns5 hsb5 => ?_
      have kk : KP C.fr C.sys s { s with heap := h5, toks := s4.toks + 1 } := by
        have a1 : KP C.fr C.sys s { s with heap := h'', toks := tk } := kp2.mod _
        have a2 : KP C.fr C.sys { s with heap := h'', toks := tk } { s with heap := h3, toks := s4.toks } := KP.but C.locs hsb3 ⟨_, (ns_noFields hns3).1.choose_spec⟩
        have a3 : KP C.fr C.sys { s with heap := h3, toks := s4.toks } { s with heap := h5, toks := s4.toks + 1 } := KP.but C.locs hsb5 ⟨_, (ns_noFields hns5).1.choose_spec⟩
        exact (a1.trans a2).trans a3
      have I5 : Inv C [] ow fx { s with heap := h5, toks := s4.toks + 1 } := by
        have I2' : Inv C [] ow fx { s with heap := h'', toks := tk } := I2.weaken fun x lv hx => by simp at hx
        have I3 : Inv C [] ow fx { s with heap := h3, toks := s4.toks } := I2'.touch C.locs hsb3 (ns_noFields hns3).1 (ns_noFields hns3).2 ⟨_, hns3⟩ (fun n c hc => by obtain ⟨v', hv'⟩ := I2'.cel n c hc; exact ⟨v', hv'.sameBut hsb3 (C.cloc n c hc)⟩) fun y lv hy => by simp at hy
        exact I3.touch C.locs hsb5 (ns_noFields hns5).1 (ns_noFields hns5).2 ⟨_, hns5⟩ (fun n c hc => by obtain ⟨v', hv'⟩ := I3.cel n c hc; exact ⟨v', hv'.sameBut hsb5 (C.cloc n c hc)⟩) fun y lv hy => by simp at hy
      exact ⟨.ret (.str m), [], ow, hΨ, I5, kk.mono fun b hb => List.mem_append.mpr (.inl hb), own_refl, .str _ _⟩
    refine wpAny_execs_cons (wpAny_Return_some (wpAny_Call_Name_kw (name_builtin (C := C) ?_ hsc hx2 hn2 rfl ?_)))
    · exact base3
    rw [hplain]
    refine callWith_of (P := fun _ => True) rfl (fun _ _ => ⟨.machine, .inr (.inl rfl), Looks.of_pure rfl⟩) (evalArgs_plain ?_)
    refine spliced_cons ?_
    refine wpAny_Name (wpAny_loadName_local C.kf hnk hns3 (v := .ref a) (if_pos rfl) (spliced_nil ⟨trivial, ?_⟩)) hd
    have hu := C.hu
    refine str_own (by show C.A.units + 2 < cLine; have : cLine ≥ 1000 := by decide
                       lia) (herr.keeps fun b o q => base3 b o q) hex3 htup3 ?_
    exact fin _ rfl

/-- raise Error(text) -/
theorem ex_raise {x : Str} {np cpos pos : Pos} {arg : Expr} {sc : Scope} (hsc : C.env.scope = sc) (hx : sc.names.lookup x = some .globalImplicit) (e : nsIn C.g.K mainGlobals x = some (some (.ref 46))) (herr : ErrAt 46 C.g.base)
    (h : EV C σ (eval arg C.env) (fun d => ∃ m, d = .str m ∧ Ξ ⟨.ref 46, some m⟩) Ξ) (hd : (x == ("__debug__" : Str)) = false := by decide)
    (ha : (backTo cpos (starEach [arg] C.env)) = [(false, eval arg C.env)] := by rfl) :
    EX C σ (exec (.Raise (some (.Call (.Name x np) [arg] [] cpos)) none pos) C.env) Ψ Ξ := fun ow fx s I => by
  obtain ⟨nm, qn, N, bs, hdct, sn, sub, ab, col, dd, k0, k1, k2, k3, k5, mN, hC, hN, hni, _⟩ := id herr
  refine wpAny_Raise_call_sub (C := 46) (nm := nm) (q := qn) (N := N) (bs := bs) (hdct := hdct) (sn := sn) (sub := sub) (ab := ab) (col := col) (dd := dd) (k0 := k0) (k1 := k1) (k2 := k2) (k3 := k3) (k5 := k5) PySem.F.excBase_ValueError C.hh (by rw [ha]; rfl) hni ?_
  refine Name_function_global C.kf (by unfold Env.kindOf; rw [hsc]; exact hx) (loadGlobal_global (mg := C.g.mg) (by rw [C.gl]; exact C.g.T.g.keeps I.base) (mg_of C.g.X C.g.T.g e) ⟨rfl, ?_⟩) hd
  rw [ha]
  refine evalArgs_plain (spliced_cons (h.run I (fun v s1 d h1 k1 r1 I1 => spliced_nil ?_) fun _ _ e => e.pre0 (KP.refl _ _ _)))
  obtain ⟨m, rfl, hΞ⟩ := h1
  (first | obtain ⟨_, rfl⟩ := r1.inv | obtain rfl := r1.inv | obtain ⟨_, rfl, _⟩ := r1.inv | obtain ⟨_, _, rfl, _⟩ := r1.inv)
  refine ⟨rfl, by show 1 ≤ sizeLine; decide, I1.base _ _ hC, hN.keeps fun b o q => I1.base b o q, fun h' ea hm => ?_⟩
  have := xq_new (C := C) (s := s1) (tk := s1.toks) (Ξ := Ξ) (x := ⟨.ref 46, some m⟩) I1.frames hm (fun m' hm' => by cases hm'; exact ⟨_, rfl⟩) hΞ
  exact XQ.pre0 (k1.mod _) this
end
end Mine

/-! Fw24 -/
namespace Mine
open PySem PySem.W PySem.Calls PyProof.Rows

/-! ## binding -/
section
variable {g : Gx} {fd : FuncData}
theorem bindsK_1_1 {bs : List (Str × D)} {a b : D} {n : Str} (f : Value → Value → List (Str × Value)) (h : ∀ v w S, peek g.K S (bindArgs fd ⟨[v], [(n, w)]⟩) = some (f v w)) (h1 : ∀ v w, (f v w).map (·.1) = bs.map (·.1))
    (h2 : ∀ h ex v w, Rep g.P h ex v a → Rep g.P h ex w b → RepAll g.P h ex ((f v w).map (·.2)) (bs.map (·.2))) : Binds g fd [a] [n] [b] bs := fun ex s vs kvs hb r rk => by
  obtain ⟨_, rfl, r1⟩ := r.inv1
  obtain ⟨_, rfl, r3⟩ := rk.inv1
  exact ⟨_, kp_binds (g.X.keeps hb) (h _ _), h1 _ _, h2 _ _ _ _ r1 r3⟩
theorem bindsK_2_0 {bs : List (Str × D)} {a b : D} (f : Value → Value → List (Str × Value)) (h : ∀ v w S, peek g.K S (bindArgs fd ⟨[v, w], []⟩) = some (f v w)) (h1 : ∀ v w, (f v w).map (·.1) = bs.map (·.1))
    (h2 : ∀ h ex v w, Rep g.P h ex v a → Rep g.P h ex w b → RepAll g.P h ex ((f v w).map (·.2)) (bs.map (·.2))) : Binds g fd [a, b] [] [] bs := fun ex s vs kvs hb r rk => by
  obtain ⟨_, _, rfl, r1, r2⟩ := r.inv2
  obtain rfl := rk.inv
  exact ⟨_, kp_binds (g.X.keeps hb) (h _ _), h1 _ _, h2 _ _ _ _ r1 r2⟩
end

/-! ## ascii -/
open Builtin Builtin._codecs in
theorem forIn_two {σ : Type} (n : Nat) (f : Nat → σ → Sem (ForInStep σ)) (init mid : σ) (h1 : ∀ k, f k init = pure (.yield mid)) (h2 : ∀ k, f k mid = pure (.done mid)) (hn : 0 < n) : forIn [:n] init f = (pure mid : Sem σ) := by
  rw [Std.Legacy.Range.forIn_eq_forIn_range']
  have : List.range' ([:n].start) ([:n].size) ([:n].step) = 0 :: List.range' 1 (n - 1) := by
    obtain ⟨m, rfl⟩ : ∃ m, n = m + 1 := ⟨n - 1, by lia⟩
    simp [Std.Legacy.Range.size, List.range'_succ]
  rw [this, List.forIn_cons, h1]
  show (forIn (List.range' 1 (n - 1)) mid f : Sem σ) = pure mid
  cases List.range' 1 (n - 1) with
  | nil => rfl
  | cons a l => rw [List.forIn_cons, h2]; rfl
open Builtin Builtin._codecs in
theorem narrow_ascii {v : Value} (l : List Nat) (hl : ∀ c ∈ l, c < 128) (hz : l.length ≤ sizeLine) : encodeNarrow "str.encode" asciiCodec none v (S l) = pure (l.map (·.toUInt8)).toArray := by
  unfold encodeNarrow
  dsimp only
  have hcps : (S l).cps = l.toArray := rfl
  by_cases hl0 : l = []
  · subst hl0; rw [Std.Legacy.Range.forIn_eq_forIn_range']; rfl
  · have hpos : 0 < l.length := List.length_pos_iff.mpr hl0
    have hbad : ∀ (m : List Nat), (∀ c ∈ m, c < 128) → Array.findIdx? asciiCodec.bad m.toArray = none := fun m hm => by
      rw [Array.findIdx?_eq_none_iff]
      intro c hc
      have := hm c (by simpa using hc)
      show decide (c ≥ 128) = false
      simp; lia
    have hfold : ∀ (m : List Nat) (acc : Array UInt8), Array.foldl (fun acc y => acc ++ (asciiCodec.bytesOf y).toArray) acc m.toArray = acc ++ (m.map (·.toUInt8)).toArray := by
      intro m
      induction m with
      | nil => intro acc; simp
      | cons c m ih => intro acc; simp only [List.foldl_toArray, List.foldl_cons] at ih ⊢; rw [ih]; simp [asciiCodec]
    rw [forIn_two (S l).length _ (0, (#[] : Array UInt8), ({} : Faults)) (l.length, (l.map (·.toUInt8)).toArray, ({} : Faults)) ?_ ?_ (by rw [S_len]; exact hpos)]
    · rfl
    · intro k
      rw [if_neg (by simp)]
      obtain ⟨c, l', rfl⟩ : ∃ c l', l = c :: l' := List.exists_cons_of_ne_nil hl0
      have hc : c < 128 := hl c (by simp)
      have e1 : (S (c :: l')).cps[0]? = some c := rfl
      have e2 : (!asciiCodec.bad c) = true := by show (!decide (c ≥ 128)) = true; simp; lia
      rw [e1]
      simp only [e2, if_true, hcps]
      have e3 : Array.extract (c :: l').toArray 0 = (c :: l').toArray := by simp
      rw [e3, hbad _ hl]
      simp only [Option.getD_none]
      rw [show Array.extract (c :: l').toArray 0 ((c :: l').toArray.size) = (c :: l').toArray by simp, hfold]
      simp
    · intro k
      rw [if_neg (by simp; lia)]
      have e1 : (S l).cps[l.length]? = none := by rw [hcps]; simp
      rw [e1]
open Builtin Builtin._codecs in
theorem road_ascii (self : Value) (x : Str) : encodeRoad "str.encode" self x (Str.ofString "ascii") none = (do mkBytes (← encodeNarrow "str.encode" asciiCodec none self x)) := by
  first | rfl | (unfold encodeRoad; rfl)
open Builtin Builtin._codecs in
theorem encode_ascii_tree (x : Str) (t u : Tok) : «str.encode» ⟨[.str x t, .str (Str.ofString "ascii") u], []⟩ = (do ret (← encodeRoad "str.encode" (.str x t) x (Str.ofString "ascii") none)) := by
  kernel_rfl

section
variable {C : Cx} {σ : St} {ow : List (Str × Addr)} {fx ex : List Addr} {s s' : Shared} {Ξ : XD → Prop} {Φ : D → Prop} {Ψ : Fl → St → Prop}

theorem cl_encode {l : List Nat} (hl : ∀ c ∈ l, c < 128) (hz : l.length ≤ 2 ^ 20) (h : Φ (.bytes (l.map (·.toUInt8)).toArray)) : CL C (.builtin "str.encode") [.str (S l), .str (Str.ofString "ascii")] [] [] Φ Ξ := cl_two fun ex s v w G r1 r2 => by
  (first | obtain ⟨_, rfl⟩ := r1.inv | obtain rfl := r1.inv | obtain ⟨_, rfl, _⟩ := r1.inv | obtain ⟨_, _, rfl, _⟩ := r1.inv); (first | obtain ⟨_, rfl⟩ := r2.inv | obtain rfl := r2.inv | obtain ⟨_, rfl, _⟩ := r2.inv | obtain ⟨_, _, rfl, _⟩ := r2.inv)
  rename_i t u
  have hz' : l.length ≤ sizeLine := Nat.le_trans hz (by decide)
  refine wpAny_call_entry PySem.F.slot_str_encode (typeIs_str s (S l) t) PySem.F.entry_str_encode ?_ (PySem.F.args_str_encode_2 _ _)
  rw [encode_ascii_tree, road_ascii, narrow_ascii l hl hz']
  exact wpAny_bind (wpAny_bind (wpAny_pure (wpAny_mkBytes (wpAny_pure ⟨_, rfl, vq_bytes h⟩) (by simp; exact hz'))))

/-! isinstance -/
theorem cl_isinstance_str {x : Str} (h : Φ (.bool true)) : CL C (.builtin "isinstance") [.str x, .val (.type "str")] [] [] Φ Ξ := cl_two fun ex s v w G r1 r2 => by
  (first | obtain ⟨_, rfl⟩ := r1.inv | obtain rfl := r1.inv | obtain ⟨_, rfl, _⟩ := r1.inv | obtain ⟨_, _, rfl, _⟩ := r1.inv); (first | obtain ⟨_, rfl⟩ := r2.inv | obtain rfl := r2.inv | obtain ⟨_, rfl, _⟩ := r2.inv | obtain ⟨_, _, rfl, _⟩ := r2.inv)
  exact call_isinstance (isinstance_true (Tx := "str") (T := "str") rfl (by rw [isSubtype_type]; kernel_rfl)) ⟨typeIs_str _ _ _, vq_val h⟩

/-! % d -/
noncomputable def percentText (n : Int) : Str := ("Invalid base64-encoded string: number of data characters (" : Str) ++ Str.ofString (toString n) ++ (") cannot be 1 more than a multiple of 4" : Str)
end
end Mine

/-! Fw25 -/
namespace Mine
open PySem PySem.W PySem.Calls PyProof.Rows

/-! ## equality of data -/
mutual
noncomputable def PD : D → PyData
  | .int i => .int i
  | .str x => .str x
  | .tup ds => .tuple (PDs ds)
  | .lst ds => .list (PDs ds)
  | _ => .none
noncomputable def PDs : List D → List PyData
  | [] => []
  | d :: ds => PD d :: PDs ds
end
mutual
noncomputable def okD : Nat → D → Prop
  | _, .int _ => True
  | _, .str x => PyData.strOk x = true
  | n + 1, .tup ds => okDs n ds
  | n + 1, .lst ds => okDs n ds
  | _, _ => False
noncomputable def okDs : Nat → List D → Prop
  | _, [] => True
  | n, d :: ds => okD n d ∧ okDs n ds
end

mutual
theorem reads_of' {P : Params} {h : Heap} {ex : List Addr} : ∀ (d : D) {n : Nat} {v : Value}, Rep P h ex v d → okD n d → ∃ as, Reads h v (PD d) as
  | .int i, _, _, r, _ => by obtain ⟨t, rfl⟩ := r.inv; exact ⟨_, .int i t⟩
  | .str x, _, _, r, _ => by obtain ⟨t, rfl⟩ := r.inv; exact ⟨_, .str x t⟩
  | .tup ds, n, _, r, q => by
    obtain ⟨a, vs, rfl, _, ⟨o, ho, hc, k, hd⟩, hr⟩ := r.inv
    cases n with
    | zero => exact (show False from q).elim
    | succ n =>
      obtain ⟨as, ra⟩ := reads_all' ds hr (show okDs n ds from q)
      exact ⟨as, .tuple ho hc hd (by simpa using ra)⟩
  | .lst ds, n, _, r, q => by
    obtain ⟨a, vs, rfl, _, ⟨o, ho, hc, k, hd⟩, hr⟩ := r.inv
    cases n with
    | zero => exact (show False from q).elim
    | succ n =>
      obtain ⟨as, ra⟩ := reads_all' ds hr (show okDs n ds from q)
      exact ⟨_, .list ho hc hd (by simpa using ra)⟩
  | .val v, n, _, _, q => by cases n <;> exact (show False from q).elim
  | .bytes b, n, _, _, q => by cases n <;> exact (show False from q).elim
  | .dct _, n, _, _, q => by cases n <;> exact (show False from q).elim
  | .its _, n, _, _, q => by cases n <;> exact (show False from q).elim
  | .slc _, n, _, _, q => by cases n <;> exact (show False from q).elim
theorem reads_all' {P : Params} {h : Heap} {ex : List Addr} : ∀ (ds : List D) {n : Nat} {vs : List Value}, RepAll P h ex vs ds → okDs n ds → ∃ as, ReadsAll h vs (PDs ds) as
  | [], _, _, r, _ => by obtain rfl := r.inv; exact ⟨_, .nil⟩
  | d :: ds, n, _, r, q => by
    obtain ⟨_, _, rfl, a, r⟩ := r.inv
    obtain ⟨q1, q2⟩ := (show okD n d ∧ okDs n ds by cases n <;> exact q)
    obtain ⟨as, ra⟩ := reads_of' d a q1
    obtain ⟨bs, rb⟩ := reads_all' ds r q2
    exact ⟨_, .cons ra rb⟩
end
theorem reads_of {P : Params} {h : Heap} {ex : List Addr} {n : Nat} {v : Value} {d : D} (r : Rep P h ex v d) (q : okD n d) : ∃ as, Reads h v (PD d) as := reads_of' d r q
mutual
theorem lay_of' : ∀ (d : D) {n : Nat}, okD n d → (PD d).canLay0 = true ∧ (PD d).depth ≤ n
  | .int _, _, _ => ⟨rfl, Nat.zero_le _⟩
  | .str x, n, q => ⟨(show PyData.strOk x = true by cases n <;> exact q), Nat.zero_le _⟩
  | .tup ds, n, q => by
    cases n with
    | zero => exact (show False from q).elim
    | succ n =>
      obtain ⟨a, b⟩ := lay_all' ds (show okDs n ds from q)
      exact ⟨a, Nat.succ_le_succ b⟩
  | .lst ds, n, q => by
    cases n with
    | zero => exact (show False from q).elim
    | succ n =>
      obtain ⟨a, b⟩ := lay_all' ds (show okDs n ds from q)
      exact ⟨a, Nat.succ_le_succ b⟩
  | .val _, n, q => by cases n <;> exact (show False from q).elim
  | .bytes _, n, q => by cases n <;> exact (show False from q).elim
  | .dct _, n, q => by cases n <;> exact (show False from q).elim
  | .its _, n, q => by cases n <;> exact (show False from q).elim
  | .slc _, n, q => by cases n <;> exact (show False from q).elim
theorem lay_all' : ∀ (ds : List D) {n : Nat}, okDs n ds → PyData.canLayAll0 (PDs ds) = true ∧ PyData.depthAll (PDs ds) ≤ n
  | [], _, _ => ⟨rfl, Nat.zero_le _⟩
  | d :: ds, n, q => by
    obtain ⟨q1, q2⟩ := (show okD n d ∧ okDs n ds by cases n <;> exact q)
    obtain ⟨a, b⟩ := lay_of' d q1
    obtain ⟨c, e⟩ := lay_all' ds q2
    refine ⟨?_, Nat.max_le.mpr ⟨b, e⟩⟩
    show ((PD d).canLay0 && PyData.canLayAll0 (PDs ds)) = true
    rw [a, c]; rfl
end
theorem lay_of {n : Nat} {d : D} (q : okD n d) : (PD d).canLay0 = true ∧ (PD d).depth ≤ n := lay_of' d q
theorem shaped_of {n : Nat} {d : D} (h : okD n d) (hn : n ≤ 64) : PySem.SeqAt.shaped (PD d) = true := by
  obtain ⟨a, b⟩ := lay_of h
  unfold PySem.SeqAt.shaped
  simp only [a, Bool.true_and, decide_eq_true_eq]; lia

section
variable {C : Cx} {σ : St} {ow : List (Str × Addr)} {fx ex : List Addr} {s s' : Shared} {Ξ : XD → Prop} {Φ : D → Prop} {Ψ : Fl → St → Prop}

theorem room64 : C.A.units + 64 < cLine := by
  have := C.hu
  have h : cLine = 9900 := rfl
  lia
theorem pr_ne_data {a b : D} {n : Nat} (ha : okD n a) (hb : okD n b) (hn : n ≤ 64) (h : Φ (.bool (!PyData.eqv (PD a) (PD b)))) : PR C [a, b] (fun vs => compareOp .NotEq (vs.getD 0 .none) (vs.getD 1 .none)) Φ Ξ := pr_two fun ex s v1 v2 G r1 r2 => by
  obtain ⟨as, ra⟩ := reads_of r1 ha
  obtain ⟨bs, rb⟩ := reads_of r2 hb
  exact ne_dataH ra rb (shaped_of ha hn) (shaped_of hb hn) room64 (vq_val h)
theorem pr_eq_data {a b : D} {n : Nat} (ha : okD n a) (hb : okD n b) (hn : n ≤ 64) (h : Φ (.bool (PyData.eqv (PD a) (PD b)))) : PR C [a, b] (fun vs => compareOp .Eq (vs.getD 0 .none) (vs.getD 1 .none)) Φ Ξ := pr_two fun ex s v1 v2 G r1 r2 => by
  obtain ⟨as, ra⟩ := reads_of r1 ha
  obtain ⟨bs, rb⟩ := reads_of r2 hb
  exact eq_dataH ra rb (shaped_of ha hn) (shaped_of hb hn) room64 (vq_val h)
theorem pr_ne_same {a : D} {n : Nat} (ha : okD n a) (hn : n ≤ 64) (h : Φ (.bool false)) : PR C [a, a] (fun vs => compareOp .NotEq (vs.getD 0 .none) (vs.getD 1 .none)) Φ Ξ := pr_ne_data ha ha hn (by
  have e : PyData.eqv (PD a) (PD a) = true := PySem.SeqAt.eqv_refl _ (lay_of ha).1
  rw [e]; exact h)
theorem pr_ne_bytes_same {b : Array UInt8} (h : Φ (.bool false)) : PR C [.bytes b, .bytes b] (fun vs => compareOp .NotEq (vs.getD 0 .none) (vs.getD 1 .none)) Φ Ξ := pr_two fun ex s v1 v2 G r1 r2 => by
  (first | obtain ⟨_, rfl⟩ := r1.inv | obtain rfl := r1.inv | obtain ⟨_, rfl, _⟩ := r1.inv | obtain ⟨_, _, rfl, _⟩ := r1.inv); (first | obtain ⟨_, rfl⟩ := r2.inv | obtain rfl := r2.inv | obtain ⟨_, rfl, _⟩ := r2.inv | obtain ⟨_, _, rfl, _⟩ := r2.inv)
  refine ne_bytes ?_
  have e : (b.toList != b.toList) = false := by simp
  rw [e]; exact vq_val h

/-! statements -/
/-- try: return e, where e raises nothing -/
theorem ex_try_plain {e : Expr} {rp tp : Pos} {h₀ : ExceptHandler} {hs : List ExceptHandler} (h : EV C σ (eval e C.env) (fun d => Ψ (.ret d) σ) NoX) : EX C σ (exec (.Try [.Return (some e) rp] (h₀ :: hs) [] [] tp) C.env) Ψ Ξ := fun ow fx s I =>
  wpAny_Try_except (wpAny_execs_cons (wpAny_Return_some (h.run I (fun v s1 d h1 k1 r1 I1 => ⟨.ret d, σ, ow, h1, I1, k1.mod _, own_refl, r1⟩) fun _ _ hq => (xq_false hq).elim)))

theorem ev_global_bytes {x : Str} {pos : Pos} {b : Array UInt8} {t : Tok} {sc : Scope} (hsc : C.env.scope = sc) (hx : sc.names.lookup x = some .globalImplicit) (e : nsIn C.g.K mainGlobals x = some (some (.bytes b t))) (h : Φ (.bytes b))
    (hd : (x == ("__debug__" : Str)) = false := by decide) : EV C σ (eval (.Name x pos) C.env) Φ Ξ := fun ow fx s I => by
  refine Name_function_global C.kf (by unfold Env.kindOf; rw [hsc]; exact hx) (loadGlobal_global (mg := C.g.mg) (by rw [C.gl]; exact C.g.T.g.keeps I.base) (mg_of C.g.X C.g.T.g e) ⟨_, h, KP.refl _ _ _, .bytes _ _⟩) hd

/-! methods -/
theorem ev_join {o : Expr} {apos pos : Pos} {a : Expr} {x : Str} (h : EV C σ (eval o C.env) (fun d => d = .str x ∧ EVL C σ (spliced (backTo pos (starEach [a] C.env))) (fun ds => CL C (.builtin "str.join") (.str x :: ds) [] [] Φ Ξ) Ξ) Ξ)
    (hbase : attributeBase o "join" C.env (eval o C.env) = eval o C.env := by rfl)
    (hfew : ((backTo pos (starEach [a] C.env)).all (fun x => !x.1) && (backToKw pos (keywordEach [] C.env)).all (fun x => x.1.isSome)
      && decide (([a] : List Expr).length + ([] : List Keyword).length + (if ([] : List Keyword).isEmpty then 0 else 1) < 30)) = true := by rfl)
    (hline : (apos.endLine == pos.line) = true := by rfl) (he : starEach [a] C.env = (false, eval a C.env) :: starEach [] C.env := by rfl) : EV C σ (eval (.Call (.Attribute o "join" apos) [a] [] pos) C.env) Φ Ξ :=
  ev_method (ev_mono h (fun d ⟨e, q⟩ => by
    subst e
    exact ⟨(fun w e => nomatch e), (fun w e => nomatch e), (fun w e => nomatch e), (fun w e => nomatch e), (fun w e => nomatch e), "str.join", PySem.F.plainAttrs_str, PySem.F.slot_str_join, PySem.F.type_str_join, call_pos (first := [.str x]) keep_B q he⟩) fun _ h => h) hbase hfew hline
theorem ev_encode {o : Expr} {apos pos : Pos} {a : Expr} {x : Str} (h : EV C σ (eval o C.env) (fun d => d = .str x ∧ EVL C σ (spliced (backTo pos (starEach [a] C.env))) (fun ds => CL C (.builtin "str.encode") (.str x :: ds) [] [] Φ Ξ) Ξ) Ξ)
    (hbase : attributeBase o "encode" C.env (eval o C.env) = eval o C.env := by rfl)
    (hfew : ((backTo pos (starEach [a] C.env)).all (fun x => !x.1) && (backToKw pos (keywordEach [] C.env)).all (fun x => x.1.isSome)
      && decide (([a] : List Expr).length + ([] : List Keyword).length + (if ([] : List Keyword).isEmpty then 0 else 1) < 30)) = true := by rfl)
    (hline : (apos.endLine == pos.line) = true := by rfl) (he : starEach [a] C.env = (false, eval a C.env) :: starEach [] C.env := by rfl) : EV C σ (eval (.Call (.Attribute o "encode" apos) [a] [] pos) C.env) Φ Ξ :=
  ev_method (ev_mono h (fun d ⟨e, q⟩ => by
    subst e
    exact ⟨(fun w e => nomatch e), (fun w e => nomatch e), (fun w e => nomatch e), (fun w e => nomatch e), (fun w e => nomatch e), "str.encode", PySem.F.plainAttrs_str, PySem.F.slot_str_encode, PySem.F.type_str_encode, call_pos (first := [.str x]) keep_B q he⟩) fun _ h => h) hbase hfew hline
theorem ev_split {o : Expr} {apos pos : Pos} {a b : Expr} {x : Str} (h : EV C σ (eval o C.env) (fun d => d = .str x ∧ EVL C σ (spliced (backTo pos (starEach [a, b] C.env))) (fun ds => CL C (.builtin "str.split") (.str x :: ds) [] [] Φ Ξ) Ξ) Ξ)
    (hbase : attributeBase o "split" C.env (eval o C.env) = eval o C.env := by rfl)
    (hfew : ((backTo pos (starEach [a, b] C.env)).all (fun x => !x.1) && (backToKw pos (keywordEach [] C.env)).all (fun x => x.1.isSome)
      && decide (([a, b] : List Expr).length + ([] : List Keyword).length + (if ([] : List Keyword).isEmpty then 0 else 1) < 30)) = true := by rfl)
    (hline : (apos.endLine == pos.line) = true := by rfl) (he : starEach [a, b] C.env = (false, eval a C.env) :: starEach [b] C.env := by rfl) (hp : (backTo pos (starEach [b] C.env)).any (·.1) = false := by rfl) : EV C σ (eval (.Call (.Attribute o "split" apos) [a, b] [] pos) C.env) Φ Ξ :=
  ev_method (ev_mono h (fun d ⟨e, q⟩ => by
    subst e
    exact ⟨(fun w e => nomatch e), (fun w e => nomatch e), (fun w e => nomatch e), (fun w e => nomatch e), (fun w e => nomatch e), "str.split", PySem.F.plainAttrs_str, PySem.F.slot_str_split, PySem.F.type_str_split, call_pos (first := [.str x]) keep_B q he hp⟩) fun _ h => h) hbase hfew hline
theorem ev_items {o : Expr} {apos pos : Pos} {es : List (Str × Str)} (h : EV C σ (eval o C.env) (fun d => ∃ es, d = .dct es ∧ CL C (.builtin "dict.items") [.dct es] [] [] Φ Ξ) Ξ)
    (hbase : attributeBase o "items" C.env (eval o C.env) = eval o C.env := by rfl)
    (hfew : ((backTo pos (starEach [] C.env)).all (fun x => !x.1) && (backToKw pos (keywordEach [] C.env)).all (fun x => x.1.isSome)
      && decide (([] : List Expr).length + ([] : List Keyword).length + (if ([] : List Keyword).isEmpty then 0 else 1) < 30)) = true := by rfl)
    (hline : (apos.endLine == pos.line) = true := by rfl) : EV C σ (eval (.Call (.Attribute o "items" apos) [] [] pos) C.env) Φ Ξ :=
  ev_method (ev_mono h (fun d ⟨es, e, q⟩ => by
    subst e
    exact ⟨(fun w e => nomatch e), (fun w e => nomatch e), (fun w e => nomatch e), (fun w e => nomatch e), (fun w e => nomatch e), "dict.items", PySem.F.plainAttrs_dict, PySem.F.slot_dict_items, PySem.F.type_dict_items, call_nil keep_B q⟩) fun _ h => h) hbase hfew hline

/-! slices of bytes -/
open Builtin in
theorem meets_bslice (b : Array UInt8) (t : Tok) (a : Addr) {l u st : Value} {lo hi ste : Option Int} (hl : IsPart l lo) (hu : IsPart u hi) (hst : IsPart st ste) (h0 : ste ≠ some 0) :
    Meets («bytes.__getitem__» ⟨[.bytes b t, .ref a], []⟩) (fun _ R s => s.heap.IsSliceOf a l u st ∧ (Bytes.sliced b (sliceBounds lo hi ste b.size).1 (sliceBounds lo hi ste b.size).2.1 (sliceBounds lo hi ste b.size).2.2).size ≤ sizeLine ∧ ∀ t' k, R (.ok (.ret (.bytes (Bytes.sliced b (sliceBounds lo hi ste b.size).1 (sliceBounds lo hi ste b.size).2.1 (sliceBounds lo hi ste b.size).2.2) t'))) { s with toks := k }) := by
  refine .of_wp fun prog w A R s hS => ?_
  obtain ⟨⟨o, ho, hc, hd⟩, hsz, h⟩ := hS
  have hT : s.TypeIs (.ref a) "slice" := ⟨o, ho, hc⟩
  show wpAny _ _ (Bytes.payload (.bytes b t) >>= fun r => _) _ _ s
  refine wpAny_bind (wpAny_of_eq (a := b) rfl ?_)
  show wpAny _ _ (Bytes.subscript? (.ref a) >>= fun r => _) _ _ s
  refine wpAny_bind ?_
  unfold Bytes.subscript?
  refine wpAny_bind (wpAny_specialOf hT slice_no_index (wpAny_pure ?_))
  refine wpAny_bind (wpAny_typeOf hT ?_)
  show wpAny _ _ (Bytes.sliceParts (.ref a) >>= fun r => _) _ _ s
  refine wpAny_bind ?_
  have part : ∀ {v : Value} {p : Option Int} {Q : Value → Shared → Prop} {E : Value → Shared → Prop}, IsPart v p → Q (rawPart p) s → wpAny (model prog w) A.in1 (do
      if (v == .none) = true then return .none
      if (← specialOf v "__index__").isNone = true then
        rule "bytes.slice.part-no-index"; raiseErrorWords "TypeError" "slice indices must be integers or None or have an __index__ method"
      return rawInt (← asIndex v)) Q E s := by
    intro v p Q E hp hQ
    cases hp with
    | none => exact wpAny_pure hQ
    | int i t =>
      refine wpAny_ite (KBy.ite_no (show ¬ ((Value.int _ _ == Value.none) = true) from Bool.false_ne_true) ?_)
      refine wpAny_bind (wpAny_specialOf (T := "int") (typeIs_int _ _ _) PySem.F.slot_int_index.lookup ?_)
      refine wpAny_ite (KBy.ite_no (show ¬ (Option.isNone (some _) = true) from Bool.false_ne_true) ?_)
      exact wpAny_bind (wpAny_of_eq rfl (wpAny_pure hQ))
  unfold Bytes.sliceParts
  refine wpAny_bind (wpAny_field (x := st) ho hd rfl ?_)
  refine wpAny_bind (part hst ?_)
  have hz0 : ¬ ((rawPart ste == rawInt 0) = true) := by
    cases hst with
    | none => exact Bool.false_ne_true
    | int i t =>
      have : i ≠ 0 := fun q => h0 (by rw [q])
      show ¬ ((Value.int i 0 == Value.int 0 0) = true)
      intro q
      have := eq_of_beq q
      injection this with z
      lia
  refine wpAny_ite (KBy.ite_no hz0 ?_)
  refine wpAny_bind (wpAny_field (x := l) ho hd rfl ?_)
  refine wpAny_bind (part hl ?_)
  refine wpAny_bind (wpAny_field (x := u) ho hd rfl ?_)
  refine wpAny_bind (part hu (wpAny_pure ?_))
  refine wpAny_bind (wpAny_of_eq (sliceIndices_raw lo hi ste b.size h0) ?_)
  generalize hsb : sliceBounds lo hi ste b.size = sb at h hsz
  obtain ⟨start, stop, step⟩ := sb
  dsimp only at h hsz ⊢
  by_cases hw : (start == 0 && step == 1 && stop == (b.size : Int) && !b.isEmpty) = true
  · refine wpAny_ite ?_
    rw [if_pos hw]
    refine wpAny_bind (wpAny_typeOf (typeIs_bytes _ b t) ?_)
    refine wpAny_ite (KBc.ite_yes rfl ?_)
    refine wpAny_bind (wpAny_rule ?_)
    refine wpAny_pure ⟨_, rfl, ?_⟩
    simp only [Bool.and_eq_true, beq_iff_eq] at hw
    obtain ⟨⟨⟨rfl, rfl⟩, rfl⟩, _⟩ := hw
    have e : Bytes.sliced b 0 (b.size : Int) 1 = b := by
      show Bytes.sliced b ((0 : Nat) : Int) ((b.size : Nat) : Int) 1 = b
      unfold Bytes.sliced
      rw [sliceRange_one, pick_run]
      simp only [List.drop_zero, Nat.sub_zero]
      rw [List.take_of_length_le (by simp), Array.toArray_toList]
    have := h t s.toks
    rw [e] at this
    exact this
  · refine wpAny_ite ?_
    rw [if_neg hw]
    exact wpAny_bind (wpAny_mkBytes (wpAny_pure ⟨_, rfl, h _ _⟩) hsz)
theorem sliced_pick (l : List UInt8) (lo hi st : Option Int) : Builtin.Bytes.sliced l.toArray (sliceBounds lo hi st l.toArray.size).1 (sliceBounds lo hi st l.toArray.size).2.1 (sliceBounds lo hi st l.toArray.size).2.2 = (pickL l lo hi st).toArray := by
  unfold Builtin.Bytes.sliced pickL
  simp
theorem pr_slice_bytes {value slice : Expr} {l : List UInt8} {lo hi st : Option Int} (h0 : st ≠ some 0) (hz : (pickL l lo hi st).length ≤ sizeLine) (h : Φ (.bytes (pickL l lo hi st).toArray))
    (hs : ∀ o i, ∃ ops, subscripted slice false o i = operate ops (getItem o i) := by intro o i; exact ⟨_, rfl⟩) :
    PR C [.bytes l.toArray, .slc [partD lo, partD hi, partD st]] (fun vs => subscriptTail value slice (vs.getD 0 .none) (vs.getD 1 .none)) Φ Ξ := pr_tail (fun w e => nomatch e) FB.slot_bytes_getitem.lookup (pr_two fun ex s v1 v2 G r1 r2 => by
  (first | obtain ⟨_, rfl⟩ := r1.inv | obtain rfl := r1.inv | obtain ⟨_, rfl, _⟩ := r1.inv | obtain ⟨_, _, rfl, _⟩ := r1.inv)
  rename_i t
  obtain ⟨sl, rfl⟩ : ∃ sl, v2 = .ref sl := by (first | obtain ⟨_, rfl⟩ := r2.inv | obtain rfl := r2.inv | obtain ⟨_, rfl, _⟩ := r2.inv | obtain ⟨_, _, rfl, _⟩ := r2.inv); exact ⟨_, rfl⟩
  obtain ⟨vl, vu, vst, hsl, p1, p2, p3⟩ := isSlice3 r2
  refine getItem_meets (typeIs_bytes s l.toArray t) (by decide) FB.slot_bytes_getitem FB.entry_bytes_getitem (FB.args_bytes_getitem_2 _ _) (meets_bslice l.toArray t sl (isPart_of p1) (isPart_of p2) (isPart_of p3) h0) ⟨hsl, ?_, fun t' k => ?_⟩
  · rw [sliced_pick]; simpa using hz
  · rw [sliced_pick]; exact vq_bytes h) hs
end
end Mine

/-! Fw26 -/
namespace Mine
open PySem PySem.W PySem.Calls PyProof.Rows
section
variable {C : Cx} {σ : St} {ow : List (Str × Addr)} {fx ex : List Addr} {s s' : Shared} {Ξ : XD → Prop} {Φ : D → Prop} {Ψ : Fl → St → Prop}
theorem mod_pad {prog : Program} {w : World} {A : Around} {E : Value → Shared → Prop} {s : Shared} {t u : Tok} {n : Int} {Q : Value → Shared → Prop} (h0 : 0 ≤ n) (h1 : n < 10 ^ 10)
    (h : ∀ t' k, Q (.str (percentText n) t') { s with toks := k }) : wpAny (model prog w) A (binaryOp .Mod (.str (Str.ofString "Invalid base64-encoded string: number of data characters (%d) cannot be 1 more than a multiple of 4") t) (.int n u)) Q E s := by
  refine' KPc.mod_int ?kpcF ?kpcl ?kpch ?kpcm ?_
  case kpcF => kpc_eq
  case kpcl => exact h0
  case kpch => exact h1
  case kpcm => k_dflt kpc_run
  intro t' k
  have := h t' k
  unfold percentText at this
  exact this
theorem pr_mod_pad {n : Int} (h0 : 0 ≤ n) (h1 : n < 10 ^ 10) (h : Φ (.str (percentText n))) :
    PR C [.str (Str.ofString "Invalid base64-encoded string: number of data characters (%d) cannot be 1 more than a multiple of 4"), .int n] (fun vs => binaryOp .Mod (vs.getD 0 .none) (vs.getD 1 .none)) Φ Ξ := pr_two fun ex s v1 v2 G r1 r2 => by
  (first | obtain ⟨_, rfl⟩ := r1.inv | obtain rfl := r1.inv | obtain ⟨_, rfl, _⟩ := r1.inv | obtain ⟨_, _, rfl, _⟩ := r1.inv); (first | obtain ⟨_, rfl⟩ := r2.inv | obtain rfl := r2.inv | obtain ⟨_, rfl, _⟩ := r2.inv | obtain ⟨_, _, rfl, _⟩ := r2.inv)
  exact mod_pad h0 h1 fun t' k => vq_str h

/-! branching -/
theorem br {p : Prop} [Decidable p] {A B : Prop} (h1 : p → A) (h2 : ¬ p → B) : (decide p = true → A) ∧ (decide p = false → B) := ⟨fun h => h1 (of_decide_eq_true h), fun h => h2 (of_decide_eq_false h)⟩
theorem br_t {A B : Prop} (h : A) : (true = true → A) ∧ (true = false → B) := ⟨fun _ => h, fun h => nomatch h⟩
theorem br_f {A B : Prop} (h : B) : (false = true → A) ∧ (false = false → B) := ⟨(fun h => nomatch h), fun _ => h⟩
theorem chain_ex {t : Bool} {A B : Prop} (h1 : t = false → A) (h2 : t = true → B) : ∃ t', D.bool t = D.bool t' ∧ (t' = false → A) ∧ (t' = true → B) := ⟨t, rfl, h1, h2⟩

theorem not_interactive : interactive C.env = false := by
  unfold interactive
  rw [C.kf]; rfl
theorem kind_loc {x : Str} {sc : Scope} (hsc : C.env.scope = sc) (hx : sc.names.lookup x = some .local) : C.env.kindOf x = some .local := by unfold Env.kindOf; rw [hsc]; exact hx
end
end Mine

/-! Fw27 -/
namespace Mine
open PySem PySem.W PySem.Calls PyProof.Rows
theorem bb_type : bootBuiltins (Str.ofString "type") = some (.type "type") := by kernel_rfl
theorem bb_str : bootBuiltins (Str.ofString "str") = some (.type "str") := by kernel_rfl
theorem bb_bytes : bootBuiltins (Str.ofString "bytes") = some (.type "bytes") := by kernel_rfl
theorem bb_bool : bootBuiltins (Str.ofString "bool") = some (.type "bool") := by kernel_rfl
theorem bb_list : bootBuiltins (Str.ofString "list") = some (.type "list") := by kernel_rfl
theorem bb_range : bootBuiltins (Str.ofString "range") = some (.type "range") := by kernel_rfl
theorem bb_zip : bootBuiltins (Str.ofString "zip") = some (.type "zip") := by kernel_rfl
theorem bb_len : bootBuiltins (Str.ofString "len") = some (.builtin "len") := by kernel_rfl
theorem bb_chr : bootBuiltins (Str.ofString "chr") = some (.builtin "chr") := by kernel_rfl
theorem bb_sum : bootBuiltins (Str.ofString "sum") = some (.builtin "sum") := by kernel_rfl
theorem bb_isinstance : bootBuiltins (Str.ofString "isinstance") = some (.builtin "isinstance") := by kernel_rfl
section
variable {C : Cx} {σ : St} {Ξ : XD → Prop} {Φ : D → Prop} {Ψ : Fl → St → Prop} {F : Params → Frag}
theorem ev_globalK {x : Str} {pos : Pos} {v : Value} {sc : Scope} (hK : C.g.K = F C.g.w.params) (hsc : C.env.scope = sc) (hx : sc.names.lookup x = some .globalImplicit) (e : ∀ P, nsIn (F P) mainGlobals x = some (some v)) (h : Φ (.val v))
    (hd : (x == ("__debug__" : Str)) = false := by decide) : EV C σ (eval (.Name x pos) C.env) Φ Ξ := ev_global hsc hx (by rw [hK]; exact e _) h hd
theorem ev_builtinK {x : Str} {pos : Pos} {v : Value} {sc : Scope} (hK : C.g.K = F C.g.w.params) (hsc : C.env.scope = sc) (hx : sc.names.lookup x = some .globalImplicit) (e : ∀ P, nsIn (F P) mainGlobals x = some none) (hv : bootBuiltins x = some v) (h : Φ (.val v))
    (hn : x ≠ "__name__" := by decide) (hd : (x == ("__debug__" : Str)) = false := by decide) : EV C σ (eval (.Name x pos) C.env) Φ Ξ := ev_builtin hsc hx (by rw [hK]; exact e _) hv h hn hd
theorem ev_globytesK {x : Str} {pos : Pos} {b : Array UInt8} {t : Tok} {sc : Scope} (hK : C.g.K = F C.g.w.params) (hsc : C.env.scope = sc) (hx : sc.names.lookup x = some .globalImplicit) (e : ∀ P, nsIn (F P) mainGlobals x = some (some (.bytes b t))) (h : Φ (.bytes b))
    (hd : (x == ("__debug__" : Str)) = false := by decide) : EV C σ (eval (.Name x pos) C.env) Φ Ξ := ev_global_bytes hsc hx (by rw [hK]; exact e _) h hd
theorem keepK {f : Value} (hK : C.g.K = F C.g.w.params) (h : ∀ P, keepIn (F P) f = true) : KeepOk C f := keep_K (by rw [hK]; exact h _)
theorem sub_K {C' : Cx} {scope sc : Scope} (h : SubOf C scope sc C') (hK : C.g.K = F C.g.w.params) : C'.g.K = F C'.g.w.params := by rw [h.g]; exact hK

theorem cl_use {f : Value} {ds : List D} {ns : List Str} {ks : List D} {r : Nat} {Φ0 : D → Prop} {Ξ0 : XD → Prop} (h : FnOk C.g r f ds ns ks Φ0 Ξ0) (hr : r ≤ C.rk) (hΦ : ∀ d, Φ0 d → Φ d) (hΞ : ∀ x, Ξ0 x → Ξ x) : CL C f ds ns ks Φ Ξ := fun ex s vs kvs G rv rk =>
  wpAny_mono (cl_fn h hr ex s vs kvs G rv rk) (fun _ _ q => q.mono hΦ) fun _ _ ⟨x, a, b⟩ => ⟨x, hΞ x a, b⟩
theorem cl_eq {f : Value} {ds : List D} {ns : List Str} {ks : List D} {r : Nat} {v : D} (h : FnOk C.g r f ds ns ks (fun d => d = v) NoX) (hr : r ≤ C.rk) (hΦ : Φ v) : CL C f ds ns ks Φ Ξ := cl_use h hr (fun d e => e ▸ hΦ) fun _ h => h.elim
theorem ev_typeK {n : String} {pos : Pos} {sc : Scope} (hK : C.g.K = F C.g.w.params) (hsc : C.env.scope = sc) (hx : sc.names.lookup (Str.ofString n) = some .globalImplicit) (e : ∀ P, nsIn (F P) mainGlobals (Str.ofString n) = some none) (hv : bootBuiltins (Str.ofString n) = some (.type n)) (h : Φ (.val (.type n)))
    (hn : Str.ofString n ≠ "__name__" := by decide) (hd : (Str.ofString n == ("__debug__" : Str)) = false := by decide) : EV C σ (eval (.Name (Str.ofString n) pos) C.env) Φ Ξ := ev_builtinK hK hsc hx e hv h hn hd
theorem ev_funK {n : String} {pos : Pos} {sc : Scope} (hK : C.g.K = F C.g.w.params) (hsc : C.env.scope = sc) (hx : sc.names.lookup (Str.ofString n) = some .globalImplicit) (e : ∀ P, nsIn (F P) mainGlobals (Str.ofString n) = some none) (hv : bootBuiltins (Str.ofString n) = some (.builtin n)) (h : Φ (.val (.builtin n)))
    (hn : Str.ofString n ≠ "__name__" := by decide) (hd : (Str.ofString n == ("__debug__" : Str)) = false := by decide) : EV C σ (eval (.Name (Str.ofString n) pos) C.env) Φ Ξ := ev_builtinK hK hsc hx e hv h hn hd
theorem call_pos0 {f : Value} {pos : Pos} {e : Expr} {rest : List Expr} (hk : KeepOk C f) (h : EVL C σ (spliced (backTo pos (starEach (e :: rest) C.env))) (fun ds => CL C f ds [] [] Φ Ξ) Ξ)
    (he : starEach (e :: rest) C.env = (false, eval e C.env) :: starEach rest C.env := by rfl) (hp : (backTo pos (starEach rest C.env)).any (·.1) = false := by rfl) :
    CALL C σ [] (.val f) pos (e :: rest) [] Φ Ξ := call_pos (first := []) hk h he hp
theorem call_kw0 {f : Value} {pos : Pos} {e : Expr} {rest : List Expr} {kws : List Keyword} {ns : List Str} (hk : KeepOk C f)
    (h : EVL C σ (spliced (backTo pos (starEach (e :: rest) C.env))) (fun ds => EVL C σ (evalAll ((backToKw pos (keywordEach kws C.env)).map (·.2))) (fun ks => CL C f ds ns ks Φ Ξ) Ξ) Ξ)
    (he : starEach (e :: rest) C.env = (false, eval e C.env) :: starEach rest C.env := by rfl) (hp : (backTo pos (starEach rest C.env)).any (·.1) = false := by rfl)
    (hn : (backToKw pos (keywordEach kws C.env)).filterMap (·.1) = ns := by rfl) (ha : (backToKw pos (keywordEach kws C.env)).all (·.1.isSome) = true := by rfl) (hb : (backToKw pos (keywordEach kws C.env)).any (·.1.isNone) = false := by rfl) :
    CALL C σ [] (.val f) pos (e :: rest) kws Φ Ξ := call_kw (first := []) hk h he hp hn ha hb
end
end Mine

/-! Fw28 -/
namespace Mine
open PySem PySem.W PySem.Calls PyProof.Rows
noncomputable abbrev has (σ : St) (x : Str) (lv : LV) : Prop := List.lookup x σ = some lv
theorem br_pos {p : Prop} [Decidable p] {A B : Prop} (h : p) (hA : A) : (decide p = true → A) ∧ (decide p = false → B) := br (fun _ => hA) fun q => absurd h q
theorem br_neg {p : Prop} [Decidable p] {A B : Prop} (h : ¬ p) (hB : B) : (decide p = true → A) ∧ (decide p = false → B) := br (fun q => absurd q h) fun _ => hB
theorem chain_pos {p : Prop} [Decidable p] {A B : Prop} (h : p) (hB : B) : ∃ t', D.bool (decide p) = D.bool t' ∧ (t' = false → A) ∧ (t' = true → B) := ⟨decide p, rfl, fun q => absurd h (of_decide_eq_false q), fun _ => hB⟩
theorem chain_neg {p : Prop} [Decidable p] {A B : Prop} (h : ¬ p) (hA : A) : ∃ t', D.bool (decide p) = D.bool t' ∧ (t' = false → A) ∧ (t' = true → B) := ⟨decide p, rfl, fun _ => hA, fun q => absurd (of_decide_eq_true q) h⟩
section
variable {C : Cx} {σ : St} {Ξ : XD → Prop} {Φ : D → Prop} {Ψ : Fl → St → Prop}
theorem ex_append' {x : Str} {np ap cp pos : Pos} {e : Expr} {ds : List D} (hx : σ.lookup x = some (.own (.lst ds))) (hsz : ds.length ≤ sizeLine)
    (h : EV C σ (eval e C.env) (fun d => Ψ .next ((x, .own (.lst (ds ++ [d]))) :: σ)) Ξ)
    (hd : (x == ("__debug__" : Str)) = false := by decide +kernel) (hn : (x == ("__classdict__" : Str)) = false := by decide +kernel)
    (hbase : attributeBase (.Name x np) "append" C.env (eval (.Name x np) C.env) = eval (.Name x np) C.env := by rfl)
    (hfew : ((backTo cp (starEach [e] C.env)).all (fun x => !x.1) && (backToKw cp (keywordEach [] C.env)).all (fun x => x.1.isSome)
      && decide (([e] : List Expr).length + ([] : List Keyword).length + (if ([] : List Keyword).isEmpty then 0 else 1) < 30)) = true := by rfl)
    (hline : (ap.endLine == cp.line) = true := by rfl) (htrees : backTo cp (starEach [e] C.env) = [(false, eval e C.env)] := by rfl) :
    EX C σ (exec (.Expr (.Call (.Attribute (.Name x np) "append" ap) [e] [] cp) pos) C.env) Ψ Ξ := ex_append hx hsz h hd hn hbase hfew hline htrees not_interactive
theorem ex_raiseK {F : Params → Frag} {x : Str} {np cpos pos : Pos} {arg : Expr} {sc : Scope} (hK : C.g.K = F C.g.w.params) (hsc : C.env.scope = sc) (hx : sc.names.lookup x = some .globalImplicit) (e : ∀ P, nsIn (F P) mainGlobals x = some (some (.ref 46))) (herr : ErrAt 46 C.g.base)
    (h : EV C σ (eval arg C.env) (fun d => ∃ m, d = .str m ∧ Ξ ⟨.ref 46, some m⟩) Ξ) (hd : (x == ("__debug__" : Str)) = false := by decide +kernel)
    (ha : (backTo cpos (starEach [arg] C.env)) = [(false, eval arg C.env)] := by rfl) :
    EX C σ (exec (.Raise (some (.Call (.Name x np) [arg] [] cpos)) none pos) C.env) Ψ Ξ := ex_raise hsc hx (by rw [hK]; exact e _) herr h hd ha
theorem pr_mod_padS {n : Int} (h0 : 0 ≤ n) (h1 : n < 10 ^ 10) (h : Φ (.str (percentText n))) :
    PR C [.str (S (codes "Invalid base64-encoded string: number of data characters (%d) cannot be 1 more than a multiple of 4")), .int n] (fun vs => binaryOp .Mod (vs.getD 0 .none) (vs.getD 1 .none)) Φ Ξ := by
  rw [← ofString_S]; exact pr_mod_pad h0 h1 h
end
end Mine

/-! Fw29 -/
namespace Mine
open PySem PySem.W PySem.Calls PyProof.Rows
section
variable {C : Cx} {σ : St}
/-- a comprehension without tests: the i-th item gives f i -/
theorem comp_map {scope sc : Scope} {elt target : Expr} {Λ : List D → Prop} {items : List D} (f : Nat → D) (n : Nat) (hlen : items.length = n) (hz : n ≤ sizeLine)
    (h : ∀ i d C', SubOf C scope sc C' → items[i]? = some d → i < n → ASG C' (freeSt scope σ) target d (fun σ₂ => EV C' σ₂ (eval elt C'.env) (fun r => r = f i) NoX) NoX)
    (hΛ : Λ ((List.range n).map f)) : COMP C σ scope sc elt target [] Λ items := by
  subst hlen
  refine ⟨hz, fun i ys => ys = (List.range i).map f, rfl, ?_, ?_⟩
  · rintro i d ys C' hS hi rfl
    have hlt : i < items.length := (List.getElem?_eq_some_iff.mp hi).1
    intro ow fx s v I r
    refine wpAny_mono (h i d C' hS hi hlt ow fx s v I r) ?_ fun _ _ q => q
    rintro _ s' ⟨σ', h1, h2, h3⟩
    refine ⟨σ', tests_nil ⟨fun _ => ?_, fun h => nomatch h⟩, h2, h3⟩
    refine ev_mono h1 ?_ fun _ q => q
    rintro d rfl
    rw [List.range_succ, List.map_append]; rfl
  · rintro ys rfl; exact hΛ
theorem ex_comp {x : Str} {np : Pos} {elt target iter : Expr} {ifs : List Expr} {scope sc : Scope} {pos cpos : Pos} {Ψ : Fl → St → Prop} {Ξ : XD → Prop} (hsc : C.env.scope = sc)
    (h : EVI C σ target (eval iter C.env) (COMP C σ scope sc elt target ifs fun ys => Ψ .next ((x, .dat (.lst ys)) :: σ)) Ξ)
    (hx : sc.names.lookup x = some .local := by decide +kernel)
    (hl : (np.line == cpos.line) = true := by rfl) (hn : (scope.names.any fun (n, k) => n == x && (k == .local || k == .cell)) = false := by decide +kernel)
    (hk : scope.kind = .function := by rfl) (hnc : ∀ y ∈ scope.names, y.2 ≠ .cell := by decide +kernel) (hfree : ∀ y ∈ scope.names, y.2 = .free → sc.names.lookup y.1 = some .cell := by decide +kernel) (hnames : ∀ x ∈ scope.names, x.2 = .local → scope.names.lookup x.1 = some .local := by decide +kernel)
    (hs : ∀ x, foldedSetIterable iter C.env x = pure x := by intro _; rfl) :
    EX C σ (exec (.Assign [.Name x np] (.ListComp elt [⟨target, iter, ifs, 0⟩] scope cpos) pos) C.env) Ψ Ξ := by
  refine ex_assign_comp hsc hx h ?_ hk hnc hfree hnames hs
  have h1 : (C.env.blockKind == ScopeKind.function) = true := by
    unfold Env.blockKind; rw [C.kf]; rfl
  have h2 : (C.env.kindOf x == some .local) = true := by unfold Env.kindOf; rw [hsc, hx]; rfl
  have h3 : ((Expr.ListComp elt [⟨target, iter, ifs, 0⟩] scope cpos).pos.line) = cpos.line := rfl
  unfold swapsWith
  dsimp only
  rw [h1, h2, h3, hl, hn]
  rfl
noncomputable def JoinQ (J : St → Prop) (Ψ : Fl → St → Prop) : Fl → St → Prop
  | .next, σ => J σ
  | fl, σ => Ψ fl σ
theorem ex_mono {t : Sem Flow} {Ψ Ψ' : Fl → St → Prop} {Ξ : XD → Prop} (h : EX C σ t Ψ Ξ) (hi : ∀ fl σ', Ψ fl σ' → Ψ' fl σ') : EX C σ t Ψ' Ξ := fun ow fx s I =>
  wpAny_mono (h ow fx s I) (fun _ _ ⟨fl, σ', ow', a, r⟩ => ⟨fl, σ', ow', hi _ _ a, r⟩) fun _ _ q => q
/-- the paths of a statement meet -/
theorem ex_join {t : Sem Flow} {rest : List Stmt} {Ψ : Fl → St → Prop} {Ξ : XD → Prop} (J : St → Prop) (h : EX C σ t (JoinQ J Ψ) Ξ) (k : ∀ σ', J σ' → EX C σ' (execs rest C.env) Ψ Ξ) : EX C σ t (Then C rest Ψ Ξ) Ξ :=
  ex_mono h fun fl σ' q => by cases fl <;> first | exact k _ q | exact q
/-- two equal things that are a text or octets -/
theorem pr_ne_alike {a : D} {Φ : D → Prop} {Ξ : XD → Prop} (ha : okD 2 a ∨ ∃ b, a = .bytes b) (h : Φ (.bool false)) : PR C [a, a] (fun vs => compareOp .NotEq (vs.getD 0 .none) (vs.getD 1 .none)) Φ Ξ := by
  rcases ha with ha | ⟨b, rfl⟩
  · exact pr_ne_same ha (by decide) h
  · exact pr_ne_bytes_same h
end
end Mine

/-! Fw30 -/
namespace Mine
open PySem PySem.W PySem.Calls PyProof.Rows

theorem errAt_K {K : Frag} {h : Heap} (X : K.In h) {C N : Addr} {nm q bs hdct sn sub ab col dd k0 k1 k2 k3 k5}
    (ho : K.lookup C = some (excClassObj nm q C N bs bmVE hdct sn sub ab col dd k0 k1 k2 k3 k5 "ValueError.__new__")) (hok : nsOkIn K N = true) (h1 : nsIn K N "__init__" = some none) (h2 : nsIn K N "__str__" = some none) : ErrAt C h :=
  ⟨nm, q, N, bs, hdct, sn, sub, ab, col, dd, k0, k1, k2, k3, k5, _, X _ _ ho, .of_isNs (isNs_of_in X hok), nsMap_none_of_in X hok h1, nsMap_none_of_in X hok h2⟩

theorem ints_rep {P : Params} {h : Heap} {ex : List Addr} {ns : List Int} {vs : List Value} (hI : IntsAre vs ns) : RepAll P h ex vs (ns.map .int) := by
  induction hI with
  | nil => exact .nil
  | cons n t _ ih => exact .cons (.int _ _) ih

/-- the law's own frame -/
theorem run_law {prog : Program} {w : World} {K : Frag} {p : Program} {loose : List Str} {mg mb : Str → Option Value} {s₁ : Shared} (X : K.In s₁.heap) (T : TopRead p loose mg mb s₁.heap) {x0 name : Str} {scope : Scope} {body : List Stmt} {fa va : Addr} {cd : Value} {h₁ : Heap} {tk : Nat}
    {vs : List Value} {ns : List Int} (hL : s₁.heap.IsList va vs.toArray) (hI : IntsAre vs ns) {m : Str → Option Value} (F : Fr s₁.heap s₁.heap.objs.size h₁ m) (hm : m x0 = some (.ref va)) (hk : scope.kind = .function) (hx : scope.names.lookup x0 = some .local)
    (hnc : ∀ y ∈ scope.names, y.2 ≠ .cell) (r : Nat) (hr : r ≤ 40)
    (h : ∀ C : Cx, FnCx ⟨prog, w, s₁.heap, K, p, loose, mg, mb, X, T⟩ name scope r C → EX C [(x0, .dat (.lst (ns.map .int)))] (execs body C.env) (retQ fun d => d = .bool true) NoX)
    {Q : Flow → Shared → Prop} {E : Value → Shared → Prop} (hQ : ∀ h' tk', (∀ b o, s₁.heap.get? b = some o → h'.get? b = some o) → Q (.ret (.bool true)) { s₁ with heap := h', toks := tk' }) :
    wpAny (model prog w) (callerA.deeper (envOf name scope s₁.heap.objs.size fa cd)) (execs body (envOf name scope s₁.heap.objs.size fa cd)) Q E { s₁ with heap := h₁, toks := tk } := by
  have hlc : claimMargin = 300 := rfl
  let C : Cx := {
    g := ⟨prog, w, s₁.heap, K, p, loose, mg, mb, X, T⟩, A := callerA.deeper (envOf name scope s₁.heap.objs.size fa cd), env := envOf name scope s₁.heap.objs.size fa cd, fr := [envOf name scope s₁.heap.objs.size fa cd], sys := [s₁.heap.objs.size], rk := r, comp := false
    kf := hk
    gl := rfl
    bi := rfl
    hA := rfl
    hg := rfl
    hh := rfl
    hd := by show 1 + claimMargin + 1 + r ≤ 600; lia
    hu := by show 4 + 3 + 20 * r ≤ 900; lia
    locs := .head _
    cinj := fun _ => List.Pairwise.nil
    ckn := fun y hy => absurd rfl (hnc _ (mem_of_lookup hy))
    cloc := fun n c hm => nomatch hm
    csys := fun _ n c hm => nomatch hm
    hfr := fun _ => ⟨[], s₁.heap.objs.size, rfl, rfl⟩ }
  have hn0 : s₁.heap.get? s₁.heap.objs.size = none := Heap.get?_none_of_le (Nat.le_refl _)
  have hmex : ∀ b, b ∈ C.ex [] [] → b = s₁.heap.objs.size := fun b hb => by
    rcases mem_ex.mp hb with q | q | q
    · exact List.mem_singleton.mp q
    · nomatch q
    · nomatch q
  have I : Inv C [(x0, .dat (.lst (ns.map .int)))] [] [] { s₁ with heap := h₁, toks := tk } := by
    refine ⟨fun b o e => F.keep b o e, ((below_caller s₁.heap).push F hk).frames, fun b hb => ?_, fun b hb => ?_, List.nodup_nil, fun p hp => (nomatch hp), fun p hp => (nomatch hp), fun a ha => ⟨(fun q => nomatch q), ?_⟩, ⟨m, F.ns⟩, fun n c hc => (nomatch hc), fun y lv hy => ?_⟩
    · exact List.mem_append.mpr (.inl hb)
    · rw [hmex b hb]; obtain ⟨o, _, _, ho, _⟩ := F.ns; exact ⟨o, ho⟩
    · rw [List.mem_singleton.mp ha]; exact hn0
    · have hm2 := mem_of_lookup hy
      rw [List.mem_singleton] at hm2
      cases hm2
      refine ⟨.ref va, ?_, ?_⟩
      · unfold slotVal
        have hkk : C.env.kindOf x0 = some .local := hx
        rw [hkk]
        exact ⟨m, F.ns, hm⟩
      · obtain ⟨o, ho, rest⟩ := hL
        refine .lst (fun q => ?_) ⟨o, F.keep _ _ ho, rest⟩ (ints_rep hI)
        rw [hmex _ q, hn0] at ho; cases ho
  refine wpAny_mono (h C ⟨rfl, rfl, rfl, rfl⟩ [] [] _ I) (fun fl s' q => ?_) fun e s' q => (xq_false q).elim
  obtain ⟨fd, σ', ow', q1, q2, q3, q4, q5⟩ := q
  obtain ⟨h', tk', rfl⟩ := q3.sh
  have hkeep : ∀ b o, s₁.heap.get? b = some o → h'.get? b = some o := fun b o e => by
    have hne : b ≠ s₁.heap.objs.size := Nat.ne_of_lt (Heap.lt_size e)
    refine q3.ex b o (fun z => ?_) (fun z => ?_) (F.keep b o e)
    · rcases List.mem_append.mp z with z | z
      · exact hne (List.mem_singleton.mp z)
      · nomatch z
    · exact hne (List.mem_singleton.mp z)
  cases fl <;> cases fd <;> first | exact q5.elim | exact q1.elim | skip
  · exact absurd q1 (fun z => nomatch z)
  · rename_i v d
    have q1' : d = .bool true := q1
    subst q1'
    cases q5
    exact hQ h' tk' hkeep
/-- a def's body, wherever it is met -/
noncomputable def BodyAt (g : Gx) (f : Nat) (body : List Stmt) (scope : Scope) (qual : Str) : Prop :=
  ∃ oc od osl name params dV kV doc pm an cdv ct, g.K.lookup f = some ⟨oc, od, .func (fnOf name qual params body scope dV kV doc pm an cdv ct), osl⟩
theorem law_at {g : Gx} {r f : Nat} {oc : Value} {od : Option Addr} {osl : Array (Option Value)} {name qual : Str} {params : Arguments} {body : List Stmt} {scope : Scope} {dV kV doc pm cdv ct : Value} {an : Option Addr} {σ : St} {Ψ : Fl → St → Prop} {Ξ : XD → Prop}
    (e : g.K.lookup f = some ⟨oc, od, .func (fnOf name qual params body scope dV kV doc pm an cdv ct), osl⟩) (h : ∀ C, FnCx g qual scope r C → EX C σ (execs body C.env) Ψ Ξ)
    {body' : List Stmt} {scope' : Scope} {qual' : Str} (ho : BodyAt g f body' scope' qual') (C : Cx) (hC : FnCx g qual' scope' r C) : EX C σ (execs body' C.env) Ψ Ξ := by
  obtain ⟨oc, od, osl, name, params, dV, kV, doc, pm, an, cdv, ct, ho⟩ := ho
  rw [e] at ho
  injection ho with ho
  injection ho with _ _ h3 _
  injection h3 with h3
  unfold fnOf at h3
  injection h3 with _ _ _ hb
  injection hb with hb
  subst_vars
  exact h C hC
theorem comp_list {C : Cx} {σ : St} {scope sc : Scope} {elt target : Expr} {Λ : List D → Prop} {α : Type} (xs : List α) (ι φ : α → D) (hz : xs.length ≤ sizeLine)
    (h : ∀ x ∈ xs, ∀ C', SubOf C scope sc C' → ASG C' (freeSt scope σ) target (ι x) (fun σ₂ => EV C' σ₂ (eval elt C'.env) (fun r => r = φ x) NoX) NoX)
    (hΛ : Λ (xs.map φ)) : COMP C σ scope sc elt target [] Λ (xs.map ι) := by
  refine ⟨by rw [List.length_map]; exact hz, fun i ys => ys = (xs.take i).map φ, rfl, ?_, ?_⟩
  · rintro i d ys C' hS hi rfl
    rw [List.getElem?_map] at hi
    obtain ⟨x, hx, rfl⟩ := Option.map_eq_some_iff.mp hi
    intro ow fx s v I r
    refine wpAny_mono (h x (List.mem_of_getElem? hx) C' hS ow fx s v I r) ?_ fun _ _ q => q
    rintro _ s' ⟨σ', h1, h2, h3⟩
    refine ⟨σ', tests_nil ⟨fun _ => ?_, fun h => nomatch h⟩, h2, h3⟩
    refine ev_mono h1 ?_ fun _ q => q
    rintro d rfl
    rw [List.take_add_one, hx, List.map_append]; rfl
  · rintro ys rfl
    rw [List.length_map, List.take_length]; exact hΛ
end Mine

/-! Fw31 -/
namespace Mine
open PySem PySem.W PySem.Calls PyProof.Rows

/-! ## zip of two lists -/
section
variable {C : Cx} {σ : St} {ow : List (Str × Addr)} {fx ex : List Addr} {s s' : Shared} {Ξ : XD → Prop} {Φ : List D → Prop}
theorem mem_four {b z1 z2 z3 z4 : Addr} (h : b ∈ [z1, z2, z3, z4]) : b = z1 ∨ b = z2 ∨ b = z3 ∨ b = z4 := by simpa using h
theorem zip_apart {n l1 l2 : Nat} (a1 : l1 < n) (a2 : l2 < n) : ZipApart (n + 4) (n + 2) (n + 3) n (n + 1) l1 l2 := by
  constructor <;> (intro h; have h' : (_ : Nat) = _ := h; lia)
theorem cli_zip {elts : List Expr} {kk : Nat} {pos : Pos} {as bs : List D} (h : Φ ((as.zip bs).map fun p => .tup [p.1, p.2])) : CLI C (.Tuple elts kk pos) (.type "zip") [.lst as, .lst bs] Φ Ξ := fun ow fx s vs G r => by
  obtain ⟨_, _, rfl, r1, r2⟩ := r.inv2
  obtain ⟨l1, v1, rfl, ha1, hl1, hr1⟩ := r1.inv
  obtain ⟨l2, v2, rfl, ha2, hl2, hr2⟩ := r2.inv
  obtain ⟨o1, ho1, _⟩ := id hl1
  obtain ⟨o2, ho2, _⟩ := id hl2
  have hlt1 : l1 < s.heap.objs.size := Heap.lt_size ho1
  have hlt2 : l2 < s.heap.objs.size := Heap.lt_size ho2
  refine call_zip_2 hl1 hl2 fun h' hz hTI hTO hi1 hi2 hsz hk => ?_
  refine wpAny_pyIter_zip hz ?_
  generalize hn : s.heap.objs.size = n at *
  have hnone : ∀ b, n ≤ b → s.heap.get? b = none := fun b hb => Heap.get?_none_of_le (hn ▸ hb)
  have hlen : (as.zip bs).length = min v1.toArray.size v2.toArray.size := by rw [List.length_zip, List.size_toArray, List.size_toArray, hr1.length, hr2.length]
  have e0 : (as.zip bs).map (fun p => D.tup [p.1, p.2]) = ((as.zip bs).map fun p => [p.1, p.2]).map D.tup := by rw [List.map_map]; rfl
  rw [e0] at h
  have wr0 : ∀ b ∈ [n + 4, n + 3, n, n + 1], s.heap.get? b = none := fun b hb => hnone b (by rcases mem_four hb with rfl | rfl | rfl | rfl <;> first | exact Nat.le_refl _ | exact Nat.le_add_right _ _)
  have wr1 : ∀ b ∈ [n + 4, n + 3, n, n + 1], ∃ o, h'.get? b = some o := fun b hb => by
    rcases mem_four hb with rfl | rfl | rfl | rfl
    · exact ⟨_, hz⟩
    · exact ⟨_, hTO⟩
    · obtain ⟨o, ho, _⟩ := hi1; exact ⟨o, ho⟩
    · obtain ⟨o, ho, _⟩ := hi2; exact ⟨o, ho⟩
  have nex : ∀ b o, b ∉ C.ex ow fx → s.heap.get? b = some o → b ∉ C.ex ow ([n + 4, n + 3, n, n + 1] ++ fx) := fun b o hb e q => by
    rw [mem_ex] at hb q
    rcases q with q | q | q
    · exact hb (.inl q)
    · exact hb (.inr (.inl q))
    · rcases List.mem_append.mp q with q | q
      · rw [wr0 b q] at e; cases e
      · exact hb (.inr (.inr q))
  have hTIx : n + 2 ∉ C.ex ow ([n + 4, n + 3, n, n + 1] ++ fx) := fun q => by
    rw [mem_ex] at q
    rcases q with q | q | q
    · obtain ⟨o, e⟩ := G.al _ (mem_ex_sys (C := C) (ow := ow) (fx := fx) q); rw [hnone _ (Nat.le_add_right _ _)] at e; cases e
    · obtain ⟨o, e⟩ := G.al (n + 2) (mem_ex.mpr (.inr (.inl q))); rw [hnone _ (Nat.le_add_right _ _)] at e; cases e
    · rcases List.mem_append.mp q with q | q
      · rcases mem_four q with q | q | q | q <;> (have q' : (_ : Nat) = _ := q; lia)
      · obtain ⟨o, e⟩ := G.al (n + 2) (mem_ex.mpr (.inr (.inr q))); rw [hnone _ (Nat.le_add_right _ _)] at e; cases e
  have W := WalksT.zip2 (prog := C.g.prog) (w := C.g.w) (A := C.A) C.hh (n + 4) (n + 2) (n + 3) n (n + 1) l1 l2 (zip_apart hlt1 hlt2) v1.toArray v2.toArray
  refine ⟨n + 4, [n + 4, n + 3, n, n + 1], _, _, _, h, rfl, wr0, wr1, it_walksT W (.head _) _ (by rw [List.length_map]; exact hlen)
    (fun ex h => (l1 ∉ ex ∧ l2 ∉ ex ∧ n + 2 ∉ ex) ∧ (RepAll C.g.P h ex v1 as ∧ RepAll C.g.P h ex v2 bs) ∧ (∃ o, h.get? l1 = some o) ∧ (∃ o, h.get? l2 = some o) ∧ ∃ o, h.get? (n + 2) = some o) ?_ ?_ ?_ ?_ ?_,
    ⟨⟨⟨nex l1 o1 ha1 ho1, nex l2 o2 ha2 ho2, hTIx⟩, ⟨hr1.mono (fun b o _ e => hk b o e) nex, hr2.mono (fun b o _ e => hk b o e) nex⟩, ⟨o1, hk _ _ ho1⟩, ⟨o2, hk _ _ ho2⟩, ⟨_, hTI⟩⟩, ⟨hz, hTI, ⟨_, _, hTO⟩, hi1, hi2, hl1.at fun o e => hk l1 o e, hl2.at fun o e => hk l2 o e⟩⟩, KP.of_heap hk⟩
  · rintro ex ex' h h' ⟨⟨p1, p2, p3⟩, ⟨q1, q2⟩, ⟨x1, e1⟩, ⟨x2, e2⟩, ⟨x3, e3⟩⟩ hk he
    exact ⟨⟨he _ _ p1 e1, he _ _ p2 e2, he _ _ p3 e3⟩, ⟨q1.mono hk he, q2.mono hk he⟩, ⟨x1, hk _ _ p1 e1⟩, ⟨x2, hk _ _ p2 e2⟩, ⟨x3, hk _ _ p3 e3⟩⟩
  · rintro ex h ⟨⟨p1, p2, p3⟩, _⟩ b hb
    simp only [List.mem_cons, List.not_mem_nil, or_false] at hb
    rcases hb with rfl | rfl | rfl | rfl | rfl | rfl | rfl
    · exact .inl (by simp)
    · exact .inr p3
    · exact .inl (by simp)
    · exact .inl (by simp)
    · exact .inl (by simp)
    · exact .inr p1
    · exact .inr p2
  · rintro ex h i vals dd ⟨_, ⟨q1, q2⟩, _⟩ ⟨x, y, hx, hy, rfl⟩ hd
    obtain ⟨d1, hd1, t1⟩ := q1.get' (k := i) (v := x) (by simpa using hx)
    obtain ⟨d2, hd2, t2⟩ := q2.get' (k := i) (v := y) (by simpa using hy)
    rw [List.getElem?_map] at hd
    have : (as.zip bs)[i]? = some (d1, d2) := List.getElem?_zip_eq_some.mpr ⟨hd1, hd2⟩
    rw [this] at hd
    obtain rfl := (Option.some.inj hd).symm
    exact .cons t1 (.cons t2 .nil)
  · rintro i h ⟨h1, h2, ⟨_, _, h3⟩, h4, h5, _⟩ b hb
    rcases mem_four hb with rfl | rfl | rfl | rfl
    · exact ⟨_, h1⟩
    · exact ⟨_, h3⟩
    · obtain ⟨o, ho, _⟩ := h4; exact ⟨o, ho⟩
    · obtain ⟨o, ho, _⟩ := h5; exact ⟨o, ho⟩
  · rintro i T h ⟨h1, h2, ⟨_, _, h3⟩, h4, h5, _⟩ b hb
    rcases mem_four hb with rfl | rfl | rfl | rfl
    · exact ⟨_, h1⟩
    · exact ⟨_, h3⟩
    · obtain ⟨o, ho, _⟩ := h4; exact ⟨o, ho⟩
    · obtain ⟨o, ho, _⟩ := h5; exact ⟨o, ho⟩
end
end Mine

/-! Fw32 -/
namespace Mine
open PySem PySem.W PySem.Calls PyProof.Rows

/-! ## a static method of a built-in type -/
section
variable {C : Cx} {σ : St} {ow : List (Str × Addr)} {fx ex : List Addr} {s s' : Shared} {Ξ : XD → Prop} {Φ : D → Prop}
theorem getMethod_static {prog : Program} {w : World} {A : Around} {E : Value → Shared → Prop} {s : Shared} {T : String} {name : Str} {v : Value} {pl : Sem Bool} {Q : Value × List Value → Shared → Prop} {L : Addr} (hn : ∃ m, s.heap.Ns L m) (ht : typeOf (.type T) = pure (.type "type")) (hs : Manifest.isStub T = false)
    (e : findCls [] (.type T) (.type "type") name = some (.val v)) (hh : handedIn v = true) (h : Q (v, []) { s with toks := s.toks + 1 }) : wpAny (model prog w) A (getMethod (.type T) name pl) Q E s := by
  obtain ⟨m, hn⟩ := hn
  have F : Fr ⟨#[], s.heap.life⟩ L s.heap m := ⟨hn, fun b o q => by simp [Heap.get?] at q, Nat.zero_le _⟩
  exact method_type (K := []) F (fun a o q => nomatch q) ht hs e hh h
theorem ev_smethod {o : Expr} {name : Str} {apos pos : Pos} {args : List Expr} (h : EV C σ (eval o C.env) (fun d => ∃ T v, d = .val (.type T) ∧ typeOf (.type T) = pure (.type "type") ∧ Manifest.isStub T = false ∧ findCls [] (.type T) (.type "type") name = some (.val v) ∧ handedIn v = true ∧
      CALL C σ [] (.val v) pos args [] Φ Ξ) Ξ)
    (hbase : attributeBase o name C.env (eval o C.env) = eval o C.env := by rfl)
    (hfew : ((backTo pos (starEach args C.env)).all (fun x => !x.1) && (backToKw pos (keywordEach [] C.env)).all (fun x => x.1.isSome)
      && decide (args.length + ([] : List Keyword).length + (if ([] : List Keyword).isEmpty then 0 else 1) < 30)) = true := by rfl)
    (hline : (apos.endLine == pos.line) = true := by rfl) : EV C σ (eval (.Call (.Attribute o name apos) args [] pos) C.env) Φ Ξ := fun ow fx s I => by
  rw [arm_eval_Call, hbase]
  refine wpAny_bind (h.run I (fun v1 s1 d1 h1 k1 r1 I1 => ?_) fun _ _ e => e)
  obtain ⟨T, v, rfl, ht, hs, e, hh, hc⟩ := h1
  obtain rfl := r1.inv
  have hform : methodCallForm (args.length + ([] : List Keyword).length) (backTo pos (starEach args C.env)) (backToKw pos (keywordEach [] C.env)) = true := hfew
  have hpos : methodCallPos true o C.env apos pos = pure pos := by unfold methodCallPos; simp [hline]
  refine wpAny_bind (wpAny_standAt ?_)
  unfold methodCall
  rw [hform]
  have k2 : KP C.fr [] s { s1 with toks := s1.toks + 1 } := k1.trans (KP.toks _ _ _ _)
  refine wpAny_bind (wpAny_holding (getMethod_static I1.ns ht hs e hh ?_))
  exact wpAny_bind (wpAny_of_eq hpos (wpAny_mono (hc ow fx _ _ [] (I1.kp (KP.toks _ _ _ _)) (.val _) .nil) (fun _ _ q => q.pre k2) fun _ _ e => e.pre k2))

theorem bytes_static : typeOf (.type "bytes") = pure (.type "type") ∧ Manifest.isStub "bytes" = false ∧ findCls [] (.type "bytes") (.type "type") "maketrans" = some (.val (.builtin "bytes.maketrans")) ∧ handedIn (.builtin "bytes.maketrans") = true :=
  ⟨by kernel_rfl, by decide +kernel, by kernel_rfl, by decide +kernel⟩

/-! ## maketrans, translate -/
noncomputable def mtab (f t : List UInt8) : Array UInt8 := (f.zip t).foldl (fun t p => t.setIfInBounds p.1.toNat p.2) ((Array.range 256).map (·.toUInt8))
theorem mtab_size (f t : List UInt8) : (mtab f t).size = 256 := by
  unfold mtab
  have : ∀ (l : List (UInt8 × UInt8)) (a : Array UInt8), a.size = 256 → (l.foldl (fun t p => t.setIfInBounds p.1.toNat p.2) a).size = 256 := by
    intro l
    induction l with
    | nil => intro a h; exact h
    | cons p l ih => intro a h; exact ih _ (by rw [Array.size_setIfInBounds]; exact h)
  exact this _ _ (by simp)
theorem tlb : typeLookup (.type "bytes") "__buffer__" = pure (some (.builtin "bytes.__buffer__")) := by rw [typeLookup_type, builtinLookup_eq_fast]; kernel_rfl
theorem tlr1 : typeLookup (.type "bytes") "__release_buffer__" = pure none := by rw [typeLookup_type, builtinLookup_eq_fast]; kernel_rfl
theorem ew1 : ("bytes.__buffer__" : String).endsWith ("." ++ "__buffer__") = true := by decide +kernel
theorem dr1 : ("bytes.__buffer__" : String).dropRight (("__buffer__" : String).length + 1) = "bytes" := by decide +kernel
theorem sbb : isSubtype (.type "bytes") (.type "bytes") = pure true := by rw [isSubtype_type]; kernel_rfl
open Builtin Builtin.Bytes in
theorem bytesLike_bytes {M : Model} {A : Around} {E : Value → Shared → Prop} {s : Shared} {id : String} {b : Array UInt8} {t : Tok} {Q : Array UInt8 → Shared → Prop} (h : Q b s) : wpAny M A (bytesLike id (.bytes b t)) Q E s := by
  have ty : typeOf (.bytes b t) = pure (.type "bytes") := rfl
  have own : ∀ (Q : Bool → Shared → Prop), Q true s → wpAny M A (Builtin.Bytes.slotIsOwn (.bytes b t) "__buffer__") Q E s := fun Q hq => by
    unfold Builtin.Bytes.slotIsOwn
    refine wpAny_bind (wpAny_specialOf_val ty tlb ?_)
    dsimp only
    rw [ew1, dr1]
    exact wpAny_isInstance_val ty sbb hq
  have rel : ∀ (Q : Bool → Shared → Prop), Q false s → wpAny M A (Builtin.Bytes.ownRelease (.bytes b t)) Q E s := fun Q hq => by
    unfold Builtin.Bytes.ownRelease Builtin.Bytes.slotIsOwn
    refine wpAny_bind (wpAny_bind (wpAny_specialOf_val ty tlr1 ?_))
    exact wpAny_pure (wpAny_pure hq)
  unfold bytesLike buffer?
  refine wpAny_bind (wpAny_bind (wpAny_specialOf_val ty tlb ?_))
  dsimp only
  refine wpAny_bind (own _ ?_)
  rw [if_neg (by decide)]
  refine wpAny_bind (wpAny_specialOf_val ty tlb ?_)
  refine wpAny_bind (rel _ ?_)
  rw [if_neg (by decide)]
  exact wpAny_bind (wpAny_of_eq (a := b) rfl (wpAny_pure (wpAny_pure h)))
theorem check_maketrans (a b : Value) : checkBuiltinCall "bytes.maketrans" ⟨[a, b], []⟩ = pure () := by kernel_rfl
theorem entry_maketrans : entryFor table "bytes.maketrans" = some Builtin.«bytes.maketrans» := entryFor_of_tree (by kernel_rfl)
open Builtin Builtin.Bytes in
theorem call_maketrans {prog : Program} {w : World} {A : Around} {E : Value → Shared → Prop} {s : Shared} {f t : Array UInt8} {a b : Tok} {Q : Value → Shared → Prop} (hz : f.size = t.size)
    (h : ∀ u k, Q (.bytes (mtab f.toList t.toList) u) { s with toks := k }) : wpAny (model prog w) A (call (.builtin "bytes.maketrans") [.bytes f a, .bytes t b]) Q E s := by
  refine wpAny_call (codeAny_call_builtin (by decide +kernel) entry_maketrans ?_)
  rw [check_maketrans]
  refine wpAny_pure ?_
  show wpAny _ _ (maketransM .bytes ⟨[.bytes f a, .bytes t b], []⟩) _ _ s
  unfold maketransM
  refine wpAny_bind (wpAny_of_eq (a := ()) rfl ?_)
  refine wpAny_bind (wpAny_of_eq (a := ()) rfl ?_)
  refine wpAny_bind (bytesLike_bytes ?_)
  refine wpAny_bind (bytesLike_bytes ?_)
  rw [if_neg (by simp [hz])]
  refine wpAny_bind (wpAny_mkBytes (wpAny_pure ?_) ?_)
  · exact h _ _
  · show (mtab f.toList t.toList).size ≤ sizeLine
    rw [mtab_size]; exact Nat.le_trans (by decide : 256 ≤ 1000) (by decide)
theorem cl_maketrans {f t : List UInt8} (hz : f.length = t.length) (h : Φ (.bytes (mtab f t))) : CL C (.builtin "bytes.maketrans") [.bytes f.toArray, .bytes t.toArray] [] [] Φ Ξ := cl_two fun ex s v w G r1 r2 => by
  obtain ⟨_, rfl⟩ := r1.inv
  obtain ⟨_, rfl⟩ := r2.inv
  exact call_maketrans (by simpa using hz) fun u k => vq_bytes h

theorem slot_translate : Slot "bytes" "translate" "bytes.translate" :=
  .of (owner := "bytes") (n := "translate") (by rw [typeLookup_type, builtinLookup_eq_fast]; kernel_rfl) (by decide +kernel) (by decide +kernel) (by decide +kernel)
    (by first | exact .inl (by decide +kernel) | exact .inr (by decide +kernel)) (by rw [isSubtype_type]; kernel_rfl)
theorem type_translate : typeOf (.builtin "bytes.translate") = pure (.type "method_descriptor") := by show builtinType _ = _; rw [builtinType_eq_fast]; kernel_rfl
theorem entry_translate : entryFor table "bytes.translate" = some Builtin.«bytes.translate» := entryFor_of_tree (by kernel_rfl)
theorem args_translate (a b : Value) : argsOk "bytes.translate" ⟨[a, b], []⟩ := by
  unfold argsOk; rw [signature?_of (id := "bytes.translate") (n := "translate".toList.reverse) (o := "bytes".toList.reverse) (by kernel_rfl) FB.owner_bytes]; kernel_rfl
noncomputable def trans (t : Array UInt8) (l : List UInt8) : List UInt8 := l.map fun c => t.getD c.toNat c
open Builtin Builtin.Bytes in
theorem call_translate {prog : Program} {w : World} {A : Around} {E : Value → Shared → Prop} {s : Shared} {b t : Array UInt8} {a u : Tok} {Q : Value → Shared → Prop} (ht : t.size = 256) (hz : b.size ≤ sizeLine)
    (h : ∀ x k, Q (.bytes (trans t b.toList).toArray x) { s with toks := k }) : wpAny (model prog w) A (call (.builtin "bytes.translate") [.bytes b a, .bytes t u]) Q E s := by
  refine wpAny_call_entry slot_translate (show s.TypeIs (.bytes b a) "bytes" from rfl) entry_translate ?_ (args_translate _ _)
  show wpAny _ _ (translateM .bytes ⟨[.bytes b a, .bytes t u], []⟩) _ _ s
  unfold translateM
  refine wpAny_ite (KBy.ite_no (show ¬ (1 + 0 > 2) by decide) ?_)
  refine wpAny_ite (KBy.ite_no Bool.false_ne_true ?_)
  refine wpAny_ite (KBy.ite_no (show ¬ ((Value.bytes t u == Value.none) = true) from Bool.false_ne_true) ?_)
  refine wpAny_bind (bytesLike_bytes ?_)
  refine wpAny_ite (KBy.ite_no (by simp [ht]) ?_)
  refine wpAny_bind (wpAny_pure ?_)
  refine wpAny_bind (wpAny_pure ?_)
  refine wpAny_bind (wpAny_of_eq (a := b) rfl ?_)
  have hout : (Array.map (fun c => t.getD c.toNat c) (Array.filter (fun x => !(#[] : Array UInt8).contains x) b)) = (trans t b.toList).toArray := by
    have e : Array.filter (fun x => !(#[] : Array UInt8).contains x) b = b := by simp
    rw [e]; unfold trans
    rw [← Array.toList_map]
  dsimp only
  rw [hout]
  split
  · rename_i hq
    have hq' : (trans t b.toList).toArray = b := by simpa using hq
    refine wpAny_bind (wpAny_rule (wpAny_bind (wpAny_of_eq (a := .bytes b a) rfl (wpAny_pure ⟨_, rfl, ?_⟩))))
    have := h a s.toks
    rw [hq'] at this; exact this
  · refine wpAny_bind (wpAny_mkBytes (wpAny_pure ⟨_, rfl, h _ _⟩) ?_)
    unfold trans
    simpa using hz
theorem cl_translate {l : List UInt8} {t : Array UInt8} (ht : t.size = 256) (hz : l.length ≤ sizeLine) (h : Φ (.bytes (trans t l).toArray)) : CL C (.builtin "bytes.translate") [.bytes l.toArray, .bytes t] [] [] Φ Ξ := cl_two fun ex s v w G r1 r2 => by
  obtain ⟨_, rfl⟩ := r1.inv
  obtain ⟨_, rfl⟩ := r2.inv
  exact call_translate ht (by simpa using hz) fun u k => vq_bytes h
theorem ev_translate {o : Expr} {apos pos : Pos} {a : Expr} (h : EV C σ (eval o C.env) (fun d => ∃ x, d = .bytes x ∧ EVL C σ (spliced (backTo pos (starEach [a] C.env))) (fun ds => CL C (.builtin "bytes.translate") (.bytes x :: ds) [] [] Φ Ξ) Ξ) Ξ)
    (hbase : attributeBase o "translate" C.env (eval o C.env) = eval o C.env := by rfl)
    (hfew : ((backTo pos (starEach [a] C.env)).all (fun x => !x.1) && (backToKw pos (keywordEach [] C.env)).all (fun x => x.1.isSome)
      && decide (([a] : List Expr).length + ([] : List Keyword).length + (if ([] : List Keyword).isEmpty then 0 else 1) < 30)) = true := by rfl)
    (hline : (apos.endLine == pos.line) = true := by rfl) (he : starEach [a] C.env = (false, eval a C.env) :: starEach [] C.env := by rfl) : EV C σ (eval (.Call (.Attribute o "translate" apos) [a] [] pos) C.env) Φ Ξ :=
  ev_method (ev_mono h (fun d ⟨x, e, q⟩ => by
    subst e
    exact ⟨(fun w e => nomatch e), (fun w e => nomatch e), (fun w e => nomatch e), (fun w e => nomatch e), (fun w e => nomatch e), "bytes.translate", FB.plainAttrs_bytes, slot_translate, type_translate, call_pos (first := [.bytes x]) keep_B q he⟩) fun _ h => h) hbase hfew hline
end
end Mine

/-! Fw33 -/
namespace Mine
open PySem PySem.W PySem.Calls PyProof.Rows

section
variable {C : Cx} {σ : St} {ow : List (Str × Addr)} {fx ex : List Addr} {s s' : Shared} {Ξ : XD → Prop} {Φ : D → Prop} {Ψ : Fl → St → Prop}
theorem cl_isinstance_bytes {b : Array UInt8} {c : Value} {t : Bool} (e : kitOne [] (.type "bytes") c = some t) (h : Φ (.bool t)) : CL C (.builtin "isinstance") [.bytes b, .val c] [] [] Φ Ξ := cl_two fun ex s v w G r1 r2 => by
  obtain ⟨_, rfl⟩ := r1.inv
  obtain rfl := r2.inv
  exact kia_one kitx_bytes (K := []) (fun a o q => nomatch q) trivial e (fun q => nomatch q) fun tk => ⟨_, h, KP.toks _ _ _ _, .val _⟩
theorem cl_isinstance_bytes_tup {b : Array UInt8} {t : Bool} {tp : Addr} {dd : Option Addr} {its : List Value} {n : Nat} {sl : Array (Option Value)} (ho : C.g.K.lookup tp = some ⟨.type "tuple", dd, .seq its.toArray n, sl⟩) (e : kitAny [] (.type "bytes") its = some t) (h : Φ (.bool t)) :
    CL C (.builtin "isinstance") [.bytes b, .val (.ref tp)] [] [] Φ Ξ := cl_two fun ex s v w G r1 r2 => by
  obtain ⟨_, rfl⟩ := r1.inv
  obtain rfl := r2.inv
  exact kia_tup kitx_bytes (K := []) (fun a o q => nomatch q) trivial (G.base _ _ (C.g.X _ _ ho)) e (fun q => nomatch q) fun tk => ⟨_, h, KP.toks _ _ _ _, .val _⟩
theorem isi_str : kitOne [] (.type "bytes") (.type "str") = some false := by kernel_rfl
theorem isi_pair : kitAny [] (.type "bytes") [.type "bytes", .type "bytearray"] = some true := by kernel_rfl
end
end Mine

/-! Fw34 -/
namespace Mine
open PySem PySem.W PySem.Calls PyProof.Rows

section
variable {C : Cx} {σ : St} {ow : List (Str × Addr)} {fx ex : List Addr} {s s' : Shared} {Ξ : XD → Prop} {Φ : D → Prop} {Ψ : Fl → St → Prop}
/-! not in, over data -/
theorem pr_notIn_data {a : D} {ds : List D} {n : Nat} (ha : okD n a) (hs : okDs n ds) (hn : n < 64) (h : Φ (.bool (!(PDs ds).any fun y => PyData.eqv y (PD a)))) : PR C [a, .lst ds] (fun vs => compareOp .NotIn (vs.getD 0 .none) (vs.getD 1 .none)) Φ Ξ := pr_two fun ex s v1 v2 G r1 r2 => by
  obtain ⟨as, ra⟩ := reads_of r1 ha
  obtain ⟨bs, rb⟩ := reads_of (n := n + 1) r2 hs
  have la := lay_of ha
  have lb := lay_all' ds hs
  have hu := room64 (C := C)
  refine PySem.SeqAt.notIn_list_reads rb ra lb.1 la.1 ?_ (vq_val h)
  lia
/-! two lists of ints -/
theorem eqvAll_ints : ∀ a b : List Int, PyData.eqvAll (PDs (a.map .int)) (PDs (b.map .int)) = decide (a = b)
  | [], [] => by simp [PDs, PyData.eqvAll]
  | [], b :: bs => by simp [PDs, PyData.eqvAll]
  | a :: as, [] => by simp [PDs, PyData.eqvAll]
  | a :: as, b :: bs => by
    rw [List.map_cons, List.map_cons, PDs, PDs, PyData.eqvAll, eqvAll_ints as bs, PD, PD]
    show ((a == b) && decide (as = bs)) = _
    by_cases h : a = b <;> simp [h]
theorem eqv_ints (a b : List Int) : PyData.eqv (PD (.lst (a.map .int))) (PD (.lst (b.map .int))) = decide (a = b) := eqvAll_ints a b
theorem okDs_ints (n : Nat) : ∀ a : List Int, okDs n (a.map .int)
  | [] => by cases n <;> exact trivial
  | i :: a => by
    have := okDs_ints n a
    cases n <;> exact ⟨trivial, this⟩
theorem okD_ints (n : Nat) (a : List Int) : okD (n + 1) (.lst (a.map .int)) := okDs_ints n a
theorem pr_eq_ints {a b : List Int} (h : Φ (.bool (decide (a = b)))) : PR C [.lst (a.map .int), .lst (b.map .int)] (fun vs => compareOp .Eq (vs.getD 0 .none) (vs.getD 1 .none)) Φ Ξ :=
  pr_eq_data (n := 1) (okD_ints 0 a) (okD_ints 0 b) (by decide) (by rw [eqv_ints]; exact h)
theorem pr_notIn_lists {k : List Int} {ls : List (List Int)} (h : Φ (.bool (decide (k ∉ ls)))) : PR C [.lst (k.map .int), .lst (ls.map fun l => .lst (l.map .int))] (fun vs => compareOp .NotIn (vs.getD 0 .none) (vs.getD 1 .none)) Φ Ξ := by
  have hs : ∀ ls : List (List Int), okDs 1 (ls.map fun l => D.lst (l.map .int)) := fun ls => by
    induction ls with
    | nil => exact trivial
    | cons l ls ih => exact ⟨okD_ints 0 l, ih⟩
  have he : ∀ ls : List (List Int), ((PDs (ls.map fun l => D.lst (l.map .int))).any fun y => PyData.eqv y (PD (.lst (k.map .int)))) = decide (k ∈ ls) := fun ls => by
    induction ls with
    | nil => rfl
    | cons l ls ih =>
      rw [List.map_cons, PDs, List.any_cons, ih, eqv_ints]
      by_cases q : l = k
      · subst q; simp
      · have q' : ¬ k = l := fun e => q e.symm
        simp [q, q']
  refine pr_notIn_data (n := 1) (okD_ints 0 k) (hs ls) (by decide) ?_
  rw [he]
  have : (!decide (k ∈ ls)) = decide (k ∉ ls) := by simp
  rw [this]; exact h
end
end Mine

/-! Fw35 -/
namespace Mine
open PySem PySem.W PySem.Calls PyProof.Rows
section
variable {C : Cx} {σ : St} {Ξ : XD → Prop} {Ψ : Fl → St → Prop}
/-- a comprehension bound to a name that inner blocks see -/
theorem ex_comp_cell {x : Str} {np : Pos} {elt target iter : Expr} {ifs : List Expr} {scope sc : Scope} {pos cpos : Pos} (hsc : C.env.scope = sc) (hc : C.comp = false)
    (h : EVI C σ target (eval iter C.env) (COMP C σ scope sc elt target ifs fun ys => Ψ .next ((x, .dat (.lst ys)) :: σ)) Ξ)
    (hx : sc.names.lookup x = some .cell := by decide +kernel)
    (hk : scope.kind = .function := by rfl) (hnc : ∀ y ∈ scope.names, y.2 ≠ .cell := by decide +kernel) (hfree : ∀ y ∈ scope.names, y.2 = .free → sc.names.lookup y.1 = some .cell := by decide +kernel) (hnames : ∀ x ∈ scope.names, x.2 = .local → scope.names.lookup x.1 = some .local := by decide +kernel)
    (hs : ∀ x, foldedSetIterable iter C.env x = pure x := by intro _; rfl) :
    EX C σ (exec (.Assign [.Name x np] (.ListComp elt [⟨target, iter, ifs, 0⟩] scope cpos) pos) C.env) Ψ Ξ := by
  refine ex_assign (st_cell hsc hc hx) (ev_comp hsc h hk hnc hfree hnames hs) ?_
  have h2 : (C.env.kindOf x == some .local) = false := by unfold Env.kindOf; rw [hsc, hx]; rfl
  unfold swapsWith
  dsimp only
  rw [h2, Bool.and_false, Bool.false_and, Bool.false_and]
end
end Mine

/-! Fw36 -/
namespace Mine
open PySem PySem.W PySem.Calls PyProof.Rows

/-! ## zip of two sources -/
section
variable {prog : Program} {w : World} {A : Around}

/-- an iterator at i, over the objects ad, whose items are known -/
structure Src (prog : Program) (w : World) (i : Addr) (ad : List Addr) (xs : Array Value) (S : Nat → Heap → Prop) : Prop where
  hold : ∀ k h h', S k h → (∀ b ∈ ad, ∀ o, h.get? b = some o → h'.get? b = some o) → S k h'
  item : ∀ (A : Around) k (s : Shared) x (Q : Value → Shared → Prop) (E : Value → Shared → Prop), A.handled = none → S k s.heap → xs[k]? = some x →
    (∀ h', S (k + 1) h' → Heap.SameBut i s.heap h' → Q x { s with heap := h' }) → wpAny (model prog w) A (Builtin.SmallTypes.nextOf (.ref i)) Q E s
  out : ∀ (A : Around) k (s : Shared) (Q : Value → Shared → Prop) (E : Value → Shared → Prop), A.handled = none → S k s.heap → xs[k]? = none →
    (∀ h' e, Heap.ExtBut i s.heap h' → (∃ o, h'.get? e = some o ∧ o.cls = .type "StopIteration") → E (.ref e) { s with heap := h' }) → wpAny (model prog w) A (Builtin.SmallTypes.nextOf (.ref i)) Q E s

/-- the next of a tuple's iterator -/
theorem next_tup {it t : Addr} {k : Nat} {xs : Array Value} {s : Shared} {Q : Value → Shared → Prop} {E : Value → Shared → Prop} (hh : A.handled = none) (hi : s.heap.IsTupleIter it t k) (ht : s.heap.IsTuple t xs)
    (hQ : ∀ x, xs[k]? = some x → ∀ h', h'.IsTupleIter it t (k + 1) → Heap.SameBut it s.heap h' → Q x { s with heap := h' })
    (hE : xs[k]? = none → ∀ h' e, Heap.ExtBut it s.heap h' → (∃ o, h'.get? e = some o ∧ o.cls = .type "StopIteration") → E (.ref e) { s with heap := h' }) :
    wpAny (model prog w) A (Builtin.SmallTypes.nextOf (.ref it)) Q E s := by
  have ty := hi.typeIs
  obtain ⟨oi, gi, ci, di⟩ := hi
  obtain ⟨ot, gt, _, nt, dt⟩ := ht
  have body : ∀ {R : Option Value → Shared → Prop}, (∀ x, xs[k]? = some x → ∀ h', h'.IsTupleIter it t (k + 1) → Heap.SameBut it s.heap h' → R (some x) { s with heap := h' }) →
      wpAny (model prog w) A (callSpecial? (.ref it) "__next__") R E s := fun {R} hF => by
    refine wpAny_callSpecial?_slot (name := Str.ofString "__next__") ty F.slot_tuple_iterator_next (wpAny_call_entry F.slot_tuple_iterator_next ty F.entry_tuple_iterator_next ?_ (F.args_tuple_iterator_next_1 _))
    show wpAny _ _ (field (.ref it) 0 >>= _) _ _ s
    refine wpAny_bind (wpAny_field gi di (x := .ref t) rfl ?_)
    show wpAny _ _ (if (Value.ref t == Value.none) = true then _ else _) _ _ s
    rw [if_neg (show ¬ ((Value.ref t == Value.none) = true) from Bool.false_ne_true)]
    show wpAny _ _ (field (.ref it) 1 >>= _) _ _ s
    refine wpAny_bind (wpAny_field gi di (x := .int k 0) rfl ?_)
    show wpAny _ _ (seqItems? (.ref t) >>= _) _ _ s
    refine wpAny_bind (wpAny_seqItems gt dt ?_)
    simp only [Int.toNat_natCast]
    cases hx : xs[k]? with
    | some x =>
      refine wpAny_bind (wpAny_setField gi di (by simp) (wpAny_pure ⟨x, rfl, hF x hx _ ⟨_, Heap.get?_update_self _ gi (Obj.isFreed_of_fields (Obj.data_mapFields di _)), (Obj.cls_mapFields ..).trans ci, ?_⟩ (Heap.SameBut.update ..)⟩))
      rw [Obj.data_mapFields di]; simp [rawInt]
    | none =>
      refine wpAny_bind (wpAny_rule (wpAny_bind (wpAny_setField gi di (by simp) ?_)))
      show wpAny _ _ (newExc (.type "StopIteration") [] >>= _) _ _ _
      refine wpAny_bind ?_
      simp only [newExc, newTuple]
      refine wpAny_bind (wpAny_newObj_type ?_ (by size_fits))
      refine wpAny_bind (m := firstArgMember _ _) (wpAny_of_eq (a := Value.none) (by first | rfl | (simp only [firstArgMember]; rfl)) ?_)
      refine wpAny_newObj_type ?_ (by size_fits)
      simp only [raiseNew]
      refine wpAny_bind (wpAny_handled ?_)
      first | rw [show A.in1.handled = none from hh] | rw [hh]
      refine wpAny_bind (wpAny_pure (wpAny_throw ?_))
      exact hE hx _ _ (((Heap.SameBut.update ..).extBut.push _).push _) ⟨_, Heap.get?_push_size _ rfl, rfl⟩
  unfold Builtin.SmallTypes.nextOf
  exact wpAny_bind (body fun x hx h' h1 h2 => wpAny_pure (hQ x hx h' h1 h2))
theorem src_tup {it t : Addr} (hne : t ≠ it) (xs : Array Value) : Src prog w it [it, t] xs (fun k h => h.IsTupleIter it t k ∧ h.IsTuple t xs) where
  hold := fun k h h' ⟨x, y⟩ hk => ⟨x.at fun o e => hk it (by simp) o e, y.at fun o e => hk t (by simp) o e⟩
  item := fun A k s x Q E hh ⟨h1, h2⟩ hx hQ => next_tup hh h1 h2 (fun y hy h' q1 q2 => by rw [hx] at hy; obtain rfl := Option.some.inj hy; exact hQ h' ⟨q1, h2.extBut q2.extBut hne⟩ q2) fun hn => by rw [hx] at hn; cases hn
  out := fun A k s Q E hh ⟨h1, h2⟩ hx hE => next_tup hh h1 h2 (fun y hy => by rw [hx] at hy; cases hy) fun _ => hE

structure ZAp (z TI TO i1 i2 : Addr) (ad1 ad2 : List Addr) : Prop where
  a1 : ∀ b ∈ ad1, b ≠ z ∧ b ≠ TO ∧ b ≠ i2
  a2 : ∀ b ∈ ad2, b ≠ z ∧ b ≠ TO ∧ b ≠ i1
  ti : TI ≠ z ∧ TI ≠ TO ∧ TI ≠ i1 ∧ TI ≠ i2
  o : TO ≠ z ∧ TO ≠ i1 ∧ TO ≠ i2
  m1 : i1 ∈ ad1
  m2 : i2 ∈ ad2

variable {z TI TO i1 i2 : Addr} {ad1 ad2 : List Addr} {xs ys : Array Value} {S1 S2 : Nat → Heap → Prop}
/-- where zip stands between its steps -/
structure ZSt (z TO i1 i2 TI : Addr) (S1 S2 : Nat → Heap → Prop) (h0 : Heap) (f a b : Value) (k1 k2 : Nat) (h : Heap) : Prop where
  zp : IsZip h z TI TO f
  to : IsPair h TO a b
  s1 : S1 k1 h
  s2 : S2 k2 h
  fr : ∀ c o, c ≠ z → c ≠ TO → c ≠ i1 → c ≠ i2 → h0.get? c = some o → h.get? c = some o
  sz : h0.objs.size ≤ h.objs.size
theorem ZSt.onz {h0 h h' : Heap} {f f' a b : Value} {k1 k2 : Nat} (X : Src prog w i1 ad1 xs S1) (Y : Src prog w i2 ad2 ys S2) (D : ZAp z TI TO i1 i2 ad1 ad2)
    (x : ZSt z TO i1 i2 TI S1 S2 h0 f a b k1 k2 h) (q : IsZip h' z TI TO f') (hs : Heap.SameBut z h h') : ZSt z TO i1 i2 TI S1 S2 h0 f' a b k1 k2 h' :=
  ⟨q, hs.extBut _ _ D.o.1 x.to, X.hold _ _ _ x.s1 fun c hc o e => hs.extBut _ _ (D.a1 c hc).1 e, Y.hold _ _ _ x.s2 fun c hc o e => hs.extBut _ _ (D.a2 c hc).1 e,
    fun c o c1 c2 c3 c4 e => hs.extBut _ _ c1 (x.fr c o c1 c2 c3 c4 e), by rw [hs.1]; exact x.sz⟩
theorem ZSt.ont {h0 h h' : Heap} {f a b a' b' : Value} {k1 k2 : Nat} (X : Src prog w i1 ad1 xs S1) (Y : Src prog w i2 ad2 ys S2) (D : ZAp z TI TO i1 i2 ad1 ad2)
    (x : ZSt z TO i1 i2 TI S1 S2 h0 f a b k1 k2 h) (q : IsPair h' TO a' b') (hs : Heap.SameBut TO h h') : ZSt z TO i1 i2 TI S1 S2 h0 f a' b' k1 k2 h' :=
  ⟨hs.extBut _ _ D.o.1.symm x.zp, q, X.hold _ _ _ x.s1 fun c hc o e => hs.extBut _ _ (D.a1 c hc).2.1 e, Y.hold _ _ _ x.s2 fun c hc o e => hs.extBut _ _ (D.a2 c hc).2.1 e,
    fun c o c1 c2 c3 c4 e => hs.extBut _ _ c2 (x.fr c o c1 c2 c3 c4 e), by rw [hs.1]; exact x.sz⟩
theorem ZSt.on1 {h0 h h' : Heap} {f a b : Value} {k1 k2 k' : Nat} (Y : Src prog w i2 ad2 ys S2) (D : ZAp z TI TO i1 i2 ad1 ad2)
    (x : ZSt z TO i1 i2 TI S1 S2 h0 f a b k1 k2 h) (q : S1 k' h') (hs : Heap.SameBut i1 h h') : ZSt z TO i1 i2 TI S1 S2 h0 f a b k' k2 h' :=
  ⟨hs.extBut _ _ (D.a1 _ D.m1).1.symm x.zp, hs.extBut _ _ D.o.2.1 x.to, q, Y.hold _ _ _ x.s2 fun c hc o e => hs.extBut _ _ (D.a2 c hc).2.2 e,
    fun c o c1 c2 c3 c4 e => hs.extBut _ _ c3 (x.fr c o c1 c2 c3 c4 e), by rw [hs.1]; exact x.sz⟩
theorem ZSt.on2 {h0 h h' : Heap} {f a b : Value} {k1 k2 k' : Nat} (X : Src prog w i1 ad1 xs S1) (D : ZAp z TI TO i1 i2 ad1 ad2)
    (x : ZSt z TO i1 i2 TI S1 S2 h0 f a b k1 k2 h) (q : S2 k' h') (hs : Heap.SameBut i2 h h') : ZSt z TO i1 i2 TI S1 S2 h0 f a b k1 k' h' :=
  ⟨hs.extBut _ _ (D.a2 _ D.m2).1.symm x.zp, hs.extBut _ _ D.o.2.2 x.to, X.hold _ _ _ x.s1 fun c hc o e => hs.extBut _ _ (D.a1 c hc).2.2 e, q,
    fun c o c1 c2 c3 c4 e => hs.extBut _ _ c4 (x.fr c o c1 c2 c3 c4 e), by rw [hs.1]; exact x.sz⟩
theorem ZSt.onp {h0 h : Heap} {f a b : Value} {k1 k2 : Nat} (X : Src prog w i1 ad1 xs S1) (Y : Src prog w i2 ad2 ys S2) (o : Obj) (x : ZSt z TO i1 i2 TI S1 S2 h0 f a b k1 k2 h) : ZSt z TO i1 i2 TI S1 S2 h0 f a b k1 k2 (h.push o) :=
  ⟨Heap.get?_push_of_some _ x.zp, Heap.get?_push_of_some _ x.to, X.hold _ _ _ x.s1 fun c _ o e => Heap.get?_push_of_some _ e, Y.hold _ _ _ x.s2 fun c _ o e => Heap.get?_push_of_some _ e,
    fun c o c1 c2 c3 c4 e => Heap.get?_push_of_some _ (x.fr c o c1 c2 c3 c4 e), by rw [Heap.size_push]; exact Nat.le_succ_of_le x.sz⟩

/-- one turn of zip: both sources have an item, or one has none -/
theorem zip_turn {s : Shared} {k : Nat} {a b : Value} {Q : Value → Shared → Prop} {E : Value → Shared → Prop} (hh : A.handled = none) (X : Src prog w i1 ad1 xs S1) (Y : Src prog w i2 ad2 ys S2) (D : ZAp z TI TO i1 i2 ad1 ad2)
    (hz : IsZip s.heap z TI TO .none) (hTI : IsPair s.heap TI (.ref i1) (.ref i2)) (hTO : IsPair s.heap TO a b) (h1 : S1 k s.heap) (h2 : S2 k s.heap)
    (hQ : ∀ x y, xs[k]? = some x → ys[k]? = some y → ∀ (h' : Heap) (T : Addr), ZSt z TO i1 i2 TI S1 S2 s.heap (rawInt T) x y (k + 1) (k + 1) h' → IsPair h' T x y → s.heap.objs.size ≤ T → Q (.ref T) { s with heap := h' })
    (hE : xs[k]? = none ∨ ys[k]? = none → ∀ h' e, (∀ c o, c ≠ z → c ≠ TO → c ≠ i1 → c ≠ i2 → s.heap.get? c = some o → h'.get? c = some o) → (∃ o, h'.get? e = some o ∧ o.cls = .type "StopIteration") → E (.ref e) { s with heap := h' }) :
    wpAny (model prog w) A (Builtin.«zip.__next__» ⟨[.ref z], []⟩) (fun fin s' => ∃ v, fin = .done (.ret v) ∧ Q v s') E s := by
  have st0 : ZSt z TO i1 i2 TI S1 S2 s.heap .none a b k k s.heap := ⟨hz, hTO, h1, h2, fun _ _ _ _ _ _ e => e, Nat.le_refl _⟩
  -- a source is at its end: the tuple is free again, and the exception goes on
  have ends : ∀ (h h' : Heap) (e i : Addr) (a b : Value) (k1 k2 : Nat), (i = i1 ∨ i = i2) → ZSt z TO i1 i2 TI S1 S2 s.heap .ellipsis a b k1 k2 h → Heap.ExtBut i h h' → (∃ o, h'.get? e = some o ∧ o.cls = .type "StopIteration") →
      (xs[k]? = none ∨ ys[k]? = none) → wpAny (model prog w) A (setField (.ref z) 0 .none) (fun _ s'' => E (.ref e) s'') E { s with heap := h' } := fun h h' e i a b k1 k2 hi st hx he hnone => by
    obtain ⟨oe, ge, ce⟩ := he
    have zi : z ≠ i := by rcases hi with rfl | rfl; exact (D.a1 _ D.m1).1.symm; exact (D.a2 _ D.m2).1.symm
    have hz' : IsZip h' z TI TO .ellipsis := hx _ _ zi st.zp
    have ez : e ≠ z := fun q => by subst q; rw [hz'] at ge; cases ge; simp at ce
    refine wpAny_setField_rec hz' (by simp) fun h3 _ hs3 => hE hnone h3 e (fun c o c1 c2 c3 c4 q => hs3.extBut _ _ c1 (hx _ _ ?_ (st.fr c o c1 c2 c3 c4 q))) ⟨oe, hs3.extBut _ _ ez ge, ce⟩
    rcases hi with rfl | rfl
    · exact c3
    · exact c4
  show wpAny _ _ (field (.ref z) 2 >>= _) _ _ _
  refine wpAny_bind (wpAny_field hz rfl (x := .bool false) rfl ?_)
  show wpAny _ _ (field (.ref z) 3 >>= _) _ _ _
  refine wpAny_bind (wpAny_field hz rfl (x := .ref TI) rfl (wpAny_bind (wpAny_seqItems hTI rfl ?_)))
  show wpAny _ _ (Builtin.SmallTypes.ownedTupleIsFree (.ref z) >>= _) _ _ _
  refine wpAny_bind (m := Builtin.SmallTypes.ownedTupleIsFree (.ref z)) (wpAny_bind (wpAny_field hz rfl (x := .none) rfl (wpAny_pure ?_)))
  simp only [if_true]
  refine wpAny_bind (wpAny_rule (wpAny_bind (wpAny_field hz rfl (x := .ref TO) rfl (wpAny_bind (wpAny_setField_rec hz (by simp) fun ha hza hsa => ?_)))))
  have sta := st0.onz X Y D (f' := .ellipsis) hza hsa
  refine wpAny_bind ?_
  simp only [List.zipIdx_cons, List.zipIdx_nil, List.forIn_cons, List.forIn_nil]
  refine wpAny_bind (wpAny_bind (wpAny_onRaise ?_))
  show wpAny _ _ (Builtin.SmallTypes.nextOf (.ref i1) >>= _) _ _ _
  cases hx : xs[k]? with
  | none => exact wpAny_bind (X.out _ k _ _ _ hh sta.s1 hx fun hb e q1 q2 => ends _ _ _ i1 _ _ _ _ (.inl rfl) sta q1 q2 (.inl hx))
  | some x =>
    refine wpAny_bind (X.item _ k _ x _ _ hh sta.s1 hx fun hb q1 q2 => wpAny_pure ?_)
    have stb := sta.on1 Y D q1 q2
    refine wpAny_bind (wpAny_seqItems stb.to rfl (wpAny_bind (wpAny_updateSeq_pair stb.to fun hc q3 q4 => wpAny_bind (wpAny_letGo (wpAny_pure ?_)))))
    have stc := stb.ont X Y D (a' := x) (b' := b) q3 q4
    refine wpAny_bind (wpAny_bind (wpAny_onRaise ?_))
    show wpAny _ _ (Builtin.SmallTypes.nextOf (.ref i2) >>= _) _ _ _
    cases hy : ys[k]? with
    | none => exact wpAny_bind (Y.out _ k _ _ _ hh stc.s2 hy fun hd e q1 q2 => ends _ _ _ i2 _ _ _ _ (.inr rfl) stc q1 q2 (.inr hy))
    | some y =>
      refine wpAny_bind (Y.item _ k _ y _ _ hh stc.s2 hy fun hd q5 q6 => wpAny_pure ?_)
      have std := stc.on2 X D q5 q6
      refine wpAny_bind (wpAny_seqItems std.to rfl (wpAny_bind (wpAny_updateSeq_pair std.to fun he q7 q8 => wpAny_bind (wpAny_letGo (wpAny_pure (wpAny_pure ?_))))))
      have ste := std.ont X Y D (a' := x) (b' := y) q7 q8
      refine wpAny_bind (wpAny_seqItems ste.to rfl (wpAny_bind (wpAny_newTuple ?_)))
      have stf := ste.onp X Y { cls := .type "tuple", data := .seq #[x, y] }
      have zT : he.objs.size ≠ z := Nat.ne_of_gt (Heap.lt_size ste.zp)
      refine wpAny_bind (m := Builtin.SmallTypes.ownedTupleHandOut (.ref z) (.ref he.objs.size)) ?_
      unfold Builtin.SmallTypes.ownedTupleHandOut
      refine wpAny_bind (wpAny_setField_rec stf.zp (by simp) fun hg q9 q10 => ?_)
      have stg := stf.onz X Y D (f' := rawInt he.objs.size) q9 q10
      refine wpAny_setField_rec stg.zp (by simp) fun hk q11 q12 => wpAny_pure ⟨_, rfl, ?_⟩
      have stk := stg.onz X Y D (f' := rawInt he.objs.size) q11 q12
      exact hQ x y hx hy hk he.objs.size stk (q12.extBut _ _ zT (q10.extBut _ _ zT (Heap.get?_push_size _ rfl))) ste.sz
end
end Mine

/-! Fw37 -/
namespace Mine
open PySem PySem.W PySem.Calls PyProof.Rows
section
variable {prog : Program} {w : World} {A : Around}
/-! ## the zip object over two tuples -/
noncomputable abbrev tIt (t : Addr) : Obj := { cls := .type "tuple_iterator", data := .fields #[.ref t, .int 0 0] }
noncomputable abbrev pairO (a b : Value) : Obj := { cls := .type "tuple", data := .seq #[a, b] }
noncomputable def zipHeap (h : Heap) (t1 t2 : Addr) : Heap :=
  ((((h.push (tIt t1)).push (tIt t2)).push (pairO (.ref h.objs.size) (.ref (h.push (tIt t1)).objs.size))).push (pairO .none .none)).push
    { cls := .type "zip", data := .fields #[.none, .bool false, .bool false, .ref ((h.push (tIt t1)).push (tIt t2)).objs.size, .ref (((h.push (tIt t1)).push (tIt t2)).push (pairO (.ref h.objs.size) (.ref (h.push (tIt t1)).objs.size))).objs.size] }
theorem zip_made (t1 t2 : Addr) (xs ys : Array Value) : Meets (Builtin.«zip.__new__» ⟨[.type "zip", .ref t1, .ref t2], []⟩) (fun _ R s => s.heap.IsTuple t1 xs ∧ s.heap.IsTuple t2 ys ∧
    R (.ok (.ret (.ref ((((s.heap.push (tIt t1)).push (tIt t2)).push (pairO (.ref s.heap.objs.size) (.ref (s.heap.push (tIt t1)).objs.size))).push (pairO .none .none)).objs.size))) { s with heap := zipHeap s.heap t1 t2 }) :=
  .of_wp fun prog w A R s h => by
    obtain ⟨hp, g, d, tk, os⟩ := s
    obtain ⟨h1, h2, h⟩ := h
    have hsub := sub_zip
    have q1 : Heap.IsTuple (Shared.heap ⟨hp, g, d, tk, os⟩) t1 xs := h1
    have q2 : Heap.IsTuple (Shared.heap ⟨hp.push (tIt t1), g, d, tk, os⟩) t2 ys := Heap.IsTuple.push h2 _
    wp_walk using wpAny_pyIter_tuple q1, wpAny_pyIter_tuple q2
    exact ⟨_, rfl, h⟩
structure ZipIn (h h' : Heap) (t1 t2 n : Nat) : Prop where
  z : IsZip h' (n + 4) (n + 2) (n + 3) .none
  ti : IsPair h' (n + 2) (.ref n) (.ref (n + 1))
  to : IsPair h' (n + 3) .none .none
  i1 : h'.IsTupleIter n t1 0
  i2 : h'.IsTupleIter (n + 1) t2 0
  k : ∀ c o, h.get? c = some o → h'.get? c = some o
theorem zipHeap_in (h : Heap) (t1 t2 : Addr) : ZipIn h (zipHeap h t1 t2) t1 t2 h.objs.size := by
  have e1 : ∀ o, (h.push o).objs.size = h.objs.size + 1 := fun o => Heap.size_push ..
  have e2 : ∀ o p, ((h.push o).push p).objs.size = h.objs.size + 2 := fun o p => by rw [Heap.size_push, e1]
  have e3 : ∀ o p q, (((h.push o).push p).push q).objs.size = h.objs.size + 3 := fun o p q => by rw [Heap.size_push, e2]
  have e4 : ∀ o p q r, ((((h.push o).push p).push q).push r).objs.size = h.objs.size + 4 := fun o p q r => by rw [Heap.size_push, e3]
  have at_ : ∀ {g : Heap} {o : Obj} {n : Nat}, g.objs.size = n → o.isFreed = false → (g.push o).get? n = some o := fun {g o n} e f => e ▸ Heap.get?_push_size _ f
  have up : ∀ {g : Heap} {o p : Obj} {n : Nat}, g.get? n = some p → (g.push o).get? n = some p := fun e => Heap.get?_push_of_some _ e
  unfold zipHeap
  rw [e1, e2, e3]
  exact ⟨at_ (e4 ..) rfl, up (up (at_ (e2 ..) rfl)), up (at_ (e3 ..) rfl), ⟨_, up (up (up (up (at_ rfl rfl)))), rfl, rfl⟩, ⟨_, up (up (up (at_ (e1 _) rfl))), rfl, rfl⟩, fun c o e => up (up (up (up (up e))))⟩
theorem call_ziptup {t1 t2 : Addr} {xs ys : Array Value} {s : Shared} {Q E : Value → Shared → Prop} (h1 : s.heap.IsTuple t1 xs) (h2 : s.heap.IsTuple t2 ys)
    (h : ∀ h', ZipIn s.heap h' t1 t2 s.heap.objs.size → Q (.ref (s.heap.objs.size + 4)) { s with heap := h' }) : wpAny (model prog w) A (call (.type "zip") [.ref t1, .ref t2]) Q E s := by
  have e4 : ((((s.heap.push (tIt t1)).push (tIt t2)).push (pairO (.ref s.heap.objs.size) (.ref (s.heap.push (tIt t1)).objs.size))).push (pairO .none .none)).objs.size = s.heap.objs.size + 4 := by
    rw [Heap.size_push, Heap.size_push, Heap.size_push, Heap.size_push]
  refine callType_new F.called_zip (by decide) (F.typeCall_zip_2 _ _) (F.newCall_zip_2 _ _) (fun obj => F.args_object_init_3 obj _ _) F.entry_zip_new (zip_made t1 t2 xs ys) ⟨h1, h2, ?_⟩
  rw [e4]
  exact ⟨⟨_, (zipHeap_in s.heap t1 t2).z, rfl⟩, h _ (zipHeap_in s.heap t1 t2)⟩

variable {z TI TO i1 i2 : Addr} {ad1 ad2 : List Addr} {xs ys : Array Value} {S1 S2 : Nat → Heap → Prop}
theorem walks_zip (hh : A.handled = none) (X : Src prog w i1 ad1 xs S1) (Y : Src prog w i2 ad2 ys S2) (D : ZAp z TI TO i1 i2 ad1 ad2) (hwf1 : ∀ k h, S1 k h → ∃ o, h.get? i1 = some o) (hwf2 : ∀ k h, S2 k h → ∃ o, h.get? i2 = some o) :
    WalksT prog w A z (z :: TI :: TO :: (ad1 ++ ad2)) [z, TO, i1, i2] (min xs.size ys.size) (fun i vals => ∃ x y, xs[i]? = some x ∧ ys[i]? = some y ∧ vals = #[x, y])
      (fun i h => (IsZip h z TI TO .none ∧ IsPair h TI (.ref i1) (.ref i2) ∧ ∃ a b, IsPair h TO a b) ∧ S1 i h ∧ S2 i h)
      (fun i T h => (IsZip h z TI TO (rawInt T) ∧ IsPair h TI (.ref i1) (.ref i2) ∧ ∃ a b, IsPair h TO a b) ∧ S1 (i + 1) h ∧ S2 (i + 1) h ∧ T ∉ [z, TO, i1, i2]) where
  sub := fun c hc => by
    simp only [List.mem_cons, List.not_mem_nil, or_false, List.mem_append] at hc ⊢
    rcases hc with rfl | rfl | rfl | rfl
    · exact .inl rfl
    · exact .inr (.inr (.inl rfl))
    · exact .inr (.inr (.inr (.inl D.m1)))
    · exact .inr (.inr (.inr (.inr D.m2)))
  frame := fun i h h' ⟨⟨p, q, a, b, r⟩, s1, s2⟩ hk => ⟨⟨hk z (by simp) _ p, hk TI (by simp) _ q, a, b, hk TO (by simp) _ r⟩, X.hold _ _ _ s1 fun c hc o e => hk c (by simp [hc]) o e, Y.hold _ _ _ s2 fun c hc o e => hk c (by simp [hc]) o e⟩
  item := fun i s Q E hi ⟨⟨p, q, a, b, r⟩, s1, s2⟩ hQ => by
    have hix : i < xs.size := Nat.lt_of_lt_of_le hi (Nat.min_le_left ..)
    have hiy : i < ys.size := Nat.lt_of_lt_of_le hi (Nat.min_le_right ..)
    have hT : s.TypeIs (.ref z) "zip" := ⟨_, p, rfl⟩
    unfold pyNext
    refine wpAny_bind (wpAny_attempt (wpAny_callSpecial?_slot (name := Str.ofString "__next__") hT F.slot_zip_next (wpAny_call_entry F.slot_zip_next hT F.entry_zip_next
      (zip_turn hh X Y D p q r s1 s2 (fun x y hx hy h' T st pT hsz => ?_) fun hn => ?_) (F.args_zip_next_1 _))))
    · have lt : ∀ {c o}, s.heap.get? c = some o → T ≠ c := fun e => Nat.ne_of_gt (Nat.lt_of_lt_of_le (Heap.lt_size e) hsz)
      obtain ⟨o1, g1⟩ := hwf1 _ _ s1
      obtain ⟨o2, g2⟩ := hwf2 _ _ s2
      refine wpAny_pure (hQ T #[x, y] h' s.toks ⟨x, y, hx, hy, rfl⟩ hsz ⟨_, pT, rfl, _, rfl⟩ ⟨⟨st.zp, st.fr _ _ D.ti.1 D.ti.2.1 D.ti.2.2.1 D.ti.2.2.2 q, _, _, st.to⟩, st.s1, st.s2, ?_⟩ fun c o hc e =>
        st.fr c o (fun x => hc (by simp [x])) (fun x => hc (by simp [x])) (fun x => hc (by simp [x])) (fun x => hc (by simp [x])) e)
      intro hm
      rcases mem_four hm with e | e | e | e
      · exact lt p e
      · exact lt r e
      · exact lt g1 e
      · exact lt g2 e
    · exfalso
      rcases hn with e | e
      · rw [Array.getElem?_eq_getElem hix] at e; cases e
      · rw [Array.getElem?_eq_getElem hiy] at e; cases e
  go := fun elts k pos i T s Q E ⟨⟨p, q, a, b, r⟩, s1, s2, _⟩ hQ => wpAny_letOwnedTupleGo_zip p fun h' p' hs => hQ h' ⟨⟨p', hs.extBut _ _ D.ti.1 q, a, b, hs.extBut _ _ D.o.1 r⟩,
    X.hold _ _ _ s1 fun c hc o e => hs.extBut _ _ (D.a1 c hc).1 e, Y.hold _ _ _ s2 fun c hc o e => hs.extBut _ _ (D.a2 c hc).1 e⟩ fun c o hc e => hs.extBut _ _ (fun x => hc (by simp [x])) e
  apart := fun i T h hm => hm.2.2.2
  done := fun s Q E ⟨⟨p, q, a, b, r⟩, s1, s2⟩ hQ => by
    have hT : s.TypeIs (.ref z) "zip" := ⟨_, p, rfl⟩
    unfold pyNext
    refine wpAny_bind (wpAny_attempt (wpAny_callSpecial?_slot (name := Str.ofString "__next__") hT F.slot_zip_next (wpAny_call_entry F.slot_zip_next hT F.entry_zip_next
      (zip_turn hh X Y D p q r s1 s2 (fun x y hx hy h' T st pT hsz => ?_) fun hn h' e hk he => ?_) (F.args_zip_next_1 _))))
    · exfalso
      have h1 := (Array.getElem?_eq_some_iff.mp hx).1
      have h2 := (Array.getElem?_eq_some_iff.mp hy).1
      omega
    · obtain ⟨o, ho, hc⟩ := he
      refine wpAny_bind (wpAny_isInstance (T := "StopIteration") (b := true) ⟨o, ho, hc⟩ isSubtype_stop (wpAny_pure (hQ h' s.toks fun c o hc e => ?_)))
      exact hk c o (fun x => hc (by simp [x])) (fun x => hc (by simp [x])) (fun x => hc (by simp [x])) (fun x => hc (by simp [x])) e
  self := fun i s Q E st hQ => wpAny_pyIter_zip st.1.1 hQ
end
end Mine

/-! Fw38 -/
namespace Mine
open PySem PySem.W PySem.Calls PyProof.Rows
section
variable {C : Cx} {σ : St} {ow : List (Str × Addr)} {fx ex : List Addr} {s s' : Shared} {Ξ : XD → Prop} {Φ : List D → Prop}
theorem ziptup_apart {n l1 l2 : Nat} (a1 : l1 < n) (a2 : l2 < n) : ZAp (n + 4) (n + 2) (n + 3) n (n + 1) [n, l1] [n + 1, l2] where
  a1 := fun b hb => by
    rcases List.mem_cons.mp hb with rfl | hb
    · exact ⟨by lia, by lia, by lia⟩
    · obtain rfl := List.mem_singleton.mp hb; exact ⟨by lia, by lia, by lia⟩
  a2 := fun b hb => by
    rcases List.mem_cons.mp hb with rfl | hb
    · exact ⟨by lia, by lia, by lia⟩
    · obtain rfl := List.mem_singleton.mp hb; exact ⟨by lia, by lia, by lia⟩
  ti := ⟨by lia, by lia, by lia, by lia⟩
  o := ⟨by lia, by lia, by lia⟩
  m1 := .head _
  m2 := .head _
theorem cli_ziptup {elts : List Expr} {kk : Nat} {pos : Pos} {as bs : List D} (h : Φ ((as.zip bs).map fun p => .tup [p.1, p.2])) : CLI C (.Tuple elts kk pos) (.type "zip") [.tup as, .tup bs] Φ Ξ := fun ow fx s vs G r => by
  obtain ⟨_, _, rfl, r1, r2⟩ := r.inv2
  obtain ⟨l1, v1, rfl, ha1, hl1, hr1⟩ := r1.inv
  obtain ⟨l2, v2, rfl, ha2, hl2, hr2⟩ := r2.inv
  obtain ⟨o1, ho1, _⟩ := id hl1
  obtain ⟨o2, ho2, _⟩ := id hl2
  have hlt1 : l1 < s.heap.objs.size := Heap.lt_size ho1
  have hlt2 : l2 < s.heap.objs.size := Heap.lt_size ho2
  refine call_ziptup hl1 hl2 fun h' Z => ?_
  refine wpAny_pyIter_zip Z.z ?_
  generalize hn : s.heap.objs.size = n at *
  have hnone : ∀ b, n ≤ b → s.heap.get? b = none := fun b hb => Heap.get?_none_of_le (hn ▸ hb)
  have hlen : (as.zip bs).length = min v1.toArray.size v2.toArray.size := by rw [List.length_zip, List.size_toArray, List.size_toArray, hr1.length, hr2.length]
  have e0 : (as.zip bs).map (fun p => D.tup [p.1, p.2]) = ((as.zip bs).map fun p => [p.1, p.2]).map D.tup := by rw [List.map_map]; rfl
  rw [e0] at h
  have wr0 : ∀ b ∈ [n + 4, n + 3, n, n + 1], s.heap.get? b = none := fun b hb => hnone b (by rcases mem_four hb with rfl | rfl | rfl | rfl <;> first | exact Nat.le_refl _ | exact Nat.le_add_right _ _)
  have wr1 : ∀ b ∈ [n + 4, n + 3, n, n + 1], ∃ o, h'.get? b = some o := fun b hb => by
    rcases mem_four hb with rfl | rfl | rfl | rfl
    · exact ⟨_, Z.z⟩
    · exact ⟨_, Z.to⟩
    · obtain ⟨o, ho, _⟩ := Z.i1; exact ⟨o, ho⟩
    · obtain ⟨o, ho, _⟩ := Z.i2; exact ⟨o, ho⟩
  have nex : ∀ b o, b ∉ C.ex ow fx → s.heap.get? b = some o → b ∉ C.ex ow ([n + 4, n + 3, n, n + 1] ++ fx) := fun b o hb e q => by
    rw [mem_ex] at hb q
    rcases q with q | q | q
    · exact hb (.inl q)
    · exact hb (.inr (.inl q))
    · rcases List.mem_append.mp q with q | q
      · rw [wr0 b q] at e; cases e
      · exact hb (.inr (.inr q))
  have hTIx : n + 2 ∉ C.ex ow ([n + 4, n + 3, n, n + 1] ++ fx) := fun q => by
    rw [mem_ex] at q
    rcases q with q | q | q
    · obtain ⟨o, e⟩ := G.al _ (mem_ex_sys (C := C) (ow := ow) (fx := fx) q); rw [hnone _ (Nat.le_add_right _ _)] at e; cases e
    · obtain ⟨o, e⟩ := G.al (n + 2) (mem_ex.mpr (.inr (.inl q))); rw [hnone _ (Nat.le_add_right _ _)] at e; cases e
    · rcases List.mem_append.mp q with q | q
      · rcases mem_four q with q | q | q | q <;> (have q' : (_ : Nat) = _ := q; lia)
      · obtain ⟨o, e⟩ := G.al (n + 2) (mem_ex.mpr (.inr (.inr q))); rw [hnone _ (Nat.le_add_right _ _)] at e; cases e
  have W := walks_zip (prog := C.g.prog) (w := C.g.w) (A := C.A) C.hh (src_tup (it := n) (t := l1) (Nat.ne_of_lt hlt1) v1.toArray) (src_tup (it := n + 1) (t := l2) (Nat.ne_of_lt (Nat.lt_succ_of_lt hlt2)) v2.toArray) (ziptup_apart hlt1 hlt2)
    (fun k h st => let ⟨o, ho, _⟩ := st.1; ⟨o, ho⟩) (fun k h st => let ⟨o, ho, _⟩ := st.1; ⟨o, ho⟩)
  refine ⟨n + 4, [n + 4, n + 3, n, n + 1], _, _, _, h, rfl, wr0, wr1, it_walksT W (.head _) _ (by rw [List.length_map]; exact hlen)
    (fun ex h => (l1 ∉ ex ∧ l2 ∉ ex ∧ n + 2 ∉ ex) ∧ (RepAll C.g.P h ex v1 as ∧ RepAll C.g.P h ex v2 bs) ∧ (∃ o, h.get? l1 = some o) ∧ (∃ o, h.get? l2 = some o) ∧ ∃ o, h.get? (n + 2) = some o) ?_ ?_ ?_ ?_ ?_,
    ⟨⟨⟨nex l1 o1 ha1 ho1, nex l2 o2 ha2 ho2, hTIx⟩, ⟨hr1.mono (fun b o _ e => Z.k b o e) nex, hr2.mono (fun b o _ e => Z.k b o e) nex⟩, ⟨o1, Z.k _ _ ho1⟩, ⟨o2, Z.k _ _ ho2⟩, ⟨_, Z.ti⟩⟩, ⟨Z.z, Z.ti, _, _, Z.to⟩, ⟨Z.i1, Heap.IsTuple.at hl1 fun o e => Z.k l1 o e⟩, Z.i2, Heap.IsTuple.at hl2 fun o e => Z.k l2 o e⟩, KP.of_heap Z.k⟩
  · rintro ex ex' h h' ⟨⟨p1, p2, p3⟩, ⟨q1, q2⟩, ⟨x1, e1⟩, ⟨x2, e2⟩, ⟨x3, e3⟩⟩ hk he
    exact ⟨⟨he _ _ p1 e1, he _ _ p2 e2, he _ _ p3 e3⟩, ⟨q1.mono hk he, q2.mono hk he⟩, ⟨x1, hk _ _ p1 e1⟩, ⟨x2, hk _ _ p2 e2⟩, ⟨x3, hk _ _ p3 e3⟩⟩
  · rintro ex h ⟨⟨p1, p2, p3⟩, _⟩ b hb
    simp only [List.mem_cons, List.not_mem_nil, or_false, List.mem_append] at hb
    rcases hb with rfl | rfl | rfl | (rfl | rfl) | rfl | rfl
    · exact .inl (by simp)
    · exact .inr p3
    · exact .inl (by simp)
    · exact .inl (by simp)
    · exact .inr p1
    · exact .inl (by simp)
    · exact .inr p2
  · rintro ex h i vals dd ⟨_, ⟨q1, q2⟩, _⟩ ⟨x, y, hx, hy, rfl⟩ hd
    obtain ⟨d1, hd1, t1⟩ := q1.get' (k := i) (v := x) (by simpa using hx)
    obtain ⟨d2, hd2, t2⟩ := q2.get' (k := i) (v := y) (by simpa using hy)
    rw [List.getElem?_map] at hd
    have : (as.zip bs)[i]? = some (d1, d2) := List.getElem?_zip_eq_some.mpr ⟨hd1, hd2⟩
    rw [this] at hd
    obtain rfl := (Option.some.inj hd).symm
    exact .cons t1 (.cons t2 .nil)
  · rintro i h ⟨⟨h1, h2, _, _, h3⟩, ⟨h4, _⟩, h5, _⟩ b hb
    rcases mem_four hb with rfl | rfl | rfl | rfl
    · exact ⟨_, h1⟩
    · exact ⟨_, h3⟩
    · obtain ⟨o, ho, _⟩ := h4; exact ⟨o, ho⟩
    · obtain ⟨o, ho, _⟩ := h5; exact ⟨o, ho⟩
  · rintro i T h ⟨⟨h1, h2, _, _, h3⟩, ⟨h4, _⟩, ⟨h5, _⟩, _⟩ b hb
    rcases mem_four hb with rfl | rfl | rfl | rfl
    · exact ⟨_, h1⟩
    · exact ⟨_, h3⟩
    · obtain ⟨o, ho, _⟩ := h4; exact ⟨o, ho⟩
    · obtain ⟨o, ho, _⟩ := h5; exact ⟨o, ho⟩
end
end Mine

/-! M1 -/
namespace Mine
open PySem PySem.W PySem.Calls PyProof.Rows

/-! ## bits -/
theorem and_shift (a b k : Nat) (h : b < 2 ^ k) : (a * 2 ^ k) &&& b = 0 := by
  apply Nat.eq_of_testBit_eq
  intro i
  rw [Nat.testBit_and, Nat.zero_testBit]
  by_cases hi : i < k
  · rw [Nat.testBit_mul_two_pow]
    have : ¬ (k ≤ i) := by lia
    simp [this]
  · rw [Nat.testBit_lt_two_pow (Nat.lt_of_lt_of_le h (Nat.pow_le_pow_right (by lia) (by lia)))]
    simp
theorem or_shift {a b : Int} (k : Nat) (ha : 0 ≤ a) (hb : 0 ≤ b) (h : b < 2 ^ k) : Builtin.bitOr (a * 2 ^ k) b = a * 2 ^ k + b := by
  obtain ⟨x, rfl⟩ := Int.eq_ofNat_of_zero_le ha
  obtain ⟨y, rfl⟩ := Int.eq_ofNat_of_zero_le hb
  have hy : y < 2 ^ k := by exact_mod_cast h
  have e : ((x : Int) * 2 ^ k) = ((x * 2 ^ k : Nat) : Int) := by push_cast; rfl
  rw [bitOr_and, e, bitAnd_pp (by lia) (by lia), Int.toNat_natCast, Int.toNat_natCast, and_shift x y k hy]
  simp

/-! ## digits -/
noncomputable def val (b : Nat) (l : List Nat) : Nat := l.foldl (fun a d => a * b + d) 0
theorem val_snoc (b : Nat) (l : List Nat) (d : Nat) : val b (l ++ [d]) = val b l * b + d := by simp [val]
noncomputable def digs (b k N : Nat) : List Nat := (List.range k).map fun i => N / b ^ (k - 1 - i) % b
theorem digs_len (b k N : Nat) : (digs b k N).length = k := by simp [digs]
theorem digs_succ (b k N : Nat) : digs b (k + 1) N = digs b k (N / b) ++ [N % b] := by
  unfold digs
  rw [List.range_succ, List.map_append]
  congr 1
  · apply List.map_congr_left
    intro i hi
    have hi := List.mem_range.mp hi
    rw [Nat.div_div_eq_div_mul, ← Nat.pow_succ']
    have e : k - 1 - i + 1 = k + 1 - 1 - i := by lia
    rw [Nat.succ_eq_add_one, e]
  · simp
theorem digs_lt {b k N : Nat} (hb : 0 < b) : ∀ d ∈ digs b k N, d < b := by
  intro d hd
  obtain ⟨i, _, rfl⟩ := List.mem_map.mp hd
  exact Nat.mod_lt _ hb
theorem snoc_ind {α : Type} {P : List α → Prop} (h0 : P []) (h1 : ∀ l a, P l → P (l ++ [a])) : ∀ l, P l := by
  intro l
  have : ∀ m : List α, P m.reverse := by
    intro m
    induction m with
    | nil => simpa using h0
    | cons a m ih => rw [List.reverse_cons]; exact h1 _ _ ih
  have := this l.reverse
  rwa [List.reverse_reverse] at this
theorem digs_val {b : Nat} : ∀ l : List Nat, (∀ d ∈ l, d < b) → digs b l.length (val b l) = l := by
  refine snoc_ind ?_ ?_
  · intro _; rfl
  · intro l d ih h
    have hd : d < b := h d (by simp)
    have hb : 0 < b := by lia
    rw [List.length_append, List.length_singleton, digs_succ, val_snoc]
    have e1 : (val b l * b + d) / b = val b l := by
      rw [Nat.mul_comm, Nat.mul_add_div hb, Nat.div_eq_of_lt hd, Nat.add_zero]
    have e2 : (val b l * b + d) % b = d := by rw [Nat.mul_comm, Nat.mul_add_mod, Nat.mod_eq_of_lt hd]
    rw [e1, e2, ih fun x hx => h x (by simp [hx])]
theorem val_digs {b : Nat} (hb : 0 < b) : ∀ (k N : Nat), val b (digs b k N) = N % b ^ k
  | 0, N => by simp [digs, val, Nat.mod_one]
  | k + 1, N => by
    rw [digs_succ, val_snoc, val_digs hb k]
    rw [Nat.pow_succ', Nat.mod_mul]
    rw [Nat.mul_comm, Nat.add_comm]
theorem digs_take {b : Nat} (hb : 0 < b) (k j N : Nat) (h : j ≤ k) : (digs b k N).take j = digs b j (N / b ^ (k - j)) := by
  unfold digs
  rw [← List.map_take, List.take_range, Nat.min_eq_left h]
  apply List.map_congr_left
  intro i hi
  have hi := List.mem_range.mp hi
  rw [Nat.div_div_eq_div_mul, ← Nat.pow_add]
  congr 3
  lia

/-! ## the decoder -/
noncomputable def a2n (s : List Nat × Nat × Nat) (v : Nat) : List Nat × Nat × Nat :=
  match s.2.1 with
  | 0 => (s.1, 1, v)
  | 1 => (s.1 ++ [s.2.2 * 4 + v / 16], 2, v % 16)
  | 2 => (s.1 ++ [s.2.2 * 16 + v / 4], 3, v % 4)
  | _ => (s.1 ++ [s.2.2 * 64 + v], 0, 0)
noncomputable def a2run (fs : List Nat) : List Nat × Nat × Nat := fs.foldl a2n ([], 0, 0)
theorem a2run_snoc (fs : List Nat) (v : Nat) : a2run (fs ++ [v]) = a2n (a2run fs) v := by simp [a2run]
structure A2Ok (fs : List Nat) (o : List Nat) (q l : Nat) : Prop where
  hq : q = fs.length % 4
  len : o.length = 6 * fs.length / 8
  lt : ∀ x ∈ o, x < 256
  hl : l < 2 ^ (6 * fs.length % 8) ∨ (q = 1 ∧ l < 64)
  eq : val 64 fs = val 256 o * 2 ^ (6 * fs.length % 8) + l
theorem a2ok : ∀ fs : List Nat, (∀ f ∈ fs, f < 64) → A2Ok fs (a2run fs).1 (a2run fs).2.1 (a2run fs).2.2 := by
  refine snoc_ind ?_ ?_
  · intro _; exact ⟨rfl, rfl, by simp [a2run], by left; decide, rfl⟩
  · intro fs v ih h
    have hv : v < 64 := h v (by simp)
    obtain ⟨i1, i2, i3, i4, i5⟩ := ih fun x hx => h x (by simp [hx])
    rw [a2run_snoc]
    generalize a2run fs = st at *
    obtain ⟨o, q, l⟩ := st
    simp only at i1 i2 i3 i4 i5 ⊢
    have hq : q = 0 ∨ q = 1 ∨ q = 2 ∨ q = 3 := by lia
    have hlen : (fs ++ [v]).length = fs.length + 1 := by simp
    generalize hn : fs.length = n at *
    obtain ⟨m, hm⟩ : ∃ m, n = 4 * m + q := ⟨n / 4, by lia⟩
    rcases hq with rfl | rfl | rfl | rfl
    · have e1 : 6 * n % 8 = 0 := by lia
      have e2 : 6 * (n + 1) % 8 = 6 := by lia
      rw [e1] at i4 i5
      refine ⟨by rw [hlen]; show 1 = _; lia, by rw [hlen]; show o.length = _; lia, i3, ?_, ?_⟩
      · rw [hlen, e2]; left; exact hv
      · rw [hlen, e2, val_snoc, i5]; show _ = val 256 o * 2 ^ 6 + v; lia
    · have e1 : 6 * n % 8 = 6 := by lia
      have e2 : 6 * (n + 1) % 8 = 4 := by lia
      rw [e1] at i4 i5
      have hl : l < 64 := by lia
      refine ⟨by rw [hlen]; show 2 = _; lia, by rw [hlen]; show (o ++ [_]).length = _; rw [List.length_append, List.length_singleton]; lia, ?_, ?_, ?_⟩
      · intro x hx
        rcases List.mem_append.mp hx with hx | hx
        · exact i3 x hx
        · rw [List.mem_singleton.mp hx]; dsimp only; lia
      · rw [hlen, e2]; left; show v % 16 < 2 ^ 4; lia
      · rw [hlen, e2, val_snoc, i5]
        show _ = val 256 (o ++ [l * 4 + v / 16]) * 2 ^ 4 + v % 16
        rw [val_snoc]; lia
    · have e1 : 6 * n % 8 = 4 := by lia
      have e2 : 6 * (n + 1) % 8 = 2 := by lia
      rw [e1] at i4 i5
      have hl : l < 16 := by lia
      refine ⟨by rw [hlen]; show 3 = _; lia, by rw [hlen]; show (o ++ [_]).length = _; rw [List.length_append, List.length_singleton]; lia, ?_, ?_, ?_⟩
      · intro x hx
        rcases List.mem_append.mp hx with hx | hx
        · exact i3 x hx
        · rw [List.mem_singleton.mp hx]; dsimp only; lia
      · rw [hlen, e2]; left; show v % 4 < 2 ^ 2; lia
      · rw [hlen, e2, val_snoc, i5]
        show _ = val 256 (o ++ [l * 16 + v / 4]) * 2 ^ 2 + v % 4
        rw [val_snoc]; lia
    · have e1 : 6 * n % 8 = 2 := by lia
      have e2 : 6 * (n + 1) % 8 = 0 := by lia
      rw [e1] at i4 i5
      have hl : l < 4 := by lia
      refine ⟨by rw [hlen]; show 0 = _; lia, by rw [hlen]; show (o ++ [_]).length = _; rw [List.length_append, List.length_singleton]; lia, ?_, ?_, ?_⟩
      · intro x hx
        rcases List.mem_append.mp hx with hx | hx
        · exact i3 x hx
        · rw [List.mem_singleton.mp hx]; dsimp only; lia
      · rw [hlen, e2]; left; show 0 < 2 ^ 0; lia
      · rw [hlen, e2, val_snoc, i5]
        show _ = val 256 (o ++ [l * 64 + v]) * 2 ^ 0 + 0
        rw [val_snoc]; lia
/-- the octets that a decoder gives: the number's bits, whole octets alone -/
theorem a2_octets (fs : List Nat) (h : ∀ f ∈ fs, f < 64) (hq : fs.length % 4 ≠ 1) : (a2run fs).1 = digs 256 (6 * fs.length / 8) (val 64 fs / 2 ^ (6 * fs.length % 8)) := by
  obtain ⟨i1, i2, i3, i4, i5⟩ := a2ok fs h
  have hl : (a2run fs).2.2 < 2 ^ (6 * fs.length % 8) := by
    rcases i4 with h | h
    · exact h
    · lia
  have e : val 64 fs / 2 ^ (6 * fs.length % 8) = val 256 (a2run fs).1 := by
    rw [i5, Nat.mul_comm, Nat.mul_add_div (Nat.pow_pos (by lia)), Nat.div_eq_of_lt hl, Nat.add_zero]
  rw [e, ← i2, digs_val _ i3]
end Mine

/-! M2 -/
namespace Mine
open PySem PySem.W PySem.Calls PyProof.Rows
/-! ## the encoder -/
theorem enc_step (N k lb : Nat) (h : 6 ≤ lb) (h2 : lb ≤ 16) : digs 64 (k + 1) (N / 2 ^ (lb - 6)) = digs 64 k (N / 2 ^ lb) ++ [N % 65536 / 2 ^ (lb - 6) % 64] := by
  rw [digs_succ, Nat.div_div_eq_div_mul]
  have e : 2 ^ (lb - 6) * 64 = 2 ^ lb := by
    rw [show (64 : Nat) = 2 ^ 6 by rfl, ← Nat.pow_add]
    congr 1; lia
  rw [e]
  congr 2
  -- the low sixteen bits are enough
  have e2 : (65536 : Nat) = 2 ^ (lb - 6) * (64 * 2 ^ (16 - lb)) := by
    rw [show (64 : Nat) = 2 ^ 6 by rfl, ← Nat.pow_add, ← Nat.pow_add, show (65536 : Nat) = 2 ^ 16 by rfl]
    congr 1; lia
  rw [e2, Nat.mod_mul_right_div_self, Nat.mod_mul_right_mod]
end Mine

/-! M3 -/
namespace Mine
open PySem PySem.W PySem.Calls PyProof.Rows
/-! what one item gives -/
noncomputable def isQ (v : List Nat) : Bool := v.head? == some 34 && v.getLast? == some 34
noncomputable def unq (v : List Nat) : List Nat := if isQ v then (v.drop 1).take (v.length - 2) else v
/-- the dict so far, or what is raised -/
inductive PRes where
  | ok (es : List (Str × Str))
  | val
  | idx
noncomputable def pstep (es : List (Str × Str)) (l : List Nat) : PRes :=
  if 61 ∈ l then (if suf61 l = [] then .idx else .ok (put es (S (pre61 l)) (S (unq (suf61 l))))) else .val
noncomputable def prun : List (Str × Str) → List (List Nat) → PRes
  | es, [] => .ok es
  | es, l :: ls => match pstep es l with | .ok es' => prun es' ls | r => r
theorem prun_app : ∀ (a b : List (List Nat)) (es : List (Str × Str)), prun es (a ++ b) = match prun es a with | .ok es' => prun es' b | r => r
  | [], b, es => rfl
  | l :: a, b, es => by
    simp only [List.cons_append, prun]
    cases pstep es l with
    | ok es' => exact prun_app a b es'
    | val => rfl
    | idx => rfl
theorem put_nodup {es : List (Str × Str)} {k v : Str} (h : (es.map (·.1)).Nodup) : ((put es k v).map (·.1)).Nodup := by
  unfold put
  split
  · have : (es.map fun p => if p.1 = k then (p.1, v) else p).map (·.1) = es.map (·.1) := by
      rw [List.map_map]; apply List.map_congr_left; intro p _; simp only [Function.comp]; split <;> rfl
    rw [this]; exact h
  · rename_i hn
    rw [List.map_append, List.nodup_append]
    refine ⟨h, by simp, ?_⟩
    intro a ha b hb
    simp at hb
    subst hb
    rintro rfl
    apply hn
    obtain ⟨p, hp, e⟩ := List.mem_map.mp ha
    exact List.any_eq_true.mpr ⟨p, hp, by simpa using e⟩
theorem put_length {es : List (Str × Str)} {k v : Str} : (put es k v).length ≤ es.length + 1 := by
  unfold put
  split
  · simp
  · simp


section
variable (fs : List Nat) (k : Nat)
noncomputable def txt : List Nat := fs ++ List.replicate k 61
noncomputable def item (p : Nat) : List Nat := (txt fs k).take p ++ ([61] ++ (txt fs k).drop p)
noncomputable def dueP (p : Nat) : Str × Str := (S (fs.take p), S (fs.drop p ++ List.replicate k 61))
noncomputable def items (m : Nat) : List (List Nat) := (List.range m).map (item fs k)
noncomputable def dues (m : Nat) : List (Str × Str) := (List.range m).map (dueP fs k)
variable {fs k}
end
end Mine

/-! M4 -/
namespace Mine
open PySem PySem.W PySem.Calls PyProof.Rows
noncomputable def revSum (l : List Nat) : Int := (((List.range l.length).zip l.reverse).map fun p => (p.2 : Int) * 256 ^ p.1).sum
theorem flat1 (l : List Nat) : (l.map fun c => [c]).flatten = l := by
  induction l with
  | nil => rfl
  | cons a l ih => simp [ih]
theorem sum1 (l : List Nat) : ((l.map fun c => [c]).map List.length).sum = l.length := by
  induction l with
  | nil => rfl
  | cons a l ih => rw [List.map_cons, List.map_cons, List.sum_cons, ih, List.length_cons]; simp; lia
/-! data that == reads -/
theorem strOk_S {l : List Nat} (h : ∀ c ∈ l, c < 128) : PyData.strOk (S l) = true := by
  unfold PyData.strOk S
  rw [Array.all_eq_true]
  intro i hi
  have := h (l[i]'(by simpa using hi)) (List.getElem_mem _)
  simp only [List.getElem_toArray, decide_eq_true_eq]
  lia
theorem okD_pairs {es : List (Str × Str)} (h : ∀ p ∈ es, PyData.strOk p.1 = true ∧ PyData.strOk p.2 = true) : okD 2 (.lst (es.map pairD)) := by
  have key : ∀ l : List (Str × Str), (∀ p ∈ l, PyData.strOk p.1 = true ∧ PyData.strOk p.2 = true) → okDs 1 (l.map pairD) := by
    intro l
    induction l with
    | nil => intro _; exact trivial
    | cons p l ih =>
      intro h
      have := h p (List.mem_cons_self ..)
      exact ⟨⟨this.1, this.2, trivial⟩, ih fun q hq => h q (List.mem_cons_of_mem _ hq)⟩
  exact key es h
theorem val_lt {b : Nat} (hb : 0 < b) (l : List Nat) (h : ∀ d ∈ l, d < b) : val b l < b ^ l.length := by
  induction l using snoc_ind with
  | h0 => simp [val]
  | h1 l a ih =>
    rw [val_snoc, List.length_append, List.length_singleton, Nat.pow_succ]
    have h1 := ih fun d hd => h d (by simp [hd])
    have h2 := h a (by simp)
    have h3 : (val b l + 1) * b ≤ b ^ l.length * b := Nat.mul_le_mul_right _ h1
    rw [Nat.add_mul] at h3
    lia
/-! every few items -/
/-! sums over lengths, by looking -/
set_option synthInstance.maxHeartbeats 2000000 in
set_option synthInstance.maxSize 4000 in
theorem ar1 : ∀ i : Nat, i < 101 → ∀ m : Nat, m < 14 → m % 6 = 8 * (i + 1) % 6 → m ≤ 8 * (i + 1) → ((8 * (i + 1) - m) / 6 ≤ 1000 ∧ (6 ≤ m → (8 * (i + 1) - (m - 6)) / 6 = (8 * (i + 1) - m) / 6 + 1 ∧ (m - 6) % 6 = 8 * (i + 1) % 6) ∧
    (¬ 6 ≤ m → m = 8 * (i + 1) % 6 ∧ (8 * (i + 1) - m) / 6 = 8 * (i + 1) / 6)) := by decide +kernel
theorem ar2 : ∀ i : Nat, i < 101 → (8 * (i + 1) - (8 * i % 6 + 8)) / 6 = 8 * i / 6 ∧ (8 * i % 6 + 8) % 6 = 8 * (i + 1) % 6 ∧ 8 * i % 6 + 8 ≤ 8 * (i + 1) ∧ 8 * i % 6 + 8 ≤ 13 := by decide +kernel
theorem ar4 : ∀ n : Nat, n < 101 → (8 * n % 6 = 2 → n % 3 = 1 ∧ (3 - n % 3) % 3 = 2 ∧ (8 * n + 5) / 6 = 8 * n / 6 + 1) ∧ (8 * n % 6 = 4 → n % 3 = 2 ∧ (3 - n % 3) % 3 = 1 ∧ (8 * n + 5) / 6 = 8 * n / 6 + 1) ∧
    (¬ 8 * n % 6 = 2 → ¬ 8 * n % 6 = 4 → n % 3 = 0 ∧ (3 - n % 3) % 3 = 0 ∧ (8 * n + 5) / 6 = 8 * n / 6 ∧ 8 * n % 6 = 0) := by decide +kernel
theorem shr2 (N : Nat) : N * 4 ^ 2 / 64 = N / 2 ^ 2 := by rw [show 64 = 4 * 4 ^ 2 from rfl, Nat.mul_div_mul_right _ _ (by decide)]
theorem shr4 (N : Nat) : N * 4 ^ 1 / 64 = N / 2 ^ 4 := by rw [show 64 = 16 * 4 ^ 1 from rfl, Nat.mul_div_mul_right _ _ (by decide)]
theorem mor2 (N : Nat) : N * 4 ^ 2 % 64 = N % 4 * 16 := by rw [show 64 = 4 * 4 ^ 2 from rfl, Nat.mul_mod_mul_right]
theorem mor4 (N : Nat) : N * 4 ^ 1 % 64 = N % 16 * 4 := by rw [show 64 = 16 * 4 ^ 1 from rfl, Nat.mul_mod_mul_right]
theorem le_line {n : Nat} (k : Nat) (h : n ≤ k) (hk : k ≤ 2000) : n ≤ sizeLine := Nat.le_trans h (Nat.le_trans hk (by decide))
/-- a fact out of the reckoner's sight -/
noncomputable def Hid (p : Prop) : Prop := p
end Mine

/-! M5 -/
namespace Mine
open PySem PySem.W PySem.Calls PyProof.Rows
/-! the figures ahead of the first equals sign, and those behind it -/
noncomputable def preE (e : Nat) (l : List Nat) : List Nat := l.takeWhile (· != e)
noncomputable def sufE (e : Nat) (l : List Nat) : List Nat := (l.dropWhile (· != e)).drop 1
theorem all_ne {e : Nat} {l : List Nat} (h : e ∉ l) : ∀ x ∈ l, (x != e) = true := fun x hx => by
  simp only [bne_iff_ne, ne_eq]; rintro rfl; exact h hx
theorem tw_no (e : Nat) : ∀ l : List Nat, e ∉ l.takeWhile (· != e)
  | [] => by simp
  | x :: l => by
    by_cases hx : x = e
    · subst hx; rw [List.takeWhile_cons_of_neg (by simp)]; simp
    · rw [List.takeWhile_cons_of_pos (by simpa using hx)]
      intro q
      rcases List.mem_cons.mp q with q | q
      · exact hx q.symm
      · exact tw_no e l q
theorem preE_in {e : Nat} {l : List Nat} {i : Nat} (h : e ∉ l.take (i + 1)) (hi : i < l.length) : (preE e l).take (i + 1) = (preE e l).take i ++ [l.getD i 0] := by
  have h1 : preE e l = l.take (i + 1) ++ preE e (l.drop (i + 1)) := by
    unfold preE
    conv => lhs; rw [← List.take_append_drop (i + 1) l]
    exact List.takeWhile_append_of_pos (all_ne h)
  have hl : (l.take (i + 1)).length = i + 1 := by rw [List.length_take]; omega
  have h2 : l.take (i + 1) = l.take i ++ [l.getD i 0] := by
    rw [List.take_add_one, List.getD_eq_getElem?_getD, List.getElem?_eq_getElem hi]; rfl
  have hl2 : (l.take i).length = i := by rw [List.length_take]; omega
  rw [h1, List.take_append_of_le_length (by omega), List.take_of_length_le (by omega), List.take_append_of_le_length (by omega), List.take_take, Nat.min_eq_left (by omega)]
  exact h2
theorem preE_len {e : Nat} {l : List Nat} {i : Nat} (h : e ∈ l.take (i + 1)) : (preE e l).length ≤ i := by
  unfold preE
  have h1 : l.takeWhile (· != e) = (l.take (i + 1)).takeWhile (· != e) := by
    conv => lhs; rw [← List.take_append_drop (i + 1) l]
    rw [List.takeWhile_append]
    rw [if_neg]
    intro hc
    have hpre : (l.take (i + 1)).takeWhile (· != e) = l.take (i + 1) := (List.takeWhile_prefix _).eq_of_length hc
    exact tw_no e (l.take (i + 1)) (hpre.symm ▸ h)
  have h2 : ((l.take (i + 1)).takeWhile (· != e)).length < (l.take (i + 1)).length := by
    rcases Nat.lt_or_ge ((l.take (i + 1)).takeWhile (· != e)).length (l.take (i + 1)).length with q | q
    · exact q
    · have hpre : (l.take (i + 1)).takeWhile (· != e) = l.take (i + 1) := (List.takeWhile_prefix _).eq_of_length (Nat.le_antisymm (List.takeWhile_prefix _).length_le q)
      exact absurd (hpre.symm ▸ h) (tw_no e (l.take (i + 1)))
  rw [h1]
  have h3 : (l.take (i + 1)).length ≤ i + 1 := by rw [List.length_take]; omega
  omega
theorem drop_in {e : Nat} : ∀ {a b : List Nat}, e ∈ a → sufE e (a ++ b) = sufE e a ++ b
  | x :: a, b, h => by
    unfold sufE
    by_cases hx : x = e
    · subst hx
      rw [List.cons_append, List.dropWhile_cons_of_neg (by simp), List.dropWhile_cons_of_neg (by simp)]; rfl
    · have h' : e ∈ a := by
        rcases List.mem_cons.mp h with q | q
        · exact absurd q.symm hx
        · exact q
      rw [List.cons_append, List.dropWhile_cons_of_pos (by simpa using hx), List.dropWhile_cons_of_pos (by simpa using hx)]
      exact drop_in h'
theorem sufE_no {e : Nat} {a : List Nat} (h : e ∉ a) : sufE e a = [] := by
  have := List.dropWhile_append_of_pos (l₂ := []) (all_ne h)
  rw [List.append_nil] at this
  unfold sufE
  rw [this]; rfl
theorem sufE_one {e x : Nat} {a : List Nat} (h : e ∉ a) : sufE e (a ++ [x]) = [] := by
  unfold sufE
  rw [List.dropWhile_append_of_pos (all_ne h)]
  by_cases hx : x = e
  · subst hx; rw [List.dropWhile_cons_of_neg (by simp)]; rfl
  · rw [List.dropWhile_cons_of_pos (by simpa using hx)]; rfl
end Mine

/-! Hd01 -/
namespace Mine
open PySem PySem.W PySem.Calls PyProof.Rows
/-! ## the head -/
noncomputable def hd01.view : Program := PySem.W.view PySem.Challenge.pw_qh0086_01 [0,2,4,5,7,8,9,10,11,12,19,20,21,22,23,24,25,26,27,28,29]
noncomputable abbrev hd01.loose : List Str := ["bytes_types", "a2b_base64", "b2a_base64", "b64encode", "b64decode"]
noncomputable def fnO (i : Nat) (dv kv : Value) (m : Str) (mt : Tok) (cd : Addr) : Obj := match PySem.Challenge.pw_qh0086_01.main.body[i]? with
  | some (.FunctionDef name params body _ _ _ scope _ _ _) => { cls := .type "function", data := .func { name := name, qualname := name, params := params, body := .stmts body, scope := scope, globals := 3, closure := [], defaults := dv, kwdefaults := kv, pyModule := .str m mt, code := .ref cd } }
  | _ => default
noncomputable def codeO (nm : Str) (t line n1 n2 n3 a : Nat) (b c : Value) (d x : Nat) : Obj := { cls := .type "code", data := .fields #[.str nm t, .str nm (t + 1), .str "/claim/cut.py" (t + 2), .int line 0, .int n1 0, .int n2 0, .int n3 0, .int 3 0, .ref a, .bool true, .int 181 0, .ref (a + 1), .none, b, c, .ref d, .int x 0, .int line 0, .str "/claim/cut.py" (x + 1)] }
noncomputable def entO (P : Params) (k : Str) (t : Tok) (v : Value) : DictEntry := ⟨PyData.keyHash P k, .str k t, v⟩
noncomputable def hd01.heap_39 (P : Params) : Frag := [
  (3, { cls := .type "dict", data := .dict #[entO P "__name__" 165 (.str "law_qh0086_01" 320), entO P "__doc__" 166 (.none), entO P "__package__" 167 (.none), entO P "__loader__" 168 (.builtin "__main__.__loader__#opaque"), entO P "__spec__" 169 (.none), entO P "__annotations__" 170 (.ref 6), entO P "__builtins__" 171 (.ref 4), entO P "__file__" 173 (.str "/claim/cut.py" 172), entO P "__cached__" 174 (.none), entO P "_wall" 193 (.ref 21), entO P "parse_keqv_list" 206 (.ref 28), entO P "bytes_types" 209 (.ref 29), entO P "_bytes_from_decode_data" 216 (.ref 36), entO P "Error" 236 (.ref 46), entO P "_ascii_buffer" 244 (.ref 56), entO P "_buffer" 252 (.ref 63), entO P "_truth" 260 (.ref 70), entO P "_B64" 262 (.bytes #[65, 66, 67, 68, 69, 70, 71, 72, 73, 74, 75, 76, 77, 78, 79, 80, 81, 82, 83, 84, 85, 86, 87, 88, 89, 90, 97, 98, 99, 100, 101, 102, 103, 104, 105, 106, 107, 108, 109, 110, 111, 112, 113, 114, 115, 116, 117, 118, 119, 120, 121, 122, 48, 49, 50, 51, 52, 53, 54, 55, 56, 57, 43, 47] 261), entO P "_b64_value" 269 (.ref 77), entO P "a2b_base64" 285 (.ref 85), entO P "b2a_base64" 299 (.ref 93), entO P "b64encode" 310 (.ref 101), entO P "b64decode" 319 (.ref 109), entO P "_law_figures" 331 (.ref 116), entO P "_law_octets" 337 (.ref 121), entO P "_law_kept" 343 (.ref 126), entO P "_law_text" 349 (.ref 131), entO P "_law_pair" 355 (.ref 136), entO P "_law_merged" 361 (.ref 141), entO P "_law_due" 367 (.ref 146), entO P "_law_list" 374 (.ref 153), entO P "_law_read" 381 (.ref 160), entO P "_law_told" 391 (.ref 167), entO P "law" 397 (.ref 172)] 34 }),
  (20, codeO "_wall" 187 1 1 0 0 15 (.ref 17) (.ref 18) 19 191),
  (21, fnO 0 .none .none "__main__" 164 20),
  (27, codeO "parse_keqv_list" 196 5 1 0 0 22 (.ref 24) (.ref 25) 26 204),
  (28, fnO 2 .none .none "cpy313.urllib.request" 194 27),
  (29, { cls := .type "tuple", data := .seq #[.type "bytes", .type "bytearray"] }),
  (35, codeO "_bytes_from_decode_data" 210 15 1 0 0 30 (.ref 32) (.ref 33) 34 214),
  (36, fnO 5 .none .none "cpy313.base64" 207 35),
  (45, { cls := .type "dict", data := .dict #[entO P "__module__" 226 (.str "binascii" 217), entO P "__firstlineno__" 230 (.int 28 229), entO P "__static_attributes__" 231 (.ref 44), entO P "__weakref__" 233 (.ref 47), entO P "__doc__" 234 (.none)] 3 }),
  (46, { cls := .type "type", data := .cls { name := "Error", bases := [.type "ValueError"], mro := [.ref 46, .type "ValueError", .type "Exception", .type "BaseException", .type "object"], ns := 45, qualname := "Error" }, slots := #[some (.ref 37), none, some (.str "Error" 219), some (.str "Error" 227), some (.builtin "ValueError.__new__"), some (.bool true)] }),
  (55, codeO "_ascii_buffer" 237 30 1 0 0 50 (.ref 52) (.ref 53) 54 242),
  (56, fnO 8 .none .none "binascii" 217 55),
  (62, codeO "_buffer" 245 41 1 0 0 57 (.ref 59) (.ref 60) 61 250),
  (63, fnO 9 .none .none "binascii" 217 62),
  (69, codeO "_truth" 253 48 1 0 0 64 (.ref 66) (.ref 67) 68 258),
  (70, fnO 10 .none .none "binascii" 217 69),
  (76, codeO "_b64_value" 263 54 1 0 0 71 (.ref 73) (.ref 74) 75 267),
  (77, fnO 12 .none .none "binascii" 217 76),
  (78, { cls := .type "dict", data := .dict #[entO P "strict_mode" 270 (.bool false)] 1 }),
  (84, codeO "a2b_base64" 271 66 1 1 1 79 (.ref 81) (.ref 82) 83 283),
  (85, fnO 13 .none (.ref 78) "binascii" 217 84),
  (86, { cls := .type "dict", data := .dict #[entO P "newline" 286 (.bool true)] 1 }),
  (92, codeO "b2a_base64" 287 120 1 1 1 87 (.ref 89) (.ref 90) 91 297),
  (93, fnO 14 .none (.ref 86) "binascii" 217 92),
  (94, { cls := .type "tuple", data := .seq #[.none] }),
  (100, codeO "b64encode" 302 143 2 0 0 95 (.ref 97) (.ref 98) 99 308),
  (101, fnO 16 (.ref 94) .none "cpy313.base64" 300 100),
  (102, { cls := .type "tuple", data := .seq #[.none, .bool false] }),
  (108, codeO "b64decode" 311 149 3 0 0 103 (.ref 105) (.ref 106) 107 317),
  (109, fnO 17 (.ref 102) .none "cpy313.base64" 300 108),
  (115, codeO "_law_figures" 322 157 1 0 0 110 (.ref 112) (.ref 113) 114 329),
  (116, fnO 19 .none .none "law_qh0086_01" 320 115),
  (120, codeO "_law_octets" 332 164 1 0 0 117 .none .none 119 335),
  (121, fnO 20 .none .none "law_qh0086_01" 320 120),
  (125, codeO "_law_kept" 338 170 2 0 0 122 .none .none 124 341),
  (126, fnO 21 .none .none "law_qh0086_01" 320 125),
  (130, codeO "_law_text" 344 174 2 0 0 127 .none .none 129 347),
  (131, fnO 22 .none .none "law_qh0086_01" 320 130),
  (135, codeO "_law_pair" 350 177 2 0 0 132 .none .none 134 353),
  (136, fnO 23 .none .none "law_qh0086_01" 320 135),
  (140, codeO "_law_merged" 356 188 1 0 0 137 .none .none 139 359),
  (141, fnO 24 .none .none "law_qh0086_01" 320 140),
  (145, codeO "_law_due" 362 194 2 0 0 142 .none .none 144 365),
  (146, fnO 25 .none .none "law_qh0086_01" 320 145),
  (152, codeO "_law_list" 368 199 1 0 0 147 (.ref 149) (.ref 150) 151 372),
  (153, fnO 26 .none .none "law_qh0086_01" 320 152),
  (159, codeO "_law_read" 375 206 1 0 0 154 (.ref 156) (.ref 157) 158 379),
  (160, fnO 27 .none .none "law_qh0086_01" 320 159),
  (166, codeO "_law_told" 382 212 2 0 0 161 (.ref 163) (.ref 164) 165 389),
  (167, fnO 28 .none .none "law_qh0086_01" 320 166),
  (171, codeO "law" 392 218 1 0 0 168 .none .none 170 395),
  (172, fnO 29 .none .none "law_qh0086_01" 320 171)]
noncomputable abbrev hd01.addrs : List Addr := [3, 20, 21, 27, 28, 29, 35, 36, 45, 46, 55, 56, 62, 63, 69, 70, 76, 77, 78, 84, 85, 86, 92, 93, 94, 100, 101, 102, 108, 109, 115, 116, 120, 121, 125, 126, 130, 131, 135, 136, 140, 141, 145, 146, 152, 153, 159, 160, 166, 167, 171, 172]
noncomputable def hd01.hook : Hook := kHook hd01.heap_39 hd01.addrs (fun _ => by kernel_rfl)
theorem hd01.left : LeftO PySem.Challenge.rw_qh0086_01.row.toRowW.prog hd01.view hd01.loose (fun s => xlAt hd01.view [] s && recOk (RowW.records PySem.Challenge.rw_qh0086_01.row.toRowW) s) (Hook.obs hd01.hook) (Hook.val hd01.hook) 1958 := by
  intro w; kernel_rfl
end Mine

namespace Mine
open PySem PySem.W PySem.Calls PyProof.Rows
/-! V1 -/
noncomputable def b64v (c : Int) : Int := if 65 ≤ c ∧ c ≤ 90 then c - 65 else if 97 ≤ c ∧ c ≤ 122 then c - 71 else if 48 ≤ c ∧ c ≤ 57 then c + 4 else if c = 43 then 62 else if c = 47 then 63 else 64
theorem fn_b64_value (g : Gx) (hK : g.K = hd01.heap_39 g.w.params) (c : Int) : FnOk g 1 (.ref 77) [.int c] [] [] (fun d => d = .int (b64v c)) NoX := by
  refine fn_def (r := 0) (bs := [("c", .int c)]) (by rw [hK]; rfl) (by rw [hK]; rfl) (binds1 (by intro v; rfl)) ?_ ["c"]
  intro C hC
  obtain rfl := hC.g
  have hsc := hC.scope
  dsimp only [List.map]
  refine ex_cons ?_
  refine ex_if ?_
  refine evb_chain ?_
  with_reducible refine ev_int ?_
  refine ev_name (by (repeat' (first | with_reducible exact lk_here | refine lk_there (by decide +kernel) ?_ | refine lk_free (by decide +kernel) ?_ | with_reducible assumption))) ?_ (by decide +kernel) (by decide +kernel)
  with_reducible refine pr_le_int ?_
  with_reducible refine chain_ex (fun _ => ?_) (fun _ => ?_)
  with_reducible refine br_f ?_
  refine ex_nil ?_
  with_reducible refine then_next ?_
  refine ex_cons ?_
  refine ex_if ?_
  refine evb_chain ?_
  with_reducible refine ev_int ?_
  refine ev_name (by (repeat' (first | with_reducible exact lk_here | refine lk_there (by decide +kernel) ?_ | refine lk_free (by decide +kernel) ?_ | with_reducible assumption))) ?_ (by decide +kernel) (by decide +kernel)
  with_reducible refine pr_le_int ?_
  with_reducible refine chain_neg (by lia) ?_
  with_reducible refine br_f ?_
  refine ex_nil ?_
  with_reducible refine then_next ?_
  refine ex_cons ?_
  refine ex_if ?_
  refine evb_chain ?_
  with_reducible refine ev_int ?_
  refine ev_name (by (repeat' (first | with_reducible exact lk_here | refine lk_there (by decide +kernel) ?_ | refine lk_free (by decide +kernel) ?_ | with_reducible assumption))) ?_ (by decide +kernel) (by decide +kernel)
  with_reducible refine pr_le_int ?_
  with_reducible refine chain_ex (fun _ => ?_) (fun _ => ?_)
  with_reducible refine br_f ?_
  refine ex_nil ?_
  with_reducible refine then_next ?_
  refine ex_cons ?_
  refine ex_if ?_
  refine evb_compare ?_
  refine ev_name (by (repeat' (first | with_reducible exact lk_here | refine lk_there (by decide +kernel) ?_ | refine lk_free (by decide +kernel) ?_ | with_reducible assumption))) ?_ (by decide +kernel) (by decide +kernel)
  with_reducible refine ev_int ?_
  with_reducible refine pr_eq_int ?_
  refine tr_bool ?_
  with_reducible refine br (fun _ => ?_) (fun _ => ?_)
  refine ex_cons ?_
  refine ex_return ?_
  with_reducible refine ev_int ?_
  rotate_left
  refine ex_nil ?_
  with_reducible refine then_next ?_
  refine ex_cons ?_
  refine ex_if ?_
  refine evb_compare ?_
  refine ev_name (by (repeat' (first | with_reducible exact lk_here | refine lk_there (by decide +kernel) ?_ | refine lk_free (by decide +kernel) ?_ | with_reducible assumption))) ?_ (by decide +kernel) (by decide +kernel)
  with_reducible refine ev_int ?_
  with_reducible refine pr_eq_int ?_
  refine tr_bool ?_
  with_reducible refine br (fun _ => ?_) (fun _ => ?_)
  refine ex_cons ?_
  refine ex_return ?_
  with_reducible refine ev_int ?_
  rotate_left
  refine ex_nil ?_
  with_reducible refine then_next ?_
  refine ex_cons ?_
  refine ex_return ?_
  with_reducible refine ev_int ?_
  rotate_left
  with_reducible refine ev_int ?_
  with_reducible refine pr_le_int ?_
  refine tr_bool ?_
  with_reducible refine br (fun _ => ?_) (fun _ => ?_)
  refine ex_cons ?_
  refine ex_return ?_
  refine ev_binop ?_
  refine ev_name (by (repeat' (first | with_reducible exact lk_here | refine lk_there (by decide +kernel) ?_ | refine lk_free (by decide +kernel) ?_ | with_reducible assumption))) ?_ (by decide +kernel) (by decide +kernel)
  with_reducible refine ev_int ?_
  with_reducible refine pr_add_int ?_
  rotate_left
  refine ex_nil ?_
  with_reducible refine then_next ?_
  refine ex_cons ?_
  refine ex_if ?_
  refine evb_compare ?_
  refine ev_name (by (repeat' (first | with_reducible exact lk_here | refine lk_there (by decide +kernel) ?_ | refine lk_free (by decide +kernel) ?_ | with_reducible assumption))) ?_ (by decide +kernel) (by decide +kernel)
  with_reducible refine ev_int ?_
  with_reducible refine pr_eq_int ?_
  refine tr_bool ?_
  with_reducible refine br_neg (by lia) ?_
  refine ex_nil ?_
  with_reducible refine then_next ?_
  refine ex_cons ?_
  refine ex_if ?_
  refine evb_compare ?_
  refine ev_name (by (repeat' (first | with_reducible exact lk_here | refine lk_there (by decide +kernel) ?_ | refine lk_free (by decide +kernel) ?_ | with_reducible assumption))) ?_ (by decide +kernel) (by decide +kernel)
  with_reducible refine ev_int ?_
  with_reducible refine pr_eq_int ?_
  refine tr_bool ?_
  with_reducible refine br_neg (by lia) ?_
  refine ex_nil ?_
  with_reducible refine then_next ?_
  refine ex_cons ?_
  refine ex_return ?_
  with_reducible refine ev_int ?_
  rotate_left
  with_reducible refine ev_int ?_
  with_reducible refine pr_le_int ?_
  refine tr_bool ?_
  with_reducible refine br (fun _ => ?_) (fun _ => ?_)
  refine ex_cons ?_
  refine ex_return ?_
  refine ev_binop ?_
  refine ev_name (by (repeat' (first | with_reducible exact lk_here | refine lk_there (by decide +kernel) ?_ | refine lk_free (by decide +kernel) ?_ | with_reducible assumption))) ?_ (by decide +kernel) (by decide +kernel)
  with_reducible refine ev_int ?_
  with_reducible refine pr_sub_int ?_
  rotate_left
  refine ex_nil ?_
  with_reducible refine then_next ?_
  refine ex_cons ?_
  refine ex_if ?_
  refine evb_chain ?_
  with_reducible refine ev_int ?_
  refine ev_name (by (repeat' (first | with_reducible exact lk_here | refine lk_there (by decide +kernel) ?_ | refine lk_free (by decide +kernel) ?_ | with_reducible assumption))) ?_ (by decide +kernel) (by decide +kernel)
  with_reducible refine pr_le_int ?_
  with_reducible refine chain_ex (fun _ => ?_) (fun _ => ?_)
  with_reducible refine br_f ?_
  refine ex_nil ?_
  with_reducible refine then_next ?_
  refine ex_cons ?_
  refine ex_if ?_
  refine evb_chain ?_
  with_reducible refine ev_int ?_
  refine ev_name (by (repeat' (first | with_reducible exact lk_here | refine lk_there (by decide +kernel) ?_ | refine lk_free (by decide +kernel) ?_ | with_reducible assumption))) ?_ (by decide +kernel) (by decide +kernel)
  with_reducible refine pr_le_int ?_
  with_reducible refine chain_pos (by lia) ?_
  with_reducible refine ev_int ?_
  with_reducible refine pr_le_int ?_
  refine tr_bool ?_
  with_reducible refine br_neg (by lia) ?_
  refine ex_nil ?_
  with_reducible refine then_next ?_
  refine ex_cons ?_
  refine ex_if ?_
  refine evb_compare ?_
  refine ev_name (by (repeat' (first | with_reducible exact lk_here | refine lk_there (by decide +kernel) ?_ | refine lk_free (by decide +kernel) ?_ | with_reducible assumption))) ?_ (by decide +kernel) (by decide +kernel)
  with_reducible refine ev_int ?_
  with_reducible refine pr_eq_int ?_
  refine tr_bool ?_
  with_reducible refine br_neg (by lia) ?_
  refine ex_nil ?_
  with_reducible refine then_next ?_
  refine ex_cons ?_
  refine ex_if ?_
  refine evb_compare ?_
  refine ev_name (by (repeat' (first | with_reducible exact lk_here | refine lk_there (by decide +kernel) ?_ | refine lk_free (by decide +kernel) ?_ | with_reducible assumption))) ?_ (by decide +kernel) (by decide +kernel)
  with_reducible refine ev_int ?_
  with_reducible refine pr_eq_int ?_
  refine tr_bool ?_
  with_reducible refine br_neg (by lia) ?_
  refine ex_nil ?_
  with_reducible refine then_next ?_
  refine ex_cons ?_
  refine ex_return ?_
  with_reducible refine ev_int ?_
  rotate_left
  with_reducible refine ev_int ?_
  with_reducible refine pr_le_int ?_
  refine tr_bool ?_
  with_reducible refine br (fun _ => ?_) (fun _ => ?_)
  refine ex_cons ?_
  refine ex_return ?_
  refine ev_binop ?_
  refine ev_name (by (repeat' (first | with_reducible exact lk_here | refine lk_there (by decide +kernel) ?_ | refine lk_free (by decide +kernel) ?_ | with_reducible assumption))) ?_ (by decide +kernel) (by decide +kernel)
  with_reducible refine ev_int ?_
  with_reducible refine pr_sub_int ?_
  rotate_left
  refine ex_nil ?_
  with_reducible refine then_next ?_
  refine ex_cons ?_
  refine ex_if ?_
  refine evb_chain ?_
  with_reducible refine ev_int ?_
  refine ev_name (by (repeat' (first | with_reducible exact lk_here | refine lk_there (by decide +kernel) ?_ | refine lk_free (by decide +kernel) ?_ | with_reducible assumption))) ?_ (by decide +kernel) (by decide +kernel)
  with_reducible refine pr_le_int ?_
  with_reducible refine chain_pos (by lia) ?_
  with_reducible refine ev_int ?_
  with_reducible refine pr_le_int ?_
  refine tr_bool ?_
  with_reducible refine br_neg (by lia) ?_
  refine ex_nil ?_
  with_reducible refine then_next ?_
  refine ex_cons ?_
  refine ex_if ?_
  refine evb_compare ?_
  refine ev_name (by (repeat' (first | with_reducible exact lk_here | refine lk_there (by decide +kernel) ?_ | refine lk_free (by decide +kernel) ?_ | with_reducible assumption))) ?_ (by decide +kernel) (by decide +kernel)
  with_reducible refine ev_int ?_
  with_reducible refine pr_eq_int ?_
  refine tr_bool ?_
  with_reducible refine br_neg (by lia) ?_
  refine ex_nil ?_
  with_reducible refine then_next ?_
  refine ex_cons ?_
  refine ex_if ?_
  refine evb_compare ?_
  refine ev_name (by (repeat' (first | with_reducible exact lk_here | refine lk_there (by decide +kernel) ?_ | refine lk_free (by decide +kernel) ?_ | with_reducible assumption))) ?_ (by decide +kernel) (by decide +kernel)
  with_reducible refine ev_int ?_
  with_reducible refine pr_eq_int ?_
  refine tr_bool ?_
  with_reducible refine br_neg (by lia) ?_
  refine ex_nil ?_
  with_reducible refine then_next ?_
  refine ex_cons ?_
  refine ex_return ?_
  with_reducible refine ev_int ?_
  rotate_left
  all_goals exact congrArg D.int (by unfold b64v; (repeat' split) <;> lia)

/-! V2 -/
theorem fn_truth (g : Gx) (hK : g.K = hd01.heap_39 g.w.params) (b : Bool) : FnOk g 1 (.ref 70) [.bool b] [] [] (fun d => d = .bool b) NoX := by
  refine fn_def (r := 0) (bs := [("x", .bool b)]) (by rw [hK]; rfl) (by rw [hK]; rfl) (binds1 (by intro v; rfl)) ?_ ["x"]
  intro C hC
  obtain rfl := hC.g
  have hsc := hC.scope
  dsimp only [List.map]
  cases b
  · refine ex_cons ?_
    refine ex_assign (by (first | exact st_loc (by with_reducible assumption) (by decide +kernel) | exact st_cell (by with_reducible assumption) (by first | with_reducible assumption | exact FnCx.comp (by assumption)) (by decide +kernel))) ?_
    refine ev_call ?_
    refine ev_typeK (by with_reducible assumption) (by with_reducible assumption) (by decide +kernel) (by intro _; kernel_rfl) (by with_reducible exact bb_type) ?_ (by decide +kernel) (by decide +kernel)
    refine call_pos0 (by (first | exact keep_B | exact keep_T | exact keepK (by with_reducible assumption) (by intro _; kernel_rfl))) ?_
    refine evl_cons ?_
    refine ev_name (by (repeat' (first | with_reducible exact lk_here | refine lk_there (by decide +kernel) ?_ | refine lk_free (by decide +kernel) ?_ | with_reducible assumption))) ?_ (by decide +kernel) (by decide +kernel)
    refine evl_nil ?_
    with_reducible refine cl_type_bool ?_
    with_reducible refine then_next ?_
    refine ex_cons ?_
    refine ex_if ?_
    refine evb_or ?_
    refine evb_compare ?_
    refine ev_name (by (repeat' (first | with_reducible exact lk_here | refine lk_there (by decide +kernel) ?_ | refine lk_free (by decide +kernel) ?_ | with_reducible assumption))) ?_ (by decide +kernel) (by decide +kernel)
    with_reducible refine ev_none ?_
    refine pr_is (t := false) (by rfl) (by rfl) ?_
    refine tr_bool ?_
    with_reducible refine br_f ?_
    refine evb_or ?_
    refine evb_compare ?_
    refine ev_name (by (repeat' (first | with_reducible exact lk_here | refine lk_there (by decide +kernel) ?_ | refine lk_free (by decide +kernel) ?_ | with_reducible assumption))) ?_ (by decide +kernel) (by decide +kernel)
    refine ev_typeK (by with_reducible assumption) (by with_reducible assumption) (by decide +kernel) (by intro _; kernel_rfl) (by with_reducible exact bb_bool) ?_ (by decide +kernel) (by decide +kernel)
    refine pr_is (t := true) (by rfl) (by rfl) ?_
    refine tr_bool ?_
    with_reducible refine br_t ?_
    with_reducible refine br_t ?_
    refine ex_cons ?_
    refine ex_return ?_
    refine ev_ifexp ?_
    refine evb_plain ?_
    refine ev_name (by (repeat' (first | with_reducible exact lk_here | refine lk_there (by decide +kernel) ?_ | refine lk_free (by decide +kernel) ?_ | with_reducible assumption))) ?_ (by decide +kernel) (by decide +kernel)
    refine tr_bool ?_
    with_reducible refine br_f ?_
    with_reducible refine ev_bool ?_
    exact rfl
  · refine ex_cons ?_
    refine ex_assign (by (first | exact st_loc (by with_reducible assumption) (by decide +kernel) | exact st_cell (by with_reducible assumption) (by first | with_reducible assumption | exact FnCx.comp (by assumption)) (by decide +kernel))) ?_
    refine ev_call ?_
    refine ev_typeK (by with_reducible assumption) (by with_reducible assumption) (by decide +kernel) (by intro _; kernel_rfl) (by with_reducible exact bb_type) ?_ (by decide +kernel) (by decide +kernel)
    refine call_pos0 (by (first | exact keep_B | exact keep_T | exact keepK (by with_reducible assumption) (by intro _; kernel_rfl))) ?_
    refine evl_cons ?_
    refine ev_name (by (repeat' (first | with_reducible exact lk_here | refine lk_there (by decide +kernel) ?_ | refine lk_free (by decide +kernel) ?_ | with_reducible assumption))) ?_ (by decide +kernel) (by decide +kernel)
    refine evl_nil ?_
    with_reducible refine cl_type_bool ?_
    with_reducible refine then_next ?_
    refine ex_cons ?_
    refine ex_if ?_
    refine evb_or ?_
    refine evb_compare ?_
    refine ev_name (by (repeat' (first | with_reducible exact lk_here | refine lk_there (by decide +kernel) ?_ | refine lk_free (by decide +kernel) ?_ | with_reducible assumption))) ?_ (by decide +kernel) (by decide +kernel)
    with_reducible refine ev_none ?_
    refine pr_is (t := false) (by rfl) (by rfl) ?_
    refine tr_bool ?_
    with_reducible refine br_f ?_
    refine evb_or ?_
    refine evb_compare ?_
    refine ev_name (by (repeat' (first | with_reducible exact lk_here | refine lk_there (by decide +kernel) ?_ | refine lk_free (by decide +kernel) ?_ | with_reducible assumption))) ?_ (by decide +kernel) (by decide +kernel)
    refine ev_typeK (by with_reducible assumption) (by with_reducible assumption) (by decide +kernel) (by intro _; kernel_rfl) (by with_reducible exact bb_bool) ?_ (by decide +kernel) (by decide +kernel)
    refine pr_is (t := true) (by rfl) (by rfl) ?_
    refine tr_bool ?_
    with_reducible refine br_t ?_
    with_reducible refine br_t ?_
    refine ex_cons ?_
    refine ex_return ?_
    refine ev_ifexp ?_
    refine evb_plain ?_
    refine ev_name (by (repeat' (first | with_reducible exact lk_here | refine lk_there (by decide +kernel) ?_ | refine lk_free (by decide +kernel) ?_ | with_reducible assumption))) ?_ (by decide +kernel) (by decide +kernel)
    refine tr_bool ?_
    with_reducible refine br_t ?_
    with_reducible refine ev_bool ?_
    exact rfl
theorem fn_buffer (g : Gx) (hK : g.K = hd01.heap_39 g.w.params) (b : Array UInt8) : FnOk g 1 (.ref 63) [.bytes b] [] [] (fun d => d = .bytes b) NoX := by
  refine fn_def (r := 0) (bs := [("data", .bytes b)]) (by rw [hK]; rfl) (by rw [hK]; rfl) (binds1 (by intro v; rfl)) ?_ ["data"]
  intro C hC
  obtain rfl := hC.g
  have hsc := hC.scope
  dsimp only [List.map]
  refine ex_cons ?_
  refine ex_assign (by (first | exact st_loc (by with_reducible assumption) (by decide +kernel) | exact st_cell (by with_reducible assumption) (by first | with_reducible assumption | exact FnCx.comp (by assumption)) (by decide +kernel))) ?_
  refine ev_call ?_
  refine ev_typeK (by with_reducible assumption) (by with_reducible assumption) (by decide +kernel) (by intro _; kernel_rfl) (by with_reducible exact bb_type) ?_ (by decide +kernel) (by decide +kernel)
  refine call_pos0 (by (first | exact keep_B | exact keep_T | exact keepK (by with_reducible assumption) (by intro _; kernel_rfl))) ?_
  refine evl_cons ?_
  refine ev_name (by (repeat' (first | with_reducible exact lk_here | refine lk_there (by decide +kernel) ?_ | refine lk_free (by decide +kernel) ?_ | with_reducible assumption))) ?_ (by decide +kernel) (by decide +kernel)
  refine evl_nil ?_
  refine cl_type (fun _ e => nomatch e) ?_
  with_reducible refine then_next ?_
  refine ex_cons ?_
  refine ex_if ?_
  refine evb_compare ?_
  refine ev_name (by (repeat' (first | with_reducible exact lk_here | refine lk_there (by decide +kernel) ?_ | refine lk_free (by decide +kernel) ?_ | with_reducible assumption))) ?_ (by decide +kernel) (by decide +kernel)
  refine ev_typeK (by with_reducible assumption) (by with_reducible assumption) (by decide +kernel) (by intro _; kernel_rfl) (by with_reducible exact bb_bytes) ?_ (by decide +kernel) (by decide +kernel)
  refine pr_is (t := true) (by rfl) (by rfl) ?_
  refine tr_bool ?_
  with_reducible refine br_t ?_
  refine ex_cons ?_
  refine ex_return ?_
  refine ev_name (by (repeat' (first | with_reducible exact lk_here | refine lk_there (by decide +kernel) ?_ | refine lk_free (by decide +kernel) ?_ | with_reducible assumption))) ?_ (by decide +kernel) (by decide +kernel)
  exact rfl
theorem fn_ascii_buffer (g : Gx) (hK : g.K = hd01.heap_39 g.w.params) (b : Array UInt8) : FnOk g 1 (.ref 56) [.bytes b] [] [] (fun d => d = .bytes b) NoX := by
  refine fn_def (r := 0) (bs := [("data", .bytes b)]) (by rw [hK]; rfl) (by rw [hK]; rfl) (binds1 (by intro v; rfl)) ?_ ["data"]
  intro C hC
  obtain rfl := hC.g
  have hsc := hC.scope
  dsimp only [List.map]
  refine ex_cons ?_
  refine ex_assign (by (first | exact st_loc (by with_reducible assumption) (by decide +kernel) | exact st_cell (by with_reducible assumption) (by first | with_reducible assumption | exact FnCx.comp (by assumption)) (by decide +kernel))) ?_
  refine ev_call ?_
  refine ev_typeK (by with_reducible assumption) (by with_reducible assumption) (by decide +kernel) (by intro _; kernel_rfl) (by with_reducible exact bb_type) ?_ (by decide +kernel) (by decide +kernel)
  refine call_pos0 (by (first | exact keep_B | exact keep_T | exact keepK (by with_reducible assumption) (by intro _; kernel_rfl))) ?_
  refine evl_cons ?_
  refine ev_name (by (repeat' (first | with_reducible exact lk_here | refine lk_there (by decide +kernel) ?_ | refine lk_free (by decide +kernel) ?_ | with_reducible assumption))) ?_ (by decide +kernel) (by decide +kernel)
  refine evl_nil ?_
  refine cl_type (fun _ e => nomatch e) ?_
  with_reducible refine then_next ?_
  refine ex_cons ?_
  refine ex_if ?_
  refine evb_compare ?_
  refine ev_name (by (repeat' (first | with_reducible exact lk_here | refine lk_there (by decide +kernel) ?_ | refine lk_free (by decide +kernel) ?_ | with_reducible assumption))) ?_ (by decide +kernel) (by decide +kernel)
  refine ev_typeK (by with_reducible assumption) (by with_reducible assumption) (by decide +kernel) (by intro _; kernel_rfl) (by with_reducible exact bb_str) ?_ (by decide +kernel) (by decide +kernel)
  refine pr_is (t := false) (by rfl) (by rfl) ?_
  refine tr_bool ?_
  with_reducible refine br_f ?_
  refine ex_nil ?_
  with_reducible refine then_next ?_
  refine ex_cons ?_
  refine ex_if ?_
  refine evb_compare ?_
  refine ev_name (by (repeat' (first | with_reducible exact lk_here | refine lk_there (by decide +kernel) ?_ | refine lk_free (by decide +kernel) ?_ | with_reducible assumption))) ?_ (by decide +kernel) (by decide +kernel)
  refine ev_typeK (by with_reducible assumption) (by with_reducible assumption) (by decide +kernel) (by intro _; kernel_rfl) (by with_reducible exact bb_bytes) ?_ (by decide +kernel) (by decide +kernel)
  refine pr_is (t := true) (by rfl) (by rfl) ?_
  refine tr_bool ?_
  with_reducible refine br_t ?_
  refine ex_cons ?_
  refine ex_return ?_
  refine ev_name (by (repeat' (first | with_reducible exact lk_here | refine lk_there (by decide +kernel) ?_ | refine lk_free (by decide +kernel) ?_ | with_reducible assumption))) ?_ (by decide +kernel) (by decide +kernel)
  exact rfl
theorem fn_from_data (g : Gx) (hK : g.K = hd01.heap_39 g.w.params) (l : List Nat) (hl : ∀ c ∈ l, c < 128) (hz : l.length ≤ 2 ^ 20) : FnOk g 1 (.ref 36) [.str (S l)] [] [] (fun d => d = .bytes (l.map (·.toUInt8)).toArray) NoX := by
  refine fn_def (r := 0) (bs := [("s", .str (S l))]) (by rw [hK]; rfl) (by rw [hK]; rfl) (binds1 (by intro v; rfl)) ?_ ["s"]
  intro C hC
  obtain rfl := hC.g
  have hsc := hC.scope
  dsimp only [List.map]
  refine ex_cons ?_
  refine ex_if ?_
  refine evb_plain ?_
  refine ev_call ?_
  refine ev_funK (by with_reducible assumption) (by with_reducible assumption) (by decide +kernel) (by intro _; kernel_rfl) (by with_reducible exact bb_isinstance) ?_ (by decide +kernel) (by decide +kernel)
  refine call_pos0 (by (first | exact keep_B | exact keep_T | exact keepK (by with_reducible assumption) (by intro _; kernel_rfl))) ?_
  refine evl_cons ?_
  refine ev_name (by (repeat' (first | with_reducible exact lk_here | refine lk_there (by decide +kernel) ?_ | refine lk_free (by decide +kernel) ?_ | with_reducible assumption))) ?_ (by decide +kernel) (by decide +kernel)
  refine evl_cons ?_
  refine ev_typeK (by with_reducible assumption) (by with_reducible assumption) (by decide +kernel) (by intro _; kernel_rfl) (by with_reducible exact bb_str) ?_ (by decide +kernel) (by decide +kernel)
  refine evl_nil ?_
  refine cl_isinstance_str ?_
  refine tr_bool ?_
  with_reducible refine br_t ?_
  refine ex_cons ?_
  refine ex_try_plain ?_
  refine ev_encode (x := S l) ?_
  refine ev_name (by (repeat' (first | with_reducible exact lk_here | refine lk_there (by decide +kernel) ?_ | refine lk_free (by decide +kernel) ?_ | with_reducible assumption))) ?_ (by decide +kernel) (by decide +kernel)
  refine ⟨rfl, ?_⟩
  refine evl_cons (ev_str ?_)
  refine evl_nil ?_
  exact cl_encode hl hz rfl

/-! V3 -/
/-! figures and their signs -/
noncomputable def encN (f : Nat) : Nat := if f < 26 then f + 65 else if f < 52 then f + 71 else if f < 62 then f - 4 else if f = 62 then 43 else 47
theorem b64v_enc {f : Nat} (h : f < 64) : b64v (encN f : Int) = f := by
  have : ∀ f, f < 64 → b64v (encN f : Int) = f := by decide +kernel
  exact this f h
theorem encN_lt {f : Nat} (h : f < 64) : encN f < 128 ∧ encN f ≠ 61 ∧ encN f ≠ 34 := by
  have : ∀ f, f < 64 → encN f < 128 ∧ encN f ≠ 61 ∧ encN f ≠ 34 := by decide +kernel
  exact this f h
noncomputable def encB (fs : List Nat) : List UInt8 := fs.map fun f => (encN f).toUInt8
theorem items_enc {fs : List Nat} {k i : Nat} {d : D} (hf : ∀ f ∈ fs, f < 64) (h : (ofBytes (encB fs ++ List.replicate k 61))[i]? = some d) :
    (∃ f, fs[i]? = some f ∧ f < 64 ∧ d = .int (encN f)) ∨ (fs.length ≤ i ∧ i < fs.length + k ∧ d = .int 61) := by
  unfold ofBytes encB at h
  rw [List.map_append, List.map_map, List.map_replicate] at h
  by_cases hi : i < fs.length
  · left
    rw [List.getElem?_append_left (by simpa using hi), List.getElem?_map] at h
    have e : fs[i]? = some fs[i] := by simp [hi]
    rw [e] at h
    have hlt := hf fs[i] (by simp)
    refine ⟨fs[i], e, hlt, ?_⟩
    simp only [Option.map_some, Option.some.injEq, Function.comp] at h
    rw [← h]
    have := (encN_lt hlt).1
    congr 1
    rw [Nat.toUInt8, UInt8.toNat_ofNat_of_lt' (by show encN fs[i] < 256; lia)]
  · right
    rw [List.getElem?_append_right (by simpa using hi)] at h
    rw [List.getElem?_replicate] at h
    split at h
    · rename_i q
      simp at q
      refine ⟨by lia, by lia, ?_⟩
      exact (Option.some.inj h).symm
    · cases h
set_option maxHeartbeats 8000000 in
theorem fn_a2b (g : Gx) (hK : g.K = hd01.heap_39 g.w.params) (herr : ErrAt 46 g.base) (b : Bool) (fs : List Nat) (k : Nat) (hf : ∀ f ∈ fs, f < 64) (hz : fs.length ≤ 100) (hk : fs.length % 4 + k ≤ 4) (hk2 : 0 < k → 2 ≤ fs.length % 4)
    (Φ : D → Prop) (Ξ : XD → Prop) (h1 : fs.length % 4 = 1 → Ξ ⟨.ref 46, some (percentText (fs.length : Int))⟩) (h2 : fs.length % 4 ≠ 1 → fs.length % 4 ≠ 0 → fs.length % 4 + k < 4 → Ξ ⟨.ref 46, some "Incorrect padding"⟩)
    (h3 : fs.length % 4 ≠ 1 → (fs.length % 4 = 0 ∨ fs.length % 4 + k = 4) → Φ (.bytes ((a2run fs).1.map Nat.toUInt8).toArray)) :
    FnOk g 3 (.ref 85) [.bytes (encB fs ++ List.replicate k 61).toArray] ["strict_mode"] [.bool b] Φ Ξ := by
  refine fn_def (r := 2) (bs := [("data", .bytes (encB fs ++ List.replicate k 61).toArray), ("strict_mode", .bool b)]) (by rw [hK]; rfl) (by rw [hK]; rfl)
    (bindsK_1_1 (fun v w => [("data", v), ("strict_mode", w)]) (by intro v w S; rw [hK]; rfl) (by intro v w; rfl) (by intro h ex v w a b; exact .cons a (.cons b .nil))) ?_ ["data", "strict_mode"]
  intro C hC
  obtain rfl := hC.g
  have hsc := hC.scope
  have hrk := hC.rk
  dsimp only [List.map]
  refine ex_cons ?_
  refine ex_assign (by (first | exact st_loc (by with_reducible assumption) (by decide +kernel) | exact st_cell (by with_reducible assumption) (by first | with_reducible assumption | exact FnCx.comp (by assumption)) (by decide +kernel))) ?_
  refine ev_call ?_
  refine ev_globalK (by with_reducible assumption) (by with_reducible assumption) (by decide +kernel) (by intro _; rfl) ?_ (by decide +kernel)
  refine call_pos0 (by (first | exact keep_B | exact keep_T | exact keepK (by with_reducible assumption) (by intro _; kernel_rfl))) ?_
  refine evl_cons ?_
  refine ev_name (by (repeat' (first | with_reducible exact lk_here | refine lk_there (by decide +kernel) ?_ | refine lk_free (by decide +kernel) ?_ | with_reducible assumption))) ?_ (by decide +kernel) (by decide +kernel)
  refine evl_nil ?_
  refine cl_eq (fn_ascii_buffer _ (by assumption) _) (by lia) ?_
  with_reducible refine then_next ?_
  refine ex_cons ?_
  refine ex_assign (by (first | exact st_loc (by with_reducible assumption) (by decide +kernel) | exact st_cell (by with_reducible assumption) (by first | with_reducible assumption | exact FnCx.comp (by assumption)) (by decide +kernel))) ?_
  refine ev_call ?_
  refine ev_globalK (by with_reducible assumption) (by with_reducible assumption) (by decide +kernel) (by intro _; rfl) ?_ (by decide +kernel)
  refine call_pos0 (by (first | exact keep_B | exact keep_T | exact keepK (by with_reducible assumption) (by intro _; kernel_rfl))) ?_
  refine evl_cons ?_
  refine ev_name (by (repeat' (first | with_reducible exact lk_here | refine lk_there (by decide +kernel) ?_ | refine lk_free (by decide +kernel) ?_ | with_reducible assumption))) ?_ (by decide +kernel) (by decide +kernel)
  refine evl_nil ?_
  refine cl_eq (fn_truth _ (by assumption) _) (by lia) ?_
  with_reducible refine then_next ?_
  refine ex_cons ?_
  refine ex_own_list (kind_loc (by with_reducible assumption) (by decide +kernel)) ?_
  with_reducible refine then_next ?_
  refine ex_cons ?_
  refine ex_assign (by (first | exact st_loc (by with_reducible assumption) (by decide +kernel) | exact st_cell (by with_reducible assumption) (by first | with_reducible assumption | exact FnCx.comp (by assumption)) (by decide +kernel))) ?_
  with_reducible refine ev_int ?_
  with_reducible refine then_next ?_
  refine ex_cons ?_
  refine ex_assign (by (first | exact st_loc (by with_reducible assumption) (by decide +kernel) | exact st_cell (by with_reducible assumption) (by first | with_reducible assumption | exact FnCx.comp (by assumption)) (by decide +kernel))) ?_
  with_reducible refine ev_int ?_
  with_reducible refine then_next ?_
  refine ex_cons ?_
  refine ex_assign (by (first | exact st_loc (by with_reducible assumption) (by decide +kernel) | exact st_cell (by with_reducible assumption) (by first | with_reducible assumption | exact FnCx.comp (by assumption)) (by decide +kernel))) ?_
  with_reducible refine ev_int ?_
  with_reducible refine then_next ?_
  refine ex_cons ?_
  refine ex_assign (by (first | exact st_loc (by with_reducible assumption) (by decide +kernel) | exact st_cell (by with_reducible assumption) (by first | with_reducible assumption | exact FnCx.comp (by assumption)) (by decide +kernel))) ?_
  with_reducible refine ev_int ?_
  with_reducible refine then_next ?_
  refine ex_cons ?_
  refine ex_for hC.comp (evi_of (ev_name (by (repeat' (first | with_reducible exact lk_here | refine lk_there (by decide +kernel) ?_ | refine lk_free (by decide +kernel) ?_ | with_reducible assumption))) (itr_bytes ?_) (by decide +kernel) (by decide +kernel)))
  refine ⟨fun i σ₁ => ∃ (ds : List D) (dq dl dp : D) (ii : Int), ds = (a2run (fs.take i)).1.map (fun (x : Nat) => D.int (x : Int)) ∧ dq = .int ((a2run (fs.take i)).2.1 : Int) ∧ dl = .int ((a2run (fs.take i)).2.2 : Int) ∧ dp = .int ((i - fs.length : Nat) : Int) ∧
    has σ₁ "out" (.own (.lst ds)) ∧ has σ₁ "quad_pos" (.dat dq) ∧ has σ₁ "leftchar" (.dat dl) ∧ has σ₁ "pads" (.dat dp) ∧ has σ₁ "i" (.dat (.int ii)) ∧ has σ₁ "strict_mode" (.dat (.bool b)), ?_, ?_, ?_⟩
  · exact ⟨[], .int 0, .int 0, .int 0, 0, rfl, rfl, rfl, by simp, by (repeat' (first | with_reducible exact lk_here | refine lk_there (by decide +kernel) ?_ | refine lk_free (by decide +kernel) ?_ | with_reducible assumption)), by (repeat' (first | with_reducible exact lk_here | refine lk_there (by decide +kernel) ?_ | refine lk_free (by decide +kernel) ?_ | with_reducible assumption)), by (repeat' (first | with_reducible exact lk_here | refine lk_there (by decide +kernel) ?_ | refine lk_free (by decide +kernel) ?_ | with_reducible assumption)), by (repeat' (first | with_reducible exact lk_here | refine lk_there (by decide +kernel) ?_ | refine lk_free (by decide +kernel) ?_ | with_reducible assumption)), by (repeat' (first | with_reducible exact lk_here | refine lk_there (by decide +kernel) ?_ | refine lk_free (by decide +kernel) ?_ | with_reducible assumption)), by (repeat' (first | with_reducible exact lk_here | refine lk_there (by decide +kernel) ?_ | refine lk_free (by decide +kernel) ?_ | with_reducible assumption))⟩
  · rintro i d σ₁ hd ⟨_, _, _, _, ii, rfl, rfl, rfl, rfl, l1, l2, l3, l4, l5, l6⟩
    refine asg_name (by (first | exact st_loc (by with_reducible assumption) (by decide +kernel) | exact st_cell (by with_reducible assumption) (by first | with_reducible assumption | exact FnCx.comp (by assumption)) (by decide +kernel))) ?_
    have hok := a2ok (fs.take i) (fun x hx => hf x (List.mem_of_mem_take hx))
    have hnext : ∀ f, fs[i]? = some f → a2run (fs.take (i + 1)) = a2n (a2run (fs.take i)) f := fun f e => by
      rw [List.take_add_one, e]; exact a2run_snoc _ _
    have hlen : (fs.take i).length ≤ 100 := by rw [List.length_take]; exact Nat.le_trans (Nat.min_le_right _ _) hz
    generalize hst : a2run (fs.take i) = st at *
    obtain ⟨o, q, l⟩ := st
    obtain ⟨i1, i2, i3, i4, i5⟩ := hok
    dsimp only at l1 l2 l3 i1 i2 i3 i4 i5
    have hsz : (o.map fun (x : Nat) => D.int (x : Int)).length ≤ sizeLine := by rw [List.length_map, i2]; exact Nat.le_trans (Nat.le_trans (Nat.div_le_self _ _) (by lia : 6 * (fs.take i).length ≤ 600)) (by decide)
    have hl : l < 64 := by
      have : 6 * (fs.take i).length % 8 ≤ 6 := by lia
      have h6 : 2 ^ (6 * (fs.take i).length % 8) ≤ 2 ^ 6 := Nat.pow_le_pow_right (by lia) this
      rcases i4 with h | h
      · lia
      · lia
    rcases items_enc hf hd with ⟨f, hfi, hlt, rfl⟩ | ⟨hi1, hi2, rfl⟩
    · have hne := encN_lt hlt
      have hv := b64v_enc hlt
      have hi := (List.getElem?_eq_some_iff.mp hfi).1
      have hp : i - fs.length = 0 := by lia
      have hp1 : i + 1 - fs.length = 0 := by lia
      rw [hp] at l4
      have hn := hnext f hfi
      have hlf : (fs.take i).length = i := by rw [List.length_take]; lia
      have hq : q = 0 ∨ q = 1 ∨ q = 2 ∨ q = 3 := by lia
      have e16 : (f : Int) / 2 ^ 4 = ((f / 16 : Nat) : Int) := by lia
      have e4 : (f : Int) / 2 ^ 2 = ((f / 4 : Nat) : Int) := by lia
      have b1 : Builtin.bitOr ((l : Int) * 2 ^ 2) ((f : Int) / 2 ^ 4) = ((l * 4 + f / 16 : Nat) : Int) := by rw [e16, or_shift 2 (by lia) (by lia) (by lia)]; lia
      have b2 : Builtin.bitOr ((l : Int) * 2 ^ 4) ((f : Int) / 2 ^ 2) = ((l * 16 + f / 4 : Nat) : Int) := by rw [e4, or_shift 4 (by lia) (by lia) (by lia)]; lia
      have b3 : Builtin.bitOr ((l : Int) * 2 ^ 6) (f : Int) = ((l * 64 + f : Nat) : Int) := by rw [or_shift 6 (by lia) (by lia) (by lia)]; lia
      have a1 : Builtin.bitAnd (f : Int) 15 = ((f % 16 : Nat) : Int) := by rw [bitAnd_m4]; lia
      have a2 : Builtin.bitAnd (f : Int) 3 = ((f % 4 : Nat) : Int) := by rw [bitAnd_m2]; lia
      rcases hq with rfl | rfl | rfl | rfl
      refine ex_cons ?_
      refine ex_if ?_
      refine evb_compare ?_
      refine ev_name (by (repeat' (first | with_reducible exact lk_here | refine lk_there (by decide +kernel) ?_ | refine lk_free (by decide +kernel) ?_ | with_reducible assumption))) ?_ (by decide +kernel) (by decide +kernel)
      with_reducible refine ev_int ?_
      with_reducible refine pr_eq_int ?_
      refine tr_bool ?_
      with_reducible refine br_neg (by lia) ?_
      refine ex_nil ?_
      with_reducible refine then_next ?_
      refine ex_cons ?_
      refine ex_assign (by (first | exact st_loc (by with_reducible assumption) (by decide +kernel) | exact st_cell (by with_reducible assumption) (by first | with_reducible assumption | exact FnCx.comp (by assumption)) (by decide +kernel))) ?_
      refine ev_call ?_
      refine ev_globalK (by with_reducible assumption) (by with_reducible assumption) (by decide +kernel) (by intro _; rfl) ?_ (by decide +kernel)
      refine call_pos0 (by (first | exact keep_B | exact keep_T | exact keepK (by with_reducible assumption) (by intro _; kernel_rfl))) ?_
      refine evl_cons ?_
      refine ev_name (by (repeat' (first | with_reducible exact lk_here | refine lk_there (by decide +kernel) ?_ | refine lk_free (by decide +kernel) ?_ | with_reducible assumption))) ?_ (by decide +kernel) (by decide +kernel)
      refine evl_nil ?_
      refine cl_eq (fn_b64_value _ (by assumption) _) (by lia) ?_
      with_reducible refine then_next ?_
      refine ex_cons ?_
      refine ex_if ?_
      refine evb_compare ?_
      refine ev_name (by (repeat' (first | with_reducible exact lk_here | refine lk_there (by decide +kernel) ?_ | refine lk_free (by decide +kernel) ?_ | with_reducible assumption))) ?_ (by decide +kernel) (by decide +kernel)
      with_reducible refine ev_int ?_
      with_reducible refine pr_ge_int ?_
      refine tr_bool ?_
      with_reducible refine br_neg (by lia) ?_
      refine ex_nil ?_
      with_reducible refine then_next ?_
      refine ex_cons ?_
      refine ex_if ?_
      refine evb_and ?_
      refine evb_plain ?_
      refine ev_name (by (repeat' (first | with_reducible exact lk_here | refine lk_there (by decide +kernel) ?_ | refine lk_free (by decide +kernel) ?_ | with_reducible assumption))) ?_ (by decide +kernel) (by decide +kernel)
      refine tr_int ?_
      with_reducible refine br_neg (by lia) ?_
      with_reducible refine br_f ?_
      refine ex_nil ?_
      with_reducible refine then_next ?_
      refine ex_cons ?_
      refine ex_assign (by (first | exact st_loc (by with_reducible assumption) (by decide +kernel) | exact st_cell (by with_reducible assumption) (by first | with_reducible assumption | exact FnCx.comp (by assumption)) (by decide +kernel))) ?_
      with_reducible refine ev_int ?_
      with_reducible refine then_next ?_
      refine ex_cons ?_
      refine ex_if ?_
      refine evb_compare ?_
      refine ev_name (by (repeat' (first | with_reducible exact lk_here | refine lk_there (by decide +kernel) ?_ | refine lk_free (by decide +kernel) ?_ | with_reducible assumption))) ?_ (by decide +kernel) (by decide +kernel)
      with_reducible refine ev_int ?_
      with_reducible refine pr_eq_int ?_
      refine tr_bool ?_
      with_reducible refine br_pos (by lia) ?_
      refine ex_cons ?_
      refine ex_assign (by (first | exact st_loc (by with_reducible assumption) (by decide +kernel) | exact st_cell (by with_reducible assumption) (by first | with_reducible assumption | exact FnCx.comp (by assumption)) (by decide +kernel))) ?_
      with_reducible refine ev_int ?_
      with_reducible refine then_next ?_
      refine ex_cons ?_
      refine ex_assign (by (first | exact st_loc (by with_reducible assumption) (by decide +kernel) | exact st_cell (by with_reducible assumption) (by first | with_reducible assumption | exact FnCx.comp (by assumption)) (by decide +kernel))) ?_
      refine ev_name (by (repeat' (first | with_reducible exact lk_here | refine lk_there (by decide +kernel) ?_ | refine lk_free (by decide +kernel) ?_ | with_reducible assumption))) ?_ (by decide +kernel) (by decide +kernel)
      with_reducible refine then_next ?_
      refine ex_nil ?_
      with_reducible refine then_next ?_
      refine ex_cons ?_
      refine ex_assign (by (first | exact st_loc (by with_reducible assumption) (by decide +kernel) | exact st_cell (by with_reducible assumption) (by first | with_reducible assumption | exact FnCx.comp (by assumption)) (by decide +kernel))) ?_
      refine ev_binop ?_
      refine ev_name (by (repeat' (first | with_reducible exact lk_here | refine lk_there (by decide +kernel) ?_ | refine lk_free (by decide +kernel) ?_ | with_reducible assumption))) ?_ (by decide +kernel) (by decide +kernel)
      with_reducible refine ev_int ?_
      with_reducible refine pr_add_int ?_
      with_reducible refine then_next ?_
      refine ex_nil ?_
      rotate_left
      refine ex_cons ?_
      refine ex_if ?_
      refine evb_compare ?_
      refine ev_name (by (repeat' (first | with_reducible exact lk_here | refine lk_there (by decide +kernel) ?_ | refine lk_free (by decide +kernel) ?_ | with_reducible assumption))) ?_ (by decide +kernel) (by decide +kernel)
      with_reducible refine ev_int ?_
      with_reducible refine pr_eq_int ?_
      refine tr_bool ?_
      with_reducible refine br_neg (by lia) ?_
      refine ex_nil ?_
      with_reducible refine then_next ?_
      refine ex_cons ?_
      refine ex_assign (by (first | exact st_loc (by with_reducible assumption) (by decide +kernel) | exact st_cell (by with_reducible assumption) (by first | with_reducible assumption | exact FnCx.comp (by assumption)) (by decide +kernel))) ?_
      refine ev_call ?_
      refine ev_globalK (by with_reducible assumption) (by with_reducible assumption) (by decide +kernel) (by intro _; rfl) ?_ (by decide +kernel)
      refine call_pos0 (by (first | exact keep_B | exact keep_T | exact keepK (by with_reducible assumption) (by intro _; kernel_rfl))) ?_
      refine evl_cons ?_
      refine ev_name (by (repeat' (first | with_reducible exact lk_here | refine lk_there (by decide +kernel) ?_ | refine lk_free (by decide +kernel) ?_ | with_reducible assumption))) ?_ (by decide +kernel) (by decide +kernel)
      refine evl_nil ?_
      refine cl_eq (fn_b64_value _ (by assumption) _) (by lia) ?_
      with_reducible refine then_next ?_
      refine ex_cons ?_
      refine ex_if ?_
      refine evb_compare ?_
      refine ev_name (by (repeat' (first | with_reducible exact lk_here | refine lk_there (by decide +kernel) ?_ | refine lk_free (by decide +kernel) ?_ | with_reducible assumption))) ?_ (by decide +kernel) (by decide +kernel)
      with_reducible refine ev_int ?_
      with_reducible refine pr_ge_int ?_
      refine tr_bool ?_
      with_reducible refine br_neg (by lia) ?_
      refine ex_nil ?_
      with_reducible refine then_next ?_
      refine ex_cons ?_
      refine ex_if ?_
      refine evb_and ?_
      refine evb_plain ?_
      refine ev_name (by (repeat' (first | with_reducible exact lk_here | refine lk_there (by decide +kernel) ?_ | refine lk_free (by decide +kernel) ?_ | with_reducible assumption))) ?_ (by decide +kernel) (by decide +kernel)
      refine tr_int ?_
      with_reducible refine br_neg (by lia) ?_
      with_reducible refine br_f ?_
      refine ex_nil ?_
      with_reducible refine then_next ?_
      refine ex_cons ?_
      refine ex_assign (by (first | exact st_loc (by with_reducible assumption) (by decide +kernel) | exact st_cell (by with_reducible assumption) (by first | with_reducible assumption | exact FnCx.comp (by assumption)) (by decide +kernel))) ?_
      with_reducible refine ev_int ?_
      with_reducible refine then_next ?_
      refine ex_cons ?_
      refine ex_if ?_
      refine evb_compare ?_
      refine ev_name (by (repeat' (first | with_reducible exact lk_here | refine lk_there (by decide +kernel) ?_ | refine lk_free (by decide +kernel) ?_ | with_reducible assumption))) ?_ (by decide +kernel) (by decide +kernel)
      with_reducible refine ev_int ?_
      with_reducible refine pr_eq_int ?_
      refine tr_bool ?_
      with_reducible refine br_neg (by lia) ?_
      refine ex_cons ?_
      refine ex_if ?_
      refine evb_compare ?_
      refine ev_name (by (repeat' (first | with_reducible exact lk_here | refine lk_there (by decide +kernel) ?_ | refine lk_free (by decide +kernel) ?_ | with_reducible assumption))) ?_ (by decide +kernel) (by decide +kernel)
      with_reducible refine ev_int ?_
      with_reducible refine pr_eq_int ?_
      refine tr_bool ?_
      with_reducible refine br_pos (by lia) ?_
      refine ex_cons ?_
      refine ex_assign (by (first | exact st_loc (by with_reducible assumption) (by decide +kernel) | exact st_cell (by with_reducible assumption) (by first | with_reducible assumption | exact FnCx.comp (by assumption)) (by decide +kernel))) ?_
      with_reducible refine ev_int ?_
      with_reducible refine then_next ?_
      refine ex_cons ?_
      refine ex_append' (by (repeat' (first | with_reducible exact lk_here | refine lk_there (by decide +kernel) ?_ | refine lk_free (by decide +kernel) ?_ | with_reducible assumption))) ?_ ?_
      rotate_left
      refine ev_binop ?_
      refine ev_binop ?_
      refine ev_name (by (repeat' (first | with_reducible exact lk_here | refine lk_there (by decide +kernel) ?_ | refine lk_free (by decide +kernel) ?_ | with_reducible assumption))) ?_ (by decide +kernel) (by decide +kernel)
      with_reducible refine ev_int ?_
      refine pr_shl_int (n := 2) rfl (by decide) ?_ ?_
      rotate_left
      refine ev_binop ?_
      refine ev_name (by (repeat' (first | with_reducible exact lk_here | refine lk_there (by decide +kernel) ?_ | refine lk_free (by decide +kernel) ?_ | with_reducible assumption))) ?_ (by decide +kernel) (by decide +kernel)
      with_reducible refine ev_int ?_
      refine pr_shr_int (n := 4) rfl ?_
      with_reducible refine pr_or_int ?_
      with_reducible refine then_next ?_
      refine ex_cons ?_
      refine ex_assign (by (first | exact st_loc (by with_reducible assumption) (by decide +kernel) | exact st_cell (by with_reducible assumption) (by first | with_reducible assumption | exact FnCx.comp (by assumption)) (by decide +kernel))) ?_
      refine ev_binop ?_
      refine ev_name (by (repeat' (first | with_reducible exact lk_here | refine lk_there (by decide +kernel) ?_ | refine lk_free (by decide +kernel) ?_ | with_reducible assumption))) ?_ (by decide +kernel) (by decide +kernel)
      with_reducible refine ev_int ?_
      with_reducible refine pr_and_int ?_
      with_reducible refine then_next ?_
      refine ex_nil ?_
      with_reducible refine then_next ?_
      refine ex_nil ?_
      with_reducible refine then_next ?_
      refine ex_cons ?_
      refine ex_assign (by (first | exact st_loc (by with_reducible assumption) (by decide +kernel) | exact st_cell (by with_reducible assumption) (by first | with_reducible assumption | exact FnCx.comp (by assumption)) (by decide +kernel))) ?_
      refine ev_binop ?_
      refine ev_name (by (repeat' (first | with_reducible exact lk_here | refine lk_there (by decide +kernel) ?_ | refine lk_free (by decide +kernel) ?_ | with_reducible assumption))) ?_ (by decide +kernel) (by decide +kernel)
      with_reducible refine ev_int ?_
      with_reducible refine pr_add_int ?_
      with_reducible refine then_next ?_
      refine ex_nil ?_
      rotate_left
      refine ex_cons ?_
      refine ex_if ?_
      refine evb_compare ?_
      refine ev_name (by (repeat' (first | with_reducible exact lk_here | refine lk_there (by decide +kernel) ?_ | refine lk_free (by decide +kernel) ?_ | with_reducible assumption))) ?_ (by decide +kernel) (by decide +kernel)
      with_reducible refine ev_int ?_
      with_reducible refine pr_eq_int ?_
      refine tr_bool ?_
      with_reducible refine br_neg (by lia) ?_
      refine ex_nil ?_
      with_reducible refine then_next ?_
      refine ex_cons ?_
      refine ex_assign (by (first | exact st_loc (by with_reducible assumption) (by decide +kernel) | exact st_cell (by with_reducible assumption) (by first | with_reducible assumption | exact FnCx.comp (by assumption)) (by decide +kernel))) ?_
      refine ev_call ?_
      refine ev_globalK (by with_reducible assumption) (by with_reducible assumption) (by decide +kernel) (by intro _; rfl) ?_ (by decide +kernel)
      refine call_pos0 (by (first | exact keep_B | exact keep_T | exact keepK (by with_reducible assumption) (by intro _; kernel_rfl))) ?_
      refine evl_cons ?_
      refine ev_name (by (repeat' (first | with_reducible exact lk_here | refine lk_there (by decide +kernel) ?_ | refine lk_free (by decide +kernel) ?_ | with_reducible assumption))) ?_ (by decide +kernel) (by decide +kernel)
      refine evl_nil ?_
      refine cl_eq (fn_b64_value _ (by assumption) _) (by lia) ?_
      with_reducible refine then_next ?_
      refine ex_cons ?_
      refine ex_if ?_
      refine evb_compare ?_
      refine ev_name (by (repeat' (first | with_reducible exact lk_here | refine lk_there (by decide +kernel) ?_ | refine lk_free (by decide +kernel) ?_ | with_reducible assumption))) ?_ (by decide +kernel) (by decide +kernel)
      with_reducible refine ev_int ?_
      with_reducible refine pr_ge_int ?_
      refine tr_bool ?_
      with_reducible refine br_neg (by lia) ?_
      refine ex_nil ?_
      with_reducible refine then_next ?_
      refine ex_cons ?_
      refine ex_if ?_
      refine evb_and ?_
      refine evb_plain ?_
      refine ev_name (by (repeat' (first | with_reducible exact lk_here | refine lk_there (by decide +kernel) ?_ | refine lk_free (by decide +kernel) ?_ | with_reducible assumption))) ?_ (by decide +kernel) (by decide +kernel)
      refine tr_int ?_
      with_reducible refine br_neg (by lia) ?_
      with_reducible refine br_f ?_
      refine ex_nil ?_
      with_reducible refine then_next ?_
      refine ex_cons ?_
      refine ex_assign (by (first | exact st_loc (by with_reducible assumption) (by decide +kernel) | exact st_cell (by with_reducible assumption) (by first | with_reducible assumption | exact FnCx.comp (by assumption)) (by decide +kernel))) ?_
      with_reducible refine ev_int ?_
      with_reducible refine then_next ?_
      refine ex_cons ?_
      refine ex_if ?_
      refine evb_compare ?_
      refine ev_name (by (repeat' (first | with_reducible exact lk_here | refine lk_there (by decide +kernel) ?_ | refine lk_free (by decide +kernel) ?_ | with_reducible assumption))) ?_ (by decide +kernel) (by decide +kernel)
      with_reducible refine ev_int ?_
      with_reducible refine pr_eq_int ?_
      refine tr_bool ?_
      with_reducible refine br_neg (by lia) ?_
      refine ex_cons ?_
      refine ex_if ?_
      refine evb_compare ?_
      refine ev_name (by (repeat' (first | with_reducible exact lk_here | refine lk_there (by decide +kernel) ?_ | refine lk_free (by decide +kernel) ?_ | with_reducible assumption))) ?_ (by decide +kernel) (by decide +kernel)
      with_reducible refine ev_int ?_
      with_reducible refine pr_eq_int ?_
      refine tr_bool ?_
      with_reducible refine br_neg (by lia) ?_
      refine ex_cons ?_
      refine ex_if ?_
      refine evb_compare ?_
      refine ev_name (by (repeat' (first | with_reducible exact lk_here | refine lk_there (by decide +kernel) ?_ | refine lk_free (by decide +kernel) ?_ | with_reducible assumption))) ?_ (by decide +kernel) (by decide +kernel)
      with_reducible refine ev_int ?_
      with_reducible refine pr_eq_int ?_
      refine tr_bool ?_
      with_reducible refine br_pos (by lia) ?_
      refine ex_cons ?_
      refine ex_assign (by (first | exact st_loc (by with_reducible assumption) (by decide +kernel) | exact st_cell (by with_reducible assumption) (by first | with_reducible assumption | exact FnCx.comp (by assumption)) (by decide +kernel))) ?_
      with_reducible refine ev_int ?_
      with_reducible refine then_next ?_
      refine ex_cons ?_
      refine ex_append' (by (repeat' (first | with_reducible exact lk_here | refine lk_there (by decide +kernel) ?_ | refine lk_free (by decide +kernel) ?_ | with_reducible assumption))) ?_ ?_
      rotate_left
      refine ev_binop ?_
      refine ev_binop ?_
      refine ev_name (by (repeat' (first | with_reducible exact lk_here | refine lk_there (by decide +kernel) ?_ | refine lk_free (by decide +kernel) ?_ | with_reducible assumption))) ?_ (by decide +kernel) (by decide +kernel)
      with_reducible refine ev_int ?_
      refine pr_shl_int (n := 4) rfl (by decide) ?_ ?_
      rotate_left
      refine ev_binop ?_
      refine ev_name (by (repeat' (first | with_reducible exact lk_here | refine lk_there (by decide +kernel) ?_ | refine lk_free (by decide +kernel) ?_ | with_reducible assumption))) ?_ (by decide +kernel) (by decide +kernel)
      with_reducible refine ev_int ?_
      refine pr_shr_int (n := 2) rfl ?_
      with_reducible refine pr_or_int ?_
      with_reducible refine then_next ?_
      refine ex_cons ?_
      refine ex_assign (by (first | exact st_loc (by with_reducible assumption) (by decide +kernel) | exact st_cell (by with_reducible assumption) (by first | with_reducible assumption | exact FnCx.comp (by assumption)) (by decide +kernel))) ?_
      refine ev_binop ?_
      refine ev_name (by (repeat' (first | with_reducible exact lk_here | refine lk_there (by decide +kernel) ?_ | refine lk_free (by decide +kernel) ?_ | with_reducible assumption))) ?_ (by decide +kernel) (by decide +kernel)
      with_reducible refine ev_int ?_
      with_reducible refine pr_and_int ?_
      with_reducible refine then_next ?_
      refine ex_nil ?_
      with_reducible refine then_next ?_
      refine ex_nil ?_
      with_reducible refine then_next ?_
      refine ex_nil ?_
      with_reducible refine then_next ?_
      refine ex_cons ?_
      refine ex_assign (by (first | exact st_loc (by with_reducible assumption) (by decide +kernel) | exact st_cell (by with_reducible assumption) (by first | with_reducible assumption | exact FnCx.comp (by assumption)) (by decide +kernel))) ?_
      refine ev_binop ?_
      refine ev_name (by (repeat' (first | with_reducible exact lk_here | refine lk_there (by decide +kernel) ?_ | refine lk_free (by decide +kernel) ?_ | with_reducible assumption))) ?_ (by decide +kernel) (by decide +kernel)
      with_reducible refine ev_int ?_
      with_reducible refine pr_add_int ?_
      with_reducible refine then_next ?_
      refine ex_nil ?_
      rotate_left
      refine ex_cons ?_
      refine ex_if ?_
      refine evb_compare ?_
      refine ev_name (by (repeat' (first | with_reducible exact lk_here | refine lk_there (by decide +kernel) ?_ | refine lk_free (by decide +kernel) ?_ | with_reducible assumption))) ?_ (by decide +kernel) (by decide +kernel)
      with_reducible refine ev_int ?_
      with_reducible refine pr_eq_int ?_
      refine tr_bool ?_
      with_reducible refine br_neg (by lia) ?_
      refine ex_nil ?_
      with_reducible refine then_next ?_
      refine ex_cons ?_
      refine ex_assign (by (first | exact st_loc (by with_reducible assumption) (by decide +kernel) | exact st_cell (by with_reducible assumption) (by first | with_reducible assumption | exact FnCx.comp (by assumption)) (by decide +kernel))) ?_
      refine ev_call ?_
      refine ev_globalK (by with_reducible assumption) (by with_reducible assumption) (by decide +kernel) (by intro _; rfl) ?_ (by decide +kernel)
      refine call_pos0 (by (first | exact keep_B | exact keep_T | exact keepK (by with_reducible assumption) (by intro _; kernel_rfl))) ?_
      refine evl_cons ?_
      refine ev_name (by (repeat' (first | with_reducible exact lk_here | refine lk_there (by decide +kernel) ?_ | refine lk_free (by decide +kernel) ?_ | with_reducible assumption))) ?_ (by decide +kernel) (by decide +kernel)
      refine evl_nil ?_
      refine cl_eq (fn_b64_value _ (by assumption) _) (by lia) ?_
      with_reducible refine then_next ?_
      refine ex_cons ?_
      refine ex_if ?_
      refine evb_compare ?_
      refine ev_name (by (repeat' (first | with_reducible exact lk_here | refine lk_there (by decide +kernel) ?_ | refine lk_free (by decide +kernel) ?_ | with_reducible assumption))) ?_ (by decide +kernel) (by decide +kernel)
      with_reducible refine ev_int ?_
      with_reducible refine pr_ge_int ?_
      refine tr_bool ?_
      with_reducible refine br_neg (by lia) ?_
      refine ex_nil ?_
      with_reducible refine then_next ?_
      refine ex_cons ?_
      refine ex_if ?_
      refine evb_and ?_
      refine evb_plain ?_
      refine ev_name (by (repeat' (first | with_reducible exact lk_here | refine lk_there (by decide +kernel) ?_ | refine lk_free (by decide +kernel) ?_ | with_reducible assumption))) ?_ (by decide +kernel) (by decide +kernel)
      refine tr_int ?_
      with_reducible refine br_neg (by lia) ?_
      with_reducible refine br_f ?_
      refine ex_nil ?_
      with_reducible refine then_next ?_
      refine ex_cons ?_
      refine ex_assign (by (first | exact st_loc (by with_reducible assumption) (by decide +kernel) | exact st_cell (by with_reducible assumption) (by first | with_reducible assumption | exact FnCx.comp (by assumption)) (by decide +kernel))) ?_
      with_reducible refine ev_int ?_
      with_reducible refine then_next ?_
      refine ex_cons ?_
      refine ex_if ?_
      refine evb_compare ?_
      refine ev_name (by (repeat' (first | with_reducible exact lk_here | refine lk_there (by decide +kernel) ?_ | refine lk_free (by decide +kernel) ?_ | with_reducible assumption))) ?_ (by decide +kernel) (by decide +kernel)
      with_reducible refine ev_int ?_
      with_reducible refine pr_eq_int ?_
      refine tr_bool ?_
      with_reducible refine br_neg (by lia) ?_
      refine ex_cons ?_
      refine ex_if ?_
      refine evb_compare ?_
      refine ev_name (by (repeat' (first | with_reducible exact lk_here | refine lk_there (by decide +kernel) ?_ | refine lk_free (by decide +kernel) ?_ | with_reducible assumption))) ?_ (by decide +kernel) (by decide +kernel)
      with_reducible refine ev_int ?_
      with_reducible refine pr_eq_int ?_
      refine tr_bool ?_
      with_reducible refine br_neg (by lia) ?_
      refine ex_cons ?_
      refine ex_if ?_
      refine evb_compare ?_
      refine ev_name (by (repeat' (first | with_reducible exact lk_here | refine lk_there (by decide +kernel) ?_ | refine lk_free (by decide +kernel) ?_ | with_reducible assumption))) ?_ (by decide +kernel) (by decide +kernel)
      with_reducible refine ev_int ?_
      with_reducible refine pr_eq_int ?_
      refine tr_bool ?_
      with_reducible refine br_neg (by lia) ?_
      refine ex_cons ?_
      refine ex_assign (by (first | exact st_loc (by with_reducible assumption) (by decide +kernel) | exact st_cell (by with_reducible assumption) (by first | with_reducible assumption | exact FnCx.comp (by assumption)) (by decide +kernel))) ?_
      with_reducible refine ev_int ?_
      with_reducible refine then_next ?_
      refine ex_cons ?_
      refine ex_append' (by (repeat' (first | with_reducible exact lk_here | refine lk_there (by decide +kernel) ?_ | refine lk_free (by decide +kernel) ?_ | with_reducible assumption))) ?_ ?_
      rotate_left
      refine ev_binop ?_
      refine ev_binop ?_
      refine ev_name (by (repeat' (first | with_reducible exact lk_here | refine lk_there (by decide +kernel) ?_ | refine lk_free (by decide +kernel) ?_ | with_reducible assumption))) ?_ (by decide +kernel) (by decide +kernel)
      with_reducible refine ev_int ?_
      refine pr_shl_int (n := 6) rfl (by decide) ?_ ?_
      rotate_left
      refine ev_name (by (repeat' (first | with_reducible exact lk_here | refine lk_there (by decide +kernel) ?_ | refine lk_free (by decide +kernel) ?_ | with_reducible assumption))) ?_ (by decide +kernel) (by decide +kernel)
      with_reducible refine pr_or_int ?_
      with_reducible refine then_next ?_
      refine ex_cons ?_
      refine ex_assign (by (first | exact st_loc (by with_reducible assumption) (by decide +kernel) | exact st_cell (by with_reducible assumption) (by first | with_reducible assumption | exact FnCx.comp (by assumption)) (by decide +kernel))) ?_
      with_reducible refine ev_int ?_
      with_reducible refine then_next ?_
      refine ex_nil ?_
      with_reducible refine then_next ?_
      refine ex_nil ?_
      with_reducible refine then_next ?_
      refine ex_nil ?_
      with_reducible refine then_next ?_
      refine ex_cons ?_
      refine ex_assign (by (first | exact st_loc (by with_reducible assumption) (by decide +kernel) | exact st_cell (by with_reducible assumption) (by first | with_reducible assumption | exact FnCx.comp (by assumption)) (by decide +kernel))) ?_
      refine ev_binop ?_
      refine ev_name (by (repeat' (first | with_reducible exact lk_here | refine lk_there (by decide +kernel) ?_ | refine lk_free (by decide +kernel) ?_ | with_reducible assumption))) ?_ (by decide +kernel) (by decide +kernel)
      with_reducible refine ev_int ?_
      with_reducible refine pr_add_int ?_
      with_reducible refine then_next ?_
      refine ex_nil ?_
      rotate_left
      all_goals (try rw [hv])
      rotate_left
      rotate_left
      rotate_left
      rotate_left
      rotate_left
      rotate_left
      rotate_left
      rotate_left
      rotate_left
      rotate_left
      all_goals first | exact hsz | lia | skip
      all_goals refine ⟨_, _, _, _, _, ?_, ?_, ?_, ?_, by (repeat' (first | with_reducible exact lk_here | refine lk_there (by decide +kernel) ?_ | refine lk_free (by decide +kernel) ?_ | with_reducible assumption)), by (repeat' (first | with_reducible exact lk_here | refine lk_there (by decide +kernel) ?_ | refine lk_free (by decide +kernel) ?_ | with_reducible assumption)), by (repeat' (first | with_reducible exact lk_here | refine lk_there (by decide +kernel) ?_ | refine lk_free (by decide +kernel) ?_ | with_reducible assumption)), by (repeat' (first | with_reducible exact lk_here | refine lk_there (by decide +kernel) ?_ | refine lk_free (by decide +kernel) ?_ | with_reducible assumption)), by (repeat' (first | with_reducible exact lk_here | refine lk_there (by decide +kernel) ?_ | refine lk_free (by decide +kernel) ?_ | with_reducible assumption)), by (repeat' (first | with_reducible exact lk_here | refine lk_there (by decide +kernel) ?_ | refine lk_free (by decide +kernel) ?_ | with_reducible assumption))⟩
      all_goals first | (rw [hp1]; rfl) | (rw [hn]; simp only [a2n, hv, List.map_append, List.map_cons, List.map_nil, b1, b2, b3, a1, a2]; try rfl)
    · have hfs : fs.take i = fs := List.take_of_length_le hi1
      have hfs1 : fs.take (i + 1) = fs := List.take_of_length_le (by lia)
      rw [hfs] at hst i1
      have hkk := hk2 (by lia)
      refine ex_cons ?_
      refine ex_if ?_
      refine evb_compare ?_
      refine ev_name (by (repeat' (first | with_reducible exact lk_here | refine lk_there (by decide +kernel) ?_ | refine lk_free (by decide +kernel) ?_ | with_reducible assumption))) ?_ (by decide +kernel) (by decide +kernel)
      with_reducible refine ev_int ?_
      with_reducible refine pr_eq_int ?_
      refine tr_bool ?_
      with_reducible refine br_pos (by lia) ?_
      refine ex_cons ?_
      refine ex_assign (by (first | exact st_loc (by with_reducible assumption) (by decide +kernel) | exact st_cell (by with_reducible assumption) (by first | with_reducible assumption | exact FnCx.comp (by assumption)) (by decide +kernel))) ?_
      refine ev_binop ?_
      refine ev_name (by (repeat' (first | with_reducible exact lk_here | refine lk_there (by decide +kernel) ?_ | refine lk_free (by decide +kernel) ?_ | with_reducible assumption))) ?_ (by decide +kernel) (by decide +kernel)
      with_reducible refine ev_int ?_
      with_reducible refine pr_add_int ?_
      with_reducible refine then_next ?_
      refine ex_cons ?_
      refine ex_if ?_
      refine evb_and ?_
      refine evb_compare ?_
      refine ev_name (by (repeat' (first | with_reducible exact lk_here | refine lk_there (by decide +kernel) ?_ | refine lk_free (by decide +kernel) ?_ | with_reducible assumption))) ?_ (by decide +kernel) (by decide +kernel)
      with_reducible refine ev_int ?_
      with_reducible refine pr_ge_int ?_
      refine tr_bool ?_
      with_reducible refine br_pos (by lia) ?_
      refine evb_and ?_
      refine evb_compare ?_
      refine ev_binop ?_
      refine ev_name (by (repeat' (first | with_reducible exact lk_here | refine lk_there (by decide +kernel) ?_ | refine lk_free (by decide +kernel) ?_ | with_reducible assumption))) ?_ (by decide +kernel) (by decide +kernel)
      refine ev_name (by (repeat' (first | with_reducible exact lk_here | refine lk_there (by decide +kernel) ?_ | refine lk_free (by decide +kernel) ?_ | with_reducible assumption))) ?_ (by decide +kernel) (by decide +kernel)
      with_reducible refine pr_add_int ?_
      with_reducible refine ev_int ?_
      with_reducible refine pr_le_int ?_
      refine tr_bool ?_
      with_reducible refine br_pos (by lia) ?_
      refine evb_and_nil ?_
      with_reducible refine br_t ?_
      refine ex_cons ?_
      refine ex_assign (by (first | exact st_loc (by with_reducible assumption) (by decide +kernel) | exact st_cell (by with_reducible assumption) (by first | with_reducible assumption | exact FnCx.comp (by assumption)) (by decide +kernel))) ?_
      refine ev_binop ?_
      refine ev_name (by (repeat' (first | with_reducible exact lk_here | refine lk_there (by decide +kernel) ?_ | refine lk_free (by decide +kernel) ?_ | with_reducible assumption))) ?_ (by decide +kernel) (by decide +kernel)
      with_reducible refine ev_int ?_
      with_reducible refine pr_add_int ?_
      with_reducible refine then_next ?_
      refine ex_cons ?_
      refine ex_continue ?_
      all_goals first | lia | skip
      all_goals refine ⟨_, _, _, _, _, ?_, ?_, ?_, ?_, by (repeat' (first | with_reducible exact lk_here | refine lk_there (by decide +kernel) ?_ | refine lk_free (by decide +kernel) ?_ | with_reducible assumption)), by (repeat' (first | with_reducible exact lk_here | refine lk_there (by decide +kernel) ?_ | refine lk_free (by decide +kernel) ?_ | with_reducible assumption)), by (repeat' (first | with_reducible exact lk_here | refine lk_there (by decide +kernel) ?_ | refine lk_free (by decide +kernel) ?_ | with_reducible assumption)), by (repeat' (first | with_reducible exact lk_here | refine lk_there (by decide +kernel) ?_ | refine lk_free (by decide +kernel) ?_ | with_reducible assumption)), by (repeat' (first | with_reducible exact lk_here | refine lk_there (by decide +kernel) ?_ | refine lk_free (by decide +kernel) ?_ | with_reducible assumption)), by (repeat' (first | with_reducible exact lk_here | refine lk_there (by decide +kernel) ?_ | refine lk_free (by decide +kernel) ?_ | with_reducible assumption))⟩
      all_goals first | (rw [hfs1, hst]; done) | (congr 1; lia)
  · rintro σ₁ ⟨_, _, _, _, ii, rfl, rfl, rfl, rfl, l1, l2, l3, l4, l5, l6⟩
    have hil : (ofBytes (encB fs ++ List.replicate k 61)).length = fs.length + k := by simp [ofBytes, encB]
    rw [hil] at l1 l2 l3 l4
    have hfs : fs.take (fs.length + k) = fs := List.take_of_length_le (by lia)
    rw [hfs] at l1 l2 l3
    obtain ⟨i1, i2, i3, i4, i5⟩ := a2ok fs hf
    have hpk : fs.length + k - fs.length = k := by lia
    rw [hpk] at l4
    refine then_next (ex_freeze l1 ?_)
    rw [i1] at l2
    have hbytes : ∀ {Ψ' : D → Prop}, Ψ' (.bytes ((a2run fs).1.map Nat.toUInt8).toArray) → CL C (.type "bytes") [.lst ((a2run fs).1.map fun (x : Nat) => D.int (x : Int))] [] [] Ψ' Ξ := fun h => by
      have e : ((a2run fs).1.map fun (x : Nat) => D.int (x : Int)) = ((a2run fs).1.map fun (x : Nat) => (x : Int)).map D.int := by rw [List.map_map]; rfl
      rw [e]
      refine cl_bytes_ints ?_ ?_ ?_
      · intro n hn
        obtain ⟨x, hx, rfl⟩ := List.mem_map.mp hn
        have := i3 x hx
        lia
      · rw [List.length_map, i2]; exact Nat.le_trans (Nat.le_trans (Nat.div_le_self _ _) (by lia : 6 * fs.length ≤ 600)) (by decide)
      · rw [List.map_map]; exact h
    have hlenm : ((a2run fs).1.map fun (x : Nat) => D.int (x : Int)).length = 6 * fs.length / 8 := by rw [List.length_map, i2]
    refine ex_cons ?_
    refine ex_if ?_
    refine evb_compare ?_
    refine ev_name (by (repeat' (first | with_reducible exact lk_here | refine lk_there (by decide +kernel) ?_ | refine lk_free (by decide +kernel) ?_ | with_reducible assumption))) ?_ (by decide +kernel) (by decide +kernel)
    with_reducible refine ev_int ?_
    with_reducible refine pr_eq_int ?_
    refine tr_bool ?_
    with_reducible refine br (fun _ => ?_) (fun _ => ?_)
    refine ex_cons ?_
    refine ex_raiseK (by with_reducible assumption) (by with_reducible assumption) (by decide +kernel) (by intro _; rfl) (by assumption) ?_
    refine ev_binop ?_
    with_reducible refine ev_strc ?_
    refine ev_binop ?_
    refine ev_binop ?_
    refine ev_binop ?_
    refine ev_call ?_
    refine ev_funK (by with_reducible assumption) (by with_reducible assumption) (by decide +kernel) (by intro _; kernel_rfl) (by with_reducible exact bb_len) ?_ (by decide +kernel) (by decide +kernel)
    refine call_pos0 (by (first | exact keep_B | exact keep_T | exact keepK (by with_reducible assumption) (by intro _; kernel_rfl))) ?_
    refine evl_cons ?_
    refine ev_name (by (repeat' (first | with_reducible exact lk_here | refine lk_there (by decide +kernel) ?_ | refine lk_free (by decide +kernel) ?_ | with_reducible assumption))) ?_ (by decide +kernel) (by decide +kernel)
    refine evl_nil ?_
    rotate_left
    refine ex_nil ?_
    with_reducible refine then_next ?_
    refine ex_cons ?_
    refine ex_if ?_
    refine evb_and ?_
    refine evb_compare ?_
    refine ev_name (by (repeat' (first | with_reducible exact lk_here | refine lk_there (by decide +kernel) ?_ | refine lk_free (by decide +kernel) ?_ | with_reducible assumption))) ?_ (by decide +kernel) (by decide +kernel)
    with_reducible refine ev_int ?_
    with_reducible refine pr_ne_int ?_
    refine tr_bool ?_
    with_reducible refine br (fun _ => ?_) (fun _ => ?_)
    refine evb_and ?_
    refine evb_compare ?_
    refine ev_binop ?_
    refine ev_name (by (repeat' (first | with_reducible exact lk_here | refine lk_there (by decide +kernel) ?_ | refine lk_free (by decide +kernel) ?_ | with_reducible assumption))) ?_ (by decide +kernel) (by decide +kernel)
    refine ev_name (by (repeat' (first | with_reducible exact lk_here | refine lk_there (by decide +kernel) ?_ | refine lk_free (by decide +kernel) ?_ | with_reducible assumption))) ?_ (by decide +kernel) (by decide +kernel)
    with_reducible refine pr_add_int ?_
    with_reducible refine ev_int ?_
    with_reducible refine pr_lt_int ?_
    refine tr_bool ?_
    with_reducible refine br (fun _ => ?_) (fun _ => ?_)
    refine evb_and_nil ?_
    with_reducible refine br_t ?_
    refine ex_cons ?_
    refine ex_raiseK (by with_reducible assumption) (by with_reducible assumption) (by decide +kernel) (by intro _; rfl) (by assumption) ?_
    with_reducible refine ev_strc ?_
    rotate_left
    with_reducible refine br_f ?_
    refine ex_nil ?_
    with_reducible refine then_next ?_
    refine ex_cons ?_
    refine ex_return ?_
    refine ev_call ?_
    refine ev_typeK (by with_reducible assumption) (by with_reducible assumption) (by decide +kernel) (by intro _; kernel_rfl) (by with_reducible exact bb_bytes) ?_ (by decide +kernel) (by decide +kernel)
    refine call_pos0 (by (first | exact keep_B | exact keep_T | exact keepK (by with_reducible assumption) (by intro _; kernel_rfl))) ?_
    refine evl_cons ?_
    refine ev_name (by (repeat' (first | with_reducible exact lk_here | refine lk_there (by decide +kernel) ?_ | refine lk_free (by decide +kernel) ?_ | with_reducible assumption))) ?_ (by decide +kernel) (by decide +kernel)
    refine evl_nil ?_
    rotate_left
    with_reducible refine br_f ?_
    refine ex_nil ?_
    with_reducible refine then_next ?_
    refine ex_cons ?_
    refine ex_return ?_
    refine ev_call ?_
    refine ev_typeK (by with_reducible assumption) (by with_reducible assumption) (by decide +kernel) (by intro _; kernel_rfl) (by with_reducible exact bb_bytes) ?_ (by decide +kernel) (by decide +kernel)
    refine call_pos0 (by (first | exact keep_B | exact keep_T | exact keepK (by with_reducible assumption) (by intro _; kernel_rfl))) ?_
    refine evl_cons ?_
    refine ev_name (by (repeat' (first | with_reducible exact lk_here | refine lk_there (by decide +kernel) ?_ | refine lk_free (by decide +kernel) ?_ | with_reducible assumption))) ?_ (by decide +kernel) (by decide +kernel)
    refine evl_nil ?_
    rotate_left
    · refine cl_len_list (by rw [hlenm]; lia) ?_
      rw [hlenm]
      with_reducible refine ev_int ?_
      refine pr_div_int ?_ ?_ ?_
      rotate_left
      rotate_left
      with_reducible refine ev_int ?_
      rotate_left
      · lia
      · decide
      · refine pr_mul_int (.inr (by decide)) ?_
        with_reducible refine ev_int ?_
        with_reducible refine pr_add_int ?_
        refine pr_mod_padS (by lia) (by lia) ⟨_, rfl, ?_⟩
        have e : ((6 * fs.length / 8 : Nat) : Int) / 3 * 4 + 1 = (fs.length : Int) := by lia
        rw [e]
        exact h1 (by lia)
    · refine ⟨_, rfl, ?_⟩
      rw [← ofString_S]
      exact h2 (by lia) (by lia) (by lia)
    · refine hbytes (h3 ?_ ?_)
      · lia
      · lia
    · refine hbytes (h3 ?_ ?_)
      · lia
      · lia

/-! V4 -/
noncomputable abbrev encD (l : List Nat) : List D := l.map fun f => D.int (encN f : Int)
noncomputable def b64Lit : List UInt8 := [65, 66, 67, 68, 69, 70, 71, 72, 73, 74, 75, 76, 77, 78, 79, 80, 81, 82, 83, 84, 85, 86, 87, 88, 89, 90, 97, 98, 99, 100, 101, 102, 103, 104, 105, 106, 107, 108, 109, 110, 111, 112, 113, 114, 115, 116, 117, 118, 119, 120, 121, 122, 48, 49, 50, 51, 52, 53, 54, 55, 56, 57, 43, 47]
theorem b64_lit : b64Lit = (List.range 64).map fun f => (encN f).toUInt8 := by decide
theorem pr_b64 {C : Cx} {Φ : D → Prop} {Ξ : XD → Prop} {value slice : Expr} {idx : Int} (k : Nat) (hk : idx = (k : Int)) (h64 : k < 64) (h : Φ (.int (encN k : Int)))
    (hs : ∀ o i, ∃ ops, subscripted slice false o i = operate ops (getItem o i) := by intro o i; exact ⟨_, rfl⟩) :
    PR C [.bytes b64Lit.toArray, .int idx] (fun vs => subscriptTail value slice (vs.getD 0 .none) (vs.getD 1 .none)) Φ Ξ := by
  refine pr_item_bytes (c := (encN k).toUInt8) k hk (by decide) ?_ ?_ hs
  · rw [b64_lit, List.getElem?_map, List.getElem?_range h64]; rfl
  · have h128 := (encN_lt h64).1
    rw [Nat.toUInt8, UInt8.toNat_ofNat_of_lt' (by show _ < 256; lia)]; exact h
noncomputable def figsOf (ns : List Nat) : List Nat := digs 64 ((8 * ns.length + 5) / 6) (val 256 ns * 4 ^ ((3 - ns.length % 3) % 3))
set_option maxHeartbeats 8000000 in
theorem fn_b2a (g : Gx) (hK : g.K = hd01.heap_39 g.w.params) (os : List UInt8) (hz : os.length ≤ 100) :
    FnOk g 2 (.ref 93) [.bytes os.toArray] ["newline"] [.bool false] (fun d => d = .bytes (encB (figsOf (os.map UInt8.toNat)) ++ List.replicate ((3 - os.length % 3) % 3) 61).toArray) NoX := by
  refine fn_def (r := 1) (bs := [("data", .bytes os.toArray), ("newline", .bool false)]) (by rw [hK]; rfl) (by rw [hK]; rfl)
    (bindsK_1_1 (fun v w => [("data", v), ("newline", w)]) (by intro v w S; rw [hK]; rfl) (by intro v w; rfl) (by intro h ex v w a b; exact .cons a (.cons b .nil))) ?_ ["data", "newline"]
  intro C hC
  obtain rfl := hC.g
  have hsc := hC.scope
  have hrk := hC.rk
  dsimp only [List.map]
  generalize hns : os.map UInt8.toNat = ns
  have hnl : ns.length = os.length := by rw [← hns, List.length_map]
  have hnlt : ∀ x ∈ ns, x < 256 := fun x hx => by rw [← hns] at hx; obtain ⟨u, _, rfl⟩ := List.mem_map.mp hx; exact u.toNat_lt
  refine ex_cons ?_
  refine ex_assign (by (first | exact st_loc (by with_reducible assumption) (by decide +kernel) | exact st_cell (by with_reducible assumption) (by first | with_reducible assumption | exact FnCx.comp (by assumption)) (by decide +kernel))) ?_
  refine ev_call ?_
  refine ev_globalK (by with_reducible assumption) (by with_reducible assumption) (by decide +kernel) (by intro _; rfl) ?_ (by decide +kernel)
  refine call_pos0 (by (first | exact keep_B | exact keep_T | exact keepK (by with_reducible assumption) (by intro _; kernel_rfl))) ?_
  refine evl_cons ?_
  refine ev_name (by (repeat' (first | with_reducible exact lk_here | refine lk_there (by decide +kernel) ?_ | refine lk_free (by decide +kernel) ?_ | with_reducible assumption))) ?_ (by decide +kernel) (by decide +kernel)
  refine evl_nil ?_
  refine cl_eq (fn_buffer _ (by assumption) _) (by lia) ?_
  with_reducible refine then_next ?_
  refine ex_cons ?_
  refine ex_assign (by (first | exact st_loc (by with_reducible assumption) (by decide +kernel) | exact st_cell (by with_reducible assumption) (by first | with_reducible assumption | exact FnCx.comp (by assumption)) (by decide +kernel))) ?_
  refine ev_call ?_
  refine ev_globalK (by with_reducible assumption) (by with_reducible assumption) (by decide +kernel) (by intro _; rfl) ?_ (by decide +kernel)
  refine call_pos0 (by (first | exact keep_B | exact keep_T | exact keepK (by with_reducible assumption) (by intro _; kernel_rfl))) ?_
  refine evl_cons ?_
  refine ev_name (by (repeat' (first | with_reducible exact lk_here | refine lk_there (by decide +kernel) ?_ | refine lk_free (by decide +kernel) ?_ | with_reducible assumption))) ?_ (by decide +kernel) (by decide +kernel)
  refine evl_nil ?_
  refine cl_eq (fn_truth _ (by assumption) _) (by lia) ?_
  with_reducible refine then_next ?_
  refine ex_cons ?_
  refine ex_own_list (kind_loc (by with_reducible assumption) (by decide +kernel)) ?_
  with_reducible refine then_next ?_
  refine ex_cons ?_
  refine ex_assign (by (first | exact st_loc (by with_reducible assumption) (by decide +kernel) | exact st_cell (by with_reducible assumption) (by first | with_reducible assumption | exact FnCx.comp (by assumption)) (by decide +kernel))) ?_
  with_reducible refine ev_int ?_
  with_reducible refine then_next ?_
  refine ex_cons ?_
  refine ex_assign (by (first | exact st_loc (by with_reducible assumption) (by decide +kernel) | exact st_cell (by with_reducible assumption) (by first | with_reducible assumption | exact FnCx.comp (by assumption)) (by decide +kernel))) ?_
  with_reducible refine ev_int ?_
  with_reducible refine then_next ?_
  refine ex_cons ?_
  refine ex_for hC.comp (evi_of (ev_name (by (repeat' (first | with_reducible exact lk_here | refine lk_there (by decide +kernel) ?_ | refine lk_free (by decide +kernel) ?_ | with_reducible assumption))) (itr_bytes ?_) (by decide +kernel) (by decide +kernel)))
  refine ⟨fun i σ₁ => ∃ (ds : List D) (dl dc : D), ds = encD (digs 64 (8 * i / 6) (val 256 (ns.take i) / 2 ^ (8 * i % 6))) ∧ dl = .int ((8 * i % 6 : Nat) : Int) ∧ dc = .int ((val 256 (ns.take i) % 65536 : Nat) : Int) ∧
    has σ₁ "out" (.own (.lst ds)) ∧ has σ₁ "leftbits" (.dat dl) ∧ has σ₁ "leftchar" (.dat dc) ∧ has σ₁ "newline" (.dat (.bool false)), ?_, ?_, ?_⟩
  · exact ⟨[], .int 0, .int 0, rfl, rfl, rfl, by (repeat' (first | with_reducible exact lk_here | refine lk_there (by decide +kernel) ?_ | refine lk_free (by decide +kernel) ?_ | with_reducible assumption)), by (repeat' (first | with_reducible exact lk_here | refine lk_there (by decide +kernel) ?_ | refine lk_free (by decide +kernel) ?_ | with_reducible assumption)), by (repeat' (first | with_reducible exact lk_here | refine lk_there (by decide +kernel) ?_ | refine lk_free (by decide +kernel) ?_ | with_reducible assumption)), by (repeat' (first | with_reducible exact lk_here | refine lk_there (by decide +kernel) ?_ | refine lk_free (by decide +kernel) ?_ | with_reducible assumption))⟩
  · rintro i d σ₁ hd ⟨_, _, _, rfl, rfl, rfl, l1, l2, l3, l4⟩
    refine asg_name (by (first | exact st_loc (by with_reducible assumption) (by decide +kernel) | exact st_cell (by with_reducible assumption) (by first | with_reducible assumption | exact FnCx.comp (by assumption)) (by decide +kernel))) ?_
    obtain ⟨c, hci, hc, rfl⟩ : ∃ c, ns[i]? = some c ∧ c < 256 ∧ d = .int c := by
      unfold ofBytes at hd
      rw [List.getElem?_map] at hd
      obtain ⟨u, hu, rfl⟩ := Option.map_eq_some_iff.mp hd
      exact ⟨u.toNat, by rw [← hns, List.getElem?_map, hu]; rfl, u.toNat_lt, rfl⟩
    have hnext : val 256 (ns.take (i + 1)) = val 256 (ns.take i) * 256 + c := by rw [List.take_add_one, hci]; exact val_snoc _ _ _
    have hi : i < ns.length := (List.getElem?_eq_some_iff.mp hci).1
    generalize hN : val 256 (ns.take i) = N at *
    have hor : Builtin.bitAnd (Builtin.bitOr (((N % 65536 : Nat) : Int) * 2 ^ 8) (c : Int)) 65535 = ((val 256 (ns.take (i + 1)) % 65536 : Nat) : Int) := by
      rw [or_shift 8 (by lia) (by lia) (by lia), bitAnd_m16, hnext]; lia
    refine ex_cons ?_
    refine ex_assign (by (first | exact st_loc (by with_reducible assumption) (by decide +kernel) | exact st_cell (by with_reducible assumption) (by first | with_reducible assumption | exact FnCx.comp (by assumption)) (by decide +kernel))) ?_
    refine ev_binop ?_
    refine ev_binop ?_
    refine ev_binop ?_
    refine ev_name (by (repeat' (first | with_reducible exact lk_here | refine lk_there (by decide +kernel) ?_ | refine lk_free (by decide +kernel) ?_ | with_reducible assumption))) ?_ (by decide +kernel) (by decide +kernel)
    with_reducible refine ev_int ?_
    refine pr_shl_int (n := 8) rfl (by decide) ?_ ?_
    rotate_left
    refine ev_name (by (repeat' (first | with_reducible exact lk_here | refine lk_there (by decide +kernel) ?_ | refine lk_free (by decide +kernel) ?_ | with_reducible assumption))) ?_ (by decide +kernel) (by decide +kernel)
    with_reducible refine pr_or_int ?_
    with_reducible refine ev_int ?_
    with_reducible refine pr_and_int ?_
    with_reducible refine then_next ?_
    refine ex_cons ?_
    refine ex_assign (by (first | exact st_loc (by with_reducible assumption) (by decide +kernel) | exact st_cell (by with_reducible assumption) (by first | with_reducible assumption | exact FnCx.comp (by assumption)) (by decide +kernel))) ?_
    refine ev_binop ?_
    refine ev_name (by (repeat' (first | with_reducible exact lk_here | refine lk_there (by decide +kernel) ?_ | refine lk_free (by decide +kernel) ?_ | with_reducible assumption))) ?_ (by decide +kernel) (by decide +kernel)
    with_reducible refine ev_int ?_
    with_reducible refine pr_add_int ?_
    with_reducible refine then_next ?_
    refine ex_cons ?_
    rotate_left
    all_goals first | lia | skip
    rw [hor]
    generalize hN' : val 256 (ns.take (i + 1)) = N' at *
    refine ex_while hC.comp (fun m σ₂ => ∃ (ds : List D) (dl : D), m % 6 = 8 * (i + 1) % 6 ∧ m ≤ 8 * (i + 1) ∧ m ≤ 13 ∧ ds = encD (digs 64 ((8 * (i + 1) - m) / 6) (N' / 2 ^ m)) ∧ dl = .int (m : Int) ∧
      has σ₂ "out" (.own (.lst ds)) ∧ has σ₂ "leftbits" (.dat dl) ∧ has σ₂ "leftchar" (.dat (.int ((N' % 65536 : Nat) : Int))) ∧ has σ₂ "newline" (.dat (.bool false))) (8 * i % 6 + 8) ?_ ?_
    · obtain ⟨q1, q2, q3, q4⟩ := ar2 i (Nat.lt_of_lt_of_le hi (Nat.le_trans (Nat.le_of_eq hnl) (Nat.le_succ_of_le hz)))
      refine ⟨_, _, q2, q3, q4, ?_, ?_, by (repeat' (first | with_reducible exact lk_here | refine lk_there (by decide +kernel) ?_ | refine lk_free (by decide +kernel) ?_ | with_reducible assumption)), by (repeat' (first | with_reducible exact lk_here | refine lk_there (by decide +kernel) ?_ | refine lk_free (by decide +kernel) ?_ | with_reducible assumption)), by (repeat' (first | with_reducible exact lk_here | refine lk_there (by decide +kernel) ?_ | refine lk_free (by decide +kernel) ?_ | with_reducible assumption)), by (repeat' (first | with_reducible exact lk_here | refine lk_there (by decide +kernel) ?_ | refine lk_free (by decide +kernel) ?_ | with_reducible assumption))⟩
      · have e1 : (8 * (i + 1) - (8 * i % 6 + 8)) / 6 = 8 * i / 6 := q1
        have e2 : N' / 2 ^ (8 * i % 6 + 8) = N / 2 ^ (8 * i % 6) := by
          rw [hnext, Nat.add_comm (8 * i % 6) 8, Nat.pow_add, ← Nat.div_div_eq_div_mul]
          congr 1; lia
        rw [e1, e2]
      · congr 1
    · rintro m σ₂ ⟨_, _, m1, m2, m3, rfl, rfl, w1, w2, w3, w4⟩
      obtain ⟨c1, c2, c3⟩ := ar1 i (Nat.lt_of_lt_of_le hi (Nat.le_trans (Nat.le_of_eq hnl) (Nat.le_succ_of_le hz))) m (Nat.lt_succ_of_le m3) m1 m2
      have hsz : (encD (digs 64 ((8 * (i + 1) - m) / 6) (N' / 2 ^ m))).length ≤ sizeLine := by rw [List.length_map, digs_len]; exact Nat.le_trans c1 (by decide)
      refine evb_compare ?_
      refine ev_name (by (repeat' (first | with_reducible exact lk_here | refine lk_there (by decide +kernel) ?_ | refine lk_free (by decide +kernel) ?_ | with_reducible assumption))) ?_ (by decide +kernel) (by decide +kernel)
      with_reducible refine ev_int ?_
      with_reducible refine pr_ge_int ?_
      refine tr_bool ?_
      with_reducible refine br (fun _ => ?_) (fun _ => ?_)
      refine ex_cons ?_
      refine ex_append' (by (repeat' (first | with_reducible exact lk_here | refine lk_there (by decide +kernel) ?_ | refine lk_free (by decide +kernel) ?_ | with_reducible assumption))) ?_ ?_
      rotate_left
      refine ev_sub ?_
      refine ev_globytesK (by with_reducible assumption) (by with_reducible assumption) (by decide +kernel) (by intro _; rfl) ?_ (by decide +kernel)
      refine ev_binop ?_
      refine ev_binop ?_
      refine ev_name (by (repeat' (first | with_reducible exact lk_here | refine lk_there (by decide +kernel) ?_ | refine lk_free (by decide +kernel) ?_ | with_reducible assumption))) ?_ (by decide +kernel) (by decide +kernel)
      refine ev_binop ?_
      refine ev_name (by (repeat' (first | with_reducible exact lk_here | refine lk_there (by decide +kernel) ?_ | refine lk_free (by decide +kernel) ?_ | with_reducible assumption))) ?_ (by decide +kernel) (by decide +kernel)
      with_reducible refine ev_int ?_
      with_reducible refine pr_sub_int ?_
      rotate_left
      with_reducible refine then_next ?_
      refine ex_nil ?_
      rotate_left
      · exact hsz
      · have h6m : 6 ≤ m := by lia
        refine pr_shr_int (n := m - 6) (by lia) ?_
        with_reducible refine ev_int ?_
        with_reducible refine pr_and_int ?_
        have hix : Builtin.bitAnd (((N' % 65536 : Nat) : Int) / 2 ^ (m - 6)) 63 = ((N' % 65536 / 2 ^ (m - 6) % 64 : Nat) : Int) := by
          rw [bitAnd_m6]
          have e : ((2 : Int) ^ (m - 6)) = ((2 ^ (m - 6) : Nat) : Int) := by rw [Int.natCast_pow]; rfl
          rw [e, ← Int.natCast_ediv]; rfl
        have hkk : N' % 65536 / 2 ^ (m - 6) % 64 < 64 := Nat.mod_lt _ (by lia)
        refine pr_b64 _ hix hkk ?_
        · with_reducible refine then_next ?_
          refine ex_cons ?_
          refine ex_assign (by (first | exact st_loc (by with_reducible assumption) (by decide +kernel) | exact st_cell (by with_reducible assumption) (by first | with_reducible assumption | exact FnCx.comp (by assumption)) (by decide +kernel))) ?_
          refine ev_binop ?_
          refine ev_name (by (repeat' (first | with_reducible exact lk_here | refine lk_there (by decide +kernel) ?_ | refine lk_free (by decide +kernel) ?_ | with_reducible assumption))) ?_ (by decide +kernel) (by decide +kernel)
          with_reducible refine ev_int ?_
          with_reducible refine pr_sub_int ?_
          with_reducible refine then_next ?_
          refine ex_nil ?_
          obtain ⟨c4, c5⟩ := c2 h6m
          refine ⟨m - 6, Nat.sub_lt (Nat.lt_of_lt_of_le (by decide) h6m) (by decide), _, _, c5, Nat.le_trans (Nat.sub_le _ _) m2, Nat.le_trans (Nat.sub_le _ _) m3, ?_, ?_, by (repeat' (first | with_reducible exact lk_here | refine lk_there (by decide +kernel) ?_ | refine lk_free (by decide +kernel) ?_ | with_reducible assumption)), by (repeat' (first | with_reducible exact lk_here | refine lk_there (by decide +kernel) ?_ | refine lk_free (by decide +kernel) ?_ | with_reducible assumption)), by (repeat' (first | with_reducible exact lk_here | refine lk_there (by decide +kernel) ?_ | refine lk_free (by decide +kernel) ?_ | with_reducible assumption)), by (repeat' (first | with_reducible exact lk_here | refine lk_there (by decide +kernel) ?_ | refine lk_free (by decide +kernel) ?_ | with_reducible assumption))⟩
          · have e : (8 * (i + 1) - (m - 6)) / 6 = (8 * (i + 1) - m) / 6 + 1 := c4
            rw [e, enc_step N' _ m h6m (Nat.le_trans m3 (by decide))]
            simp only [encD, List.map_append, List.map_cons, List.map_nil]
          · congr 1; lia
      · obtain ⟨hm, c4⟩ := c3 (by lia)
        refine ⟨_, _, _, ?_, ?_, ?_, w1, w2, w3, w4⟩
        · rw [hN', ← hm]; congr 2
        · rw [hm]
        · rw [hN']
  · rintro σ₁ ⟨_, _, _, rfl, rfl, rfl, l1, l2, l3, l4⟩
    have hil : (ofBytes os).length = ns.length := by simp [ofBytes, hnl]
    rw [hil] at l1 l2 l3
    rw [List.take_length] at l1 l3
    refine then_next ?_
    have hsz : ∀ k, k ≤ 2 → (encD (digs 64 (8 * ns.length / 6) (val 256 ns / 2 ^ (8 * ns.length % 6)))).length + k ≤ sizeLine := fun k hk => by rw [List.length_map, digs_len]; exact Nat.le_trans (by lia : _ ≤ 1000) (by decide)
    generalize hNN : val 256 ns = N at *
    have hbytes : ∀ (l : List Nat) (k : Nat) {Ψ' : D → Prop}, (∀ f ∈ l, f < 64) → l.length ≤ 1000 → k ≤ 2 → Ψ' (.bytes (encB l ++ List.replicate k 61).toArray) → CL C (.type "bytes") [.lst (encD l ++ List.replicate k (.int 61))] [] [] Ψ' NoX := fun l k Ψ' hl hz hk h => by
      have e : encD l ++ List.replicate k (D.int 61) = (l.map (fun f => (encN f : Int)) ++ List.replicate k 61).map D.int := by simp [encD, List.map_append, List.map_map, Function.comp_def]
      rw [e]
      refine cl_bytes_ints ?_ ?_ ?_
      · intro n hn
        rcases List.mem_append.mp hn with hn | hn
        · obtain ⟨x, hx, rfl⟩ := List.mem_map.mp hn
          have := (encN_lt (hl x hx)).1
          lia
        · have := List.eq_of_mem_replicate hn; lia
      · rw [List.length_append, List.length_map, List.length_replicate]; exact Nat.le_trans (by lia : _ ≤ 1010) (by decide)
      · have e2 : ((l.map (fun f => (encN f : Int)) ++ List.replicate k 61).map fun (n : Int) => n.toNat.toUInt8) = encB l ++ List.replicate k 61 := by
          simp [encB, List.map_append, List.map_map, Function.comp_def]
        rw [e2]; exact h
    have hd64 : ∀ k M, ∀ f ∈ digs 64 k M, f < 64 := fun k M => digs_lt (by lia)
    have hand3 : Builtin.bitAnd ((N % 65536 : Nat) : Int) 3 = ((N % 4 : Nat) : Int) := by rw [bitAnd_m2]; lia
    have hand15 : Builtin.bitAnd ((N % 65536 : Nat) : Int) 15 = ((N % 16 : Nat) : Int) := by rw [bitAnd_m4]; lia
    refine ex_cons ?_
    refine ex_if ?_
    refine evb_compare ?_
    refine ev_name (by (repeat' (first | with_reducible exact lk_here | refine lk_there (by decide +kernel) ?_ | refine lk_free (by decide +kernel) ?_ | with_reducible assumption))) ?_ (by decide +kernel) (by decide +kernel)
    with_reducible refine ev_int ?_
    with_reducible refine pr_eq_int ?_
    refine tr_bool ?_
    with_reducible refine br (fun _ => ?_) (fun _ => ?_)
    refine ex_cons ?_
    refine ex_append' (by (repeat' (first | with_reducible exact lk_here | refine lk_there (by decide +kernel) ?_ | refine lk_free (by decide +kernel) ?_ | with_reducible assumption))) ?_ ?_
    rotate_left
    refine ev_sub ?_
    refine ev_globytesK (by with_reducible assumption) (by with_reducible assumption) (by decide +kernel) (by intro _; rfl) ?_ (by decide +kernel)
    refine ev_binop ?_
    refine ev_binop ?_
    refine ev_name (by (repeat' (first | with_reducible exact lk_here | refine lk_there (by decide +kernel) ?_ | refine lk_free (by decide +kernel) ?_ | with_reducible assumption))) ?_ (by decide +kernel) (by decide +kernel)
    with_reducible refine ev_int ?_
    with_reducible refine pr_and_int ?_
    with_reducible refine ev_int ?_
    refine pr_shl_int (n := 4) rfl (by decide) ?_ ?_
    rotate_left
    rotate_left
    refine ex_cons ?_
    refine ex_if ?_
    refine evb_compare ?_
    refine ev_name (by (repeat' (first | with_reducible exact lk_here | refine lk_there (by decide +kernel) ?_ | refine lk_free (by decide +kernel) ?_ | with_reducible assumption))) ?_ (by decide +kernel) (by decide +kernel)
    with_reducible refine ev_int ?_
    with_reducible refine pr_eq_int ?_
    refine tr_bool ?_
    with_reducible refine br (fun _ => ?_) (fun _ => ?_)
    refine ex_cons ?_
    refine ex_append' (by (repeat' (first | with_reducible exact lk_here | refine lk_there (by decide +kernel) ?_ | refine lk_free (by decide +kernel) ?_ | with_reducible assumption))) ?_ ?_
    rotate_left
    refine ev_sub ?_
    refine ev_globytesK (by with_reducible assumption) (by with_reducible assumption) (by decide +kernel) (by intro _; rfl) ?_ (by decide +kernel)
    refine ev_binop ?_
    refine ev_binop ?_
    refine ev_name (by (repeat' (first | with_reducible exact lk_here | refine lk_there (by decide +kernel) ?_ | refine lk_free (by decide +kernel) ?_ | with_reducible assumption))) ?_ (by decide +kernel) (by decide +kernel)
    with_reducible refine ev_int ?_
    with_reducible refine pr_and_int ?_
    with_reducible refine ev_int ?_
    refine pr_shl_int (n := 2) rfl (by decide) ?_ ?_
    rotate_left
    rotate_left
    refine ex_nil ?_
    with_reducible refine then_next ?_
    refine ex_nil ?_
    with_reducible refine then_next ?_
    refine ex_cons ?_
    refine ex_if ?_
    refine evb_plain ?_
    refine ev_name (by (repeat' (first | with_reducible exact lk_here | refine lk_there (by decide +kernel) ?_ | refine lk_free (by decide +kernel) ?_ | with_reducible assumption))) ?_ (by decide +kernel) (by decide +kernel)
    refine tr_bool ?_
    with_reducible refine br_f ?_
    refine ex_nil ?_
    with_reducible refine then_next ?_
    refine ex_cons ?_
    refine ex_freeze (by (repeat' (first | with_reducible exact lk_here | refine lk_there (by decide +kernel) ?_ | refine lk_free (by decide +kernel) ?_ | with_reducible assumption))) ?_; refine ex_return ?_
    refine ev_call ?_
    refine ev_typeK (by with_reducible assumption) (by with_reducible assumption) (by decide +kernel) (by intro _; kernel_rfl) (by with_reducible exact bb_bytes) ?_ (by decide +kernel) (by decide +kernel)
    refine call_pos0 (by (first | exact keep_B | exact keep_T | exact keepK (by with_reducible assumption) (by intro _; kernel_rfl))) ?_
    refine evl_cons ?_
    refine ev_name (by (repeat' (first | with_reducible exact lk_here | refine lk_there (by decide +kernel) ?_ | refine lk_free (by decide +kernel) ?_ | with_reducible assumption))) ?_ (by decide +kernel) (by decide +kernel)
    refine evl_nil ?_
    rotate_left
    · exact hsz 0 (by lia)
    · rw [hand3]; lia
    · refine pr_b64 (N % 4 * 16) (by rw [hand3]; lia) (by lia) ?_
      with_reducible refine then_next ?_
      refine ex_cons ?_
      refine ex_append' (by (repeat' (first | with_reducible exact lk_here | refine lk_there (by decide +kernel) ?_ | refine lk_free (by decide +kernel) ?_ | with_reducible assumption))) ?_ ?_
      rotate_left
      with_reducible refine ev_int ?_
      with_reducible refine then_next ?_
      refine ex_cons ?_
      refine ex_append' (by (repeat' (first | with_reducible exact lk_here | refine lk_there (by decide +kernel) ?_ | refine lk_free (by decide +kernel) ?_ | with_reducible assumption))) ?_ ?_
      rotate_left
      with_reducible refine ev_int ?_
      with_reducible refine then_next ?_
      refine ex_nil ?_
      with_reducible refine then_next ?_
      refine ex_cons ?_
      refine ex_if ?_
      refine evb_plain ?_
      refine ev_name (by (repeat' (first | with_reducible exact lk_here | refine lk_there (by decide +kernel) ?_ | refine lk_free (by decide +kernel) ?_ | with_reducible assumption))) ?_ (by decide +kernel) (by decide +kernel)
      refine tr_bool ?_
      with_reducible refine br_f ?_
      refine ex_nil ?_
      with_reducible refine then_next ?_
      refine ex_cons ?_
      refine ex_freeze (by (repeat' (first | with_reducible exact lk_here | refine lk_there (by decide +kernel) ?_ | refine lk_free (by decide +kernel) ?_ | with_reducible assumption))) ?_; refine ex_return ?_
      refine ev_call ?_
      refine ev_typeK (by with_reducible assumption) (by with_reducible assumption) (by decide +kernel) (by intro _; kernel_rfl) (by with_reducible exact bb_bytes) ?_ (by decide +kernel) (by decide +kernel)
      refine call_pos0 (by (first | exact keep_B | exact keep_T | exact keepK (by with_reducible assumption) (by intro _; kernel_rfl))) ?_
      refine evl_cons ?_
      refine ev_name (by (repeat' (first | with_reducible exact lk_here | refine lk_there (by decide +kernel) ?_ | refine lk_free (by decide +kernel) ?_ | with_reducible assumption))) ?_ (by decide +kernel) (by decide +kernel)
      refine evl_nil ?_
      rotate_left
      · rw [List.length_append, List.length_singleton]; exact hsz 1 (by lia)
      · rw [List.length_append, List.length_append, List.length_singleton, List.length_singleton]; exact hsz 2 (by lia)
      · have e3 : 8 * ns.length % 6 = 2 := by lia
        obtain ⟨h3, e1, e2⟩ := (ar4 ns.length (Nat.lt_succ_of_le (hnl ▸ hz))).1 e3
        rw [hnl] at e1
        have hfig : figsOf ns = digs 64 (8 * ns.length / 6) (N / 2 ^ (8 * ns.length % 6)) ++ [N % 4 * 16] := by
          unfold figsOf
          rw [hnl, e1, ← hnl, e2, e3, hNN, digs_succ]
          have a1 : N * 4 ^ 2 / 64 = N / 2 ^ 2 := shr2 N
          have a2 : N * 4 ^ 2 % 64 = N % 4 * 16 := mor2 N
          rw [a1, a2]
        have := hbytes (figsOf ns) 2 (hd64 _ _) (by unfold figsOf; rw [digs_len]; lia) (by lia) (Ψ' := fun d => Then C [] (retQ fun d => d = D.bytes (encB (figsOf ns) ++ List.replicate ((3 - os.length % 3) % 3) 61).toArray) NoX (Fl.ret d) []) (by show _ = _; rw [e1])
        rw [hfig] at this
        simp only [encD, List.map_append, List.map_cons, List.map_nil, List.replicate, List.append_assoc, List.cons_append, List.nil_append] at this ⊢
        rw [← hfig] at this
        exact this
    · exact hsz 0 (by lia)
    · rw [hand15]; lia
    · refine pr_b64 (N % 16 * 4) (by rw [hand15]; lia) (by lia) ?_
      with_reducible refine then_next ?_
      refine ex_cons ?_
      refine ex_append' (by (repeat' (first | with_reducible exact lk_here | refine lk_there (by decide +kernel) ?_ | refine lk_free (by decide +kernel) ?_ | with_reducible assumption))) ?_ ?_
      rotate_left
      with_reducible refine ev_int ?_
      with_reducible refine then_next ?_
      refine ex_nil ?_
      with_reducible refine then_next ?_
      refine ex_nil ?_
      with_reducible refine then_next ?_
      refine ex_cons ?_
      refine ex_if ?_
      refine evb_plain ?_
      refine ev_name (by (repeat' (first | with_reducible exact lk_here | refine lk_there (by decide +kernel) ?_ | refine lk_free (by decide +kernel) ?_ | with_reducible assumption))) ?_ (by decide +kernel) (by decide +kernel)
      refine tr_bool ?_
      with_reducible refine br_f ?_
      refine ex_nil ?_
      with_reducible refine then_next ?_
      refine ex_cons ?_
      refine ex_freeze (by (repeat' (first | with_reducible exact lk_here | refine lk_there (by decide +kernel) ?_ | refine lk_free (by decide +kernel) ?_ | with_reducible assumption))) ?_; refine ex_return ?_
      refine ev_call ?_
      refine ev_typeK (by with_reducible assumption) (by with_reducible assumption) (by decide +kernel) (by intro _; kernel_rfl) (by with_reducible exact bb_bytes) ?_ (by decide +kernel) (by decide +kernel)
      refine call_pos0 (by (first | exact keep_B | exact keep_T | exact keepK (by with_reducible assumption) (by intro _; kernel_rfl))) ?_
      refine evl_cons ?_
      refine ev_name (by (repeat' (first | with_reducible exact lk_here | refine lk_there (by decide +kernel) ?_ | refine lk_free (by decide +kernel) ?_ | with_reducible assumption))) ?_ (by decide +kernel) (by decide +kernel)
      refine evl_nil ?_
      rotate_left
      · rw [List.length_append, List.length_singleton]; exact hsz 1 (by lia)
      · have e3 : 8 * ns.length % 6 = 4 := by lia
        obtain ⟨h3, e1, e2⟩ := (ar4 ns.length (Nat.lt_succ_of_le (hnl ▸ hz))).2.1 e3
        rw [hnl] at e1
        have hfig : figsOf ns = digs 64 (8 * ns.length / 6) (N / 2 ^ (8 * ns.length % 6)) ++ [N % 16 * 4] := by
          unfold figsOf
          rw [hnl, e1, ← hnl, e2, e3, hNN, digs_succ]
          have a1 : N * 4 ^ 1 / 64 = N / 2 ^ 4 := shr4 N
          have a2 : N * 4 ^ 1 % 64 = N % 16 * 4 := mor4 N
          rw [a1, a2]
        have := hbytes (figsOf ns) 1 (hd64 _ _) (by unfold figsOf; rw [digs_len]; lia) (by lia) (Ψ' := fun d => Then C [] (retQ fun d => d = D.bytes (encB (figsOf ns) ++ List.replicate ((3 - os.length % 3) % 3) 61).toArray) NoX (Fl.ret d) []) (by show _ = _; rw [e1])
        rw [hfig] at this
        simp only [encD, List.map_append, List.map_cons, List.map_nil, List.replicate, List.append_assoc, List.cons_append, List.nil_append] at this ⊢
        rw [← hfig] at this
        exact this
    · obtain ⟨h3, e1, e2, e3⟩ := (ar4 ns.length (Nat.lt_succ_of_le (hnl ▸ hz))).2.2 (by lia) (by lia)
      rw [hnl] at e1
      have hfig : figsOf ns = digs 64 (8 * ns.length / 6) (N / 2 ^ (8 * ns.length % 6)) := by
        unfold figsOf
        rw [hnl, e1, ← hnl, e2, e3, hNN]
        simp
      have := hbytes (figsOf ns) 0 (hd64 _ _) (by unfold figsOf; rw [digs_len]; lia) (by lia) (Ψ' := fun d => Then C [] (retQ fun d => d = D.bytes (encB (figsOf ns) ++ List.replicate ((3 - os.length % 3) % 3) 61).toArray) NoX (Fl.ret d) []) (by show _ = _; rw [e1])
      rw [hfig] at this
      simp only [List.replicate, List.append_nil] at this ⊢
      rw [← hfig] at this ⊢
      exact this

/-! V6 -/
theorem fn_parse (g : Gx) (hK : g.K = hd01.heap_39 g.w.params) (ls : List (List Nat)) (hz : ls.length ≤ 1000) (hl : ∀ l ∈ ls, l.length ≤ 1000) :
    FnOk g 1 (.ref 28) [.lst (ls.map fun l => .str (S l))] [] [] (fun d => ∃ es, prun [] ls = .ok es ∧ d = .dct es ∧ (es.map (·.1)).Nodup) (fun x => (prun [] ls = .val ∧ x = ⟨.type "ValueError", none⟩) ∨ (prun [] ls = .idx ∧ x = ⟨.type "IndexError", none⟩)) := by
  refine fn_def (r := 0) (bs := [("l", .lst (ls.map fun l => .str (S l)))]) (by rw [hK]; rfl) (by rw [hK]; rfl) (binds1 (by intro v; rfl)) ?_ ["l"]
  intro C hC
  obtain rfl := hC.g
  have hsc := hC.scope
  have hrk := hC.rk
  dsimp only [List.map]
  refine ex_cons ?_
  refine ex_own_dict (kind_loc (by with_reducible assumption) (by decide +kernel)) ?_
  with_reducible refine then_next ?_
  refine ex_cons ?_
  refine ex_for hC.comp (evi_of (ev_name (by (repeat' (first | with_reducible exact lk_here | refine lk_there (by decide +kernel) ?_ | refine lk_free (by decide +kernel) ?_ | with_reducible assumption))) (itr_list trivial ?_) (by decide +kernel) (by decide +kernel)))
  refine ⟨fun i σ₁ => ∃ es, prun [] (ls.take i) = .ok es ∧ (es.map (·.1)).Nodup ∧ es.length ≤ i ∧ has σ₁ "parsed" (.own (.dct es)), ?_, ?_, ?_⟩
  · exact ⟨[], rfl, by simp, by simp, by (repeat' (first | with_reducible exact lk_here | refine lk_there (by decide +kernel) ?_ | refine lk_free (by decide +kernel) ?_ | with_reducible assumption))⟩
  · rintro i d σ₁ hd ⟨es, p1, p2, p3, l1⟩
    refine asg_name (by (first | exact st_loc (by with_reducible assumption) (by decide +kernel) | exact st_cell (by with_reducible assumption) (by first | with_reducible assumption | exact FnCx.comp (by assumption)) (by decide +kernel))) ?_
    rw [List.getElem?_map] at hd
    obtain ⟨l, hli, rfl⟩ := Option.map_eq_some_iff.mp hd
    have hlm := hl l (List.mem_of_getElem? hli)
    have hi : i < ls.length := (List.getElem?_eq_some_iff.mp hli).1
    have hsplit : ls = ls.take i ++ l :: ls.drop (i + 1) := by
      have := (List.getElem?_eq_some_iff.mp hli).2
      rw [← this, List.getElem_cons_drop, List.take_append_drop]
    have hrun : prun [] ls = match pstep es l with | .ok es' => prun es' (ls.drop (i + 1)) | r => r := by
      conv => lhs; rw [hsplit]
      rw [prun_app, p1]; rfl
    have hnext : prun [] (ls.take (i + 1)) = pstep es l := by
      rw [List.take_add_one, hli]
      show prun [] (ls.take i ++ [l]) = _
      rw [prun_app, p1]
      simp only [prun]
      cases pstep es l <;> rfl
    refine ex_cons (ex_unpack (by (first | exact st_loc (by with_reducible assumption) (by decide +kernel) | exact st_cell (by with_reducible assumption) (by first | with_reducible assumption | exact FnCx.comp (by assumption)) (by decide +kernel))) (by (first | exact st_loc (by with_reducible assumption) (by decide +kernel) | exact st_cell (by with_reducible assumption) (by first | with_reducible assumption | exact FnCx.comp (by assumption)) (by decide +kernel))) ?_)
    refine ev_split (x := S l) ?_
    refine ev_name (by (repeat' (first | with_reducible exact lk_here | refine lk_there (by decide +kernel) ?_ | refine lk_free (by decide +kernel) ?_ | with_reducible assumption))) ⟨rfl, ?_⟩ (by decide +kernel) (by decide +kernel)
    refine evl_cons ?_
    with_reducible refine ev_strc ?_
    refine evl_cons ?_
    with_reducible refine ev_int ?_
    refine evl_nil ?_
    refine cl_split (by have : sizeLine ≥ 2000 := by decide
                        lia) (fun hm => .inl ⟨_, _, rfl, ?_⟩) (fun hm => .inr ⟨_, rfl, .inl ⟨?_, rfl⟩⟩)
    · refine then_next ?_
      by_cases hv : suf61 l = []
      · have hst : pstep es l = .idx := by unfold pstep; rw [if_pos hm, if_pos hv]
        rw [hst] at hrun
        rw [hv]
        refine ex_cons ?_
        refine ex_if ?_
        refine evb_and ?_
        refine evb_compare ?_
        refine ev_sub ?_
        refine ev_name (by (repeat' (first | with_reducible exact lk_here | refine lk_there (by decide +kernel) ?_ | refine lk_free (by decide +kernel) ?_ | with_reducible assumption))) ?_ (by decide +kernel) (by decide +kernel)
        with_reducible refine ev_int ?_
        refine pr_item_str_no (.inl rfl) (.inr ⟨hrun, rfl⟩)
      · have hst : pstep es l = .ok (put es (S (pre61 l)) (S (unq (suf61 l)))) := by unfold pstep; rw [if_pos hm, if_neg hv]
        rw [hst] at hnext
        generalize hvv : suf61 l = v at *
        have hvl : v.length ≤ 1000 := by
          rw [← hvv]; unfold suf61
          have h1 : (l.dropWhile (· != 61)).length ≤ l.length := (List.dropWhile_sublist _).length_le
          rw [List.length_drop]; lia
        have hpos : 0 < v.length := List.length_pos_iff.mpr hv
        have hq : codes "\"" = [34] := by decide
        obtain ⟨c0, h0⟩ : ∃ c, v[0]? = some c := ⟨v[0], by simp [hpos]⟩
        obtain ⟨c1, h1⟩ : ∃ c, v[v.length - 1]? = some c := ⟨v[v.length - 1], by simp⟩
        have hhead : v.head? = some c0 := by rw [List.head?_eq_getElem?]; exact h0
        have hlast : v.getLast? = some c1 := by rw [List.getLast?_eq_getElem?]; exact h1
        have fin : ∀ (σ₂ : St) (w : List Nat), w = unq v → has σ₂ "parsed" (.own (.dct es)) → has σ₂ "k" (.dat (.str (S (pre61 l)))) → has σ₂ "v" (.dat (.str (S w))) → ∀ {np sp pos kp vp : Pos} {Ψ' : Fl → St → Prop},
            (∀ σ₃, has σ₃ "parsed" (.own (.dct (put es (S (pre61 l)) (S (unq v))))) → Ψ' .next σ₃) → EX C σ₂ (exec (.Assign [.Subscript (.Name "parsed" np) (.Name "k" kp) sp] (.Name "v" vp) pos) C.env) Ψ' (fun x => (prun [] ls = .val ∧ x = ⟨.type "ValueError", none⟩) ∨ (prun [] ls = .idx ∧ x = ⟨.type "IndexError", none⟩)) := by
          intro σ₂ w hw g1 g2 g3 np sp pos kp vp Ψ' hΨ
          subst hw
          refine ex_setitem g1 (Nat.le_trans (by lia : _ ≤ 1000) (by decide)) p2 ?_ (by decide +kernel) (by decide +kernel)
          refine ev_name g3 ?_ (by decide +kernel) (by decide +kernel)
          refine ev_name g2 ?_ (by decide +kernel) (by decide +kernel)
          exact ⟨_, _, rfl, rfl, hΨ _ (by (repeat' (first | with_reducible exact lk_here | refine lk_there (by decide +kernel) ?_ | refine lk_free (by decide +kernel) ?_ | with_reducible assumption)))⟩
        have fin2 : ∀ σ₃ : St, has σ₃ "parsed" (.own (.dct (put es (S (pre61 l)) (S (unq v))))) → ∃ es, prun [] (ls.take (i + 1)) = .ok es ∧ (es.map (·.1)).Nodup ∧ es.length ≤ i + 1 ∧ has σ₃ "parsed" (.own (.dct es)) := fun σ₃ h =>
          ⟨_, hnext, put_nodup p2, Nat.le_trans put_length (by lia), h⟩
        refine ex_cons ?_
        refine ex_if ?_
        refine evb_and ?_
        refine evb_compare ?_
        refine ev_sub ?_
        refine ev_name (by (repeat' (first | with_reducible exact lk_here | refine lk_there (by decide +kernel) ?_ | refine lk_free (by decide +kernel) ?_ | with_reducible assumption))) ?_ (by decide +kernel) (by decide +kernel)
        with_reducible refine ev_int ?_
        refine pr_item_str (c := c0) (j := 0) (by lia) (seqIdx_nat hpos) h0 ?_
        with_reducible refine ev_strc ?_
        with_reducible refine pr_eq_str ?_
        refine tr_bool ?_
        with_reducible refine br (fun _ => ?_) (fun _ => ?_)
        refine evb_and ?_
        refine evb_compare ?_
        refine ev_sub ?_
        refine ev_name (by (repeat' (first | with_reducible exact lk_here | refine lk_there (by decide +kernel) ?_ | refine lk_free (by decide +kernel) ?_ | with_reducible assumption))) ?_ (by decide +kernel) (by decide +kernel)
        refine ev_unop ?_
        with_reducible refine ev_int ?_
        with_reducible refine pr_neg_int ?_
        rotate_left
        with_reducible refine br_f ?_
        refine ex_nil ?_
        with_reducible refine then_next ?_
        refine ex_cons ?_
        rotate_left
        · rename_i hc0
          rw [hq] at hc0
          have hc0' : c0 = 34 := by simpa using hc0
          refine pr_item_str (c := c1) (j := v.length - 1) (by lia) (seqIdx_last hpos) h1 ?_
          with_reducible refine ev_strc ?_
          with_reducible refine pr_eq_str ?_
          refine tr_bool ?_
          with_reducible refine br (fun _ => ?_) (fun _ => ?_)
          refine evb_and_nil ?_
          with_reducible refine br_t ?_
          refine ex_cons ?_
          refine ex_assign (by (first | exact st_loc (by with_reducible assumption) (by decide +kernel) | exact st_cell (by with_reducible assumption) (by first | with_reducible assumption | exact FnCx.comp (by assumption)) (by decide +kernel))) ?_
          refine ev_sub ?_
          refine ev_name (by (repeat' (first | with_reducible exact lk_here | refine lk_there (by decide +kernel) ?_ | refine lk_free (by decide +kernel) ?_ | with_reducible assumption))) ?_ (by decide +kernel) (by decide +kernel)
          refine ev_slice ?_
          refine evp_some ?_
          with_reducible refine ev_int ?_
          refine evp_some ?_
          refine ev_unop ?_
          with_reducible refine ev_int ?_
          with_reducible refine pr_neg_int ?_
          refine evp_none ?_
          rotate_left
          with_reducible refine br_f ?_
          refine ex_nil ?_
          with_reducible refine then_next ?_
          refine ex_cons ?_
          rotate_left
          · rename_i hc1
            rw [hq] at hc1
            have hc1' : c1 = 34 := by simpa using hc1
            refine pr_slice_str (lo := some 1) (hi := some (-1)) (Nat.le_trans hvl (by decide)) ?_
            rw [pickL_inner]
            have hu : unq v = (v.drop 1).take (v.length - 2) := by unfold unq isQ; rw [hhead, hlast, hc0', hc1']; rfl
            with_reducible refine then_next ?_
            refine ex_nil ?_
            with_reducible refine then_next ?_
            refine ex_cons ?_
            refine fin _ _ hu.symm (by (repeat' (first | with_reducible exact lk_here | refine lk_there (by decide +kernel) ?_ | refine lk_free (by decide +kernel) ?_ | with_reducible assumption))) (by (repeat' (first | with_reducible exact lk_here | refine lk_there (by decide +kernel) ?_ | refine lk_free (by decide +kernel) ?_ | with_reducible assumption))) (by (repeat' (first | with_reducible exact lk_here | refine lk_there (by decide +kernel) ?_ | refine lk_free (by decide +kernel) ?_ | with_reducible assumption))) fun σ₃ h => ?_
            refine then_next ?_
            refine ex_nil ?_
            exact fin2 _ h
          · rename_i hc1
            rw [hq] at hc1
            have hu : unq v = v := by
              unfold unq isQ; rw [hhead, hlast]
              have : ¬ c1 = 34 := by simpa using hc1
              simp [this]
            refine fin _ _ hu.symm (by (repeat' (first | with_reducible exact lk_here | refine lk_there (by decide +kernel) ?_ | refine lk_free (by decide +kernel) ?_ | with_reducible assumption))) (by (repeat' (first | with_reducible exact lk_here | refine lk_there (by decide +kernel) ?_ | refine lk_free (by decide +kernel) ?_ | with_reducible assumption))) (by (repeat' (first | with_reducible exact lk_here | refine lk_there (by decide +kernel) ?_ | refine lk_free (by decide +kernel) ?_ | with_reducible assumption))) fun σ₃ h => ?_
            refine then_next ?_
            refine ex_nil ?_
            exact fin2 _ h
        · rename_i hc0
          rw [hq] at hc0
          have hu : unq v = v := by
            unfold unq isQ; rw [hhead, hlast]
            have : ¬ c0 = 34 := by simpa using hc0
            simp [this]
          refine fin _ _ hu.symm (by (repeat' (first | with_reducible exact lk_here | refine lk_there (by decide +kernel) ?_ | refine lk_free (by decide +kernel) ?_ | with_reducible assumption))) (by (repeat' (first | with_reducible exact lk_here | refine lk_there (by decide +kernel) ?_ | refine lk_free (by decide +kernel) ?_ | with_reducible assumption))) (by (repeat' (first | with_reducible exact lk_here | refine lk_there (by decide +kernel) ?_ | refine lk_free (by decide +kernel) ?_ | with_reducible assumption))) fun σ₃ h => ?_
          refine then_next ?_
          refine ex_nil ?_
          exact fin2 _ h
    · have hst : pstep es l = .val := by unfold pstep; rw [if_neg hm]
      rw [hst] at hrun; exact hrun
  · rintro σ₁ ⟨es, p1, p2, p3, l1⟩
    rw [List.length_map, List.take_length] at p1
    refine then_next (ex_freeze l1 ?_)
    refine ex_cons ?_
    refine ex_return ?_
    refine ev_name (by (repeat' (first | with_reducible exact lk_here | refine lk_there (by decide +kernel) ?_ | refine lk_free (by decide +kernel) ?_ | with_reducible assumption))) ?_ (by decide +kernel) (by decide +kernel)
    exact ⟨es, p1, rfl, p2⟩

/-! U5 -/
theorem fn_from_bytes (g : Gx) (hK : g.K = hd01.heap_39 g.w.params) (b : Array UInt8) : FnOk g 1 (.ref 36) [.bytes b] [] [] (fun d => d = .bytes b) NoX := by
  refine fn_def (r := 0) (bs := [("s", .bytes b)]) (by rw [hK]; rfl) (by rw [hK]; rfl) (binds1 (by intro v; rfl)) ?_ ["s"]
  intro C hC
  obtain rfl := hC.g
  have hsc := hC.scope
  dsimp only [List.map]
  refine ex_cons ?_
  refine ex_if ?_
  refine evb_plain ?_
  refine ev_call ?_
  refine ev_funK (by with_reducible assumption) (by with_reducible assumption) (by decide +kernel) (by intro _; kernel_rfl) (by with_reducible exact bb_isinstance) ?_ (by decide +kernel) (by decide +kernel)
  refine call_pos0 (by (first | exact keep_B | exact keep_T | exact keepK (by with_reducible assumption) (by intro _; kernel_rfl))) ?_
  refine evl_cons ?_
  refine ev_name (by (repeat' (first | with_reducible exact lk_here | refine lk_there (by decide +kernel) ?_ | refine lk_free (by decide +kernel) ?_ | with_reducible assumption))) ?_ (by decide +kernel) (by decide +kernel)
  refine evl_cons ?_
  refine ev_typeK (by with_reducible assumption) (by with_reducible assumption) (by decide +kernel) (by intro _; kernel_rfl) (by with_reducible exact bb_str) ?_ (by decide +kernel) (by decide +kernel)
  refine evl_nil ?_
  refine cl_isinstance_bytes isi_str ?_
  refine tr_bool ?_
  with_reducible refine br_f ?_
  refine ex_nil ?_
  with_reducible refine then_next ?_
  refine ex_cons ?_
  refine ex_if ?_
  refine evb_plain ?_
  refine ev_call ?_
  refine ev_funK (by with_reducible assumption) (by with_reducible assumption) (by decide +kernel) (by intro _; kernel_rfl) (by with_reducible exact bb_isinstance) ?_ (by decide +kernel) (by decide +kernel)
  refine call_pos0 (by (first | exact keep_B | exact keep_T | exact keepK (by with_reducible assumption) (by intro _; kernel_rfl))) ?_
  refine evl_cons ?_
  refine ev_name (by (repeat' (first | with_reducible exact lk_here | refine lk_there (by decide +kernel) ?_ | refine lk_free (by decide +kernel) ?_ | with_reducible assumption))) ?_ (by decide +kernel) (by decide +kernel)
  refine evl_cons ?_
  refine ev_globalK (by with_reducible assumption) (by with_reducible assumption) (by decide +kernel) (by intro _; rfl) ?_ (by decide +kernel)
  refine evl_nil ?_
  refine cl_isinstance_bytes_tup (by rw [hK]; rfl) isi_pair ?_
  refine tr_bool ?_
  with_reducible refine br_t ?_
  refine ex_cons ?_
  refine ex_return ?_
  refine ev_name (by (repeat' (first | with_reducible exact lk_here | refine lk_there (by decide +kernel) ?_ | refine lk_free (by decide +kernel) ?_ | with_reducible assumption))) ?_ (by decide +kernel) (by decide +kernel)
  exact rfl
theorem fn_b64encode_alt (g : Gx) (hK : g.K = hd01.heap_39 g.w.params) (os alt : List UInt8) (hz : os.length ≤ 100) (ha : alt.length = 2) :
    FnOk g 3 (.ref 101) [.bytes os.toArray, .bytes alt.toArray] [] [] (fun d => d = .bytes (trans (mtab [43, 47] alt) (encB (figsOf (os.map UInt8.toNat)) ++ List.replicate ((3 - os.length % 3) % 3) 61)).toArray) NoX := by
  refine fn_def (r := 2) (bs := [("s", .bytes os.toArray), ("altchars", .bytes alt.toArray)]) (by rw [hK]; rfl) (by rw [hK]; rfl)
    (bindsK_2_0 (fun v w => [("s", v), ("altchars", w)]) (by intro v w S; rw [hK]; rfl) (by intro v w; rfl) (by intro h ex v w a b; exact .cons a (.cons b .nil))) ?_ ["s", "altchars"]
  intro C hC
  obtain rfl := hC.g
  have hsc := hC.scope
  have hrk := hC.rk
  dsimp only [List.map]
  have hl : (encB (figsOf (os.map UInt8.toNat)) ++ List.replicate ((3 - os.length % 3) % 3) (61 : UInt8)).length ≤ 1000 := by
    rw [List.length_append, List.length_replicate]; unfold encB figsOf; rw [List.length_map, digs_len, List.length_map]; lia
  refine ex_cons ?_
  refine ex_assign (by (first | exact st_loc (by with_reducible assumption) (by decide +kernel) | exact st_cell (by with_reducible assumption) (by first | with_reducible assumption | exact FnCx.comp (by assumption)) (by decide +kernel))) ?_
  refine ev_call ?_
  refine ev_globalK (by with_reducible assumption) (by with_reducible assumption) (by decide +kernel) (by intro _; rfl) ?_ (by decide +kernel)
  refine call_kw0 (ns := _) (by (first | exact keep_B | exact keep_T | exact keepK (by with_reducible assumption) (by intro _; kernel_rfl))) ?_
  refine evl_cons ?_
  refine ev_name (by (repeat' (first | with_reducible exact lk_here | refine lk_there (by decide +kernel) ?_ | refine lk_free (by decide +kernel) ?_ | with_reducible assumption))) ?_ (by decide +kernel) (by decide +kernel)
  refine evl_nil ?_
  refine evk_cons ?_
  with_reducible refine ev_bool ?_
  refine evk_nil ?_
  refine cl_eq (fn_b2a _ hK os hz) (by lia) ?_
  generalize encB (figsOf (os.map UInt8.toNat)) ++ List.replicate ((3 - os.length % 3) % 3) (61 : UInt8) = wr at *
  with_reducible refine then_next ?_
  refine ex_cons ?_
  refine ex_if ?_
  refine evb_compare ?_
  refine ev_name (by (repeat' (first | with_reducible exact lk_here | refine lk_there (by decide +kernel) ?_ | refine lk_free (by decide +kernel) ?_ | with_reducible assumption))) ?_ (by decide +kernel) (by decide +kernel)
  with_reducible refine ev_none ?_
  with_reducible refine pr_isNot_none (fun _ e => nomatch e) ?_
  refine tr_bool ?_
  with_reducible refine br_t ?_
  refine ex_cons ?_
  refine ex_assert ?_
  refine evb_compare ?_
  refine ev_call ?_
  refine ev_funK (by with_reducible assumption) (by with_reducible assumption) (by decide +kernel) (by intro _; kernel_rfl) (by with_reducible exact bb_len) ?_ (by decide +kernel) (by decide +kernel)
  refine call_pos0 (by (first | exact keep_B | exact keep_T | exact keepK (by with_reducible assumption) (by intro _; kernel_rfl))) ?_
  refine evl_cons ?_
  refine ev_name (by (repeat' (first | with_reducible exact lk_here | refine lk_there (by decide +kernel) ?_ | refine lk_free (by decide +kernel) ?_ | with_reducible assumption))) ?_ (by decide +kernel) (by decide +kernel)
  refine evl_nil ?_
  refine cl_len_bytes ?_ ?_
  rotate_left
  with_reducible refine ev_int ?_
  with_reducible refine pr_eq_int ?_
  refine tr_bool ?_
  rotate_left
  · rw [ha]; decide
  refine ⟨by rw [ha]; rfl, ?_⟩
  with_reducible refine then_next ?_
  refine ex_cons ?_
  refine ex_return ?_
  refine ev_translate ?_
  refine ev_name (by (repeat' (first | with_reducible exact lk_here | refine lk_there (by decide +kernel) ?_ | refine lk_free (by decide +kernel) ?_ | with_reducible assumption))) ⟨_, rfl, ?_⟩ (by decide +kernel) (by decide +kernel)
  refine evl_cons (ev_smethod ?_)
  refine ev_typeK (by with_reducible assumption) (by with_reducible assumption) (by decide +kernel) (by intro _; kernel_rfl) (by with_reducible exact bb_bytes) ⟨_, _, rfl, bytes_static.1, bytes_static.2.1, bytes_static.2.2.1, bytes_static.2.2.2, ?_⟩ (by decide +kernel) (by decide +kernel)
  refine call_pos0 (by (first | exact keep_B | exact keep_T | exact keepK (by with_reducible assumption) (by intro _; kernel_rfl))) ?_
  refine evl_cons ?_
  with_reducible refine ev_bytes ?_
  refine evl_cons ?_
  refine ev_name (by (repeat' (first | with_reducible exact lk_here | refine lk_there (by decide +kernel) ?_ | refine lk_free (by decide +kernel) ?_ | with_reducible assumption))) ?_ (by decide +kernel) (by decide +kernel)
  refine evl_nil ?_
  refine cl_maketrans (by rw [ha]; rfl) ?_
  refine evl_nil ?_
  refine cl_translate (mtab_size _ _) (Nat.le_trans hl (by decide)) ?_
  skip
  exact rfl
theorem fn_b64decode_alt (g : Gx) (hK : g.K = hd01.heap_39 g.w.params) (herr : ErrAt 46 g.base) (l : List Nat) (alt : List UInt8) (fs : List Nat) (ha : alt.length = 2) (hl : ∀ c ∈ l, c < 128) (hz : l.length ≤ 100) (hf : ∀ f ∈ fs, f < 64) (hfl : fs.length ≤ 100)
    (ht : trans (mtab alt [43, 47]) (l.map (·.toUInt8)) = encB fs)
    (Φ : D → Prop) (Ξ : XD → Prop) (h1 : fs.length % 4 = 1 → Ξ ⟨.ref 46, some (percentText (fs.length : Int))⟩) (h2 : fs.length % 4 ≠ 1 → fs.length % 4 ≠ 0 → Ξ ⟨.ref 46, some "Incorrect padding"⟩)
    (h3 : fs.length % 4 = 0 → Φ (.bytes ((a2run fs).1.map Nat.toUInt8).toArray)) :
    FnOk g 4 (.ref 109) [.str (S l), .bytes alt.toArray] [] [] Φ Ξ := by
  refine fn_def (r := 3) (bs := [("s", .str (S l)), ("altchars", .bytes alt.toArray), ("validate", .bool false)]) (by rw [hK]; rfl) (by rw [hK]; rfl)
    (bindsK_2_0 (fun v w => [("s", v), ("altchars", w), ("validate", .bool false)]) (by intro v w S; rw [hK]; rfl) (by intro v w; rfl) (by intro h ex v w a b; exact .cons a (.cons b (.cons (.val _) .nil)))) ?_ ["s", "altchars", "validate"]
  intro C hC
  obtain rfl := hC.g
  have hsc := hC.scope
  have hrk := hC.rk
  dsimp only [List.map]
  refine ex_cons ?_
  refine ex_assign (by (first | exact st_loc (by with_reducible assumption) (by decide +kernel) | exact st_cell (by with_reducible assumption) (by first | with_reducible assumption | exact FnCx.comp (by assumption)) (by decide +kernel))) ?_
  refine ev_call ?_
  refine ev_globalK (by with_reducible assumption) (by with_reducible assumption) (by decide +kernel) (by intro _; rfl) ?_ (by decide +kernel)
  refine call_pos0 (by (first | exact keep_B | exact keep_T | exact keepK (by with_reducible assumption) (by intro _; kernel_rfl))) ?_
  refine evl_cons ?_
  refine ev_name (by (repeat' (first | with_reducible exact lk_here | refine lk_there (by decide +kernel) ?_ | refine lk_free (by decide +kernel) ?_ | with_reducible assumption))) ?_ (by decide +kernel) (by decide +kernel)
  refine evl_nil ?_
  refine cl_eq (fn_from_data _ hK l hl (Nat.le_trans hz (by decide))) (by lia) ?_
  with_reducible refine then_next ?_
  refine ex_cons ?_
  refine ex_if ?_
  refine evb_compare ?_
  refine ev_name (by (repeat' (first | with_reducible exact lk_here | refine lk_there (by decide +kernel) ?_ | refine lk_free (by decide +kernel) ?_ | with_reducible assumption))) ?_ (by decide +kernel) (by decide +kernel)
  with_reducible refine ev_none ?_
  with_reducible refine pr_isNot_none (fun _ e => nomatch e) ?_
  refine tr_bool ?_
  with_reducible refine br_t ?_
  refine ex_cons ?_
  refine ex_assign (by (first | exact st_loc (by with_reducible assumption) (by decide +kernel) | exact st_cell (by with_reducible assumption) (by first | with_reducible assumption | exact FnCx.comp (by assumption)) (by decide +kernel))) ?_
  refine ev_call ?_
  refine ev_globalK (by with_reducible assumption) (by with_reducible assumption) (by decide +kernel) (by intro _; rfl) ?_ (by decide +kernel)
  refine call_pos0 (by (first | exact keep_B | exact keep_T | exact keepK (by with_reducible assumption) (by intro _; kernel_rfl))) ?_
  refine evl_cons ?_
  refine ev_name (by (repeat' (first | with_reducible exact lk_here | refine lk_there (by decide +kernel) ?_ | refine lk_free (by decide +kernel) ?_ | with_reducible assumption))) ?_ (by decide +kernel) (by decide +kernel)
  refine evl_nil ?_
  refine cl_eq (fn_from_bytes _ hK _) (by lia) ?_
  with_reducible refine then_next ?_
  refine ex_cons ?_
  refine ex_assert ?_
  refine evb_compare ?_
  refine ev_call ?_
  refine ev_funK (by with_reducible assumption) (by with_reducible assumption) (by decide +kernel) (by intro _; kernel_rfl) (by with_reducible exact bb_len) ?_ (by decide +kernel) (by decide +kernel)
  refine call_pos0 (by (first | exact keep_B | exact keep_T | exact keepK (by with_reducible assumption) (by intro _; kernel_rfl))) ?_
  refine evl_cons ?_
  refine ev_name (by (repeat' (first | with_reducible exact lk_here | refine lk_there (by decide +kernel) ?_ | refine lk_free (by decide +kernel) ?_ | with_reducible assumption))) ?_ (by decide +kernel) (by decide +kernel)
  refine evl_nil ?_
  refine cl_len_bytes ?_ ?_
  rotate_left
  with_reducible refine ev_int ?_
  with_reducible refine pr_eq_int ?_
  refine tr_bool ?_
  rotate_left
  · rw [ha]; decide
  refine ⟨by rw [ha]; rfl, ?_⟩
  with_reducible refine then_next ?_
  refine ex_cons ?_
  refine ex_assign (by (first | exact st_loc (by with_reducible assumption) (by decide +kernel) | exact st_cell (by with_reducible assumption) (by first | with_reducible assumption | exact FnCx.comp (by assumption)) (by decide +kernel))) ?_
  refine ev_translate ?_
  refine ev_name (by (repeat' (first | with_reducible exact lk_here | refine lk_there (by decide +kernel) ?_ | refine lk_free (by decide +kernel) ?_ | with_reducible assumption))) ⟨_, rfl, ?_⟩ (by decide +kernel) (by decide +kernel)
  refine evl_cons (ev_smethod ?_)
  refine ev_typeK (by with_reducible assumption) (by with_reducible assumption) (by decide +kernel) (by intro _; kernel_rfl) (by with_reducible exact bb_bytes) ⟨_, _, rfl, bytes_static.1, bytes_static.2.1, bytes_static.2.2.1, bytes_static.2.2.2, ?_⟩ (by decide +kernel) (by decide +kernel)
  refine call_pos0 (by (first | exact keep_B | exact keep_T | exact keepK (by with_reducible assumption) (by intro _; kernel_rfl))) ?_
  refine evl_cons ?_
  refine ev_name (by (repeat' (first | with_reducible exact lk_here | refine lk_there (by decide +kernel) ?_ | refine lk_free (by decide +kernel) ?_ | with_reducible assumption))) ?_ (by decide +kernel) (by decide +kernel)
  refine evl_cons ?_
  with_reducible refine ev_bytes ?_
  refine evl_nil ?_
  refine cl_maketrans (by rw [ha]; rfl) ?_
  refine evl_nil ?_
  refine cl_translate (mtab_size _ _) (by rw [List.length_map]; exact Nat.le_trans hz (by decide)) ?_
  rw [ht]
  with_reducible refine then_next ?_
  refine ex_nil ?_
  with_reducible refine then_next ?_
  refine ex_cons ?_
  refine ex_return ?_
  refine ev_call ?_
  refine ev_globalK (by with_reducible assumption) (by with_reducible assumption) (by decide +kernel) (by intro _; rfl) ?_ (by decide +kernel)
  refine call_kw0 (ns := _) (by (first | exact keep_B | exact keep_T | exact keepK (by with_reducible assumption) (by intro _; kernel_rfl))) ?_
  refine evl_cons ?_
  refine ev_name (by (repeat' (first | with_reducible exact lk_here | refine lk_there (by decide +kernel) ?_ | refine lk_free (by decide +kernel) ?_ | with_reducible assumption))) ?_ (by decide +kernel) (by decide +kernel)
  refine evl_nil ?_
  refine evk_cons ?_
  refine ev_name (by (repeat' (first | with_reducible exact lk_here | refine lk_there (by decide +kernel) ?_ | refine lk_free (by decide +kernel) ?_ | with_reducible assumption))) ?_ (by decide +kernel) (by decide +kernel)
  refine evk_nil ?_
  have e : encB fs = encB fs ++ List.replicate 0 61 := by simp
  rw [e]
  refine cl_use (fn_a2b _ hK herr false fs 0 hf hfl (by lia) (by lia) (fun d => Φ d) Ξ h1 (fun q1 q2 _ => h2 q1 q2) (fun q1 q2 => h3 (by lia))) (by lia) ?_ (fun _ h => h)
  intro d hd
  exact hd

/-! U6 -/
/-! figures -/
noncomputable def fig (n p : Nat) : Nat := if n / 14 / 3 ^ p % 3 = 0 then 62 else if n / 14 / 3 ^ p % 3 = 1 then 63 else n % 62
noncomputable def figs8 (n : Nat) : List Nat := (List.range 8).map (fig n)
noncomputable abbrev intsD (l : List Nat) : D := .lst ((l.map fun (x : Nat) => (x : Int)).map .int)
theorem fn_law_figures (g : Gx) (hK : g.K = hd01.heap_39 g.w.params) (n : Nat) : FnOk g 1 (.ref 116) [.int n] [] [] (fun d => d = intsD (figs8 n)) NoX := by
  refine fn_def (r := 0) (bs := [("n", .int n)]) (by rw [hK]; rfl) (by rw [hK]; rfl) (binds1 (by intro v; rfl)) ?_ ["n"]
  intro C hC
  obtain rfl := hC.g
  have hsc := hC.scope
  have hcm := hC.comp
  clear hC
  dsimp only [List.map]
  refine ex_cons ?_
  refine ex_assign (by (first | exact st_loc (by with_reducible assumption) (by decide +kernel) | exact st_cell (by with_reducible assumption) (by first | with_reducible assumption | exact FnCx.comp (by assumption)) (by decide +kernel))) ?_
  refine ev_binop ?_
  refine ev_name (by (repeat' (first | with_reducible exact lk_here | refine lk_there (by decide +kernel) ?_ | refine lk_free (by decide +kernel) ?_ | with_reducible assumption))) ?_ (by decide +kernel) (by decide +kernel)
  with_reducible refine ev_int ?_
  refine pr_div_int ?_ ?_ ?_
  rotate_left
  rotate_left
  with_reducible refine then_next ?_
  refine ex_cons ?_
  refine ex_own_list (kind_loc (by with_reducible assumption) (by decide +kernel)) ?_
  with_reducible refine then_next ?_
  refine ex_cons ?_
  rotate_left
  · decide
  · decide
  refine ex_for hcm (evi_call ?_)
  refine ev_typeK (by with_reducible assumption) (by with_reducible assumption) (by decide +kernel) (by intro _; kernel_rfl) (by with_reducible exact bb_range) ?_ (by decide +kernel) (by decide +kernel)
  refine ⟨_, rfl, by (first | exact keep_B | exact keep_T | exact keepK (by with_reducible assumption) (by intro _; kernel_rfl)), ?_⟩
  refine evl_cons ?_
  with_reducible refine ev_int ?_
  refine evl_nil ?_
  refine cli_range1 8 rfl (by decide) ?_
  refine ⟨fun i σ₁ => ∃ (ds : List D) (r : Int), ds = ((List.range i).map fun p => .int (fig n p : Nat)) ∧ r = ((n / 14 / 3 ^ i : Nat) : Int) ∧ has σ₁ "figures" (.own (.lst ds)) ∧ has σ₁ "rest" (.dat (.int r)) ∧ has σ₁ "n" (.dat (.int (n : Int))), ?_, ?_, ?_⟩
  · exact ⟨[], (n : Int) / 14, rfl, by rw [Nat.pow_zero, Nat.div_one]; omega, by (repeat' (first | with_reducible exact lk_here | refine lk_there (by decide +kernel) ?_ | refine lk_free (by decide +kernel) ?_ | with_reducible assumption)), by (repeat' (first | with_reducible exact lk_here | refine lk_there (by decide +kernel) ?_ | refine lk_free (by decide +kernel) ?_ | with_reducible assumption)), by (repeat' (first | with_reducible exact lk_here | refine lk_there (by decide +kernel) ?_ | refine lk_free (by decide +kernel) ?_ | with_reducible assumption))⟩
  · rintro i d σ₁ hd ⟨_, _, rfl, rfl, l1, l2, l3⟩
    have hi : i < 8 := by have := (List.getElem?_eq_some_iff.mp hd).1; simpa using this
    refine asg_name (by (first | exact st_loc (by with_reducible assumption) (by decide +kernel) | exact st_cell (by with_reducible assumption) (by first | with_reducible assumption | exact FnCx.comp (by assumption)) (by decide +kernel))) ?_
    refine ex_cons ?_
    refine ex_append' (by (repeat' (first | with_reducible exact lk_here | refine lk_there (by decide +kernel) ?_ | refine lk_free (by decide +kernel) ?_ | with_reducible assumption))) ?_ ?_
    rotate_left
    refine ev_sub ?_
    refine ev_list ?_
    refine evl_cons ?_
    with_reducible refine ev_int ?_
    refine evl_cons ?_
    with_reducible refine ev_int ?_
    refine evl_cons ?_
    refine ev_binop ?_
    refine ev_name (by (repeat' (first | with_reducible exact lk_here | refine lk_there (by decide +kernel) ?_ | refine lk_free (by decide +kernel) ?_ | with_reducible assumption))) ?_ (by decide +kernel) (by decide +kernel)
    with_reducible refine ev_int ?_
    refine pr_mod_int ?_ ?_
    rotate_left
    refine evl_nil ?_
    rotate_left
    · rw [List.length_map, List.length_range]; exact Nat.le_trans (Nat.le_of_lt hi) (by decide)
    · decide
    refine ⟨Nat.le_trans (show 3 ≤ 100 by decide) (by decide), ?_⟩
    refine ev_binop ?_
    refine ev_name (by (repeat' (first | with_reducible exact lk_here | refine lk_there (by decide +kernel) ?_ | refine lk_free (by decide +kernel) ?_ | with_reducible assumption))) ?_ (by decide +kernel) (by decide +kernel)
    with_reducible refine ev_int ?_
    refine pr_mod_int ?_ ?_
    rotate_left
    rotate_left
    · decide
    have hm3 : n / 14 / 3 ^ i % 3 < 3 := Nat.mod_lt _ (by decide)
    have hix : ((n / 14 / 3 ^ i : Nat) : Int) % 3 = ((n / 14 / 3 ^ i % 3 : Nat) : Int) := rfl
    rw [hix]
    refine pr_item_list (j := n / 14 / 3 ^ i % 3) (d := .int (fig n i : Nat)) (by omega) (seqIdx_nat hm3) ?_ ?_
    · unfold fig
      rcases (show n / 14 / 3 ^ i % 3 = 0 ∨ n / 14 / 3 ^ i % 3 = 1 ∨ n / 14 / 3 ^ i % 3 = 2 by omega) with q | q | q <;> rw [q] <;> rfl
    with_reducible refine then_next ?_
    refine ex_cons ?_
    refine ex_assign (by (first | exact st_loc (by with_reducible assumption) (by decide +kernel) | exact st_cell (by with_reducible assumption) (by first | with_reducible assumption | exact FnCx.comp (by assumption)) (by decide +kernel))) ?_
    refine ev_binop ?_
    refine ev_name (by (repeat' (first | with_reducible exact lk_here | refine lk_there (by decide +kernel) ?_ | refine lk_free (by decide +kernel) ?_ | with_reducible assumption))) ?_ (by decide +kernel) (by decide +kernel)
    with_reducible refine ev_int ?_
    refine pr_div_int ?_ ?_ ?_
    rotate_left
    rotate_left
    with_reducible refine then_next ?_
    refine ex_nil ?_
    rotate_left
    · decide
    · decide
    refine ⟨_, ((n / 14 / 3 ^ i : Nat) : Int) / 3, ?_, by rw [Nat.pow_succ, ← Nat.div_div_eq_div_mul]; rfl, by (repeat' (first | with_reducible exact lk_here | refine lk_there (by decide +kernel) ?_ | refine lk_free (by decide +kernel) ?_ | with_reducible assumption)), by (repeat' (first | with_reducible exact lk_here | refine lk_there (by decide +kernel) ?_ | refine lk_free (by decide +kernel) ?_ | with_reducible assumption)), by (repeat' (first | with_reducible exact lk_here | refine lk_there (by decide +kernel) ?_ | refine lk_free (by decide +kernel) ?_ | with_reducible assumption))⟩
    rw [List.range_succ, List.map_append]; rfl
  · rintro σ₁ ⟨_, _, rfl, _, l1, _⟩
    refine then_next (ex_freeze l1 ?_)
    refine ex_cons ?_
    refine ex_return ?_
    refine ev_name (by (repeat' (first | with_reducible exact lk_here | refine lk_there (by decide +kernel) ?_ | refine lk_free (by decide +kernel) ?_ | with_reducible assumption))) ?_ (by decide +kernel) (by decide +kernel)
    show _ = _
    rw [List.length_map, List.length_range]
    unfold intsD figs8
    rw [List.map_map, List.map_map]; rfl

/-! U7 -/
theorem fn_law_octets (g : Gx) (hK : g.K = hd01.heap_39 g.w.params) (fs : List Nat) (hz : fs.length ≤ 24) :
    FnOk g 1 (.ref 121) [intsD fs] [] [] (fun d => d = .bytes ((digs 256 (fs.length / 4 * 3) (val 64 fs)).map Nat.toUInt8).toArray) NoX := by
  refine fn_def (r := 0) (bs := [("figures", intsD fs)]) (by rw [hK]; rfl) (by rw [hK]; rfl) (binds1 (by intro v; rfl)) ?_ ["figures"]
  intro C hC
  obtain rfl := hC.g
  have hsc := hC.scope
  have hcm := hC.comp
  clear hC
  dsimp only [List.map]
  refine ex_cons ?_
  refine ex_assign (by (first | exact st_loc (by with_reducible assumption) (by decide +kernel) | exact st_cell (by with_reducible assumption) (by first | with_reducible assumption | exact FnCx.comp (by assumption)) (by decide +kernel))) ?_
  with_reducible refine ev_int ?_
  with_reducible refine then_next ?_
  refine ex_cons ?_
  refine ex_for hcm (evi_of (ev_name (by (repeat' (first | with_reducible exact lk_here | refine lk_there (by decide +kernel) ?_ | refine lk_free (by decide +kernel) ?_ | with_reducible assumption))) (itr_list trivial ?_) (by decide +kernel) (by decide +kernel)))
  refine ⟨fun i σ₁ => ∃ r : Int, r = ((val 64 (fs.take i) : Nat) : Int) ∧ has σ₁ "number" (.dat (.int r)) ∧ has σ₁ "figures" (.dat (intsD fs)), ?_, ?_, ?_⟩
  · exact ⟨0, rfl, by (repeat' (first | with_reducible exact lk_here | refine lk_there (by decide +kernel) ?_ | refine lk_free (by decide +kernel) ?_ | with_reducible assumption)), by (repeat' (first | with_reducible exact lk_here | refine lk_there (by decide +kernel) ?_ | refine lk_free (by decide +kernel) ?_ | with_reducible assumption))⟩
  · rintro i d σ₁ hd ⟨_, rfl, l1, l2⟩
    obtain ⟨f, hf, rfl⟩ : ∃ f, fs[i]? = some f ∧ d = .int (f : Int) := by
      rw [List.getElem?_map, List.getElem?_map] at hd
      obtain ⟨x, hx, rfl⟩ := Option.map_eq_some_iff.mp hd
      obtain ⟨f, hf, rfl⟩ := Option.map_eq_some_iff.mp hx
      exact ⟨f, hf, rfl⟩
    refine asg_name (by (first | exact st_loc (by with_reducible assumption) (by decide +kernel) | exact st_cell (by with_reducible assumption) (by first | with_reducible assumption | exact FnCx.comp (by assumption)) (by decide +kernel))) ?_
    refine ex_cons ?_
    refine ex_assign (by (first | exact st_loc (by with_reducible assumption) (by decide +kernel) | exact st_cell (by with_reducible assumption) (by first | with_reducible assumption | exact FnCx.comp (by assumption)) (by decide +kernel))) ?_
    refine ev_binop ?_
    refine ev_binop ?_
    refine ev_name (by (repeat' (first | with_reducible exact lk_here | refine lk_there (by decide +kernel) ?_ | refine lk_free (by decide +kernel) ?_ | with_reducible assumption))) ?_ (by decide +kernel) (by decide +kernel)
    with_reducible refine ev_int ?_
    refine pr_mul_int (.inr (by decide)) ?_
    refine ev_name (by (repeat' (first | with_reducible exact lk_here | refine lk_there (by decide +kernel) ?_ | refine lk_free (by decide +kernel) ?_ | with_reducible assumption))) ?_ (by decide +kernel) (by decide +kernel)
    with_reducible refine pr_add_int ?_
    with_reducible refine then_next ?_
    refine ex_nil ?_
    refine ⟨_, ?_, by (repeat' (first | with_reducible exact lk_here | refine lk_there (by decide +kernel) ?_ | refine lk_free (by decide +kernel) ?_ | with_reducible assumption)), by (repeat' (first | with_reducible exact lk_here | refine lk_there (by decide +kernel) ?_ | refine lk_free (by decide +kernel) ?_ | with_reducible assumption))⟩
    rw [List.take_add_one, hf]
    show _ = ((val 64 (fs.take i ++ [f]) : Nat) : Int)
    rw [val_snoc]; push_cast; rfl
  · rintro σ₁ ⟨_, rfl, l1, l2⟩
    rw [List.length_map, List.length_map, List.take_length] at l1
    refine then_next ?_
    have hsz : (intsD fs) = .lst ((fs.map fun (x : Nat) => (x : Int)).map .int) := rfl
    refine ex_cons ?_
    refine ex_assign (by (first | exact st_loc (by with_reducible assumption) (by decide +kernel) | exact st_cell (by with_reducible assumption) (by first | with_reducible assumption | exact FnCx.comp (by assumption)) (by decide +kernel))) ?_
    refine ev_binop ?_
    refine ev_binop ?_
    refine ev_call ?_
    refine ev_funK (by with_reducible assumption) (by with_reducible assumption) (by decide +kernel) (by intro _; kernel_rfl) (by with_reducible exact bb_len) ?_ (by decide +kernel) (by decide +kernel)
    refine call_pos0 (by (first | exact keep_B | exact keep_T | exact keepK (by with_reducible assumption) (by intro _; kernel_rfl))) ?_
    refine evl_cons ?_
    refine ev_name (by (repeat' (first | with_reducible exact lk_here | refine lk_there (by decide +kernel) ?_ | refine lk_free (by decide +kernel) ?_ | with_reducible assumption))) ?_ (by decide +kernel) (by decide +kernel)
    refine evl_nil ?_
    refine cl_len_list ?_ ?_
    rotate_left
    with_reducible refine ev_int ?_
    refine pr_div_int ?_ ?_ ?_
    rotate_left
    rotate_left
    with_reducible refine ev_int ?_
    rotate_left
    · rw [List.length_map, List.length_map]; exact Nat.le_trans hz (by decide)
    · decide
    · decide
    rw [List.length_map, List.length_map]
    refine pr_mul_int (.inr (by decide)) ?_
    generalize hs : fs.length / 4 * 3 = size
    have hs18 : size ≤ 18 := by omega
    rw [show ((fs.length : Int) / 4 * 3) = (size : Int) by omega]
    with_reducible refine then_next ?_
    refine ex_cons ?_
    refine ex_return ?_
    refine ev_call ?_
    refine ev_typeK (by with_reducible assumption) (by with_reducible assumption) (by decide +kernel) (by intro _; kernel_rfl) (by with_reducible exact bb_bytes) ?_ (by decide +kernel) (by decide +kernel)
    refine call_pos0 (by (first | exact keep_B | exact keep_T | exact keepK (by with_reducible assumption) (by intro _; kernel_rfl))) ?_
    refine evl_cons ?_
    refine ev_comp hsc (evi_call ?_) (hnc := by decide +kernel) (hfree := by decide +kernel) (hnames := by decide +kernel)
    refine ev_typeK (by with_reducible assumption) (by with_reducible assumption) (by decide +kernel) (by intro _; kernel_rfl) (by with_reducible exact bb_range) ?_ (by decide +kernel) (by decide +kernel)
    refine ⟨_, rfl, by (first | exact keep_B | exact keep_T | exact keepK (by with_reducible assumption) (by intro _; kernel_rfl)), ?_⟩
    refine evl_cons ?_
    refine ev_name (by (repeat' (first | with_reducible exact lk_here | refine lk_there (by decide +kernel) ?_ | refine lk_free (by decide +kernel) ?_ | with_reducible assumption))) ?_ (by decide +kernel) (by decide +kernel)
    refine evl_nil ?_
    refine cli_range1 size rfl (by omega) ?_
    refine comp_map (f := fun i => .int (val 64 fs / 256 ^ (size - 1 - i) % 256 : Nat)) size (by simp) (le_line 18 hs18 (by decide)) (fun i d C' hS hi hlt => ?_) ?_
    · have hK' := sub_K hS hK
      have hsc' := hS.scope
      obtain rfl : d = .int (i : Int) := by
        rw [List.getElem?_map, List.getElem?_range hlt] at hi
        exact (Option.some.inj hi).symm
      refine asg_name (by (first | exact st_loc (by with_reducible assumption) (by decide +kernel) | exact st_cell (by with_reducible assumption) (by first | with_reducible assumption | exact FnCx.comp (by assumption)) (by decide +kernel))) ?_
      refine ev_binop ?_
      refine ev_binop ?_
      refine ev_name (by (repeat' (first | with_reducible exact lk_here | refine lk_there (by decide +kernel) ?_ | refine lk_free (by decide +kernel) ?_ | with_reducible assumption))) ?_ (by decide +kernel) (by decide +kernel)
      refine ev_binop ?_
      with_reducible refine ev_int ?_
      refine ev_binop ?_
      refine ev_binop ?_
      refine ev_name (by (repeat' (first | with_reducible exact lk_here | refine lk_there (by decide +kernel) ?_ | refine lk_free (by decide +kernel) ?_ | with_reducible assumption))) ?_ (by decide +kernel) (by decide +kernel)
      with_reducible refine ev_int ?_
      with_reducible refine pr_sub_int ?_
      refine ev_name (by (repeat' (first | with_reducible exact lk_here | refine lk_there (by decide +kernel) ?_ | refine lk_free (by decide +kernel) ?_ | with_reducible assumption))) ?_ (by decide +kernel) (by decide +kernel)
      with_reducible refine pr_sub_int ?_
      refine pr_pow_int (n := size - 1 - i) (by omega) (by omega) (by decide) ?_
      have e : (256 : Int) ^ (size - 1 - i) = ((256 ^ (size - 1 - i) : Nat) : Int) := by rw [Int.natCast_pow]; rfl
      rw [e]
      refine pr_div_int (by exact_mod_cast Nat.pow_pos (by decide : 0 < 256)) (by exact_mod_cast Nat.le_trans (Nat.pow_le_pow_right (by decide : 0 < 256) (by omega : size - 1 - i ≤ 18)) (by decide)) ?_
      rw [← Int.natCast_ediv]
      with_reducible refine ev_int ?_
      refine pr_mod_int ?_ ?_
      rotate_left
      rotate_left
      · decide
      rfl
    refine evl_nil ?_
    have e2 : (List.range size).map (fun i => D.int (val 64 fs / 256 ^ (size - 1 - i) % 256 : Nat)) = ((digs 256 size (val 64 fs)).map fun (x : Nat) => (x : Int)).map D.int := by unfold digs; rw [List.map_map, List.map_map]; rfl
    rw [e2]
    refine cl_bytes_ints ?_ ?_ ?_
    · intro k hk
      obtain ⟨x, hx, rfl⟩ := List.mem_map.mp hk
      have := digs_lt (by decide : 0 < 256) x hx
      omega
    · rw [List.length_map, digs_len]; exact le_line 18 hs18 (by decide)
    skip
    show _ = _
    rw [List.map_map]; rfl

/-! U8 -/
noncomputable def kcount (size : Nat) : Nat := (8 * size + 5) / 6
noncomputable def kspare (size : Nat) : Nat := 2 ^ (6 * kcount size - 8 * size)
noncomputable def keptAt (fs : List Nat) (size p : Nat) : Nat := if p + 1 < kcount size then fs.getD p 0 else fs.getD p 0 / kspare size * kspare size
noncomputable def kept (fs : List Nat) (size : Nat) : List Nat := (List.range (kcount size)).map (keptAt fs size)
theorem fn_law_kept (g : Gx) (hK : g.K = hd01.heap_39 g.w.params) (fs : List Nat) (size : Nat) (h8 : fs.length = 8) (h64 : ∀ f ∈ fs, f < 64) (hs : size ≤ 6) :
    FnOk g 1 (.ref 126) [intsD fs, .int size] [] [] (fun d => d = intsD (kept fs size)) NoX := by
  refine fn_def (r := 0) (bs := [("figures", intsD fs), ("size", .int size)]) (by rw [hK]; rfl) (by rw [hK]; rfl) (binds2 (by intro v w; rfl)) ?_ ["figures", "size"]
  intro C hC
  obtain rfl := hC.g
  have hsc := hC.scope
  have hcm := hC.comp
  clear hC
  dsimp only [List.map]
  have hcz : kcount size ≤ 8 ∧ 8 * size ≤ 6 * kcount size ∧ 6 * kcount size - 8 * size ≤ 4 := by unfold kcount; omega
  have hci : (8 * (size : Int) + 5) / 6 = (kcount size : Int) := by unfold kcount; omega
  have hsp : ((2 : Int) ^ (6 * kcount size - 8 * size)) = (kspare size : Int) := by unfold kspare; rw [Int.natCast_pow]; rfl
  have hsp2 : 0 < kspare size ∧ kspare size ≤ 16 := by
    unfold kspare
    exact ⟨Nat.pow_pos (by decide), Nat.le_trans (Nat.pow_le_pow_right (by decide) hcz.2.2) (by decide)⟩
  generalize hcnt : kcount size = cnt at *
  generalize hspr : kspare size = spr at *
  refine ex_cons ?_
  refine ex_assign (by (first | exact st_loc (by with_reducible assumption) (by decide +kernel) | exact st_cell (by with_reducible assumption) (by first | with_reducible assumption | exact FnCx.comp (by assumption)) (by decide +kernel))) ?_
  refine ev_binop ?_
  refine ev_binop ?_
  refine ev_binop ?_
  with_reducible refine ev_int ?_
  refine ev_name (by (repeat' (first | with_reducible exact lk_here | refine lk_there (by decide +kernel) ?_ | refine lk_free (by decide +kernel) ?_ | with_reducible assumption))) ?_ (by decide +kernel) (by decide +kernel)
  refine pr_mul_int (.inl (by decide)) ?_
  with_reducible refine ev_int ?_
  with_reducible refine pr_add_int ?_
  with_reducible refine ev_int ?_
  refine pr_div_int ?_ ?_ ?_
  rotate_left
  rotate_left
  with_reducible refine then_next ?_
  refine ex_cons ?_
  refine ex_assign (by (first | exact st_loc (by with_reducible assumption) (by decide +kernel) | exact st_cell (by with_reducible assumption) (by first | with_reducible assumption | exact FnCx.comp (by assumption)) (by decide +kernel))) ?_
  refine ev_binop ?_
  with_reducible refine ev_int ?_
  refine ev_binop ?_
  refine ev_binop ?_
  with_reducible refine ev_int ?_
  refine ev_name (by (repeat' (first | with_reducible exact lk_here | refine lk_there (by decide +kernel) ?_ | refine lk_free (by decide +kernel) ?_ | with_reducible assumption))) ?_ (by decide +kernel) (by decide +kernel)
  rotate_left
  · decide
  · decide
  rw [hci]
  skip
  refine pr_mul_int (.inl (by decide)) ?_
  refine ev_binop ?_
  with_reducible refine ev_int ?_
  refine ev_name (by (repeat' (first | with_reducible exact lk_here | refine lk_there (by decide +kernel) ?_ | refine lk_free (by decide +kernel) ?_ | with_reducible assumption))) ?_ (by decide +kernel) (by decide +kernel)
  refine pr_mul_int (.inl (by decide)) ?_
  with_reducible refine pr_sub_int ?_
  refine pr_pow_int (n := 6 * cnt - 8 * size) (by omega) (by omega) (by decide) ?_
  rw [hsp]
  with_reducible refine then_next ?_
  refine ex_cons ?_
  refine ex_return ?_
  refine ev_comp hsc (evi_call ?_) (hnc := by decide +kernel) (hfree := by decide +kernel) (hnames := by decide +kernel)
  refine ev_typeK (by with_reducible assumption) (by with_reducible assumption) (by decide +kernel) (by intro _; kernel_rfl) (by with_reducible exact bb_range) ?_ (by decide +kernel) (by decide +kernel)
  refine ⟨_, rfl, by (first | exact keep_B | exact keep_T | exact keepK (by with_reducible assumption) (by intro _; kernel_rfl)), ?_⟩
  refine evl_cons ?_
  refine ev_name (by (repeat' (first | with_reducible exact lk_here | refine lk_there (by decide +kernel) ?_ | refine lk_free (by decide +kernel) ?_ | with_reducible assumption))) ?_ (by decide +kernel) (by decide +kernel)
  refine evl_nil ?_
  refine cli_range1 cnt rfl (by omega) ?_
  refine comp_map (f := fun i => .int (keptAt fs size i : Nat)) cnt (by simp) (le_line 8 hcz.1 (by decide)) (fun i d C' hS hi hlt => ?_) ?_
  · have hK' := sub_K hS hK
    have hsc' := hS.scope
    obtain rfl : d = .int (i : Int) := by
      rw [List.getElem?_map, List.getElem?_range hlt] at hi
      exact (Option.some.inj hi).symm
    have hi8 : i < fs.length := by omega
    have hget : ((fs.map fun (x : Nat) => (x : Int)).map D.int)[i]? = some (.int (fs.getD i 0 : Nat)) := by
      rw [List.getElem?_map, List.getElem?_map, List.getD_eq_getElem?_getD, List.getElem?_eq_getElem hi8]; rfl
    have hlen8 : ((fs.map fun (x : Nat) => (x : Int)).map D.int).length = 8 := by rw [List.length_map, List.length_map, h8]
    refine asg_name (by (first | exact st_loc (by with_reducible assumption) (by decide +kernel) | exact st_cell (by with_reducible assumption) (by first | with_reducible assumption | exact FnCx.comp (by assumption)) (by decide +kernel))) ?_
    refine ev_ifexp ?_
    refine evb_compare ?_
    refine ev_name (by (repeat' (first | with_reducible exact lk_here | refine lk_there (by decide +kernel) ?_ | refine lk_free (by decide +kernel) ?_ | with_reducible assumption))) ?_ (by decide +kernel) (by decide +kernel)
    refine ev_binop ?_
    refine ev_name (by (repeat' (first | with_reducible exact lk_here | refine lk_there (by decide +kernel) ?_ | refine lk_free (by decide +kernel) ?_ | with_reducible assumption))) ?_ (by decide +kernel) (by decide +kernel)
    with_reducible refine ev_int ?_
    with_reducible refine pr_sub_int ?_
    with_reducible refine pr_lt_int ?_
    refine tr_bool ?_
    with_reducible refine br (fun _ => ?_) (fun _ => ?_)
    refine ev_sub ?_
    refine ev_name (by (repeat' (first | with_reducible exact lk_here | refine lk_there (by decide +kernel) ?_ | refine lk_free (by decide +kernel) ?_ | with_reducible assumption))) ?_ (by decide +kernel) (by decide +kernel)
    refine ev_name (by (repeat' (first | with_reducible exact lk_here | refine lk_there (by decide +kernel) ?_ | refine lk_free (by decide +kernel) ?_ | with_reducible assumption))) ?_ (by decide +kernel) (by decide +kernel)
    rotate_left
    refine ev_binop ?_
    refine ev_binop ?_
    refine ev_sub ?_
    refine ev_name (by (repeat' (first | with_reducible exact lk_here | refine lk_there (by decide +kernel) ?_ | refine lk_free (by decide +kernel) ?_ | with_reducible assumption))) ?_ (by decide +kernel) (by decide +kernel)
    refine ev_name (by (repeat' (first | with_reducible exact lk_here | refine lk_there (by decide +kernel) ?_ | refine lk_free (by decide +kernel) ?_ | with_reducible assumption))) ?_ (by decide +kernel) (by decide +kernel)
    rotate_left
    · rename_i hlt2
      refine pr_item_list (j := i) (d := .int (fs.getD i 0 : Nat)) (by omega) (seqIdx_nat (by rw [hlen8]; omega)) hget ?_
      show _ = _
      unfold keptAt
      rw [hcnt, if_pos (by omega)]
    · rename_i hlt2
      refine pr_item_list (j := i) (d := .int (fs.getD i 0 : Nat)) (by omega) (seqIdx_nat (by rw [hlen8]; omega)) hget ?_
      refine ev_name (by (repeat' (first | with_reducible exact lk_here | refine lk_there (by decide +kernel) ?_ | refine lk_free (by decide +kernel) ?_ | with_reducible assumption))) ?_ (by decide +kernel) (by decide +kernel)
      refine pr_div_int ?_ ?_ ?_
      rotate_left
      rotate_left
      refine ev_name (by (repeat' (first | with_reducible exact lk_here | refine lk_there (by decide +kernel) ?_ | refine lk_free (by decide +kernel) ?_ | with_reducible assumption))) ?_ (by decide +kernel) (by decide +kernel)
      rotate_left
      · omega
      · exact Int.le_trans (show (spr : Int) ≤ 16 by omega) (by decide)
      refine pr_mul_int (.inr (by omega)) ?_
      show _ = _
      unfold keptAt
      rw [hcnt, hspr, if_neg (by omega)]
      push_cast; rfl
  have e2 : (List.range cnt).map (fun i => D.int (keptAt fs size i : Nat)) = ((kept fs size).map fun (x : Nat) => (x : Int)).map D.int := by unfold kept; rw [hcnt, List.map_map, List.map_map]; rfl
  rw [e2]
  skip
  exact rfl

/-! U9 -/
noncomputable def abc (two : List Nat) : List Nat := (List.range 62).map encN ++ two
noncomputable def sgn (two : List Nat) (f : Nat) : Nat := (abc two).getD f 0
noncomputable def textOf (two fs : List Nat) : List Nat := fs.map (sgn two)
theorem fn_law_text (g : Gx) (hK : g.K = hd01.heap_39 g.w.params) (fs two : List Nat) (h2 : two.length = 2) (h64 : ∀ f ∈ fs, f < 64) (hz : fs.length ≤ 100) :
    FnOk g 1 (.ref 131) [intsD fs, .str (S two)] [] [] (fun d => d = .str (S (textOf two fs))) NoX := by
  refine fn_def (r := 0) (bs := [("figures", intsD fs), ("two", .str (S two))]) (by rw [hK]; rfl) (by rw [hK]; rfl) (binds2 (by intro v w; rfl)) ?_ ["figures", "two"]
  intro C hC
  obtain rfl := hC.g
  have hsc := hC.scope
  have hcm := hC.comp
  clear hC
  dsimp only [List.map]
  have habc : codes "ABCDEFGHIJKLMNOPQRSTUVWXYZabcdefghijklmnopqrstuvwxyz0123456789" = (List.range 62).map encN := by decide
  have hlen : (abc two).length = 64 := by unfold abc; rw [List.length_append, List.length_map, List.length_range, h2]
  refine ex_cons ?_
  refine ex_assign (by (first | exact st_loc (by with_reducible assumption) (by decide +kernel) | exact st_cell (by with_reducible assumption) (by first | with_reducible assumption | exact FnCx.comp (by assumption)) (by decide +kernel))) ?_
  refine ev_binop ?_
  with_reducible refine ev_strc ?_
  refine ev_name (by (repeat' (first | with_reducible exact lk_here | refine lk_there (by decide +kernel) ?_ | refine lk_free (by decide +kernel) ?_ | with_reducible assumption))) ?_ (by decide +kernel) (by decide +kernel)
  rw [habc]
  refine pr_add_str (by rw [List.length_map, List.length_range, h2]; decide) ?_
  with_reducible refine then_next ?_
  refine ex_cons ?_
  refine ex_return ?_
  refine ev_join (x := S []) ?_
  refine ev_strc ⟨rfl, ?_⟩
  refine evl_cons (ev_comp (hnc := by decide +kernel) (hfree := by decide +kernel) (hnames := by decide +kernel) hsc (evi_of ?_))
  refine ev_name (by (repeat' (first | with_reducible exact lk_here | refine lk_there (by decide +kernel) ?_ | refine lk_free (by decide +kernel) ?_ | with_reducible assumption))) ?_ (by decide +kernel) (by decide +kernel)
  refine itr_list trivial ?_
  refine comp_list (fs.map fun (x : Nat) => (x : Int)) .int (fun i => .str (S [sgn two i.toNat])) (by rw [List.length_map]; exact le_line 100 hz (by decide)) (fun x hx C' hS => ?_) ?_
  · have hK' := sub_K hS hK
    have hsc' := hS.scope
    obtain ⟨f, hf, rfl⟩ := List.mem_map.mp hx
    have hlt := h64 f hf
    refine asg_name (by (first | exact st_loc (by with_reducible assumption) (by decide +kernel) | exact st_cell (by with_reducible assumption) (by first | with_reducible assumption | exact FnCx.comp (by assumption)) (by decide +kernel))) ?_
    refine ev_sub ?_
    refine ev_name (by (repeat' (first | with_reducible exact lk_here | refine lk_there (by decide +kernel) ?_ | refine lk_free (by decide +kernel) ?_ | with_reducible assumption))) ?_ (by decide +kernel) (by decide +kernel)
    refine ev_name (by (repeat' (first | with_reducible exact lk_here | refine lk_there (by decide +kernel) ?_ | refine lk_free (by decide +kernel) ?_ | with_reducible assumption))) ?_ (by decide +kernel) (by decide +kernel)
    refine pr_item_str (j := f) (c := sgn two f) (by omega) (seqIdx_nat (by show f < (abc two).length; omega)) ?_ rfl
    show (abc two)[f]? = some (sgn two f)
    unfold sgn
    rw [List.getD_eq_getElem?_getD, List.getElem?_eq_getElem (by omega)]; rfl
  refine evl_nil ?_
  refine cl_join (x := (textOf two fs).map fun c => [c]) ?_ (by rw [sum1]; unfold textOf; rw [List.length_map]; exact Nat.le_trans hz (by decide)) ?_
  · unfold textOf; rw [List.map_map, List.map_map, List.map_map]; rfl
  rw [flat1]
  skip
  exact rfl

/-! U10 -/
noncomputable def lres : PRes → D
  | .ok es => .lst (es.map pairD)
  | .val => .str "ValueError"
  | .idx => .str "IndexError"
theorem fn_law_list (g : Gx) (hK : g.K = hd01.heap_39 g.w.params) (ls : List (List Nat)) (hz : ls.length ≤ 1000) (hl : ∀ l ∈ ls, l.length ≤ 1000) (hlen : ∀ es, prun [] ls = .ok es → es.length ≤ 1000) :
    FnOk g 2 (.ref 153) [.lst (ls.map fun l => .str (S l))] [] [] (fun d => d = lres (prun [] ls)) NoX := by
  refine fn_def (r := 1) (bs := [("items", .lst (ls.map fun l => .str (S l)))]) (by rw [hK]; rfl) (by rw [hK]; rfl) (binds1 (by intro v; rfl)) ?_ ["items"]
  intro C hC
  obtain rfl := hC.g
  have hsc := hC.scope
  have hrk := hC.rk
  dsimp only [List.map]
  refine ex_cons (ex_try_list hC.comp hsc (by decide +kernel) (by decide +kernel) (by rw [hK]; rfl) (by rw [hK]; rfl) ?_)
  refine ev_call ?_
  refine ev_typeK (by with_reducible assumption) (by with_reducible assumption) (by decide +kernel) (by intro _; kernel_rfl) (by with_reducible exact bb_list) ?_ (by decide +kernel) (by decide +kernel)
  refine call_pos0 (by (first | exact keep_B | exact keep_T | exact keepK (by with_reducible assumption) (by intro _; kernel_rfl))) ?_
  refine evl_cons ?_
  refine ev_items (es := []) ?_
  refine ev_call ?_
  refine ev_globalK (by with_reducible assumption) (by with_reducible assumption) (by decide +kernel) (by intro _; rfl) ?_ (by decide +kernel)
  refine call_pos0 (by (first | exact keep_B | exact keep_T | exact keepK (by with_reducible assumption) (by intro _; kernel_rfl))) ?_
  refine evl_cons ?_
  refine ev_name (by (repeat' (first | with_reducible exact lk_here | refine lk_there (by decide +kernel) ?_ | refine lk_free (by decide +kernel) ?_ | with_reducible assumption))) ?_ (by decide +kernel) (by decide +kernel)
  refine evl_nil ?_
  refine cl_use (fn_parse _ hK ls hz hl) (by lia) ?_ ?_
  · rintro d ⟨es, e1, rfl, hnd⟩
    refine ⟨es, rfl, cl_items hnd ?_⟩
    refine evl_nil ?_
    refine cl_list_its hnd (Nat.le_trans (hlen es e1) (by decide)) ?_
    show _ = _
    rw [e1]; rfl
  · rintro x (⟨e1, rfl⟩ | ⟨e1, rfl⟩)
    · left; refine ⟨rfl, ?_⟩; show _ = _; rw [e1]; rfl
    · right; refine ⟨rfl, ?_⟩; show _ = _; rw [e1]; rfl

/-! U11 -/
noncomputable def readD (fs : List Nat) : D := if fs.length % 4 = 0 then .bytes ((digs 256 (fs.length / 4 * 3) (val 64 fs)).map Nat.toUInt8).toArray else if fs.length % 4 = 1 then .str (percentText (fs.length : Int)) else .str (S (codes "Incorrect padding"))
theorem fn_law_read (g : Gx) (hK : g.K = hd01.heap_39 g.w.params) (fs : List Nat) (hz : fs.length ≤ 24) : FnOk g 2 (.ref 160) [intsD fs] [] [] (fun d => d = readD fs) NoX := by
  refine fn_def (r := 1) (bs := [("figures", intsD fs)]) (by rw [hK]; rfl) (by rw [hK]; rfl) (binds1 (by intro v; rfl)) ?_ ["figures"]
  intro C hC
  obtain rfl := hC.g
  have hsc := hC.scope
  have hrk := hC.rk
  clear hC
  dsimp only [List.map]
  have hll : ((fs.map fun (x : Nat) => (x : Int)).map D.int).length = fs.length := by rw [List.length_map, List.length_map]
  have h24 : ((fs.map fun (x : Nat) => (x : Int)).map D.int).length ≤ 2 ^ 24 := by rw [hll]; exact Nat.le_trans hz (by decide)
  refine ex_cons ?_
  refine ex_if ?_
  refine evb_compare ?_
  refine ev_binop ?_
  refine ev_call ?_
  refine ev_funK (by with_reducible assumption) (by with_reducible assumption) (by decide +kernel) (by intro _; kernel_rfl) (by with_reducible exact bb_len) ?_ (by decide +kernel) (by decide +kernel)
  refine call_pos0 (by (first | exact keep_B | exact keep_T | exact keepK (by with_reducible assumption) (by intro _; kernel_rfl))) ?_
  refine evl_cons ?_
  refine ev_name (by (repeat' (first | with_reducible exact lk_here | refine lk_there (by decide +kernel) ?_ | refine lk_free (by decide +kernel) ?_ | with_reducible assumption))) ?_ (by decide +kernel) (by decide +kernel)
  refine evl_nil ?_
  refine cl_len_list ?_ ?_
  rotate_left
  with_reducible refine ev_int ?_
  refine pr_mod_int ?_ ?_
  rotate_left
  with_reducible refine ev_int ?_
  with_reducible refine pr_eq_int ?_
  refine tr_bool ?_
  with_reducible refine br (fun _ => ?_) (fun _ => ?_)
  refine ex_cons ?_
  refine ex_return ?_
  refine ev_call ?_
  refine ev_globalK (by with_reducible assumption) (by with_reducible assumption) (by decide +kernel) (by intro _; rfl) ?_ (by decide +kernel)
  refine call_pos0 (by (first | exact keep_B | exact keep_T | exact keepK (by with_reducible assumption) (by intro _; kernel_rfl))) ?_
  refine evl_cons ?_
  refine ev_name (by (repeat' (first | with_reducible exact lk_here | refine lk_there (by decide +kernel) ?_ | refine lk_free (by decide +kernel) ?_ | with_reducible assumption))) ?_ (by decide +kernel) (by decide +kernel)
  refine evl_nil ?_
  rotate_left
  refine ex_nil ?_
  with_reducible refine then_next ?_
  refine ex_cons ?_
  refine ex_if ?_
  refine evb_compare ?_
  refine ev_binop ?_
  refine ev_call ?_
  refine ev_funK (by with_reducible assumption) (by with_reducible assumption) (by decide +kernel) (by intro _; kernel_rfl) (by with_reducible exact bb_len) ?_ (by decide +kernel) (by decide +kernel)
  refine call_pos0 (by (first | exact keep_B | exact keep_T | exact keepK (by with_reducible assumption) (by intro _; kernel_rfl))) ?_
  refine evl_cons ?_
  refine ev_name (by (repeat' (first | with_reducible exact lk_here | refine lk_there (by decide +kernel) ?_ | refine lk_free (by decide +kernel) ?_ | with_reducible assumption))) ?_ (by decide +kernel) (by decide +kernel)
  refine evl_nil ?_
  refine cl_len_list ?_ ?_
  rotate_left
  with_reducible refine ev_int ?_
  refine pr_mod_int ?_ ?_
  rotate_left
  with_reducible refine ev_int ?_
  with_reducible refine pr_eq_int ?_
  refine tr_bool ?_
  with_reducible refine br (fun _ => ?_) (fun _ => ?_)
  refine ex_cons ?_
  refine ex_return ?_
  refine ev_binop ?_
  refine ev_binop ?_
  with_reducible refine ev_strc ?_
  refine ev_call ?_
  refine ev_typeK (by with_reducible assumption) (by with_reducible assumption) (by decide +kernel) (by intro _; kernel_rfl) (by with_reducible exact bb_str) ?_ (by decide +kernel) (by decide +kernel)
  refine call_pos0 (by (first | exact keep_B | exact keep_T | exact keepK (by with_reducible assumption) (by intro _; kernel_rfl))) ?_
  refine evl_cons ?_
  refine ev_call ?_
  refine ev_funK (by with_reducible assumption) (by with_reducible assumption) (by decide +kernel) (by intro _; kernel_rfl) (by with_reducible exact bb_len) ?_ (by decide +kernel) (by decide +kernel)
  refine call_pos0 (by (first | exact keep_B | exact keep_T | exact keepK (by with_reducible assumption) (by intro _; kernel_rfl))) ?_
  refine evl_cons ?_
  refine ev_name (by (repeat' (first | with_reducible exact lk_here | refine lk_there (by decide +kernel) ?_ | refine lk_free (by decide +kernel) ?_ | with_reducible assumption))) ?_ (by decide +kernel) (by decide +kernel)
  refine evl_nil ?_
  refine cl_len_list ?_ ?_
  rotate_left
  refine evl_nil ?_
  rotate_left
  refine ex_nil ?_
  with_reducible refine then_next ?_
  refine ex_cons ?_
  refine ex_return ?_
  with_reducible refine ev_strc ?_
  rotate_left
  · exact h24
  · decide
  · rename_i h
    rw [hll] at h
    refine cl_eq (fn_law_octets _ hK fs hz) (by omega) ?_
    skip
    show _ = _
    unfold readD
    rw [if_pos (by omega)]
  · exact h24
  · decide
  · exact h24
  · rename_i h0 h
    rw [hll] at h h0 ⊢
    refine cl_str_int (by omega) ?_
    have hsl : (codes (toString (fs.length : Int))).length ≤ 20 := by
      have : ∀ m : Nat, m < 31 → (codes (toString ((m : Nat) : Int))).length ≤ 20 := by decide +kernel
      exact this _ (by omega)
    refine pr_add_str ?_ ?_
    · exact Nat.le_trans (Nat.add_le_add (show (codes _).length ≤ 200 by decide) hsl) (by decide)
    with_reducible refine ev_strc ?_
    refine pr_add_str ?_ ?_
    · rw [List.length_append]; exact Nat.le_trans (Nat.add_le_add (Nat.add_le_add (show (codes _).length ≤ 200 by decide) hsl) (show (codes _).length ≤ 200 by decide)) (by decide)
    show _ = _
    unfold readD
    rw [if_neg (by omega), if_pos (by omega)]
    unfold percentText
    rw [ofString_S, ofString_S, ofString_S, S_app, S_app]
  · rename_i h0 h
    rw [hll] at h h0
    show _ = _
    unfold readD
    rw [if_neg (by omega), if_neg (by omega)]
theorem fn_law_told_alt (g : Gx) (hK : g.K = hd01.heap_39 g.w.params) (herr : ErrAt 46 g.base) (l : List Nat) (alt : List UInt8) (fs : List Nat) (ha : alt.length = 2) (hl : ∀ c ∈ l, c < 128) (hz : l.length ≤ 100) (hf : ∀ f ∈ fs, f < 64) (hfl : fs.length ≤ 100)
    (ht : trans (mtab alt [43, 47]) (l.map (·.toUInt8)) = encB fs) : FnOk g 5 (.ref 167) [.str (S l), .bytes alt.toArray] [] [] (fun d => d = readD fs) NoX := by
  refine fn_def (r := 4) (bs := [("text", .str (S l)), ("altchars", .bytes alt.toArray)]) (by rw [hK]; rfl) (by rw [hK]; rfl) (binds2 (by intro v w; rfl)) ?_ ["text", "altchars"]
  intro C hC
  obtain rfl := hC.g
  have hsc := hC.scope
  have hrk := hC.rk
  have hcm := hC.comp
  dsimp only [List.map]
  refine ex_cons ?_
  refine ex_try_told hcm hsc (by (first | exact st_loc (by with_reducible assumption) (by decide +kernel) | exact st_cell (by with_reducible assumption) (by first | with_reducible assumption | exact FnCx.comp (by assumption)) (by decide +kernel))) (by decide +kernel) herr (by decide +kernel) (by decide +kernel) (by rw [hK]; rfl) (by rw [hK]; rfl) ?_ (hd := by decide +kernel) (hcd := by decide +kernel)
  refine ev_call ?_
  refine ev_globalK (by with_reducible assumption) (by with_reducible assumption) (by decide +kernel) (by intro _; rfl) ?_ (by decide +kernel)
  refine call_pos0 (by (first | exact keep_B | exact keep_T | exact keepK (by with_reducible assumption) (by intro _; kernel_rfl))) ?_
  refine evl_cons ?_
  refine ev_name (by (repeat' (first | with_reducible exact lk_here | refine lk_there (by decide +kernel) ?_ | refine lk_free (by decide +kernel) ?_ | with_reducible assumption))) ?_ (by decide +kernel) (by decide +kernel)
  refine evl_cons ?_
  refine ev_name (by (repeat' (first | with_reducible exact lk_here | refine lk_there (by decide +kernel) ?_ | refine lk_free (by decide +kernel) ?_ | with_reducible assumption))) ?_ (by decide +kernel) (by decide +kernel)
  refine evl_nil ?_
  refine cl_use (fn_b64decode_alt _ hK herr l alt fs ha hl hz hf hfl ht (fun d => d = readD fs ∧ ∃ x, d = .bytes x) (fun x => x.cls = .ref 46 ∧ ∃ m, x.msg = some m ∧ D.str m = readD fs) ?_ ?_ ?_) (by omega) ?_ ?_
  · intro h; exact ⟨rfl, _, rfl, by unfold readD; rw [if_neg (by omega), if_pos h]⟩
  · intro h h'; exact ⟨rfl, _, rfl, by unfold readD; rw [if_neg h', if_neg h, ← ofString_S]⟩
  · intro h
    refine ⟨?_, _, rfl⟩
    unfold readD
    rw [if_pos h, a2_octets fs hf (by omega)]
    have e1 : 6 * fs.length / 8 = fs.length / 4 * 3 := by omega
    have e2 : 6 * fs.length % 8 = 0 := by omega
    rw [e1, e2, Nat.pow_zero, Nat.div_one]
  · rintro d ⟨hd, x, rfl⟩
    refine then_next ?_
    refine ex_cons ?_
    refine ex_return ?_
    refine ev_ifexp ?_
    refine evb_compare ?_
    refine ev_call ?_
    refine ev_typeK (by with_reducible assumption) (by with_reducible assumption) (by decide +kernel) (by intro _; kernel_rfl) (by with_reducible exact bb_type) ?_ (by decide +kernel) (by decide +kernel)
    refine call_pos0 (by (first | exact keep_B | exact keep_T | exact keepK (by with_reducible assumption) (by intro _; kernel_rfl))) ?_
    refine evl_cons ?_
    refine ev_name (by (repeat' (first | with_reducible exact lk_here | refine lk_there (by decide +kernel) ?_ | refine lk_free (by decide +kernel) ?_ | with_reducible assumption))) ?_ (by decide +kernel) (by decide +kernel)
    refine evl_nil ?_
    refine cl_type (fun _ e => nomatch e) ?_
    refine ev_typeK (by with_reducible assumption) (by with_reducible assumption) (by decide +kernel) (by intro _; kernel_rfl) (by with_reducible exact bb_bytes) ?_ (by decide +kernel) (by decide +kernel)
    refine pr_is (t := true) (by rfl) (by rfl) ?_
    refine tr_bool ?_
    with_reducible refine br_t ?_
    refine ev_name (by (repeat' (first | with_reducible exact lk_here | refine lk_there (by decide +kernel) ?_ | refine lk_free (by decide +kernel) ?_ | with_reducible assumption))) ?_ (by decide +kernel) (by decide +kernel)
    exact hd
  · rintro x ⟨h1, m, h2, h3⟩; exact ⟨h1, m, h2, h3⟩

/-! U12 -/
noncomputable def innerQ (v : List Nat) : List Nat := (v.drop 1).take (v.length - 2)
noncomputable def quoted (q : Nat) (v : List Nat) : Bool := v.head? == some q && v.getLast? == some q
noncomputable def pairV (e : Nat) (fs : List Nat) : List Nat := if quoted (125 - e) (sufE e fs) then innerQ (sufE e fs) else sufE e fs
noncomputable def pairRes (fs : List Nat) (e : Nat) : D := if e ∉ fs then .str (S (codes "ValueError")) else if sufE e fs = [] then .str (S (codes "IndexError")) else .tup [intsD (preE e fs), intsD (pairV e fs)]
theorem intsD_get {fs : List Nat} {i : Nat} (h : i < fs.length) : ((fs.map fun (x : Nat) => (x : Int)).map D.int)[i]? = some (.int (fs.getD i 0 : Nat)) := by
  rw [List.getElem?_map, List.getElem?_map, List.getD_eq_getElem?_getD, List.getElem?_eq_getElem h]; rfl
theorem intsD_len (fs : List Nat) : ((fs.map fun (x : Nat) => (x : Int)).map D.int).length = fs.length := by rw [List.length_map, List.length_map]
theorem intsD_snoc (a : List Nat) (x : Nat) : ((a.map fun (x : Nat) => (x : Int)).map D.int) ++ [D.int x] = (((a ++ [x]).map fun (x : Nat) => (x : Int)).map D.int) := by simp
theorem mem_cast {e : Nat} {l : List Nat} : ((e : Int) ∈ l.map fun (x : Nat) => (x : Int)) ↔ e ∈ l := by
  constructor
  · intro h; obtain ⟨x, hx, q⟩ := List.mem_map.mp h; have : x = e := by omega
    subst this; exact hx
  · intro h; exact List.mem_map.mpr ⟨e, h, rfl⟩
theorem preE_no {e : Nat} {fs : List Nat} (h : e ∉ fs) : preE e fs = fs := by
  have := List.takeWhile_append_of_pos (l₂ := []) (all_ne h)
  rwa [List.append_nil, List.takeWhile_nil, List.append_nil] at this
theorem len_suf {e : Nat} : ∀ {fs : List Nat}, e ∈ fs → (preE e fs).length + 1 + (sufE e fs).length = fs.length
  | x :: l, h => by
    unfold preE sufE
    by_cases hx : x = e
    · subst hx
      rw [List.takeWhile_cons_of_neg (by simp), List.dropWhile_cons_of_neg (by simp)]
      rw [List.length_nil, List.length_drop, List.length_cons]; omega
    · have h' : e ∈ l := by
        rcases List.mem_cons.mp h with q | q
        · exact absurd q.symm hx
        · exact q
      have := len_suf h'
      unfold preE sufE at this
      rw [List.takeWhile_cons_of_pos (by simpa using hx), List.dropWhile_cons_of_pos (by simpa using hx), List.length_cons, List.length_cons]; omega
theorem sufE_le (e : Nat) (fs : List Nat) : (sufE e fs).length ≤ fs.length := by
  by_cases h : e ∈ fs
  · have := len_suf h; omega
  · rw [sufE_no h]; exact Nat.zero_le _
theorem quoted_iff {q : Nat} {v : List Nat} (h : 0 < v.length) : quoted q v = true ↔ v.getD 0 0 = q ∧ v.getD (v.length - 1) 0 = q := by
  unfold quoted
  rw [List.head?_eq_getElem?, List.getLast?_eq_getElem?, List.getD_eq_getElem?_getD, List.getD_eq_getElem?_getD, List.getElem?_eq_getElem h, List.getElem?_eq_getElem (show v.length - 1 < v.length by omega)]
  simp
theorem innerQ_eq (v : List Nat) : innerQ v = (List.range (v.length - 2)).map fun i => v.getD (1 + i) 0 := by
  unfold innerQ
  refine List.ext_getElem (by rw [List.length_take, List.length_drop, List.length_map, List.length_range]; omega) fun i h1 h2 => ?_
  rw [List.length_map, List.length_range] at h2
  rw [List.getElem_take, List.getElem_drop, List.getElem_map, List.getElem_range, List.getD_eq_getElem?_getD, List.getElem?_eq_getElem (by omega)]; rfl
theorem intsR_len (n : Nat) : ((List.range n).map fun (i : Nat) => D.int (i : Int)).length = n := by rw [List.length_map, List.length_range]
theorem preE_all (e : Nat) (fs : List Nat) : (preE e fs).take fs.length = preE e fs := List.take_of_length_le (List.takeWhile_prefix _).length_le
theorem fn_law_pair (g : Gx) (hK : g.K = hd01.heap_39 g.w.params) (fs : List Nat) (e : Nat) (he : e ≤ 125) (hz : fs.length ≤ 24) : FnOk g 1 (.ref 136) [intsD fs, .int e] [] [] (fun d => d = pairRes fs e) NoX := by
  refine fn_def (r := 0) (bs := [("figures", intsD fs), ("equals", .int e)]) (by rw [hK]; rfl) (by rw [hK]; rfl) (binds2 (by intro v w; rfl)) ?_ ["figures", "equals"]
  intro C hC
  obtain rfl := hC.g
  have hsc := hC.scope
  have hcm := hC.comp
  clear hC
  dsimp only [List.map]
  have h24 : ∀ l : List Nat, l.length ≤ 24 → ((l.map fun (x : Nat) => (x : Int)).map D.int).length ≤ 2 ^ 24 := fun l h => by rw [intsD_len]; exact Nat.le_trans h (by decide)
  refine ex_cons ?_
  refine ex_comp hsc (evi_call ?_)
  refine ev_typeK (by with_reducible assumption) (by with_reducible assumption) (by decide +kernel) (by intro _; kernel_rfl) (by with_reducible exact bb_range) ?_ (by decide +kernel) (by decide +kernel)
  refine ⟨_, rfl, by (first | exact keep_B | exact keep_T | exact keepK (by with_reducible assumption) (by intro _; kernel_rfl)), ?_⟩
  refine evl_cons ?_
  refine ev_call ?_
  refine ev_funK (by with_reducible assumption) (by with_reducible assumption) (by decide +kernel) (by intro _; kernel_rfl) (by with_reducible exact bb_len) ?_ (by decide +kernel) (by decide +kernel)
  refine call_pos0 (by (first | exact keep_B | exact keep_T | exact keepK (by with_reducible assumption) (by intro _; kernel_rfl))) ?_
  refine evl_cons ?_
  refine ev_name (by (repeat' (first | with_reducible exact lk_here | refine lk_there (by decide +kernel) ?_ | refine lk_free (by decide +kernel) ?_ | with_reducible assumption))) ?_ (by decide +kernel) (by decide +kernel)
  refine evl_nil ?_
  refine cl_len_list ?_ ?_
  rotate_left
  refine evl_nil ?_
  rotate_left
  · exact h24 fs hz
  rw [intsD_len]
  refine cli_range1 fs.length rfl (by omega) ?_
  refine ⟨by rw [List.length_map, List.length_range]; exact le_line 24 hz (by decide), fun i ys => ys = (((preE e fs).take i).map fun (x : Nat) => (x : Int)).map D.int, rfl, ?_, ?_⟩
  · rintro i d ys C' hS hi rfl
    have hK' := sub_K hS hK
    have hsc' := hS.scope
    have hlt : i < fs.length := by have := (List.getElem?_eq_some_iff.mp hi).1; simpa using this
    obtain rfl : d = .int (i : Int) := by
      rw [List.getElem?_map, List.getElem?_range hlt] at hi
      exact (Option.some.inj hi).symm
    refine asg_name (by (first | exact st_loc (by with_reducible assumption) (by decide +kernel) | exact st_cell (by with_reducible assumption) (by first | with_reducible assumption | exact FnCx.comp (by assumption)) (by decide +kernel))) ?_
    refine tests_one ?_
    refine evb_compare ?_
    refine ev_name (by (repeat' (first | with_reducible exact lk_here | refine lk_there (by decide +kernel) ?_ | refine lk_free (by decide +kernel) ?_ | with_reducible assumption))) ?_ (by decide +kernel) (by decide +kernel)
    refine ev_sub ?_
    refine ev_name (by (repeat' (first | with_reducible exact lk_here | refine lk_there (by decide +kernel) ?_ | refine lk_free (by decide +kernel) ?_ | with_reducible assumption))) ?_ (by decide +kernel) (by decide +kernel)
    refine ev_slice ?_
    refine evp_none ?_
    refine evp_some ?_
    refine ev_binop ?_
    refine ev_name (by (repeat' (first | with_reducible exact lk_here | refine lk_there (by decide +kernel) ?_ | refine lk_free (by decide +kernel) ?_ | with_reducible assumption))) ?_ (by decide +kernel) (by decide +kernel)
    with_reducible refine ev_int ?_
    with_reducible refine pr_add_int ?_
    refine evp_none ?_
    refine pr_slice_list (lo := none) (hi := some ((i + 1 : Nat) : Int)) (st := none) (Nat.le_trans (h24 fs hz) (by decide)) (fun h => nomatch h) ?_
    rw [pickL_to, ← List.map_take, ← List.map_take]
    skip
    refine pr_notIn_ints ?_
    rw [show decide ((e : Int) ∉ (fs.take (i + 1)).map fun (x : Nat) => (x : Int)) = decide (e ∉ fs.take (i + 1)) from decide_eq_decide.mpr (not_congr mem_cast)]
    refine tr_bool ?_
    with_reducible refine br (fun _ => ?_) (fun _ => ?_)
    refine ev_sub ?_
    refine ev_name (by (repeat' (first | with_reducible exact lk_here | refine lk_there (by decide +kernel) ?_ | refine lk_free (by decide +kernel) ?_ | with_reducible assumption))) ?_ (by decide +kernel) (by decide +kernel)
    refine ev_name (by (repeat' (first | with_reducible exact lk_here | refine lk_there (by decide +kernel) ?_ | refine lk_free (by decide +kernel) ?_ | with_reducible assumption))) ?_ (by decide +kernel) (by decide +kernel)
    rotate_left
    rotate_left
    · rename_i hb
      have hne : e ∉ fs.take (i + 1) := by simpa using hb
      refine pr_item_list (j := i) (d := .int (fs.getD i 0 : Nat)) (by omega) (seqIdx_nat (by rw [intsD_len]; exact hlt)) (intsD_get hlt) ?_
      show _ = _
      rw [preE_in hne hlt, ← intsD_snoc]
    · rename_i hb
      have hin : e ∈ fs.take (i + 1) := by simpa using hb
      have hl := preE_len hin
      show _ = _
      rw [List.take_of_length_le hl, List.take_of_length_le (by omega)]
  rintro ys rfl
  rw [intsR_len, preE_all]
  refine ex_cons ?_
  refine ex_comp_cell hsc hcm (evi_call ?_)
  refine ev_typeK (by with_reducible assumption) (by with_reducible assumption) (by decide +kernel) (by intro _; kernel_rfl) (by with_reducible exact bb_range) ?_ (by decide +kernel) (by decide +kernel)
  refine ⟨_, rfl, by (first | exact keep_B | exact keep_T | exact keepK (by with_reducible assumption) (by intro _; kernel_rfl)), ?_⟩
  refine evl_cons ?_
  refine ev_call ?_
  refine ev_funK (by with_reducible assumption) (by with_reducible assumption) (by decide +kernel) (by intro _; kernel_rfl) (by with_reducible exact bb_len) ?_ (by decide +kernel) (by decide +kernel)
  refine call_pos0 (by (first | exact keep_B | exact keep_T | exact keepK (by with_reducible assumption) (by intro _; kernel_rfl))) ?_
  refine evl_cons ?_
  refine ev_name (by (repeat' (first | with_reducible exact lk_here | refine lk_there (by decide +kernel) ?_ | refine lk_free (by decide +kernel) ?_ | with_reducible assumption))) ?_ (by decide +kernel) (by decide +kernel)
  refine evl_nil ?_
  refine cl_len_list ?_ ?_
  rotate_left
  refine evl_nil ?_
  rotate_left
  · exact h24 fs hz
  rw [intsD_len]
  refine cli_range1 fs.length rfl (by omega) ?_
  refine ⟨by rw [List.length_map, List.length_range]; exact le_line 24 hz (by decide), fun i ys => ys = ((sufE e (fs.take i)).map fun (x : Nat) => (x : Int)).map D.int, rfl, ?_, ?_⟩
  · rintro i d ys C' hS hi rfl
    have hK' := sub_K hS hK
    have hsc' := hS.scope
    have hlt : i < fs.length := by have := (List.getElem?_eq_some_iff.mp hi).1; simpa using this
    obtain rfl : d = .int (i : Int) := by
      rw [List.getElem?_map, List.getElem?_range hlt] at hi
      exact (Option.some.inj hi).symm
    have hst : fs.take (i + 1) = fs.take i ++ [fs.getD i 0] := by
      rw [List.take_add_one, List.getD_eq_getElem?_getD, List.getElem?_eq_getElem hlt]; rfl
    refine asg_name (by (first | exact st_loc (by with_reducible assumption) (by decide +kernel) | exact st_cell (by with_reducible assumption) (by first | with_reducible assumption | exact FnCx.comp (by assumption)) (by decide +kernel))) ?_
    refine tests_one ?_
    refine evb_compare ?_
    refine ev_name (by (repeat' (first | with_reducible exact lk_here | refine lk_there (by decide +kernel) ?_ | refine lk_free (by decide +kernel) ?_ | with_reducible assumption))) ?_ (by decide +kernel) (by decide +kernel)
    refine ev_sub ?_
    refine ev_name (by (repeat' (first | with_reducible exact lk_here | refine lk_there (by decide +kernel) ?_ | refine lk_free (by decide +kernel) ?_ | with_reducible assumption))) ?_ (by decide +kernel) (by decide +kernel)
    refine ev_slice ?_
    refine evp_none ?_
    refine evp_some ?_
    refine ev_name (by (repeat' (first | with_reducible exact lk_here | refine lk_there (by decide +kernel) ?_ | refine lk_free (by decide +kernel) ?_ | with_reducible assumption))) ?_ (by decide +kernel) (by decide +kernel)
    refine evp_none ?_
    refine pr_slice_list (lo := none) (hi := some (i : Int)) (st := none) (Nat.le_trans (h24 fs hz) (by decide)) (fun h => nomatch h) ?_
    rw [pickL_to, ← List.map_take, ← List.map_take]
    skip
    refine pr_in_ints ?_
    rw [show decide ((e : Int) ∈ (fs.take i).map fun (x : Nat) => (x : Int)) = decide (e ∈ fs.take i) from decide_eq_decide.mpr mem_cast]
    refine tr_bool ?_
    with_reducible refine br (fun _ => ?_) (fun _ => ?_)
    refine ev_sub ?_
    refine ev_name (by (repeat' (first | with_reducible exact lk_here | refine lk_there (by decide +kernel) ?_ | refine lk_free (by decide +kernel) ?_ | with_reducible assumption))) ?_ (by decide +kernel) (by decide +kernel)
    refine ev_name (by (repeat' (first | with_reducible exact lk_here | refine lk_there (by decide +kernel) ?_ | refine lk_free (by decide +kernel) ?_ | with_reducible assumption))) ?_ (by decide +kernel) (by decide +kernel)
    rotate_left
    rotate_left
    · rename_i hb
      have hin : e ∈ fs.take i := by simpa using hb
      refine pr_item_list (j := i) (d := .int (fs.getD i 0 : Nat)) (by omega) (seqIdx_nat (by rw [intsD_len]; exact hlt)) (intsD_get hlt) ?_
      show _ = _
      rw [hst, drop_in hin, ← intsD_snoc]
    · rename_i hb
      have hne : e ∉ fs.take i := by simpa using hb
      show _ = _
      rw [hst, sufE_no hne, sufE_one hne]
  rintro ys rfl
  rw [intsR_len, List.take_length]
  have h24p : (preE e fs).length ≤ 24 := Nat.le_trans (List.takeWhile_prefix _).length_le hz
  have h24s : (sufE e fs).length ≤ 24 := Nat.le_trans (sufE_le e fs) hz
  with_reducible refine then_next ?_
  refine ex_cons ?_
  refine ex_if ?_
  refine evb_compare ?_
  refine ev_call ?_
  refine ev_funK (by with_reducible assumption) (by with_reducible assumption) (by decide +kernel) (by intro _; kernel_rfl) (by with_reducible exact bb_len) ?_ (by decide +kernel) (by decide +kernel)
  refine call_pos0 (by (first | exact keep_B | exact keep_T | exact keepK (by with_reducible assumption) (by intro _; kernel_rfl))) ?_
  refine evl_cons ?_
  refine ev_name (by (repeat' (first | with_reducible exact lk_here | refine lk_there (by decide +kernel) ?_ | refine lk_free (by decide +kernel) ?_ | with_reducible assumption))) ?_ (by decide +kernel) (by decide +kernel)
  refine evl_nil ?_
  refine cl_len_list ?_ ?_
  rotate_left
  refine ev_call ?_
  refine ev_funK (by with_reducible assumption) (by with_reducible assumption) (by decide +kernel) (by intro _; kernel_rfl) (by with_reducible exact bb_len) ?_ (by decide +kernel) (by decide +kernel)
  refine call_pos0 (by (first | exact keep_B | exact keep_T | exact keepK (by with_reducible assumption) (by intro _; kernel_rfl))) ?_
  refine evl_cons ?_
  refine ev_name (by (repeat' (first | with_reducible exact lk_here | refine lk_there (by decide +kernel) ?_ | refine lk_free (by decide +kernel) ?_ | with_reducible assumption))) ?_ (by decide +kernel) (by decide +kernel)
  refine evl_nil ?_
  refine cl_len_list ?_ ?_
  rotate_left
  with_reducible refine pr_eq_int ?_
  refine tr_bool ?_
  with_reducible refine br (fun _ => ?_) (fun _ => ?_)
  refine ex_cons ?_
  refine ex_return ?_
  with_reducible refine ev_strc ?_
  rotate_left
  refine ex_nil ?_
  with_reducible refine then_next ?_
  refine ex_cons ?_
  refine ex_if ?_
  refine evb_compare ?_
  refine ev_binop ?_
  refine ev_call ?_
  refine ev_funK (by with_reducible assumption) (by with_reducible assumption) (by decide +kernel) (by intro _; kernel_rfl) (by with_reducible exact bb_len) ?_ (by decide +kernel) (by decide +kernel)
  refine call_pos0 (by (first | exact keep_B | exact keep_T | exact keepK (by with_reducible assumption) (by intro _; kernel_rfl))) ?_
  refine evl_cons ?_
  refine ev_name (by (repeat' (first | with_reducible exact lk_here | refine lk_there (by decide +kernel) ?_ | refine lk_free (by decide +kernel) ?_ | with_reducible assumption))) ?_ (by decide +kernel) (by decide +kernel)
  refine evl_nil ?_
  refine cl_len_list ?_ ?_
  rotate_left
  with_reducible refine ev_int ?_
  with_reducible refine pr_add_int ?_
  refine ev_call ?_
  refine ev_funK (by with_reducible assumption) (by with_reducible assumption) (by decide +kernel) (by intro _; kernel_rfl) (by with_reducible exact bb_len) ?_ (by decide +kernel) (by decide +kernel)
  refine call_pos0 (by (first | exact keep_B | exact keep_T | exact keepK (by with_reducible assumption) (by intro _; kernel_rfl))) ?_
  refine evl_cons ?_
  refine ev_name (by (repeat' (first | with_reducible exact lk_here | refine lk_there (by decide +kernel) ?_ | refine lk_free (by decide +kernel) ?_ | with_reducible assumption))) ?_ (by decide +kernel) (by decide +kernel)
  refine evl_nil ?_
  refine cl_len_list ?_ ?_
  rotate_left
  with_reducible refine pr_eq_int ?_
  refine tr_bool ?_
  with_reducible refine br (fun _ => ?_) (fun _ => ?_)
  refine ex_cons ?_
  refine ex_return ?_
  with_reducible refine ev_strc ?_
  rotate_left
  refine ex_nil ?_
  with_reducible refine then_next ?_
  refine ex_cons ?_
  refine ex_assign (by (first | exact st_loc (by with_reducible assumption) (by decide +kernel) | exact st_cell (by with_reducible assumption) (by first | with_reducible assumption | exact FnCx.comp (by assumption)) (by decide +kernel))) ?_
  refine ev_binop ?_
  with_reducible refine ev_int ?_
  refine ev_name (by (repeat' (first | with_reducible exact lk_here | refine lk_there (by decide +kernel) ?_ | refine lk_free (by decide +kernel) ?_ | with_reducible assumption))) ?_ (by decide +kernel) (by decide +kernel)
  with_reducible refine pr_sub_int ?_
  with_reducible refine then_next ?_
  refine ex_cons ?_
  refine ex_if ?_
  refine evb_or ?_
  refine evb_compare ?_
  refine ev_sub ?_
  refine ev_name (by (repeat' (first | with_reducible exact lk_here | refine lk_there (by decide +kernel) ?_ | refine lk_free (by decide +kernel) ?_ | with_reducible assumption))) ?_ (by decide +kernel) (by decide +kernel)
  with_reducible refine ev_int ?_
  rotate_left
  · exact h24 _ h24p
  · exact h24 fs hz
  · rename_i hb
    rw [intsD_len, intsD_len] at hb
    have hno : e ∉ fs := fun h => by have := len_suf h; omega
    show _ = _
    unfold pairRes
    rw [if_pos hno]
  · exact h24 _ h24p
  · exact h24 fs hz
  · rename_i ha hb
    rw [intsD_len, intsD_len] at ha hb
    have hin : e ∈ fs := Decidable.byContradiction fun h => ha (by rw [preE_no h])
    have hnil : sufE e fs = [] := List.length_eq_zero_iff.mp (by have := len_suf hin; omega)
    show _ = _
    unfold pairRes
    rw [if_neg (fun h => h hin), if_pos hnil]
  · rename_i ha hb
    rw [intsD_len, intsD_len] at ha hb
    have hin : e ∈ fs := Decidable.byContradiction fun h => ha (by rw [preE_no h])
    have hne : sufE e fs ≠ [] := fun h => hb (by have := len_suf hin; rw [h, List.length_nil] at this; omega)
    have hpos : 0 < (sufE e fs).length := List.length_pos_iff.mpr hne
    have hres : pairRes fs e = .tup [intsD (preE e fs), intsD (pairV e fs)] := by
      unfold pairRes; rw [if_neg (fun h => h hin), if_neg hne]
    rw [hres]
    generalize hv : sufE e fs = vs at *
    refine pr_item_list (j := 0) (d := .int (vs.getD 0 0 : Nat)) (by decide) (seqIdx_nat (k := 0) (by rw [intsD_len]; exact hpos)) (intsD_get hpos) ?_
    refine ev_name (by (repeat' (first | with_reducible exact lk_here | refine lk_there (by decide +kernel) ?_ | refine lk_free (by decide +kernel) ?_ | with_reducible assumption))) ?_ (by decide +kernel) (by decide +kernel)
    with_reducible refine pr_ne_int ?_
    refine tr_bool ?_
    with_reducible refine br (fun _ => ?_) (fun _ => ?_)
    with_reducible refine br_t ?_
    refine ex_cons ?_
    refine ex_return ?_
    refine ev_tuple ?_
    refine evl_cons ?_
    refine ev_name (by (repeat' (first | with_reducible exact lk_here | refine lk_there (by decide +kernel) ?_ | refine lk_free (by decide +kernel) ?_ | with_reducible assumption))) ?_ (by decide +kernel) (by decide +kernel)
    refine evl_cons ?_
    refine ev_name (by (repeat' (first | with_reducible exact lk_here | refine lk_there (by decide +kernel) ?_ | refine lk_free (by decide +kernel) ?_ | with_reducible assumption))) ?_ (by decide +kernel) (by decide +kernel)
    refine evl_nil ?_
    rotate_left
    refine evb_or ?_
    refine evb_compare ?_
    refine ev_sub ?_
    refine ev_name (by (repeat' (first | with_reducible exact lk_here | refine lk_there (by decide +kernel) ?_ | refine lk_free (by decide +kernel) ?_ | with_reducible assumption))) ?_ (by decide +kernel) (by decide +kernel)
    refine ev_unop ?_
    with_reducible refine ev_int ?_
    with_reducible refine pr_neg_int ?_
    rotate_left
    · rename_i hq
      refine ⟨show 2 ≤ sizeLine by decide, ?_⟩
      show _ = _
      have : quoted (125 - e) vs = false := Bool.eq_false_iff.mpr fun h => hq (by have := ((quoted_iff hpos).mp h).1; omega)
      unfold pairV; rw [hv, this]; rfl
    · rename_i hq
      refine pr_item_list (j := vs.length - 1) (d := .int (vs.getD (vs.length - 1) 0 : Nat)) (by decide) (by rw [intsD_len]; exact seqIdx_last hpos) (intsD_get (by omega)) ?_
      refine ev_name (by (repeat' (first | with_reducible exact lk_here | refine lk_there (by decide +kernel) ?_ | refine lk_free (by decide +kernel) ?_ | with_reducible assumption))) ?_ (by decide +kernel) (by decide +kernel)
      with_reducible refine pr_ne_int ?_
      refine tr_bool ?_
      with_reducible refine br (fun _ => ?_) (fun _ => ?_)
      with_reducible refine br_t ?_
      refine ex_cons ?_
      refine ex_return ?_
      refine ev_tuple ?_
      refine evl_cons ?_
      refine ev_name (by (repeat' (first | with_reducible exact lk_here | refine lk_there (by decide +kernel) ?_ | refine lk_free (by decide +kernel) ?_ | with_reducible assumption))) ?_ (by decide +kernel) (by decide +kernel)
      refine evl_cons ?_
      refine ev_name (by (repeat' (first | with_reducible exact lk_here | refine lk_there (by decide +kernel) ?_ | refine lk_free (by decide +kernel) ?_ | with_reducible assumption))) ?_ (by decide +kernel) (by decide +kernel)
      refine evl_nil ?_
      rotate_left
      refine evb_or_nil ?_
      with_reducible refine br_f ?_
      refine ex_nil ?_
      with_reducible refine then_next ?_
      refine ex_cons ?_
      refine ex_return ?_
      refine ev_tuple ?_
      refine evl_cons ?_
      refine ev_name (by (repeat' (first | with_reducible exact lk_here | refine lk_there (by decide +kernel) ?_ | refine lk_free (by decide +kernel) ?_ | with_reducible assumption))) ?_ (by decide +kernel) (by decide +kernel)
      refine evl_cons ?_
      rotate_left
      · rename_i hq2
        refine ⟨show 2 ≤ sizeLine by decide, ?_⟩
        show _ = _
        have : quoted (125 - e) vs = false := Bool.eq_false_iff.mpr fun h => hq2 (by have := ((quoted_iff hpos).mp h).2; omega)
        unfold pairV; rw [hv, this]; rfl
      · rename_i hq2
        have hqt : quoted (125 - e) vs = true := (quoted_iff hpos).mpr (by omega)
        have hpv : pairV e fs = innerQ vs := by unfold pairV; rw [hv, hqt]; rfl
        rw [hpv]
        refine ev_comp hsc (evi_call ?_) (hnc := by decide +kernel) (hfree := by decide +kernel) (hnames := by decide +kernel)
        refine ev_typeK (by with_reducible assumption) (by with_reducible assumption) (by decide +kernel) (by intro _; kernel_rfl) (by with_reducible exact bb_range) ?_ (by decide +kernel) (by decide +kernel)
        refine ⟨_, rfl, by (first | exact keep_B | exact keep_T | exact keepK (by with_reducible assumption) (by intro _; kernel_rfl)), ?_⟩
        refine evl_cons ?_
        with_reducible refine ev_int ?_
        refine evl_cons ?_
        refine ev_binop ?_
        refine ev_call ?_
        refine ev_funK (by with_reducible assumption) (by with_reducible assumption) (by decide +kernel) (by intro _; kernel_rfl) (by with_reducible exact bb_len) ?_ (by decide +kernel) (by decide +kernel)
        refine call_pos0 (by (first | exact keep_B | exact keep_T | exact keepK (by with_reducible assumption) (by intro _; kernel_rfl))) ?_
        refine evl_cons ?_
        refine ev_name (by (repeat' (first | with_reducible exact lk_here | refine lk_there (by decide +kernel) ?_ | refine lk_free (by decide +kernel) ?_ | with_reducible assumption))) ?_ (by decide +kernel) (by decide +kernel)
        refine evl_nil ?_
        refine cl_len_list ?_ ?_
        rotate_left
        with_reducible refine ev_int ?_
        with_reducible refine pr_sub_int ?_
        refine evl_nil ?_
        rotate_left
        · exact h24 _ h24s
        rw [intsD_len]
        refine cli_range2 (vs.length - 2) (by omega) (by decide) (by omega) ?_
        refine comp_map (f := fun i => .int (vs.getD (1 + i) 0 : Nat)) (vs.length - 2) (by simp) (le_line 24 (by omega) (by decide)) (fun i d C' hS hi hlt => ?_) ?_
        · have hK' := sub_K hS hK
          have hsc' := hS.scope
          obtain rfl : d = .int (1 + (i : Int)) := by
            rw [List.getElem?_map, List.getElem?_range hlt] at hi
            exact (Option.some.inj hi).symm
          refine asg_name (by (first | exact st_loc (by with_reducible assumption) (by decide +kernel) | exact st_cell (by with_reducible assumption) (by first | with_reducible assumption | exact FnCx.comp (by assumption)) (by decide +kernel))) ?_
          refine ev_sub ?_
          refine ev_name (by (repeat' (first | with_reducible exact lk_here | refine lk_there (by decide +kernel) ?_ | refine lk_free (by decide +kernel) ?_ | with_reducible assumption))) ?_ (by decide +kernel) (by decide +kernel)
          refine ev_name (by (repeat' (first | with_reducible exact lk_here | refine lk_there (by decide +kernel) ?_ | refine lk_free (by decide +kernel) ?_ | with_reducible assumption))) ?_ (by decide +kernel) (by decide +kernel)
          refine pr_item_list (j := 1 + i) (d := .int (vs.getD (1 + i) 0 : Nat)) (by omega) (by rw [show (1 : Int) + (i : Int) = ((1 + i : Nat) : Int) by omega]; exact seqIdx_nat (by rw [intsD_len]; omega)) (intsD_get (by omega)) ?_
          exact rfl
        have e2 : (List.range (vs.length - 2)).map (fun i => D.int (vs.getD (1 + i) 0 : Nat)) = ((innerQ vs).map fun (x : Nat) => (x : Int)).map D.int := by rw [innerQ_eq, List.map_map, List.map_map]; rfl
        rw [e2]
        refine evl_nil ?_
        refine ⟨show 2 ≤ sizeLine by decide, ?_⟩
        exact rfl

/-! U13 -/
noncomputable abbrev PL := List Nat × List Nat
noncomputable def pairI (p : PL) : D := .tup [intsD p.1, intsD p.2]
noncomputable def keyIn (acc : List (List Nat)) (p : PL) : List (List Nat) := if p.1 ∈ acc then acc else acc ++ [p.1]
noncomputable def keysOf (ps : List PL) : List (List Nat) := ps.foldl keyIn []
noncomputable def lastV (k : List Nat) (ps : List PL) : List Nat := ((ps.filter fun p => decide (p.1 = k)).map (·.2)).getLastD []
noncomputable def mergedAt (ps : List PL) (i : Nat) : List PL := (keysOf (ps.take i)).map fun k => (k, lastV k ps)
noncomputable def merged (ps : List PL) : List PL := (keysOf ps).map fun k => (k, lastV k ps)
theorem cast_inj {a b : List Nat} (h : (a.map fun (x : Nat) => (x : Int)) = b.map fun (x : Nat) => (x : Int)) : a = b :=
  List.map_inj_right (fun x y q => by omega) |>.mp h
theorem mem_castL {k : List Nat} {l : List (List Nat)} : ((k.map fun (x : Nat) => (x : Int)) ∈ l.map fun k => k.map fun (x : Nat) => (x : Int)) ↔ k ∈ l := by
  constructor
  · intro h; obtain ⟨x, hx, q⟩ := List.mem_map.mp h
    exact cast_inj q ▸ hx
  · intro h; exact List.mem_map.mpr ⟨k, h, rfl⟩
theorem keysOf_snoc (l : List PL) (p : PL) : keysOf (l ++ [p]) = keyIn (keysOf l) p := by
  unfold keysOf; rw [List.foldl_append]; rfl
theorem keysOf_aux : ∀ (l : List PL) (acc : List (List Nat)), (l.foldl keyIn acc).length ≤ acc.length + l.length
  | [], acc => Nat.le_refl _
  | p :: l, acc => by
    refine Nat.le_trans (keysOf_aux l (keyIn acc p)) ?_
    have : (keyIn acc p).length ≤ acc.length + 1 := by
      unfold keyIn
      by_cases h : p.1 ∈ acc
      · rw [if_pos h]; omega
      · rw [if_neg h, List.length_append]; exact Nat.le_refl _
    rw [List.length_cons]; omega
theorem keysOf_le (l : List PL) : (keysOf l).length ≤ l.length := by have := keysOf_aux l []; rw [List.length_nil] at this; unfold keysOf; omega
theorem take_snoc {ps : List PL} {i : Nat} {p : PL} (hp : ps[i]? = some p) : ps.take (i + 1) = ps.take i ++ [p] := by rw [List.take_add_one, hp]; rfl
theorem mergedAt_in {ps : List PL} {i : Nat} {p : PL} (hp : ps[i]? = some p) (h : p.1 ∈ keysOf (ps.take i)) : mergedAt ps (i + 1) = mergedAt ps i := by
  unfold mergedAt; rw [take_snoc hp, keysOf_snoc]; unfold keyIn; rw [if_pos h]
theorem mergedAt_out {ps : List PL} {i : Nat} {p : PL} (hp : ps[i]? = some p) (h : p.1 ∉ keysOf (ps.take i)) : mergedAt ps (i + 1) = mergedAt ps i ++ [(p.1, lastV p.1 ps)] := by
  unfold mergedAt; rw [take_snoc hp, keysOf_snoc]; unfold keyIn; rw [if_neg h, List.map_append]; rfl
theorem last_get {l : List (List Nat)} {x : List Nat} (h : x ∈ l) : (l.map intsD)[(l.map intsD).length - 1]? = some (intsD (l.getLastD [])) := by
  rw [← List.getLast?_eq_getElem?, List.getLast?_map]
  cases l with
  | nil => nomatch h
  | cons a l => rw [List.getLast?_eq_some_getLast (by simp), List.getLastD_eq_getLast?, List.getLast?_eq_some_getLast (by simp)]; rfl
theorem filt_in {k : List Nat} {l : List PL} {q : PL} (h : q.1 = k) : (l ++ [q]).filter (fun q => decide (q.1 = k)) = l.filter (fun q => decide (q.1 = k)) ++ [q] := by
  rw [List.filter_append]; congr 1; simp [h]
theorem filt_out {k : List Nat} {l : List PL} {q : PL} (h : ¬ q.1 = k) : (l ++ [q]).filter (fun q => decide (q.1 = k)) = l.filter (fun q => decide (q.1 = k)) := by
  rw [List.filter_append, show [q].filter (fun q => decide (q.1 = k)) = [] by simp [h], List.append_nil]
theorem fn_law_merged (g : Gx) (hK : g.K = hd01.heap_39 g.w.params) (ps : List PL) (hz : ps.length ≤ 24) : FnOk g 1 (.ref 141) [.lst (ps.map pairI)] [] [] (fun d => d = .lst ((merged ps).map pairI)) NoX := by
  refine fn_def (r := 0) (bs := [("dues", .lst (ps.map pairI))]) (by rw [hK]; rfl) (by rw [hK]; rfl) (binds1 (by intro v; rfl)) ?_ ["dues"]
  intro C hC
  obtain rfl := hC.g
  have hsc := hC.scope
  have hcm := hC.comp
  clear hC
  dsimp only [List.map]
  refine ex_cons ?_
  refine ex_own_list (kind_loc (by with_reducible assumption) (by decide +kernel)) ?_
  with_reducible refine then_next ?_
  refine ex_cons ?_
  refine ex_for hcm (evi_of ?_)
  refine ev_name (by (repeat' (first | with_reducible exact lk_here | refine lk_there (by decide +kernel) ?_ | refine lk_free (by decide +kernel) ?_ | with_reducible assumption))) ?_ (by decide +kernel) (by decide +kernel)
  refine itr_list trivial ?_
  refine ⟨fun i σ => has σ "dues" (.dat (.lst (ps.map pairI))) ∧ has σ "merged" (.own (.lst ((mergedAt ps i).map pairI))), ⟨by (repeat' (first | with_reducible exact lk_here | refine lk_there (by decide +kernel) ?_ | refine lk_free (by decide +kernel) ?_ | with_reducible assumption)), (show has _ "merged" (.own (.lst [])) by (repeat' (first | with_reducible exact lk_here | refine lk_there (by decide +kernel) ?_ | refine lk_free (by decide +kernel) ?_ | with_reducible assumption)))⟩, ?_, ?_⟩
  · rintro i d σ₁ hd ⟨l1, l2⟩
    obtain ⟨p, hp, rfl⟩ : ∃ p, ps[i]? = some p ∧ d = pairI p := by
      rw [List.getElem?_map] at hd
      obtain ⟨p, q, r⟩ := Option.map_eq_some_iff.mp hd
      exact ⟨p, q, r.symm⟩
    have hkz : (keysOf (ps.take i)).length ≤ 24 := Nat.le_trans (keysOf_le _) (Nat.le_trans (List.length_take_le' i ps) hz)
    refine asg_tup2 (by (first | exact st_loc (by with_reducible assumption) (by decide +kernel) | exact st_cell (by with_reducible assumption) (by first | with_reducible assumption | exact FnCx.comp (by assumption)) (by decide +kernel))) (by (first | exact st_loc (by with_reducible assumption) (by decide +kernel) | exact st_cell (by with_reducible assumption) (by first | with_reducible assumption | exact FnCx.comp (by assumption)) (by decide +kernel))) ?_
    refine ex_cons (ex_if (evb_peek (x := "merged") (by (repeat' (first | with_reducible exact lk_here | refine lk_there (by decide +kernel) ?_ | refine lk_free (by decide +kernel) ?_ | with_reducible assumption))) ?_))
    refine evb_compare ?_
    refine ev_name (by (repeat' (first | with_reducible exact lk_here | refine lk_there (by decide +kernel) ?_ | refine lk_free (by decide +kernel) ?_ | with_reducible assumption))) ?_ (by decide +kernel) (by decide +kernel)
    refine ev_comp hsc (evi_of ?_) (hnc := by decide +kernel) (hfree := by decide +kernel) (hnames := by decide +kernel)
    refine ev_name (by (repeat' (first | with_reducible exact lk_here | refine lk_there (by decide +kernel) ?_ | refine lk_free (by decide +kernel) ?_ | with_reducible assumption))) ?_ (by decide +kernel) (by decide +kernel)
    refine itr_list trivial ?_
    refine comp_list (mergedAt ps i) pairI (fun q => intsD q.1) (by unfold mergedAt; rw [List.length_map]; exact le_line 24 hkz (by decide)) (fun q hq C' hS => ?_) ?_
    · have hK' := sub_K hS hK
      have hsc' := hS.scope
      refine asg_tup2 (by (first | exact st_loc (by with_reducible assumption) (by decide +kernel) | exact st_cell (by with_reducible assumption) (by first | with_reducible assumption | exact FnCx.comp (by assumption)) (by decide +kernel))) (by (first | exact st_loc (by with_reducible assumption) (by decide +kernel) | exact st_cell (by with_reducible assumption) (by first | with_reducible assumption | exact FnCx.comp (by assumption)) (by decide +kernel))) ?_
      refine ev_name (by (repeat' (first | with_reducible exact lk_here | refine lk_there (by decide +kernel) ?_ | refine lk_free (by decide +kernel) ?_ | with_reducible assumption))) ?_ (by decide +kernel) (by decide +kernel)
      exact rfl
    have e1 : (mergedAt ps i).map (fun q => intsD q.1) = ((keysOf (ps.take i)).map fun k => k.map fun (x : Nat) => (x : Int)).map fun l => .lst (l.map .int) := by
      unfold mergedAt; rw [List.map_map, List.map_map]; rfl
    rw [e1]
    refine pr_notIn_lists ?_
    rw [show decide ((p.1.map fun (x : Nat) => (x : Int)) ∉ (keysOf (ps.take i)).map fun k => k.map fun (x : Nat) => (x : Int)) = decide (p.1 ∉ keysOf (ps.take i)) from decide_eq_decide.mpr (not_congr mem_castL)]
    refine tr_bool ?_
    with_reducible refine br (fun _ => ?_) (fun _ => ?_)
    refine ex_cons ?_
    refine ex_append' (by (repeat' (first | with_reducible exact lk_here | refine lk_there (by decide +kernel) ?_ | refine lk_free (by decide +kernel) ?_ | with_reducible assumption))) ?_ ?_
    rotate_left
    refine ev_tuple ?_
    refine evl_cons ?_
    refine ev_name (by (repeat' (first | with_reducible exact lk_here | refine lk_there (by decide +kernel) ?_ | refine lk_free (by decide +kernel) ?_ | with_reducible assumption))) ?_ (by decide +kernel) (by decide +kernel)
    refine evl_cons ?_
    refine ev_sub ?_
    rotate_left
    refine ex_nil ?_
    with_reducible refine then_next ?_
    refine ex_nil ?_
    rotate_left
    · rw [List.length_map]; unfold mergedAt; rw [List.length_map]; exact le_line 24 hkz (by decide)
    · rename_i hb
      have hnk : p.1 ∉ keysOf (ps.take i) := by simpa using hb
      refine ev_comp hsc (evi_of ?_) (hnc := by decide +kernel) (hfree := by decide +kernel) (hnames := by decide +kernel)
      refine ev_name (by (repeat' (first | with_reducible exact lk_here | refine lk_there (by decide +kernel) ?_ | refine lk_free (by decide +kernel) ?_ | with_reducible assumption))) ?_ (by decide +kernel) (by decide +kernel)
      refine itr_list trivial ?_
      refine ⟨by rw [List.length_map]; exact le_line 24 hz (by decide), fun j ys => ys = (((ps.take j).filter fun q => decide (q.1 = p.1)).map (·.2)).map intsD, rfl, ?_, ?_⟩
      · rintro j d ys C' hS hi rfl
        have hK' := sub_K hS hK
        have hsc' := hS.scope
        obtain ⟨q, hq, rfl⟩ : ∃ q, ps[j]? = some q ∧ d = pairI q := by
          rw [List.getElem?_map] at hi
          obtain ⟨p, q, r⟩ := Option.map_eq_some_iff.mp hi
          exact ⟨p, q, r.symm⟩
        have hst : ps.take (j + 1) = ps.take j ++ [q] := by rw [List.take_add_one, hq]; rfl
        refine asg_tup2 (by (first | exact st_loc (by with_reducible assumption) (by decide +kernel) | exact st_cell (by with_reducible assumption) (by first | with_reducible assumption | exact FnCx.comp (by assumption)) (by decide +kernel))) (by (first | exact st_loc (by with_reducible assumption) (by decide +kernel) | exact st_cell (by with_reducible assumption) (by first | with_reducible assumption | exact FnCx.comp (by assumption)) (by decide +kernel))) ?_
        refine tests_one ?_
        refine evb_compare ?_
        refine ev_name (by (repeat' (first | with_reducible exact lk_here | refine lk_there (by decide +kernel) ?_ | refine lk_free (by decide +kernel) ?_ | with_reducible assumption))) ?_ (by decide +kernel) (by decide +kernel)
        refine ev_name (by (repeat' (first | with_reducible exact lk_here | refine lk_there (by decide +kernel) ?_ | refine lk_free (by decide +kernel) ?_ | with_reducible assumption))) ?_ (by decide +kernel) (by decide +kernel)
        refine pr_eq_ints ?_
        rw [show decide ((q.1.map fun (x : Nat) => (x : Int)) = p.1.map fun (x : Nat) => (x : Int)) = decide (q.1 = p.1) from decide_eq_decide.mpr ⟨cast_inj, fun h => by rw [h]⟩]
        refine tr_bool ?_
        with_reducible refine br (fun _ => ?_) (fun _ => ?_)
        refine ev_name (by (repeat' (first | with_reducible exact lk_here | refine lk_there (by decide +kernel) ?_ | refine lk_free (by decide +kernel) ?_ | with_reducible assumption))) ?_ (by decide +kernel) (by decide +kernel)
        rotate_left
        rotate_left
        · rename_i hb
          have hb' : q.1 = p.1 := by simpa using hb
          show _ = _
          rw [hst, filt_in hb', List.map_append, List.map_append]; rfl
        · rename_i hb
          have hb' : ¬ q.1 = p.1 := by simpa using hb
          show _ = _
          rw [hst, filt_out hb']
      · rintro ys rfl
        rw [List.length_map, List.take_length]
        have hpm : p.2 ∈ (ps.filter fun q => decide (q.1 = p.1)).map (·.2) := List.mem_map.mpr ⟨p, List.mem_filter.mpr ⟨List.mem_of_getElem? hp, by simp⟩, rfl⟩
        have hl := last_get hpm
        refine ev_unop ?_
        with_reducible refine ev_int ?_
        with_reducible refine pr_neg_int ?_
        refine pr_item_list (j := (((ps.filter fun q => decide (q.1 = p.1)).map (·.2)).map intsD).length - 1) (d := intsD (lastV p.1 ps)) (by decide) (seqIdx_last (by rw [List.length_map]; exact List.length_pos_of_mem hpm)) hl ?_
        refine evl_nil ?_
        refine ⟨show 2 ≤ sizeLine by decide, ?_⟩
        with_reducible refine then_next ?_
        refine ex_nil ?_
        with_reducible refine then_next ?_
        refine ex_nil ?_
        refine ⟨by (repeat' (first | with_reducible exact lk_here | refine lk_there (by decide +kernel) ?_ | refine lk_free (by decide +kernel) ?_ | with_reducible assumption)), ?_⟩
        show has _ "merged" (.own (.lst ((mergedAt ps (i + 1)).map pairI)))
        rw [mergedAt_out hp hnk, List.map_append]
        exact lk_here
    · rename_i hb
      have hnk : p.1 ∈ keysOf (ps.take i) := by simpa using hb
      have e2 := mergedAt_in hp hnk
      refine ⟨by (repeat' (first | with_reducible exact lk_here | refine lk_there (by decide +kernel) ?_ | refine lk_free (by decide +kernel) ?_ | with_reducible assumption)), ?_⟩
      show has _ "merged" (.own (.lst ((mergedAt ps (i + 1)).map pairI)))
      rw [e2]
      (repeat' (first | with_reducible exact lk_here | refine lk_there (by decide +kernel) ?_ | refine lk_free (by decide +kernel) ?_ | with_reducible assumption))
  · rintro σ₁ ⟨l1, l2⟩
    refine then_next ?_
    refine ex_freeze l2 ?_
    refine ex_cons ?_
    refine ex_return ?_
    refine ev_name (by (repeat' (first | with_reducible exact lk_here | refine lk_there (by decide +kernel) ?_ | refine lk_free (by decide +kernel) ?_ | with_reducible assumption))) ?_ (by decide +kernel) (by decide +kernel)
    show _ = _
    rw [List.length_map]; unfold mergedAt; rw [List.take_length]; rfl

/-! U14 -/
noncomputable def dueD : Str ⊕ PL → D
  | .inl s => .str s
  | .inr p => pairI p
noncomputable def firstS : List (Str ⊕ PL) → Option Str
  | [] => none
  | .inl s :: _ => some s
  | .inr _ :: l => firstS l
noncomputable def rights : List (Str ⊕ PL) → List PL
  | [] => []
  | .inl _ :: l => rights l
  | .inr p :: l => p :: rights l
noncomputable def textD (two : List Nat) (p : PL) : D := .tup [.str (S (textOf two p.1)), .str (S (textOf two p.2))]
noncomputable def dueRes (two : List Nat) (ds : List (Str ⊕ PL)) : D := ((firstS ds).map D.str).getD (.lst ((merged (rights ds)).map (textD two)))
theorem firstS_skip : ∀ {l m : List (Str ⊕ PL)}, firstS l = none → firstS (l ++ m) = firstS m
  | [], _, _ => rfl
  | .inl _ :: _, _, h => nomatch h
  | .inr _ :: l, m, h => firstS_skip (l := l) (m := m) h
theorem rights_all : ∀ {l : List (Str ⊕ PL)}, firstS l = none → l.map dueD = (rights l).map pairI
  | [], _ => rfl
  | .inl _ :: _, h => nomatch h
  | .inr p :: l, h => congrArg (pairI p :: ·) (rights_all (l := l) h)
theorem rights_le : ∀ l : List (Str ⊕ PL), (rights l).length ≤ l.length
  | [] => Nat.le_refl _
  | .inl _ :: l => Nat.le_succ_of_le (rights_le l)
  | .inr _ :: l => Nat.succ_le_succ (rights_le l)
noncomputable def small (p : PL) : Prop := (p.1.length ≤ 24 ∧ ∀ f ∈ p.1, f < 64) ∧ p.2.length ≤ 24 ∧ ∀ f ∈ p.2, f < 64
theorem keysOf_mem_aux : ∀ (l : List PL) (acc : List (List Nat)) {k : List Nat}, k ∈ l.foldl keyIn acc → k ∈ acc ∨ ∃ p ∈ l, p.1 = k
  | [], acc, k, h => .inl h
  | p :: l, acc, k, h => by
    rcases keysOf_mem_aux l (keyIn acc p) h with q | ⟨x, hx, e⟩
    · unfold keyIn at q
      by_cases hp : p.1 ∈ acc
      · rw [if_pos hp] at q; exact .inl q
      · rw [if_neg hp] at q
        rcases List.mem_append.mp q with q | q
        · exact .inl q
        · exact .inr ⟨p, List.mem_cons_self, (List.mem_singleton.mp q).symm⟩
    · exact .inr ⟨x, List.mem_cons_of_mem _ hx, e⟩
theorem lastV_mem {ps : List PL} {p : PL} (hp : p ∈ ps) : ∃ q ∈ ps, q.2 = lastV p.1 ps := by
  have hm : p.2 ∈ (ps.filter fun q => decide (q.1 = p.1)).map (·.2) := List.mem_map.mpr ⟨p, List.mem_filter.mpr ⟨hp, by simp⟩, rfl⟩
  have : lastV p.1 ps ∈ (ps.filter fun q => decide (q.1 = p.1)).map (·.2) := by
    unfold lastV
    generalize (ps.filter fun q => decide (q.1 = p.1)).map (·.2) = l at hm
    cases l with
    | nil => nomatch hm
    | cons a l => rw [List.getLastD_eq_getLast?, List.getLast?_eq_some_getLast (by simp)]; exact List.getLast_mem _
  obtain ⟨q, hq, e⟩ := List.mem_map.mp this
  exact ⟨q, (List.mem_filter.mp hq).1, e⟩
theorem merged_small {ps : List PL} (h : ∀ p ∈ ps, small p) : ∀ p ∈ merged ps, small p := fun p hp => by
  obtain ⟨k, hk, rfl⟩ := List.mem_map.mp hp
  rcases keysOf_mem_aux ps [] hk with q | ⟨x, hx, rfl⟩
  · nomatch q
  · obtain ⟨y, hy, e⟩ := lastV_mem hx
    exact ⟨(h x hx).1, e ▸ (h y hy).2⟩
theorem fn_law_due (g : Gx) (hK : g.K = hd01.heap_39 g.w.params) (ds : List (Str ⊕ PL)) (two : List Nat) (h2 : two.length = 2) (hz : ds.length ≤ 24) (hs : ∀ p ∈ rights ds, small p) :
    FnOk g 2 (.ref 146) [.lst (ds.map dueD), .str (S two)] [] [] (fun d => d = dueRes two ds) NoX := by
  refine fn_def (r := 1) (bs := [("dues", .lst (ds.map dueD)), ("two", .str (S two))]) (by rw [hK]; rfl) (by rw [hK]; rfl) (binds2 (by intro v w; rfl)) ?_ ["dues", "two"]
  intro C hC
  obtain rfl := hC.g
  have hsc := hC.scope
  have hrk := hC.rk
  have hcm := hC.comp
  clear hC
  dsimp only [List.map]
  refine ex_cons ?_
  refine ex_for hcm (evi_of ?_)
  refine ev_name (by (repeat' (first | with_reducible exact lk_here | refine lk_there (by decide +kernel) ?_ | refine lk_free (by decide +kernel) ?_ | with_reducible assumption))) ?_ (by decide +kernel) (by decide +kernel)
  refine itr_list trivial ?_
  refine ⟨fun i σ => (has σ "dues" (.dat (.lst (ds.map dueD))) ∧ has σ "two" (.dat (.str (S two)))) ∧ firstS (ds.take i) = none, ⟨⟨by (repeat' (first | with_reducible exact lk_here | refine lk_there (by decide +kernel) ?_ | refine lk_free (by decide +kernel) ?_ | with_reducible assumption)), by (repeat' (first | with_reducible exact lk_here | refine lk_there (by decide +kernel) ?_ | refine lk_free (by decide +kernel) ?_ | with_reducible assumption))⟩, rfl⟩, ?_, ?_⟩
  · rintro i d σ₁ hd ⟨⟨l1, l2⟩, hn⟩
    obtain ⟨p, hp, rfl⟩ : ∃ p, ds[i]? = some p ∧ d = dueD p := by
      rw [List.getElem?_map] at hd
      obtain ⟨p, q, r⟩ := Option.map_eq_some_iff.mp hd
      exact ⟨p, q, r.symm⟩
    have hst : ds.take (i + 1) = ds.take i ++ [p] := by rw [List.take_add_one, hp]; rfl
    have hall : ds = ds.take i ++ p :: ds.drop (i + 1) := by
      have hl := (List.getElem?_eq_some_iff.mp hp)
      obtain ⟨hl, e⟩ := hl
      rw [← e, List.getElem_cons_drop, List.take_append_drop]
    refine asg_name (by (first | exact st_loc (by with_reducible assumption) (by decide +kernel) | exact st_cell (by with_reducible assumption) (by first | with_reducible assumption | exact FnCx.comp (by assumption)) (by decide +kernel))) ?_
    rcases p with s | p
    · change EX C (("due", .dat (.str s)) :: σ₁) _ _ _
      refine ex_cons ?_
      refine ex_if ?_
      refine evb_compare ?_
      refine ev_call ?_
      refine ev_typeK (by with_reducible assumption) (by with_reducible assumption) (by decide +kernel) (by intro _; kernel_rfl) (by with_reducible exact bb_type) ?_ (by decide +kernel) (by decide +kernel)
      refine call_pos0 (by (first | exact keep_B | exact keep_T | exact keepK (by with_reducible assumption) (by intro _; kernel_rfl))) ?_
      refine evl_cons ?_
      refine ev_name (by (repeat' (first | with_reducible exact lk_here | refine lk_there (by decide +kernel) ?_ | refine lk_free (by decide +kernel) ?_ | with_reducible assumption))) ?_ (by decide +kernel) (by decide +kernel)
      refine evl_nil ?_
      refine cl_type (fun _ e => nomatch e) ?_
      refine ev_typeK (by with_reducible assumption) (by with_reducible assumption) (by decide +kernel) (by intro _; kernel_rfl) (by with_reducible exact bb_str) ?_ (by decide +kernel) (by decide +kernel)
      refine pr_is (t := true) (by rfl) (by rfl) ?_
      refine tr_bool ?_
      with_reducible refine br_t ?_
      refine ex_cons ?_
      refine ex_return ?_
      refine ev_name (by (repeat' (first | with_reducible exact lk_here | refine lk_there (by decide +kernel) ?_ | refine lk_free (by decide +kernel) ?_ | with_reducible assumption))) ?_ (by decide +kernel) (by decide +kernel)
      show _ = _
      unfold dueRes
      rw [hall, firstS_skip hn]; rfl
    · change EX C (("due", .dat (.tup [intsD p.1, intsD p.2])) :: σ₁) _ _ _
      refine ex_cons ?_
      refine ex_if ?_
      refine evb_compare ?_
      refine ev_call ?_
      refine ev_typeK (by with_reducible assumption) (by with_reducible assumption) (by decide +kernel) (by intro _; kernel_rfl) (by with_reducible exact bb_type) ?_ (by decide +kernel) (by decide +kernel)
      refine call_pos0 (by (first | exact keep_B | exact keep_T | exact keepK (by with_reducible assumption) (by intro _; kernel_rfl))) ?_
      refine evl_cons ?_
      refine ev_name (by (repeat' (first | with_reducible exact lk_here | refine lk_there (by decide +kernel) ?_ | refine lk_free (by decide +kernel) ?_ | with_reducible assumption))) ?_ (by decide +kernel) (by decide +kernel)
      refine evl_nil ?_
      refine cl_type (fun _ e => nomatch e) ?_
      refine ev_typeK (by with_reducible assumption) (by with_reducible assumption) (by decide +kernel) (by intro _; kernel_rfl) (by with_reducible exact bb_str) ?_ (by decide +kernel) (by decide +kernel)
      refine pr_is (t := false) (by rfl) (by rfl) ?_
      refine tr_bool ?_
      with_reducible refine br_f ?_
      refine ex_nil ?_
      with_reducible refine then_next ?_
      refine ex_nil ?_
      refine ⟨⟨by (repeat' (first | with_reducible exact lk_here | refine lk_there (by decide +kernel) ?_ | refine lk_free (by decide +kernel) ?_ | with_reducible assumption)), by (repeat' (first | with_reducible exact lk_here | refine lk_there (by decide +kernel) ?_ | refine lk_free (by decide +kernel) ?_ | with_reducible assumption))⟩, ?_⟩
      rw [hst, firstS_skip hn]; rfl
  · rintro σ₁ ⟨⟨l1, l2⟩, hn⟩
    rw [List.length_map, List.take_length] at hn
    have hr : dueRes two ds = .lst ((merged (rights ds)).map (textD two)) := by unfold dueRes; rw [hn]; rfl
    rw [hr]
    rw [rights_all hn] at l1
    have hmz : (merged (rights ds)).length ≤ 24 := by unfold merged; rw [List.length_map]; exact Nat.le_trans (keysOf_le _) (Nat.le_trans (rights_le ds) hz)
    have hms := merged_small hs
    refine then_next ?_
    refine ex_cons (ex_return ?_)
    refine ev_comp hsc (evi_of ?_) (hnc := by decide +kernel) (hfree := by decide +kernel) (hnames := by decide +kernel)
    refine ev_call ?_
    refine ev_globalK (by with_reducible assumption) (by with_reducible assumption) (by decide +kernel) (by intro _; rfl) ?_ (by decide +kernel)
    refine call_pos0 (by (first | exact keep_B | exact keep_T | exact keepK (by with_reducible assumption) (by intro _; kernel_rfl))) ?_
    refine evl_cons ?_
    refine ev_name (by (repeat' (first | with_reducible exact lk_here | refine lk_there (by decide +kernel) ?_ | refine lk_free (by decide +kernel) ?_ | with_reducible assumption))) ?_ (by decide +kernel) (by decide +kernel)
    refine evl_nil ?_
    refine cl_eq (fn_law_merged _ hK _ (Nat.le_trans (rights_le ds) hz)) (by omega) ?_
    refine itr_list trivial ?_
    refine comp_list (merged (rights ds)) pairI (textD two) (le_line 24 hmz (by decide)) (fun q hq C' hS => ?_) ?_
    · have hK' := sub_K hS hK
      have hsc' := hS.scope
      obtain ⟨⟨a1, a2⟩, a3, a4⟩ := hms q hq
      refine asg_tup2 (by (first | exact st_loc (by with_reducible assumption) (by decide +kernel) | exact st_cell (by with_reducible assumption) (by first | with_reducible assumption | exact FnCx.comp (by assumption)) (by decide +kernel))) (by (first | exact st_loc (by with_reducible assumption) (by decide +kernel) | exact st_cell (by with_reducible assumption) (by first | with_reducible assumption | exact FnCx.comp (by assumption)) (by decide +kernel))) ?_
      refine ev_tuple ?_
      refine evl_cons ?_
      refine ev_call ?_
      refine ev_globalK (by with_reducible assumption) (by with_reducible assumption) (by decide +kernel) (by intro _; rfl) ?_ (by decide +kernel)
      refine call_pos0 (by (first | exact keep_B | exact keep_T | exact keepK (by with_reducible assumption) (by intro _; kernel_rfl))) ?_
      refine evl_cons ?_
      refine ev_name (by (repeat' (first | with_reducible exact lk_here | refine lk_there (by decide +kernel) ?_ | refine lk_free (by decide +kernel) ?_ | with_reducible assumption))) ?_ (by decide +kernel) (by decide +kernel)
      refine evl_cons ?_
      refine ev_name (by (repeat' (first | with_reducible exact lk_here | refine lk_there (by decide +kernel) ?_ | refine lk_free (by decide +kernel) ?_ | with_reducible assumption))) ?_ (by decide +kernel) (by decide +kernel)
      refine evl_nil ?_
      refine cl_eq (fn_law_text _ hK' _ two h2 a2 (Nat.le_trans a1 (by decide))) (by rw [hS.rk]; omega) ?_
      refine evl_cons ?_
      refine ev_call ?_
      refine ev_globalK (by with_reducible assumption) (by with_reducible assumption) (by decide +kernel) (by intro _; rfl) ?_ (by decide +kernel)
      refine call_pos0 (by (first | exact keep_B | exact keep_T | exact keepK (by with_reducible assumption) (by intro _; kernel_rfl))) ?_
      refine evl_cons ?_
      refine ev_name (by (repeat' (first | with_reducible exact lk_here | refine lk_there (by decide +kernel) ?_ | refine lk_free (by decide +kernel) ?_ | with_reducible assumption))) ?_ (by decide +kernel) (by decide +kernel)
      refine evl_cons ?_
      refine ev_name (by (repeat' (first | with_reducible exact lk_here | refine lk_there (by decide +kernel) ?_ | refine lk_free (by decide +kernel) ?_ | with_reducible assumption))) ?_ (by decide +kernel) (by decide +kernel)
      refine evl_nil ?_
      refine cl_eq (fn_law_text _ hK' _ two h2 a4 (Nat.le_trans a3 (by decide))) (by rw [hS.rk]; omega) ?_
      refine evl_nil ?_
      refine ⟨show 2 ≤ sizeLine by decide, ?_⟩
      exact rfl
    show _ = _
    rfl

/-! U15 -/
noncomputable def twoOf (e : Nat) : List Nat := if e = 62 then [61, 34] else [34, 61]
theorem sgn_eq {e f : Nat} (he : e = 62 ∨ e = 63) (hf : f < 64) : sgn (twoOf e) f = 61 ↔ f = e := by
  have h1 : ∀ f, f < 64 → (sgn (twoOf 62) f = 61 ↔ f = 62) := by decide +kernel
  have h2 : ∀ f, f < 64 → (sgn (twoOf 63) f = 61 ↔ f = 63) := by decide +kernel
  rcases he with rfl | rfl
  · exact h1 f hf
  · exact h2 f hf
theorem sgn_quote {e f : Nat} (he : e = 62 ∨ e = 63) (hf : f < 64) : sgn (twoOf e) f = 34 ↔ f = 125 - e := by
  have h1 : ∀ f, f < 64 → (sgn (twoOf 62) f = 34 ↔ f = 63) := by decide +kernel
  have h2 : ∀ f, f < 64 → (sgn (twoOf 63) f = 34 ↔ f = 62) := by decide +kernel
  rcases he with rfl | rfl
  · exact h1 f hf
  · exact h2 f hf
noncomputable def unsgn (e c : Nat) : Nat := (abc (twoOf e)).idxOf c
theorem unsgn_sgn {e f : Nat} (he : e = 62 ∨ e = 63) (hf : f < 64) : unsgn e (sgn (twoOf e) f) = f := by
  have h1 : ∀ f, f < 64 → unsgn 62 (sgn (twoOf 62) f) = f := by decide +kernel
  have h2 : ∀ f, f < 64 → unsgn 63 (sgn (twoOf 63) f) = f := by decide +kernel
  rcases he with rfl | rfl
  · exact h1 f hf
  · exact h2 f hf
theorem text_inj {e : Nat} (he : e = 62 ∨ e = 63) {a b : List Nat} (ha : ∀ f ∈ a, f < 64) (hb : ∀ f ∈ b, f < 64) (h : textOf (twoOf e) a = textOf (twoOf e) b) : a = b := by
  have k : ∀ l : List Nat, (∀ f ∈ l, f < 64) → (textOf (twoOf e) l).map (unsgn e) = l := fun l hl => by
    unfold textOf
    rw [List.map_map]
    conv => rhs; rw [← List.map_id l]
    exact List.map_congr_left fun f hf => unsgn_sgn he (hl f hf)
  rw [← k a ha, ← k b hb, h]
theorem sgn_lt {e f : Nat} (he : e = 62 ∨ e = 63) (hf : f < 64) : sgn (twoOf e) f < 128 := by
  have h1 : ∀ f, f < 64 → sgn (twoOf 62) f < 128 := by decide +kernel
  have h2 : ∀ f, f < 64 → sgn (twoOf 63) f < 128 := by decide +kernel
  rcases he with rfl | rfl
  · exact h1 f hf
  · exact h2 f hf
theorem trans_back {e : Nat} (he : e = 62 ∨ e = 63) {fs : List Nat} (hf : ∀ f ∈ fs, f < 64) : trans (mtab ((twoOf e).map (·.toUInt8)) [43, 47]) ((textOf (twoOf e) fs).map (·.toUInt8)) = encB fs := by
  have h1 : ∀ f, f < 64 → (mtab ((twoOf 62).map (·.toUInt8)) [43, 47]).getD (sgn (twoOf 62) f).toUInt8.toNat (sgn (twoOf 62) f).toUInt8 = (encN f).toUInt8 := by decide +kernel
  have h2 : ∀ f, f < 64 → (mtab ((twoOf 63).map (·.toUInt8)) [43, 47]).getD (sgn (twoOf 63) f).toUInt8.toNat (sgn (twoOf 63) f).toUInt8 = (encN f).toUInt8 := by decide +kernel
  unfold trans textOf encB
  rw [List.map_map, List.map_map]
  refine List.map_congr_left fun f hm => ?_
  rcases he with rfl | rfl
  · exact h1 f (hf f hm)
  · exact h2 f (hf f hm)
theorem trans_out {e : Nat} (he : e = 62 ∨ e = 63) {fs : List Nat} (k : Nat) (hf : ∀ f ∈ fs, f < 64) : trans (mtab [43, 47] ((twoOf e).map (·.toUInt8))) (encB fs ++ List.replicate k 61) = (textOf (twoOf e) (fs ++ List.replicate k e)).map (·.toUInt8) := by
  have h1 : ∀ f, f < 64 → (mtab [43, 47] ((twoOf 62).map (·.toUInt8))).getD (encN f).toUInt8.toNat (encN f).toUInt8 = (sgn (twoOf 62) f).toUInt8 := by decide +kernel
  have h2 : ∀ f, f < 64 → (mtab [43, 47] ((twoOf 63).map (·.toUInt8))).getD (encN f).toUInt8.toNat (encN f).toUInt8 = (sgn (twoOf 63) f).toUInt8 := by decide +kernel
  have p1 : (mtab [43, 47] ((twoOf 62).map (·.toUInt8))).getD (61 : UInt8).toNat 61 = (sgn (twoOf 62) 62).toUInt8 := by decide +kernel
  have p2 : (mtab [43, 47] ((twoOf 63).map (·.toUInt8))).getD (61 : UInt8).toNat 61 = (sgn (twoOf 63) 63).toUInt8 := by decide +kernel
  unfold trans textOf encB
  rw [List.map_append, List.map_append, List.map_append, List.map_map, List.map_map, List.map_replicate, List.map_replicate, List.map_replicate]
  rcases he with rfl | rfl
  · rw [p1]; exact congrArg (· ++ _) (List.map_congr_left fun f hm => h1 f (hf f hm))
  · rw [p2]; exact congrArg (· ++ _) (List.map_congr_left fun f hm => h2 f (hf f hm))
theorem pre_text {e : Nat} (he : e = 62 ∨ e = 63) : ∀ {fs : List Nat}, (∀ f ∈ fs, f < 64) → pre61 (textOf (twoOf e) fs) = textOf (twoOf e) (preE e fs) ∧ suf61 (textOf (twoOf e) fs) = textOf (twoOf e) (sufE e fs)
  | [], _ => ⟨rfl, rfl⟩
  | f :: fs, h => by
    have ih := pre_text he (fs := fs) fun x hx => h x (List.mem_cons_of_mem _ hx)
    have k := sgn_eq he (h f List.mem_cons_self)
    unfold pre61 suf61 preE sufE textOf at *
    rw [List.map_cons]
    by_cases q : f = e
    · have q1 := k.mpr q
      rw [List.takeWhile_cons_of_neg (by simp [q1]), List.takeWhile_cons_of_neg (by simp [q]), List.dropWhile_cons_of_neg (by simp [q1]), List.dropWhile_cons_of_neg (by simp [q])]
      exact ⟨rfl, rfl⟩
    · have q1 : ¬ sgn (twoOf e) f = 61 := fun x => q (k.mp x)
      rw [List.takeWhile_cons_of_pos (by simp [q1]), List.takeWhile_cons_of_pos (by simp [q]), List.dropWhile_cons_of_pos (by simp [q1]), List.dropWhile_cons_of_pos (by simp [q]), List.map_cons]
      exact ⟨congrArg _ ih.1, ih.2⟩
theorem mem_text {e : Nat} (he : e = 62 ∨ e = 63) {fs : List Nat} (h : ∀ f ∈ fs, f < 64) : 61 ∈ textOf (twoOf e) fs ↔ e ∈ fs := by
  constructor
  · intro q; obtain ⟨f, hf, x⟩ := List.mem_map.mp q
    exact (sgn_eq he (h f hf)).mp x ▸ hf
  · intro q; exact List.mem_map.mpr ⟨e, q, (sgn_eq he (h e q)).mpr rfl⟩
theorem quoted_text {e : Nat} (he : e = 62 ∨ e = 63) {v : List Nat} (h : ∀ f ∈ v, f < 64) : isQ (textOf (twoOf e) v) = quoted (125 - e) v := by
  unfold isQ quoted textOf
  rw [List.head?_map, List.getLast?_map]
  have k : ∀ o : Option Nat, (∀ f, o = some f → f < 64) → ((o.map (sgn (twoOf e))) == some 34) = (o == some (125 - e)) := fun o ho => by
    cases o with
    | none => rfl
    | some f =>
      have := sgn_quote he (ho f rfl)
      rw [Option.map_some, Bool.eq_iff_iff]
      simpa using this
  rw [k _ fun f q => h f (List.mem_of_head? q), k _ fun f q => h f (List.mem_of_getLast? q)]
theorem unq_text {e : Nat} (he : e = 62 ∨ e = 63) {fs : List Nat} (h : ∀ f ∈ sufE e fs, f < 64) : unq (textOf (twoOf e) (sufE e fs)) = textOf (twoOf e) (pairV e fs) := by
  unfold unq pairV
  rw [quoted_text he h]
  cases quoted (125 - e) (sufE e fs) with
  | false => rfl
  | true => unfold innerQ textOf; rw [if_pos rfl, if_pos rfl, List.map_take, List.map_drop, List.length_map]
noncomputable def pairSum (e : Nat) (fs : List Nat) : Str ⊕ PL := if e ∉ fs then .inl (S (codes "ValueError")) else if sufE e fs = [] then .inl (S (codes "IndexError")) else .inr (preE e fs, pairV e fs)
theorem pairRes_sum (e : Nat) (fs : List Nat) : pairRes fs e = dueD (pairSum e fs) := by
  unfold pairRes pairSum
  split
  · rfl
  · split <;> rfl
noncomputable def txt2 (e : Nat) (p : PL) : Str × Str := (S (textOf (twoOf e) p.1), S (textOf (twoOf e) p.2))
theorem pstep_text {e : Nat} (he : e = 62 ∨ e = 63) {fs : List Nat} (h : ∀ f ∈ fs, f < 64) (es : List (Str × Str)) :
    (e ∉ fs ∧ pstep es (textOf (twoOf e) fs) = .val) ∨ (e ∈ fs ∧ sufE e fs = [] ∧ pstep es (textOf (twoOf e) fs) = .idx) ∨
    (e ∈ fs ∧ sufE e fs ≠ [] ∧ pstep es (textOf (twoOf e) fs) = .ok (put es (txt2 e (preE e fs, pairV e fs)).1 (txt2 e (preE e fs, pairV e fs)).2)) := by
  obtain ⟨k1, k2⟩ := pre_text he h
  have hs : ∀ f ∈ sufE e fs, f < 64 := fun f hf => h f ((List.dropWhile_suffix _).subset (List.mem_of_mem_drop hf))
  unfold pstep txt2
  by_cases q : e ∈ fs
  · rw [if_pos ((mem_text he h).mpr q), k1, k2]
    by_cases r : sufE e fs = []
    · refine .inr (.inl ⟨q, r, ?_⟩)
      rw [if_pos (by rw [r]; rfl)]
    · refine .inr (.inr ⟨q, r, ?_⟩)
      rw [if_neg (fun x : textOf (twoOf e) (sufE e fs) = [] => r (List.map_eq_nil_iff.mp x)), unq_text he hs]
  · exact .inl ⟨q, if_neg fun x => q ((mem_text he h).mp x)⟩

/-! U16 -/
/-! plain law, second part: the encoder's figures, the dict -/
noncomputable def padOf (size : Nat) : Nat := (3 - size % 3) % 3
theorem kcount_facts : ∀ size, size < 7 → kcount size ≤ 8 ∧ kspare size = 4 ^ padOf size ∧ (kcount size) = (8 * size + 5) / 6 ∧ padOf size ≤ 2 := by decide +kernel
theorem kept_len (fs : List Nat) (size : Nat) : (kept fs size).length = kcount size := by unfold kept; rw [List.length_map, List.length_range]
theorem kept_lt {fs : List Nat} (h64 : ∀ f ∈ fs, f < 64) (size : Nat) : ∀ f ∈ kept fs size, f < 64 := fun f hf => by
  obtain ⟨p, _, rfl⟩ := List.mem_map.mp hf
  have hg : fs.getD p 0 < 64 := by
    rw [List.getD_eq_getElem?_getD]
    by_cases q : p < fs.length
    · rw [List.getElem?_eq_getElem q]; exact h64 _ (List.getElem_mem q)
    · rw [List.getElem?_eq_none (by omega)]; decide
  unfold keptAt
  split
  · exact hg
  · exact Nat.lt_of_le_of_lt (Nat.div_mul_le_self _ _) hg
theorem eight {α : Type} {l : List α} (h : l.length = 8) : ∃ a b c d e f g k, l = [a, b, c, d, e, f, g, k] := by
  match l, h with
  | [a, b, c, d, e, f, g, k], _ => exact ⟨a, b, c, d, e, f, g, k, rfl⟩
theorem kept_val {fs : List Nat} {size : Nat} (h8 : fs.length = 8) (h64 : ∀ f ∈ fs, f < 64) (hs : size ≤ 6) : val 64 (kept fs size) = val 64 fs / 256 ^ (6 - size) * 4 ^ padOf size := by
  obtain ⟨a, b, c, d, e, f, g, k, rfl⟩ := eight h8
  have q : ∀ x ∈ [a, b, c, d, e, f, g, k], x < 64 := h64
  simp only [List.mem_cons, List.not_mem_nil, or_false, forall_eq_or_imp, forall_eq] at q
  obtain ⟨q1, q2, q3, q4, q5, q6, q7, q8⟩ := q
  have hv : val 64 [a, b, c, d, e, f, g, k] = ((((((((0 * 64 + a) * 64 + b) * 64 + c) * 64 + d) * 64 + e) * 64 + f) * 64 + g) * 64 + k) := rfl
  rw [hv]
  rcases (show size = 0 ∨ size = 1 ∨ size = 2 ∨ size = 3 ∨ size = 4 ∨ size = 5 ∨ size = 6 by omega) with rfl | rfl | rfl | rfl | rfl | rfl | rfl
  · show 0 = _ / 281474976710656 * 1; omega
  · show (0 * 64 + a) * 64 + b / 16 * 16 = _ / 1099511627776 * 16; omega
  · show ((0 * 64 + a) * 64 + b) * 64 + c / 4 * 4 = _ / 4294967296 * 4; omega
  · show (((0 * 64 + a) * 64 + b) * 64 + c) * 64 + d / 1 * 1 = _ / 16777216 * 1; omega
  · show (((((0 * 64 + a) * 64 + b) * 64 + c) * 64 + d) * 64 + e) * 64 + f / 16 * 16 = _ / 65536 * 16; omega
  · show ((((((0 * 64 + a) * 64 + b) * 64 + c) * 64 + d) * 64 + e) * 64 + f) * 64 + g / 4 * 4 = _ / 256 * 4; omega
  · show (((((((0 * 64 + a) * 64 + b) * 64 + c) * 64 + d) * 64 + e) * 64 + f) * 64 + g) * 64 + k / 1 * 1 = _ / 1 * 1; omega
theorem enc_kept {fs : List Nat} {size : Nat} (h8 : fs.length = 8) (h64 : ∀ f ∈ fs, f < 64) (hs : size ≤ 6) : figsOf ((digs 256 6 (val 64 fs)).take size) = kept fs size := by
  obtain ⟨f1, f2, f3, f4⟩ := kcount_facts size (by omega)
  have hV : val 64 fs < 256 ^ 6 := by
    have := val_lt (by decide : 0 < 64) fs h64
    rw [h8] at this; exact Nat.lt_of_lt_of_le this (by decide)
  have hm : val 64 fs / 256 ^ (6 - size) % 256 ^ size = val 64 fs / 256 ^ (6 - size) := by
    refine Nat.mod_eq_of_lt ?_
    rw [Nat.div_lt_iff_lt_mul (Nat.pow_pos (by decide)), ← Nat.pow_add, show size + (6 - size) = 6 by omega]
    exact hV
  unfold figsOf
  rw [digs_take (by decide) _ _ _ hs, digs_len, val_digs (by decide), hm, ← f3]
  have e := kept_val h8 h64 hs
  unfold padOf at e
  rw [← e, ← kept_len fs size]
  exact digs_val _ (kept_lt h64 size)
theorem fig_lt64 (n p : Nat) : fig n p < 64 := by
  unfold fig
  split
  · decide
  · split
    · decide
    · have := Nat.mod_lt n (show 62 > 0 by decide); omega
theorem figs8_lt (n : Nat) : ∀ f ∈ figs8 n, f < 64 := fun f hf => by obtain ⟨p, _, rfl⟩ := List.mem_map.mp hf; exact fig_lt64 n p
theorem figs8_len (n : Nat) : (figs8 n).length = 8 := by unfold figs8; rw [List.length_map, List.length_range]
noncomputable def sgs (e n : Nat) : List Nat := kept (figs8 n) (n % 7) ++ List.replicate (padOf (n % 7)) e
noncomputable def leadN (e n : Nat) : List Nat := if n / 7 % 2 = 1 then [36, e] else []
noncomputable def sqN (e n : Nat) : List Nat := leadN e n ++ sgs e n
theorem sgs_lt {e n : Nat} (he : e = 62 ∨ e = 63) : ∀ f ∈ sgs e n, f < 64 := fun f hf => by
  rcases List.mem_append.mp hf with q | q
  · exact kept_lt (figs8_lt n) _ f q
  · obtain rfl := List.eq_of_mem_replicate q; omega
theorem leadN_lt {e n : Nat} (he : e = 62 ∨ e = 63) : ∀ f ∈ leadN e n, f < 64 := fun f hf => by
  unfold leadN at hf
  split at hf
  · simp only [List.mem_cons, List.not_mem_nil, or_false] at hf; omega
  · cases hf
theorem sqN_lt {e n : Nat} (he : e = 62 ∨ e = 63) : ∀ f ∈ sqN e n, f < 64 := fun f hf => (List.mem_append.mp hf).elim (leadN_lt he f) (sgs_lt he f)
theorem sgs_len (e n : Nat) : (sgs e n).length ≤ 10 := by
  obtain ⟨f1, _, _, f4⟩ := kcount_facts (n % 7) (Nat.mod_lt _ (by decide))
  unfold sgs; rw [List.length_append, kept_len, List.length_replicate]; omega
theorem leadN_len (e n : Nat) : (leadN e n).length ≤ 2 := by unfold leadN; split <;> simp
theorem sqN_len (e n : Nat) : (sqN e n).length ≤ 12 := by unfold sqN; rw [List.length_append]; have := leadN_len e n; have := sgs_len e n; omega
noncomputable def altOf (e : Nat) : List UInt8 := (twoOf e).map (·.toUInt8)
/-- what is written of the row's first octets -/
noncomputable def rowOf (n : Nat) : List UInt8 := ((digs 256 6 (val 64 (figs8 n))).map Nat.toUInt8).take (n % 7)
theorem rowOf_len (n : Nat) : (rowOf n).length = n % 7 := by
  unfold rowOf; rw [List.length_take, List.length_map, digs_len]
  have := Nat.mod_lt n (show 7 > 0 by decide); omega
theorem written_eq {e : Nat} (he : e = 62 ∨ e = 63) (n : Nat) :
    trans (mtab [43, 47] (altOf e)) (encB (figsOf ((rowOf n).map UInt8.toNat)) ++ List.replicate ((3 - (rowOf n).length % 3) % 3) 61) = (textOf (twoOf e) (sgs e n)).map (·.toUInt8) := by
  have h7 := Nat.mod_lt n (show 7 > 0 by decide)
  have e1 : (rowOf n).map UInt8.toNat = (digs 256 6 (val 64 (figs8 n))).take (n % 7) := by
    unfold rowOf
    rw [List.map_take, List.map_map]
    congr 1
    conv => rhs; rw [← List.map_id (digs 256 6 (val 64 (figs8 n)))]
    refine List.map_congr_left fun d hd => ?_
    have := digs_lt (by decide : 0 < 256) d hd
    show (Nat.toUInt8 d).toNat = d
    rw [Nat.toUInt8_eq, UInt8.toNat_ofNat']; omega
  rw [e1, enc_kept (figs8_len n) (figs8_lt n) (by omega), rowOf_len]
  exact trans_out he _ (kept_lt (figs8_lt n) _)
theorem back_text {e : Nat} (he : e = 62 ∨ e = 63) {fs : List Nat} (h : ∀ f ∈ fs, f < 64) : ((textOf (twoOf e) fs).map (·.toUInt8)).map UInt8.toNat = textOf (twoOf e) fs := by
  rw [List.map_map]
  conv => rhs; rw [← List.map_id (textOf (twoOf e) fs)]
  refine List.map_congr_left fun c hc => ?_
  obtain ⟨f, hf, rfl⟩ := List.mem_map.mp hc
  have := sgn_lt he (h f hf)
  show (Nat.toUInt8 (sgn (twoOf e) f)).toNat = _
  rw [Nat.toUInt8_eq, UInt8.toNat_ofNat']
  show _ = sgn (twoOf e) f
  omega

/-! U17 -/
/-! plain law, third part: the dict that all items leave -/
theorem lastV_snoc (k : List Nat) (ps : List PL) (p : PL) : lastV k (ps ++ [p]) = if p.1 = k then p.2 else lastV k ps := by
  unfold lastV
  split
  · rename_i h; rw [filt_in h, List.map_append, List.map_singleton]
    simp
  · rename_i h; rw [filt_out h]
theorem S_text {e : Nat} (he : e = 62 ∨ e = 63) {a b : List Nat} (ha : ∀ f ∈ a, f < 64) (hb : ∀ f ∈ b, f < 64) : S (textOf (twoOf e) a) = S (textOf (twoOf e) b) ↔ a = b :=
  ⟨fun h => text_inj he ha hb (S_inj.mp h), fun h => by rw [h]⟩
noncomputable def keysLt (ps : List PL) : Prop := ∀ p ∈ ps, ∀ f ∈ p.1, f < 64
theorem keysOf_lt {ps : List PL} (h : keysLt ps) : ∀ k ∈ keysOf ps, ∀ f ∈ k, f < 64 := fun k hk => by
  rcases keysOf_mem_aux ps [] hk with q | ⟨x, hx, rfl⟩
  · nomatch q
  · exact h x hx
noncomputable def dictOf (e : Nat) (ps : List PL) : List (Str × Str) := (merged ps).map (txt2 e)
theorem put_dict {e : Nat} (he : e = 62 ∨ e = 63) {ps : List PL} {p : PL} (h : keysLt ps) (hp : ∀ f ∈ p.1, f < 64) : put (dictOf e ps) (txt2 e p).1 (txt2 e p).2 = dictOf e (ps ++ [p]) := by
  have hk := keysOf_lt h
  have e0 : ∀ l : List (List Nat), (l.map fun k => (k, lastV k ps)).map (txt2 e) = l.map fun k => (S (textOf (twoOf e) k), S (textOf (twoOf e) (lastV k ps))) := fun l => by rw [List.map_map]; rfl
  have e1 : dictOf e ps = (keysOf ps).map fun k => (S (textOf (twoOf e) k), S (textOf (twoOf e) (lastV k ps))) := e0 _
  have e2 : dictOf e (ps ++ [p]) = (keyIn (keysOf ps) p).map fun k => (S (textOf (twoOf e) k), S (textOf (twoOf e) (lastV k (ps ++ [p])))) := by
    unfold dictOf merged; rw [keysOf_snoc, List.map_map]; rfl
  rw [e1, e2]
  show put _ (S (textOf (twoOf e) p.1)) (S (textOf (twoOf e) p.2)) = _
  unfold put keyIn
  by_cases hin : p.1 ∈ keysOf ps
  · rw [if_pos hin, if_pos, List.map_map]
    · refine List.map_congr_left fun k hm => ?_
      show (if S (textOf (twoOf e) k) = S (textOf (twoOf e) p.1) then _ else _) = _
      rw [lastV_snoc]
      by_cases q : p.1 = k
      · rw [if_pos ((S_text he (hk k hm) hp).mpr q.symm), if_pos q]
      · rw [if_neg fun x => q ((S_text he (hk k hm) hp).mp x).symm, if_neg q]
    · rw [List.any_map]
      exact List.any_eq_true.mpr ⟨p.1, hin, by simp⟩
  · rw [if_neg hin, if_neg, List.map_append, List.map_singleton]
    · refine congr (congrArg _ (List.map_congr_left fun k hm => ?_)) ?_
      · rw [lastV_snoc, if_neg fun x : p.1 = k => hin (x ▸ hm)]
      · rw [lastV_snoc, if_pos rfl]
    · rw [List.any_map]
      intro q
      obtain ⟨k, hm, x⟩ := List.any_eq_true.mp q
      exact hin ((S_text he (hk k hm) hp).mp (by simpa using x) ▸ hm)
theorem pre_lt {e : Nat} {fs : List Nat} (h : ∀ f ∈ fs, f < 64) : ∀ f ∈ preE e fs, f < 64 := fun f hf => h f ((List.takeWhile_prefix _).subset hf)
theorem suf_lt {e : Nat} {fs : List Nat} (h : ∀ f ∈ fs, f < 64) : ∀ f ∈ sufE e fs, f < 64 := fun f hf => h f ((List.dropWhile_suffix _).subset (List.mem_of_mem_drop hf))
theorem pairV_lt {e : Nat} {fs : List Nat} (h : ∀ f ∈ fs, f < 64) : ∀ f ∈ pairV e fs, f < 64 := fun f hf => by
  unfold pairV at hf
  split at hf
  · exact suf_lt h f (List.mem_of_mem_drop (List.mem_of_mem_take hf))
  · exact suf_lt h f hf
theorem pairV_le (e : Nat) (fs : List Nat) : (pairV e fs).length ≤ fs.length := by
  refine Nat.le_trans ?_ (sufE_le e fs)
  unfold pairV
  split
  · unfold innerQ; rw [List.length_take, List.length_drop]; omega
  · exact Nat.le_refl _
theorem pairSum_small {e : Nat} {fs : List Nat} (h : ∀ f ∈ fs, f < 64) (hz : fs.length ≤ 24) {p : PL} (hp : pairSum e fs = .inr p) : small p := by
  unfold pairSum at hp
  split at hp
  · cases hp
  · split at hp
    · cases hp
    · obtain rfl := Sum.inr.inj hp
      exact ⟨⟨Nat.le_trans (List.takeWhile_prefix _).length_le hz, pre_lt h⟩, Nat.le_trans (pairV_le e fs) hz, pairV_lt h⟩
theorem rights_mem {p : PL} : ∀ {l : List (Str ⊕ PL)}, p ∈ rights l → .inr p ∈ l
  | .inl _ :: l, h => List.mem_cons_of_mem _ (rights_mem (l := l) h)
  | .inr q :: l, h => by
    rcases List.mem_cons.mp h with rfl | h
    · exact List.mem_cons_self
    · exact List.mem_cons_of_mem _ (rights_mem (l := l) h)
theorem lres_val : lres .val = .str (S (codes "ValueError")) := by unfold lres; rw [← ofString_S]
theorem lres_idx : lres .idx = .str (S (codes "IndexError")) := by unfold lres; rw [← ofString_S]
theorem lres_dict (e : Nat) (ps : List PL) : lres (.ok (dictOf e ps)) = .lst ((merged ps).map (textD (twoOf e))) := by
  show D.lst ((dictOf e ps).map pairD) = _
  unfold dictOf; rw [List.map_map]; rfl
theorem prun_text {e : Nat} (he : e = 62 ∨ e = 63) : ∀ (ls : List (List Nat)) (ps : List PL), (∀ fs ∈ ls, ∀ f ∈ fs, f < 64) → keysLt ps →
    lres (prun (dictOf e ps) (ls.map (textOf (twoOf e)))) = ((firstS (ls.map (pairSum e))).map D.str).getD (.lst ((merged (ps ++ rights (ls.map (pairSum e)))).map (textD (twoOf e))))
  | [], ps, _, _ => by
    show lres (.ok (dictOf e ps)) = .lst ((merged (ps ++ [])).map (textD (twoOf e)))
    rw [List.append_nil]; exact lres_dict e ps
  | fs :: ls, ps, h, hk => by
    have hf := h fs List.mem_cons_self
    have ih := prun_text he ls
    rw [List.map_cons, List.map_cons]
    show lres (match pstep (dictOf e ps) (textOf (twoOf e) fs) with | .ok es' => prun es' (ls.map (textOf (twoOf e))) | r => r) = _
    rcases pstep_text he hf (dictOf e ps) with ⟨q1, q2⟩ | ⟨q1, q2, q3⟩ | ⟨q1, q2, q3⟩
    · rw [q2]; unfold pairSum; rw [if_pos q1]; exact lres_val
    · rw [q3]; unfold pairSum; rw [if_neg fun x => x q1, if_pos q2]; exact lres_idx
    · have hp : pairSum e fs = .inr (preE e fs, pairV e fs) := by unfold pairSum; rw [if_neg fun x => x q1, if_neg q2]
      rw [q3, put_dict he hk (pre_lt hf), hp]
      show lres (prun _ _) = ((firstS (ls.map (pairSum e))).map D.str).getD (.lst ((merged (ps ++ (preE e fs, pairV e fs) :: rights (ls.map (pairSum e)))).map (textD (twoOf e))))
      rw [ih (ps ++ [(preE e fs, pairV e fs)]) (fun x hx => h x (List.mem_cons_of_mem _ hx)) fun p hp => ?_]
      · rw [List.append_assoc]; rfl
      · rcases List.mem_append.mp hp with q | q
        · exact hk p q
        · obtain rfl := List.mem_singleton.mp q; exact pre_lt hf
theorem prun_law {e : Nat} (he : e = 62 ∨ e = 63) (ls : List (List Nat)) (h : ∀ fs ∈ ls, ∀ f ∈ fs, f < 64) : lres (prun [] (ls.map (textOf (twoOf e)))) = dueRes (twoOf e) (ls.map (pairSum e)) :=
  prun_text he ls [] h fun _ hp => nomatch hp
/-! the sound ones -/
noncomputable def isR : Str ⊕ PL → Bool
  | .inl _ => false
  | .inr _ => true
theorem firstS_filter (e : Nat) : ∀ ls : List (List Nat), firstS ((ls.filter fun fs => isR (pairSum e fs)).map (pairSum e)) = none
  | [] => rfl
  | fs :: ls => by
    have ih := firstS_filter e ls
    rw [List.filter_cons]
    cases hp : pairSum e fs with
    | inl s => rw [if_neg (show ¬ isR (.inl s) = true from nofun)]; exact ih
    | inr p => rw [if_pos (show isR (.inr p) = true from rfl), List.map_cons, hp]; exact ih
theorem rights_filter (e : Nat) : ∀ ls : List (List Nat), rights ((ls.filter fun fs => isR (pairSum e fs)).map (pairSum e)) = rights (ls.map (pairSum e))
  | [] => rfl
  | fs :: ls => by
    have ih := rights_filter e ls
    rw [List.filter_cons, List.map_cons]
    cases hp : pairSum e fs with
    | inl s => rw [if_neg (show ¬ isR (.inl s) = true from nofun)]; exact ih
    | inr p => rw [if_pos (show isR (.inr p) = true from rfl), List.map_cons, hp]; exact congrArg (p :: ·) ih
theorem sums_inr (ps : List PL) : firstS (ps.map Sum.inr) = none ∧ rights (ps.map Sum.inr) = ps := by
  induction ps with
  | nil => exact ⟨rfl, rfl⟩
  | cons p ps ih => exact ⟨ih.1, congrArg (p :: ·) ih.2⟩
theorem told_law {e : Nat} (he : e = 62 ∨ e = 63) (ls : List (List Nat)) (h : ∀ fs ∈ ls, ∀ f ∈ fs, f < 64) :
    lres (prun [] ((ls.filter fun fs => isR (pairSum e fs)).map (textOf (twoOf e)))) = .lst ((merged (rights (ls.map (pairSum e)))).map (textD (twoOf e))) := by
  rw [prun_law he _ fun fs hf => h fs ((List.mem_filter.mp hf).1)]
  unfold dueRes
  rw [firstS_filter, rights_filter]; rfl
theorem due_sound (two : List Nat) (ps : List PL) : dueRes two (ps.map Sum.inr) = .lst ((merged ps).map (textD two)) := by
  unfold dueRes; rw [(sums_inr ps).1, (sums_inr ps).2]; rfl
/-! what == reads -/
theorem text_lt {e : Nat} (he : e = 62 ∨ e = 63) {fs : List Nat} (h : ∀ f ∈ fs, f < 64) : ∀ c ∈ textOf (twoOf e) fs, c < 128 := fun c hc => by
  obtain ⟨f, hf, rfl⟩ := List.mem_map.mp hc; exact sgn_lt he (h f hf)
theorem dueRes_ok {e : Nat} (he : e = 62 ∨ e = 63) {ds : List (Str ⊕ PL)} (h : ∀ s, .inl s ∈ ds → PyData.strOk s = true) (hs : ∀ p ∈ rights ds, small p) : okD 2 (dueRes (twoOf e) ds) := by
  unfold dueRes
  cases hf : firstS ds with
  | none =>
    have e1 : (merged (rights ds)).map (textD (twoOf e)) = (dictOf e (rights ds)).map pairD := by unfold dictOf; rw [List.map_map]; rfl
    show okD 2 (.lst _)
    rw [e1]
    refine okD_pairs fun q hq => ?_
    obtain ⟨p, hp, rfl⟩ := List.mem_map.mp hq
    obtain ⟨⟨_, a⟩, _, b⟩ := merged_small hs p hp
    exact ⟨strOk_S (text_lt he a), strOk_S (text_lt he b)⟩
  | some s =>
    have : ∀ l : List (Str ⊕ PL), firstS l = some s → .inl s ∈ l := by
      intro l
      induction l with
      | nil => intro q; cases q
      | cons x l ih =>
        intro q
        cases x with
        | inl t => obtain rfl := Option.some.inj q; exact List.mem_cons_self
        | inr p => exact List.mem_cons_of_mem _ (ih q)
    exact h s (this ds hf)
theorem pairSum_ok {e : Nat} {fs : List Nat} {s : Str} (h : pairSum e fs = .inl s) : PyData.strOk s = true := by
  unfold pairSum at h
  split at h
  · obtain rfl := Sum.inl.inj h; exact strOk_S (by decide)
  · split at h
    · obtain rfl := Sum.inl.inj h; exact strOk_S (by decide)
    · cases h
theorem readD_ok {fs : List Nat} (h : fs.length ≤ 30) : okD 2 (readD fs) ∨ ∃ b, readD fs = .bytes b := by
  unfold readD
  split
  · exact .inr ⟨_, rfl⟩
  · refine .inl ?_
    split
    · have : ∀ p, p < 31 → PyData.strOk (percentText ((p : Nat) : Int)) = true := by decide +kernel
      exact this _ (by omega)
    · exact strOk_S (by decide)

/-! U18 -/
theorem prun_len : ∀ (ls : List (List Nat)) (es es' : List (Str × Str)), prun es ls = .ok es' → es'.length ≤ es.length + ls.length
  | [], es, es', h => by
    replace h : PRes.ok es = PRes.ok es' := h
    injection h with h
    rw [← h]; exact Nat.le_refl _
  | l :: ls, es, es', h => by
    unfold prun at h
    cases hp : pstep es l with
    | ok e2 =>
      rw [hp] at h
      have := prun_len ls e2 es' h
      have h2 : e2.length ≤ es.length + 1 := by
        unfold pstep at hp
        split at hp
        · split at hp
          · cases hp
          · injection hp with hp
            rw [← hp]; exact put_length
        · cases hp
      rw [List.length_cons]; omega
    | val => rw [hp] at h; cases h
    | idx => rw [hp] at h; cases h
theorem rights_app : ∀ a b : List (Str ⊕ PL), rights (a ++ b) = rights a ++ rights b
  | [], b => rfl
  | .inl _ :: a, b => rights_app a b
  | .inr p :: a, b => congrArg (p :: ·) (rights_app a b)
theorem two_len (e : Nat) : (twoOf e).length = 2 := by unfold twoOf; split <;> rfl
theorem fn_law (g : Gx) (hK : g.K = hd01.heap_39 g.w.params) (herr : ErrAt 46 g.base) (ns : List Int) (hn : ns.length ≤ 63) {body : List Stmt} {scope : Scope} {qual : Str}
    (ho : BodyAt g 172 body scope qual) (C : Cx) (hC : FnCx g qual scope 6 C) :
    EX C [("script", .dat (.lst (ns.map .int)))] (execs body C.env) (retQ fun d => d = .bool true) NoX := by
  refine law_at (by rw [hK]; rfl) (fun C hC => ?_) ho C hC
  clear ho
  rename_i C₀ hC₀
  clear hC₀ C₀
  obtain rfl := hC.g
  have hsc := hC.scope
  have hrk := hC.rk
  have hcm := hC.comp
  clear hC
  have hsmall : ∀ n, n ≤ 100 → n ≤ sizeLine := fun n h => Nat.le_trans h (by decide)
  refine ex_cons ?_
  refine ex_assign (by (first | exact st_loc (by with_reducible assumption) (by decide +kernel) | exact st_cell (by with_reducible assumption) (by first | with_reducible assumption | exact FnCx.comp (by assumption)) (by decide +kernel))) ?_
  refine ev_sub ?_
  refine ev_name (by (repeat' (first | with_reducible exact lk_here | refine lk_there (by decide +kernel) ?_ | refine lk_free (by decide +kernel) ?_ | with_reducible assumption))) ?_ (by decide +kernel) (by decide +kernel)
  refine ev_slice ?_
  refine evp_none ?_
  refine evp_some ?_
  with_reducible refine ev_int ?_
  refine evp_none ?_
  refine pr_slice_list (lo := none) (hi := some ((12 : Nat) : Int)) (st := none) (by rw [List.length_map]; exact hsmall _ (by omega)) (by decide) ?_
  rw [pickL_to, ← List.map_take]
  have hxs : (ns.take 12).length ≤ 12 := List.length_take_le 12 ns
  generalize ns.take 12 = xs at *
  with_reducible refine then_next ?_
  refine ex_cons ?_
  refine ex_assign (by (first | exact st_loc (by with_reducible assumption) (by decide +kernel) | exact st_cell (by with_reducible assumption) (by first | with_reducible assumption | exact FnCx.comp (by assumption)) (by decide +kernel))) ?_
  refine ev_binop ?_
  with_reducible refine ev_int ?_
  refine ev_binop ?_
  refine ev_call ?_
  refine ev_funK (by with_reducible assumption) (by with_reducible assumption) (by decide +kernel) (by intro _; kernel_rfl) (by with_reducible exact bb_sum) ?_ (by decide +kernel) (by decide +kernel)
  refine call_pos0 (by (first | exact keep_B | exact keep_T | exact keepK (by with_reducible assumption) (by intro _; kernel_rfl))) ?_
  refine evl_cons ?_
  refine ev_name (by (repeat' (first | with_reducible exact lk_here | refine lk_there (by decide +kernel) ?_ | refine lk_free (by decide +kernel) ?_ | with_reducible assumption))) ?_ (by decide +kernel) (by decide +kernel)
  refine evl_nil ?_
  refine cl_sum_ints ?_
  refine ev_int ?_
  refine pr_mod_int (by decide) ?_
  refine pr_add_int ?_
  obtain ⟨e, he, hes⟩ : ∃ e : Nat, (e = 62 ∨ e = 63) ∧ 62 + xs.sum % 2 = (e : Int) := ⟨(62 + xs.sum % 2).toNat, by omega, by omega⟩
  rw [hes]
  refine then_next (ex_cons (ex_join (fun σ' => has σ' "two" (.dat (.str (S (twoOf e)))) ∧ has σ' "drawn" (.dat (.lst (xs.map .int))) ∧ has σ' "equals" (.dat (.int (e : Int)))) ?_ ?_))
  · refine ex_assign (by (first | exact st_loc (by with_reducible assumption) (by decide +kernel) | exact st_cell (by with_reducible assumption) (by first | with_reducible assumption | exact FnCx.comp (by assumption)) (by decide +kernel))) ?_
    refine ev_ifexp ?_
    refine evb_compare ?_
    refine ev_name (by (repeat' (first | with_reducible exact lk_here | refine lk_there (by decide +kernel) ?_ | refine lk_free (by decide +kernel) ?_ | with_reducible assumption))) ?_ (by decide +kernel) (by decide +kernel)
    with_reducible refine ev_int ?_
    with_reducible refine pr_eq_int ?_
    refine tr_bool ?_
    with_reducible refine br (fun _ => ?_) (fun _ => ?_)
    with_reducible refine ev_strc ?_
    rotate_left
    with_reducible refine ev_strc ?_
    rotate_left
    · rename_i hb
      obtain rfl : e = 62 := by omega
      rw [show codes "=\"" = twoOf 62 by decide]
      exact ⟨by (repeat' (first | with_reducible exact lk_here | refine lk_there (by decide +kernel) ?_ | refine lk_free (by decide +kernel) ?_ | with_reducible assumption)), by (repeat' (first | with_reducible exact lk_here | refine lk_there (by decide +kernel) ?_ | refine lk_free (by decide +kernel) ?_ | with_reducible assumption)), by (repeat' (first | with_reducible exact lk_here | refine lk_there (by decide +kernel) ?_ | refine lk_free (by decide +kernel) ?_ | with_reducible assumption))⟩
    · rename_i hb
      obtain rfl : e = 63 := by omega
      rw [show codes "\"=" = twoOf 63 by decide]
      exact ⟨by (repeat' (first | with_reducible exact lk_here | refine lk_there (by decide +kernel) ?_ | refine lk_free (by decide +kernel) ?_ | with_reducible assumption)), by (repeat' (first | with_reducible exact lk_here | refine lk_there (by decide +kernel) ?_ | refine lk_free (by decide +kernel) ?_ | with_reducible assumption)), by (repeat' (first | with_reducible exact lk_here | refine lk_there (by decide +kernel) ?_ | refine lk_free (by decide +kernel) ?_ | with_reducible assumption))⟩
  rintro σ' ⟨l1, l2, l3⟩
  refine ex_cons (ex_join (fun σ' => has σ' "two" (.dat (.str (S (twoOf e)))) ∧ has σ' "drawn" (.dat (.lst (xs.map .int))) ∧ has σ' "equals" (.dat (.int (e : Int))) ∧ has σ' "altchars" (.dat (.bytes (altOf e).toArray))) ?_ ?_)
  · refine ex_assign (by (first | exact st_loc (by with_reducible assumption) (by decide +kernel) | exact st_cell (by with_reducible assumption) (by first | with_reducible assumption | exact FnCx.comp (by assumption)) (by decide +kernel))) ?_
    refine ev_ifexp ?_
    refine evb_compare ?_
    refine ev_name (by (repeat' (first | with_reducible exact lk_here | refine lk_there (by decide +kernel) ?_ | refine lk_free (by decide +kernel) ?_ | with_reducible assumption))) ?_ (by decide +kernel) (by decide +kernel)
    with_reducible refine ev_int ?_
    with_reducible refine pr_eq_int ?_
    refine tr_bool ?_
    with_reducible refine br (fun _ => ?_) (fun _ => ?_)
    with_reducible refine ev_bytes ?_
    rotate_left
    with_reducible refine ev_bytes ?_
    rotate_left
    · rename_i hb
      obtain rfl : e = 62 := by omega
      rw [show ([61, 34] : List UInt8) = altOf 62 by decide]
      exact ⟨by (repeat' (first | with_reducible exact lk_here | refine lk_there (by decide +kernel) ?_ | refine lk_free (by decide +kernel) ?_ | with_reducible assumption)), by (repeat' (first | with_reducible exact lk_here | refine lk_there (by decide +kernel) ?_ | refine lk_free (by decide +kernel) ?_ | with_reducible assumption)), by (repeat' (first | with_reducible exact lk_here | refine lk_there (by decide +kernel) ?_ | refine lk_free (by decide +kernel) ?_ | with_reducible assumption)), by (repeat' (first | with_reducible exact lk_here | refine lk_there (by decide +kernel) ?_ | refine lk_free (by decide +kernel) ?_ | with_reducible assumption))⟩
    · rename_i hb
      obtain rfl : e = 63 := by omega
      rw [show ([34, 61] : List UInt8) = altOf 63 by decide]
      exact ⟨by (repeat' (first | with_reducible exact lk_here | refine lk_there (by decide +kernel) ?_ | refine lk_free (by decide +kernel) ?_ | with_reducible assumption)), by (repeat' (first | with_reducible exact lk_here | refine lk_there (by decide +kernel) ?_ | refine lk_free (by decide +kernel) ?_ | with_reducible assumption)), by (repeat' (first | with_reducible exact lk_here | refine lk_there (by decide +kernel) ?_ | refine lk_free (by decide +kernel) ?_ | with_reducible assumption)), by (repeat' (first | with_reducible exact lk_here | refine lk_there (by decide +kernel) ?_ | refine lk_free (by decide +kernel) ?_ | with_reducible assumption))⟩
  clear l1 l2 l3
  rintro σ' ⟨l1, l2, l3, l4⟩
  refine ex_cons ?_
  refine ex_own_list (kind_loc (by with_reducible assumption) (by decide +kernel)) ?_
  with_reducible refine then_next ?_
  refine ex_cons ?_
  refine ex_own_list (kind_loc (by with_reducible assumption) (by decide +kernel)) ?_
  with_reducible refine then_next ?_
  refine ex_cons ?_
  refine ex_for hcm (evi_of ?_)
  refine ev_binop ?_
  refine ev_list ?_
  refine evl_cons ?_
  with_reducible refine ev_int ?_
  refine evl_cons ?_
  with_reducible refine ev_int ?_
  refine evl_cons ?_
  with_reducible refine ev_int ?_
  refine evl_nil ?_
  refine ⟨hsmall _ (by show 3 ≤ 100; omega), ?_⟩
  refine ev_comp (hnc := by decide +kernel) (hfree := by decide +kernel) (hnames := by decide +kernel) hsc (evi_of ?_)
  refine ev_name (by (repeat' (first | with_reducible exact lk_here | refine lk_there (by decide +kernel) ?_ | refine lk_free (by decide +kernel) ?_ | with_reducible assumption))) ?_ (by decide +kernel) (by decide +kernel)
  refine itr_list trivial ?_
  refine comp_list xs .int (fun x => .int (x % 91854)) (hsmall _ (by omega)) (fun x hx C' hS => ?_) ?_
  · have hK' := sub_K hS hK
    have hsc' := hS.scope
    refine asg_name (by (first | exact st_loc (by with_reducible assumption) (by decide +kernel) | exact st_cell (by with_reducible assumption) (by first | with_reducible assumption | exact FnCx.comp (by assumption)) (by decide +kernel))) ?_
    refine ev_binop ?_
    refine ev_name (by (repeat' (first | with_reducible exact lk_here | refine lk_there (by decide +kernel) ?_ | refine lk_free (by decide +kernel) ?_ | with_reducible assumption))) ?_ (by decide +kernel) (by decide +kernel)
    with_reducible refine ev_int ?_
    refine pr_mod_int ?_ ?_
    rotate_left
    rotate_left
    · decide
    · rfl
  generalize hnu : [13, 45933, 89578] ++ xs.map (fun x => (x % 91854).toNat) = nums
  have hnl : nums.length ≤ 15 := by rw [← hnu, List.length_append, List.length_map]; show 3 + xs.length ≤ 15; omega
  refine pr_add_list (by rw [List.length_map]; exact hsmall _ (by show 3 + xs.length ≤ 100; omega)) ?_
  rw [show ([D.int 13, D.int 45933, D.int 89578] ++ xs.map fun x => D.int (x % 91854)) = nums.map (fun n => D.int (n : Nat)) by
    rw [← hnu, List.map_append, List.map_map]
    congr 1
    refine List.map_congr_left fun x _ => ?_
    show D.int (x % 91854) = D.int (((x % 91854).toNat : Nat) : Int)
    rw [Int.toNat_of_nonneg (Int.emod_nonneg _ (by decide))]]
  refine itr_list trivial ?_
  have hfs6 : ∀ n, (figs8 n).length / 4 * 3 = 6 := fun n => by rw [figs8_len]
  refine ⟨fun i σ₁ => ((has σ₁ "two" (.dat (.str (S (twoOf e)))) ∧ has σ₁ "equals" (.dat (.int (e : Int))) ∧ has σ₁ "altchars" (.dat (.bytes (altOf e).toArray))) ∧
    has σ₁ "items" (.own (.lst ((nums.take i).map fun n => .str (S (textOf (twoOf e) (sqN e n)))))) ∧ has σ₁ "dues" (.own (.lst ((nums.take i).map fun n => dueD (pairSum e (sqN e n)))))), ?_, ?_, ?_⟩
  · exact ⟨⟨by (repeat' (first | with_reducible exact lk_here | refine lk_there (by decide +kernel) ?_ | refine lk_free (by decide +kernel) ?_ | with_reducible assumption)), by (repeat' (first | with_reducible exact lk_here | refine lk_there (by decide +kernel) ?_ | refine lk_free (by decide +kernel) ?_ | with_reducible assumption)), by (repeat' (first | with_reducible exact lk_here | refine lk_there (by decide +kernel) ?_ | refine lk_free (by decide +kernel) ?_ | with_reducible assumption))⟩, (show has _ "items" (.own (.lst [])) by (repeat' (first | with_reducible exact lk_here | refine lk_there (by decide +kernel) ?_ | refine lk_free (by decide +kernel) ?_ | with_reducible assumption))), (show has _ "dues" (.own (.lst [])) by (repeat' (first | with_reducible exact lk_here | refine lk_there (by decide +kernel) ?_ | refine lk_free (by decide +kernel) ?_ | with_reducible assumption)))⟩
  · clear l1 l2 l3 l4
    rintro i d σ₁ hd ⟨⟨l1, l2, l3⟩, l4, l5⟩
    obtain ⟨n, hp, rfl⟩ : ∃ n, nums[i]? = some n ∧ d = .int (n : Nat) := by
      rw [List.getElem?_map] at hd
      obtain ⟨p, q, r⟩ := Option.map_eq_some_iff.mp hd
      exact ⟨p, q, r.symm⟩
    have h7 : n % 7 < 7 := Nat.mod_lt n (by decide)
    have hmod : (n : Int) % 7 = ((n % 7 : Nat) : Int) := rfl
    refine asg_name (by (first | exact st_loc (by with_reducible assumption) (by decide +kernel) | exact st_cell (by with_reducible assumption) (by first | with_reducible assumption | exact FnCx.comp (by assumption)) (by decide +kernel))) ?_
    refine ex_cons ?_
    refine ex_assign (by (first | exact st_loc (by with_reducible assumption) (by decide +kernel) | exact st_cell (by with_reducible assumption) (by first | with_reducible assumption | exact FnCx.comp (by assumption)) (by decide +kernel))) ?_
    refine ev_call ?_
    refine ev_globalK (by with_reducible assumption) (by with_reducible assumption) (by decide +kernel) (by intro _; rfl) ?_ (by decide +kernel)
    refine call_pos0 (by (first | exact keep_B | exact keep_T | exact keepK (by with_reducible assumption) (by intro _; kernel_rfl))) ?_
    refine evl_cons ?_
    refine ev_name (by (repeat' (first | with_reducible exact lk_here | refine lk_there (by decide +kernel) ?_ | refine lk_free (by decide +kernel) ?_ | with_reducible assumption))) ?_ (by decide +kernel) (by decide +kernel)
    refine evl_nil ?_
    refine cl_eq (fn_law_figures _ hK n) (by omega) ?_
    with_reducible refine then_next ?_
    refine ex_cons ?_
    refine ex_assign (by (first | exact st_loc (by with_reducible assumption) (by decide +kernel) | exact st_cell (by with_reducible assumption) (by first | with_reducible assumption | exact FnCx.comp (by assumption)) (by decide +kernel))) ?_
    refine ev_call ?_
    refine ev_globalK (by with_reducible assumption) (by with_reducible assumption) (by decide +kernel) (by intro _; rfl) ?_ (by decide +kernel)
    refine call_pos0 (by (first | exact keep_B | exact keep_T | exact keepK (by with_reducible assumption) (by intro _; kernel_rfl))) ?_
    refine evl_cons ?_
    refine ev_sub ?_
    refine ev_call ?_
    refine ev_globalK (by with_reducible assumption) (by with_reducible assumption) (by decide +kernel) (by intro _; rfl) ?_ (by decide +kernel)
    refine call_pos0 (by (first | exact keep_B | exact keep_T | exact keepK (by with_reducible assumption) (by intro _; kernel_rfl))) ?_
    refine evl_cons ?_
    refine ev_name (by (repeat' (first | with_reducible exact lk_here | refine lk_there (by decide +kernel) ?_ | refine lk_free (by decide +kernel) ?_ | with_reducible assumption))) ?_ (by decide +kernel) (by decide +kernel)
    refine evl_nil ?_
    refine cl_eq (fn_law_octets _ hK (figs8 n) (by rw [figs8_len]; decide)) (by omega) ?_
    rw [hfs6]
    refine ev_slice ?_
    refine evp_none ?_
    refine evp_some ?_
    refine ev_binop ?_
    refine ev_name (by (repeat' (first | with_reducible exact lk_here | refine lk_there (by decide +kernel) ?_ | refine lk_free (by decide +kernel) ?_ | with_reducible assumption))) ?_ (by decide +kernel) (by decide +kernel)
    with_reducible refine ev_int ?_
    refine pr_mod_int ?_ ?_
    rotate_left
    refine evp_none ?_
    rotate_left
    · decide
    rw [hmod]
    refine pr_slice_bytes (lo := none) (hi := some ((n % 7 : Nat) : Int)) (st := none) (by decide) ?_ ?_
    · rw [pickL_to, List.length_take, List.length_map, digs_len]; exact hsmall _ (by omega)
    rw [pickL_to, show ((digs 256 6 (val 64 (figs8 n))).map Nat.toUInt8).take (n % 7) = rowOf n from rfl]
    refine evl_cons ?_
    refine ev_name (by (repeat' (first | with_reducible exact lk_here | refine lk_there (by decide +kernel) ?_ | refine lk_free (by decide +kernel) ?_ | with_reducible assumption))) ?_ (by decide +kernel) (by decide +kernel)
    refine evl_nil ?_
    refine cl_eq (fn_b64encode_alt _ hK (rowOf n) (altOf e) (by rw [rowOf_len]; omega) (by rcases he with rfl | rfl <;> rfl)) (by omega) ?_
    rw [written_eq he n]
    with_reducible refine then_next ?_
    refine ex_cons ?_
    refine ex_assign (by (first | exact st_loc (by with_reducible assumption) (by decide +kernel) | exact st_cell (by with_reducible assumption) (by first | with_reducible assumption | exact FnCx.comp (by assumption)) (by decide +kernel))) ?_
    refine ev_binop ?_
    refine ev_call ?_
    refine ev_globalK (by with_reducible assumption) (by with_reducible assumption) (by decide +kernel) (by intro _; rfl) ?_ (by decide +kernel)
    refine call_pos0 (by (first | exact keep_B | exact keep_T | exact keepK (by with_reducible assumption) (by intro _; kernel_rfl))) ?_
    refine evl_cons ?_
    refine ev_name (by (repeat' (first | with_reducible exact lk_here | refine lk_there (by decide +kernel) ?_ | refine lk_free (by decide +kernel) ?_ | with_reducible assumption))) ?_ (by decide +kernel) (by decide +kernel)
    refine evl_cons ?_
    refine ev_binop ?_
    refine ev_name (by (repeat' (first | with_reducible exact lk_here | refine lk_there (by decide +kernel) ?_ | refine lk_free (by decide +kernel) ?_ | with_reducible assumption))) ?_ (by decide +kernel) (by decide +kernel)
    with_reducible refine ev_int ?_
    refine pr_mod_int ?_ ?_
    rotate_left
    refine evl_nil ?_
    rotate_left
    · decide
    rw [hmod]
    refine cl_eq (fn_law_kept _ hK (figs8 n) (n % 7) (figs8_len n) (figs8_lt n) (by omega)) (by omega) ?_
    refine ev_binop ?_
    refine ev_list ?_
    refine evl_cons ?_
    refine ev_name (by (repeat' (first | with_reducible exact lk_here | refine lk_there (by decide +kernel) ?_ | refine lk_free (by decide +kernel) ?_ | with_reducible assumption))) ?_ (by decide +kernel) (by decide +kernel)
    refine evl_nil ?_
    refine ⟨hsmall _ (by show 1 ≤ 100; omega), ?_⟩
    refine ev_binop ?_
    refine ev_unop ?_
    refine ev_binop ?_
    refine ev_name (by (repeat' (first | with_reducible exact lk_here | refine lk_there (by decide +kernel) ?_ | refine lk_free (by decide +kernel) ?_ | with_reducible assumption))) ?_ (by decide +kernel) (by decide +kernel)
    with_reducible refine ev_int ?_
    refine pr_mod_int ?_ ?_
    rotate_left
    with_reducible refine pr_neg_int ?_
    with_reducible refine ev_int ?_
    refine pr_mod_int ?_ ?_
    rotate_left
    rotate_left
    · decide
    · decide
    have hp2 : padOf (n % 7) ≤ 2 := by unfold padOf; omega
    refine pr_mul_list (padOf (n % 7)) (by unfold padOf; omega) (Nat.le_trans hp2 (by decide)) (by show 1 * padOf (n % 7) ≤ _; rw [Nat.one_mul]; exact Nat.le_trans hp2 (by decide)) ?_
    have hsg : ((kept (figs8 n) (n % 7)).map fun (x : Nat) => (x : Int)).map D.int ++ (List.replicate (padOf (n % 7)) [D.int (e : Int)]).flatten = ((sgs e n).map fun (x : Nat) => (x : Int)).map D.int := by
      unfold sgs
      rw [List.map_append, List.map_append, List.map_replicate, List.map_replicate, List.flatten_replicate_singleton]
    refine pr_add_list (by rw [intsD_len, kept_len, List.flatten_replicate_singleton, List.length_replicate]; exact hsmall _ (by have := (kcount_facts (n % 7) h7).1; omega)) ?_
    rw [hsg]
    with_reducible refine then_next ?_
    refine ex_cons ?_
    refine ex_assign (by (first | exact st_loc (by with_reducible assumption) (by decide +kernel) | exact st_cell (by with_reducible assumption) (by first | with_reducible assumption | exact FnCx.comp (by assumption)) (by decide +kernel))) ?_
    refine ev_join (x := S []) ?_
    refine ev_strc ⟨rfl, ?_⟩
    refine evl_cons (ev_comp (hnc := by decide +kernel) (hfree := by decide +kernel) (hnames := by decide +kernel) hsc (evi_of ?_))
    refine ev_name (by (repeat' (first | with_reducible exact lk_here | refine lk_there (by decide +kernel) ?_ | refine lk_free (by decide +kernel) ?_ | with_reducible assumption))) ?_ (by decide +kernel) (by decide +kernel)
    refine itr_bytes ?_
    have hsl : (sgs e n).length ≤ 10 := sgs_len e n
    have hof : ofBytes ((textOf (twoOf e) (sgs e n)).map (·.toUInt8)) = (textOf (twoOf e) (sgs e n)).map fun (c : Nat) => D.int (c : Int) := by
      have q := congrArg (List.map fun (c : Nat) => D.int (c : Int)) (back_text he (sgs_lt (n := n) he))
      rw [List.map_map] at q
      exact q
    rw [hof]
    have htl : (textOf (twoOf e) (sgs e n)).length ≤ 10 := by unfold textOf; rw [List.length_map]; exact hsl
    refine comp_list (textOf (twoOf e) (sgs e n)) (fun (c : Nat) => D.int (c : Int)) (fun c => .str (S [c])) (hsmall _ (by omega)) (fun c hc C' hS => ?_) ?_
    · have hK' := sub_K hS hK
      have hsc' := hS.scope
      have hlt := text_lt he (sgs_lt (n := n) he) c hc
      refine asg_name (by (first | exact st_loc (by with_reducible assumption) (by decide +kernel) | exact st_cell (by with_reducible assumption) (by first | with_reducible assumption | exact FnCx.comp (by assumption)) (by decide +kernel))) ?_
      refine ev_call ?_
      refine ev_funK (by with_reducible assumption) (by with_reducible assumption) (by decide +kernel) (by intro _; kernel_rfl) (by with_reducible exact bb_chr) ?_ (by decide +kernel) (by decide +kernel)
      refine call_pos0 (by (first | exact keep_B | exact keep_T | exact keepK (by with_reducible assumption) (by intro _; kernel_rfl))) ?_
      refine evl_cons ?_
      refine ev_name (by (repeat' (first | with_reducible exact lk_here | refine lk_there (by decide +kernel) ?_ | refine lk_free (by decide +kernel) ?_ | with_reducible assumption))) ?_ (by decide +kernel) (by decide +kernel)
      refine evl_nil ?_
      refine cl_chr c rfl (by omega) ?_
      exact rfl
    refine evl_nil ?_
    refine cl_join (x := (textOf (twoOf e) (sgs e n)).map fun c => [c]) (by rw [List.map_map]; rfl) (by rw [sum1]; exact Nat.le_trans htl (by decide)) ?_
    rw [flat1]
    with_reducible refine then_next ?_
    refine ex_cons ?_
    refine ex_if ?_
    refine evb_or ?_
    refine evb_compare ?_
    refine ev_call ?_
    refine ev_typeK (by with_reducible assumption) (by with_reducible assumption) (by decide +kernel) (by intro _; kernel_rfl) (by with_reducible exact bb_type) ?_ (by decide +kernel) (by decide +kernel)
    refine call_pos0 (by (first | exact keep_B | exact keep_T | exact keepK (by with_reducible assumption) (by intro _; kernel_rfl))) ?_
    refine evl_cons ?_
    refine ev_name (by (repeat' (first | with_reducible exact lk_here | refine lk_there (by decide +kernel) ?_ | refine lk_free (by decide +kernel) ?_ | with_reducible assumption))) ?_ (by decide +kernel) (by decide +kernel)
    refine evl_nil ?_
    refine cl_type (fun _ e => nomatch e) ?_
    refine ev_typeK (by with_reducible assumption) (by with_reducible assumption) (by decide +kernel) (by intro _; kernel_rfl) (by with_reducible exact bb_bytes) ?_ (by decide +kernel) (by decide +kernel)
    refine pr_isNot (t := false) (by rfl) (by rfl) ?_
    refine tr_bool ?_
    with_reducible refine br_f ?_
    refine evb_or ?_
    refine evb_compare ?_
    refine ev_name (by (repeat' (first | with_reducible exact lk_here | refine lk_there (by decide +kernel) ?_ | refine lk_free (by decide +kernel) ?_ | with_reducible assumption))) ?_ (by decide +kernel) (by decide +kernel)
    refine ev_call ?_
    refine ev_globalK (by with_reducible assumption) (by with_reducible assumption) (by decide +kernel) (by intro _; rfl) ?_ (by decide +kernel)
    refine call_pos0 (by (first | exact keep_B | exact keep_T | exact keepK (by with_reducible assumption) (by intro _; kernel_rfl))) ?_
    refine evl_cons ?_
    refine ev_name (by (repeat' (first | with_reducible exact lk_here | refine lk_there (by decide +kernel) ?_ | refine lk_free (by decide +kernel) ?_ | with_reducible assumption))) ?_ (by decide +kernel) (by decide +kernel)
    refine evl_cons ?_
    refine ev_name (by (repeat' (first | with_reducible exact lk_here | refine lk_there (by decide +kernel) ?_ | refine lk_free (by decide +kernel) ?_ | with_reducible assumption))) ?_ (by decide +kernel) (by decide +kernel)
    refine evl_nil ?_
    refine cl_eq (fn_law_text _ hK (sgs e n) (twoOf e) (two_len e) (sgs_lt he) (by omega)) (by omega) ?_
    refine pr_ne_str (x := textOf (twoOf e) (sgs e n)) (y := textOf (twoOf e) (sgs e n)) ?_
    rw [show decide (textOf (twoOf e) (sgs e n) ≠ textOf (twoOf e) (sgs e n)) = false by simp]
    refine tr_bool (br_f (evb_or_nil (br_f (ex_nil (then_next (ex_cons ?_))))))
    refine ex_join (fun σ' => (has σ' "two" (.dat (.str (S (twoOf e)))) ∧ has σ' "equals" (.dat (.int (e : Int))) ∧ has σ' "altchars" (.dat (.bytes (altOf e).toArray))) ∧
      (has σ' "items" (.own (.lst ((nums.take i).map fun n => .str (S (textOf (twoOf e) (sqN e n)))))) ∧ has σ' "dues" (.own (.lst ((nums.take i).map fun n => dueD (pairSum e (sqN e n)))))) ∧
      has σ' "lead" (.dat (intsD (leadN e n))) ∧ has σ' "signs" (.dat (intsD (sgs e n))) ∧ has σ' "text" (.dat (.str (S (textOf (twoOf e) (sgs e n)))))) ?_ ?_
    · refine ex_assign (by (first | exact st_loc (by with_reducible assumption) (by decide +kernel) | exact st_cell (by with_reducible assumption) (by first | with_reducible assumption | exact FnCx.comp (by assumption)) (by decide +kernel))) ?_
      refine ev_ifexp ?_
      refine evb_compare ?_
      refine ev_binop ?_
      refine ev_binop ?_
      refine ev_name (by (repeat' (first | with_reducible exact lk_here | refine lk_there (by decide +kernel) ?_ | refine lk_free (by decide +kernel) ?_ | with_reducible assumption))) ?_ (by decide +kernel) (by decide +kernel)
      with_reducible refine ev_int ?_
      refine pr_div_int ?_ ?_ ?_
      rotate_left
      rotate_left
      with_reducible refine ev_int ?_
      refine pr_mod_int ?_ ?_
      rotate_left
      with_reducible refine ev_int ?_
      with_reducible refine pr_eq_int ?_
      refine tr_bool ?_
      with_reducible refine br (fun _ => ?_) (fun _ => ?_)
      refine ev_list ?_
      refine evl_cons ?_
      with_reducible refine ev_int ?_
      refine evl_cons ?_
      refine ev_name (by (repeat' (first | with_reducible exact lk_here | refine lk_there (by decide +kernel) ?_ | refine lk_free (by decide +kernel) ?_ | with_reducible assumption))) ?_ (by decide +kernel) (by decide +kernel)
      refine evl_nil ?_
      rotate_left
      refine ev_list ?_
      refine evl_nil ?_
      rotate_left
      · decide
      · decide
      · decide
      · rename_i hb
        have hl : leadN e n = [36, e] := if_pos (by omega)
        refine ⟨hsmall _ (by show 2 ≤ 100; omega), ?_⟩
        show (_ ∧ _ ∧ _) ∧ (_ ∧ _) ∧ _
        rw [hl]
        exact ⟨⟨by (repeat' (first | with_reducible exact lk_here | refine lk_there (by decide +kernel) ?_ | refine lk_free (by decide +kernel) ?_ | with_reducible assumption)), by (repeat' (first | with_reducible exact lk_here | refine lk_there (by decide +kernel) ?_ | refine lk_free (by decide +kernel) ?_ | with_reducible assumption)), by (repeat' (first | with_reducible exact lk_here | refine lk_there (by decide +kernel) ?_ | refine lk_free (by decide +kernel) ?_ | with_reducible assumption))⟩, ⟨by (repeat' (first | with_reducible exact lk_here | refine lk_there (by decide +kernel) ?_ | refine lk_free (by decide +kernel) ?_ | with_reducible assumption)), by (repeat' (first | with_reducible exact lk_here | refine lk_there (by decide +kernel) ?_ | refine lk_free (by decide +kernel) ?_ | with_reducible assumption))⟩, lk_here, by (repeat' (first | with_reducible exact lk_here | refine lk_there (by decide +kernel) ?_ | refine lk_free (by decide +kernel) ?_ | with_reducible assumption)), by (repeat' (first | with_reducible exact lk_here | refine lk_there (by decide +kernel) ?_ | refine lk_free (by decide +kernel) ?_ | with_reducible assumption))⟩
      · rename_i hb
        have hl : leadN e n = [] := if_neg (by omega)
        refine ⟨hsmall _ (by show 0 ≤ 100; omega), ?_⟩
        show (_ ∧ _ ∧ _) ∧ (_ ∧ _) ∧ _
        rw [hl]
        exact ⟨⟨by (repeat' (first | with_reducible exact lk_here | refine lk_there (by decide +kernel) ?_ | refine lk_free (by decide +kernel) ?_ | with_reducible assumption)), by (repeat' (first | with_reducible exact lk_here | refine lk_there (by decide +kernel) ?_ | refine lk_free (by decide +kernel) ?_ | with_reducible assumption)), by (repeat' (first | with_reducible exact lk_here | refine lk_there (by decide +kernel) ?_ | refine lk_free (by decide +kernel) ?_ | with_reducible assumption))⟩, ⟨by (repeat' (first | with_reducible exact lk_here | refine lk_there (by decide +kernel) ?_ | refine lk_free (by decide +kernel) ?_ | with_reducible assumption)), by (repeat' (first | with_reducible exact lk_here | refine lk_there (by decide +kernel) ?_ | refine lk_free (by decide +kernel) ?_ | with_reducible assumption))⟩, lk_here, by (repeat' (first | with_reducible exact lk_here | refine lk_there (by decide +kernel) ?_ | refine lk_free (by decide +kernel) ?_ | with_reducible assumption)), by (repeat' (first | with_reducible exact lk_here | refine lk_there (by decide +kernel) ?_ | refine lk_free (by decide +kernel) ?_ | with_reducible assumption))⟩
    clear l1 l2 l3 l4 l5
    rintro σ' ⟨⟨l1, l2, l3⟩, ⟨l4, l5⟩, l6, l7, l8⟩
    refine ex_cons ?_
    refine ex_append' (by (repeat' (first | with_reducible exact lk_here | refine lk_there (by decide +kernel) ?_ | refine lk_free (by decide +kernel) ?_ | with_reducible assumption))) ?_ ?_
    rotate_left
    refine ev_binop ?_
    refine ev_call ?_
    refine ev_globalK (by with_reducible assumption) (by with_reducible assumption) (by decide +kernel) (by intro _; rfl) ?_ (by decide +kernel)
    refine call_pos0 (by (first | exact keep_B | exact keep_T | exact keepK (by with_reducible assumption) (by intro _; kernel_rfl))) ?_
    refine evl_cons ?_
    refine ev_name (by (repeat' (first | with_reducible exact lk_here | refine lk_there (by decide +kernel) ?_ | refine lk_free (by decide +kernel) ?_ | with_reducible assumption))) ?_ (by decide +kernel) (by decide +kernel)
    refine evl_cons ?_
    refine ev_name (by (repeat' (first | with_reducible exact lk_here | refine lk_there (by decide +kernel) ?_ | refine lk_free (by decide +kernel) ?_ | with_reducible assumption))) ?_ (by decide +kernel) (by decide +kernel)
    refine evl_nil ?_
    rotate_left
    · rw [List.length_map]; exact hsmall _ (Nat.le_trans (List.length_take_le' i nums) (Nat.le_trans hnl (by decide)))
    refine cl_eq (fn_law_text _ hK (leadN e n) (twoOf e) (two_len e) (leadN_lt he) (Nat.le_trans (leadN_len e n) (by decide))) (by omega) ?_
    refine ev_name (by (repeat' (first | with_reducible exact lk_here | refine lk_there (by decide +kernel) ?_ | refine lk_free (by decide +kernel) ?_ | with_reducible assumption))) ?_ (by decide +kernel) (by decide +kernel)
    have hll : (textOf (twoOf e) (leadN e n)).length ≤ 2 := by unfold textOf; rw [List.length_map]; exact leadN_len e n
    refine pr_add_str (hsmall _ (by omega)) ?_
    rw [show textOf (twoOf e) (leadN e n) ++ textOf (twoOf e) (sgs e n) = textOf (twoOf e) (sqN e n) by unfold sqN textOf; rw [List.map_append]]
    with_reducible refine then_next ?_
    refine ex_cons ?_
    refine ex_append' (by (repeat' (first | with_reducible exact lk_here | refine lk_there (by decide +kernel) ?_ | refine lk_free (by decide +kernel) ?_ | with_reducible assumption))) ?_ ?_
    rotate_left
    refine ev_call ?_
    refine ev_globalK (by with_reducible assumption) (by with_reducible assumption) (by decide +kernel) (by intro _; rfl) ?_ (by decide +kernel)
    refine call_pos0 (by (first | exact keep_B | exact keep_T | exact keepK (by with_reducible assumption) (by intro _; kernel_rfl))) ?_
    refine evl_cons ?_
    refine ev_binop ?_
    refine ev_name (by (repeat' (first | with_reducible exact lk_here | refine lk_there (by decide +kernel) ?_ | refine lk_free (by decide +kernel) ?_ | with_reducible assumption))) ?_ (by decide +kernel) (by decide +kernel)
    refine ev_name (by (repeat' (first | with_reducible exact lk_here | refine lk_there (by decide +kernel) ?_ | refine lk_free (by decide +kernel) ?_ | with_reducible assumption))) ?_ (by decide +kernel) (by decide +kernel)
    rotate_left
    · rw [List.length_map]; exact hsmall _ (Nat.le_trans (List.length_take_le' i nums) (Nat.le_trans hnl (by decide)))
    refine pr_add_list (by rw [intsD_len, intsD_len]; exact hsmall _ (by have := leadN_len e n; omega)) ?_
    rw [show ((leadN e n).map fun (x : Nat) => (x : Int)).map D.int ++ ((sgs e n).map fun (x : Nat) => (x : Int)).map D.int = ((sqN e n).map fun (x : Nat) => (x : Int)).map D.int by unfold sqN; rw [List.map_append, List.map_append]]
    refine evl_cons ?_
    refine ev_name (by (repeat' (first | with_reducible exact lk_here | refine lk_there (by decide +kernel) ?_ | refine lk_free (by decide +kernel) ?_ | with_reducible assumption))) ?_ (by decide +kernel) (by decide +kernel)
    refine evl_nil ?_
    refine cl_eq (fn_law_pair _ hK (sqN e n) e (by omega) (Nat.le_trans (sqN_len e n) (by decide))) (by omega) ?_
    rw [pairRes_sum]
    have hst : nums.take (i + 1) = nums.take i ++ [n] := by rw [List.take_add_one, hp]; rfl
    with_reducible refine then_next ?_
    refine ex_nil ?_
    refine ⟨⟨by (repeat' (first | with_reducible exact lk_here | refine lk_there (by decide +kernel) ?_ | refine lk_free (by decide +kernel) ?_ | with_reducible assumption)), by (repeat' (first | with_reducible exact lk_here | refine lk_there (by decide +kernel) ?_ | refine lk_free (by decide +kernel) ?_ | with_reducible assumption)), by (repeat' (first | with_reducible exact lk_here | refine lk_there (by decide +kernel) ?_ | refine lk_free (by decide +kernel) ?_ | with_reducible assumption))⟩, ?_, ?_⟩
    · rw [hst, List.map_append]; exact lk_there (by decide +kernel) lk_here
    · rw [hst, List.map_append]; exact lk_here
  clear l1 l2 l3 l4
  rintro σ₁ ⟨⟨l1, l2, l3⟩, l4, l5⟩
  rw [List.length_map, List.take_length] at l4 l5
  rw [show nums.map (fun n => D.str (S (textOf (twoOf e) (sqN e n)))) = ((nums.map (sqN e)).map (textOf (twoOf e))).map fun l => D.str (S l) by rw [List.map_map, List.map_map]; rfl] at l4
  rw [show nums.map (fun n => dueD (pairSum e (sqN e n))) = ((nums.map (sqN e)).map (pairSum e)).map dueD by rw [List.map_map, List.map_map]; rfl] at l5
  have hqs : ∀ fs ∈ nums.map (sqN e), fs.length ≤ 12 ∧ ∀ f ∈ fs, f < 64 := fun fs hf => by
    obtain ⟨n, _, rfl⟩ := List.mem_map.mp hf
    exact ⟨sqN_len e n, sqN_lt he⟩
  have hql : (nums.map (sqN e)).length ≤ 15 := by rw [List.length_map]; exact hnl
  generalize nums.map (sqN e) = qs at *
  clear hnu hnl hfs6 nums
  have hsR : ∀ l : List (List Nat), (∀ fs ∈ l, fs ∈ qs) → ∀ p ∈ rights (l.map (pairSum e)), small p := fun l hl p hp => by
    obtain ⟨fs, hf, q⟩ := List.mem_map.mp (rights_mem hp)
    have := hqs fs (hl fs hf)
    exact pairSum_small this.2 (by omega) q
  have hok : ∀ l : List (List Nat), (∀ fs ∈ l, fs ∈ qs) → okD 2 (dueRes (twoOf e) (l.map (pairSum e))) := fun l hl => dueRes_ok he (fun s hs => by
    obtain ⟨fs, _, q⟩ := List.mem_map.mp hs
    exact pairSum_ok q) (hsR l hl)
  have hpl : ∀ l : List (List Nat), (∀ fs ∈ l, fs ∈ qs) → lres (prun [] (l.map (textOf (twoOf e)))) = dueRes (twoOf e) (l.map (pairSum e)) := fun l hl => prun_law he l fun fs hf => (hqs fs (hl fs hf)).2
  have htz : ∀ l ∈ qs.map (textOf (twoOf e)), l.length ≤ 1000 := fun l hl => by
    obtain ⟨fs, hf, rfl⟩ := List.mem_map.mp hl
    have := (hqs fs hf).1
    unfold textOf; rw [List.length_map]; omega
  refine then_next (ex_freeze l4 (ex_freeze (lk_there (by decide +kernel) l5) ?_))
  refine ex_cons ?_
  refine ex_for hcm (evi_call ?_)
  refine ev_typeK (by with_reducible assumption) (by with_reducible assumption) (by decide +kernel) (by intro _; kernel_rfl) (by with_reducible exact bb_zip) ?_ (by decide +kernel) (by decide +kernel)
  refine ⟨_, rfl, by (first | exact keep_B | exact keep_T | exact keepK (by with_reducible assumption) (by intro _; kernel_rfl)), ?_⟩
  refine evl_cons ?_
  refine ev_name (by (repeat' (first | with_reducible exact lk_here | refine lk_there (by decide +kernel) ?_ | refine lk_free (by decide +kernel) ?_ | with_reducible assumption))) ?_ (by decide +kernel) (by decide +kernel)
  refine evl_cons ?_
  refine ev_name (by (repeat' (first | with_reducible exact lk_here | refine lk_there (by decide +kernel) ?_ | refine lk_free (by decide +kernel) ?_ | with_reducible assumption))) ?_ (by decide +kernel) (by decide +kernel)
  refine evl_nil ?_
  refine cli_zip ?_
  rw [show ((((qs.map (textOf (twoOf e))).map fun l => D.str (S l)).zip ((qs.map (pairSum e)).map dueD)).map fun p => D.tup [p.1, p.2]) = qs.map fun fs => D.tup [.str (S (textOf (twoOf e) fs)), dueD (pairSum e fs)] by
    rw [List.map_map, List.map_map, List.zip_map', List.map_map]; rfl]
  refine ⟨fun i σ => (has σ "two" (.dat (.str (S (twoOf e)))) ∧ has σ "altchars" (.dat (.bytes (altOf e).toArray))) ∧
    has σ "items" (.dat (.lst ((qs.map (textOf (twoOf e))).map fun l => .str (S l)))) ∧ has σ "dues" (.dat (.lst ((qs.map (pairSum e)).map dueD))),
    ⟨⟨by (repeat' (first | with_reducible exact lk_here | refine lk_there (by decide +kernel) ?_ | refine lk_free (by decide +kernel) ?_ | with_reducible assumption)), by (repeat' (first | with_reducible exact lk_here | refine lk_there (by decide +kernel) ?_ | refine lk_free (by decide +kernel) ?_ | with_reducible assumption))⟩, by (repeat' (first | with_reducible exact lk_here | refine lk_there (by decide +kernel) ?_ | refine lk_free (by decide +kernel) ?_ | with_reducible assumption)), by (repeat' (first | with_reducible exact lk_here | refine lk_there (by decide +kernel) ?_ | refine lk_free (by decide +kernel) ?_ | with_reducible assumption))⟩, ?_, ?_⟩
  · clear l1 l2 l3 l4 l5
    rintro i d σ₁ hd ⟨⟨l1, l2⟩, l3, l4⟩
    obtain ⟨fs, hp, rfl⟩ : ∃ fs, fs ∈ qs ∧ d = .tup [.str (S (textOf (twoOf e) fs)), dueD (pairSum e fs)] := by
      rw [List.getElem?_map] at hd
      obtain ⟨p, q, r⟩ := Option.map_eq_some_iff.mp hd
      exact ⟨p, List.mem_of_getElem? q, r.symm⟩
    have hin : ∀ x ∈ [fs], x ∈ qs := fun x hx => by obtain rfl := List.mem_singleton.mp hx; exact hp
    refine asg_tup2 (by (first | exact st_loc (by with_reducible assumption) (by decide +kernel) | exact st_cell (by with_reducible assumption) (by first | with_reducible assumption | exact FnCx.comp (by assumption)) (by decide +kernel))) (by (first | exact st_loc (by with_reducible assumption) (by decide +kernel) | exact st_cell (by with_reducible assumption) (by first | with_reducible assumption | exact FnCx.comp (by assumption)) (by decide +kernel))) ?_
    refine ex_cons ?_
    refine ex_if ?_
    refine evb_compare ?_
    refine ev_call ?_
    refine ev_globalK (by with_reducible assumption) (by with_reducible assumption) (by decide +kernel) (by intro _; rfl) ?_ (by decide +kernel)
    refine call_pos0 (by (first | exact keep_B | exact keep_T | exact keepK (by with_reducible assumption) (by intro _; kernel_rfl))) ?_
    refine evl_cons ?_
    refine ev_list ?_
    refine evl_cons ?_
    refine ev_name (by (repeat' (first | with_reducible exact lk_here | refine lk_there (by decide +kernel) ?_ | refine lk_free (by decide +kernel) ?_ | with_reducible assumption))) ?_ (by decide +kernel) (by decide +kernel)
    refine evl_nil ?_
    refine ⟨hsmall _ (by show 1 ≤ 100; omega), ?_⟩
    refine evl_nil ?_
    refine cl_eq (fn_law_list _ hK [textOf (twoOf e) fs] (by show 1 ≤ 1000; omega) (fun l hl => by obtain rfl := List.mem_singleton.mp hl; exact htz _ (List.mem_map_of_mem hp)) (fun es h => Nat.le_trans (prun_len _ _ _ h) (by show 0 + 1 ≤ 1000; omega))) (by omega) ?_
    rw [show lres (prun [] [textOf (twoOf e) fs]) = dueRes (twoOf e) [pairSum e fs] from hpl [fs] hin]
    refine ev_call ?_
    refine ev_globalK (by with_reducible assumption) (by with_reducible assumption) (by decide +kernel) (by intro _; rfl) ?_ (by decide +kernel)
    refine call_pos0 (by (first | exact keep_B | exact keep_T | exact keepK (by with_reducible assumption) (by intro _; kernel_rfl))) ?_
    refine evl_cons ?_
    refine ev_list ?_
    refine evl_cons ?_
    refine ev_name (by (repeat' (first | with_reducible exact lk_here | refine lk_there (by decide +kernel) ?_ | refine lk_free (by decide +kernel) ?_ | with_reducible assumption))) ?_ (by decide +kernel) (by decide +kernel)
    refine evl_nil ?_
    refine ⟨hsmall _ (by show 1 ≤ 100; omega), ?_⟩
    refine evl_cons ?_
    refine ev_name (by (repeat' (first | with_reducible exact lk_here | refine lk_there (by decide +kernel) ?_ | refine lk_free (by decide +kernel) ?_ | with_reducible assumption))) ?_ (by decide +kernel) (by decide +kernel)
    refine evl_nil ?_
    refine cl_eq (fn_law_due _ hK [pairSum e fs] (twoOf e) (two_len e) (by show 1 ≤ 24; omega) (hsR [fs] hin)) (by omega) ?_
    refine pr_ne_same (n := 2) (hok [fs] hin) (by decide) ?_
    refine tr_bool ?_
    with_reducible refine br_f ?_
    refine ex_nil ?_
    with_reducible refine then_next ?_
    refine ex_nil ?_
    exact ⟨⟨by (repeat' (first | with_reducible exact lk_here | refine lk_there (by decide +kernel) ?_ | refine lk_free (by decide +kernel) ?_ | with_reducible assumption)), by (repeat' (first | with_reducible exact lk_here | refine lk_there (by decide +kernel) ?_ | refine lk_free (by decide +kernel) ?_ | with_reducible assumption))⟩, by (repeat' (first | with_reducible exact lk_here | refine lk_there (by decide +kernel) ?_ | refine lk_free (by decide +kernel) ?_ | with_reducible assumption)), by (repeat' (first | with_reducible exact lk_here | refine lk_there (by decide +kernel) ?_ | refine lk_free (by decide +kernel) ?_ | with_reducible assumption))⟩
  clear l1 l2 l3 l4 l5
  rintro σ₁ ⟨⟨l1, l2⟩, l3, l4⟩
  with_reducible refine then_next ?_
  refine ex_cons ?_
  refine ex_if ?_
  refine evb_compare ?_
  refine ev_call ?_
  refine ev_globalK (by with_reducible assumption) (by with_reducible assumption) (by decide +kernel) (by intro _; rfl) ?_ (by decide +kernel)
  refine call_pos0 (by (first | exact keep_B | exact keep_T | exact keepK (by with_reducible assumption) (by intro _; kernel_rfl))) ?_
  refine evl_cons ?_
  refine ev_name (by (repeat' (first | with_reducible exact lk_here | refine lk_there (by decide +kernel) ?_ | refine lk_free (by decide +kernel) ?_ | with_reducible assumption))) ?_ (by decide +kernel) (by decide +kernel)
  refine evl_nil ?_
  have hall : ∀ x ∈ qs, x ∈ qs := fun _ h => h
  refine cl_eq (fn_law_list _ hK (qs.map (textOf (twoOf e))) (by rw [List.length_map]; omega) htz (fun es h => Nat.le_trans (prun_len _ _ _ h) (by rw [List.length_map]; show 0 + qs.length ≤ 1000; omega))) (by omega) ?_
  rw [hpl qs hall]
  refine ev_call ?_
  refine ev_globalK (by with_reducible assumption) (by with_reducible assumption) (by decide +kernel) (by intro _; rfl) ?_ (by decide +kernel)
  refine call_pos0 (by (first | exact keep_B | exact keep_T | exact keepK (by with_reducible assumption) (by intro _; kernel_rfl))) ?_
  refine evl_cons ?_
  refine ev_name (by (repeat' (first | with_reducible exact lk_here | refine lk_there (by decide +kernel) ?_ | refine lk_free (by decide +kernel) ?_ | with_reducible assumption))) ?_ (by decide +kernel) (by decide +kernel)
  refine evl_cons ?_
  refine ev_name (by (repeat' (first | with_reducible exact lk_here | refine lk_there (by decide +kernel) ?_ | refine lk_free (by decide +kernel) ?_ | with_reducible assumption))) ?_ (by decide +kernel) (by decide +kernel)
  refine evl_nil ?_
  refine cl_eq (fn_law_due _ hK (qs.map (pairSum e)) (twoOf e) (two_len e) (by rw [List.length_map]; omega) (hsR qs hall)) (by omega) ?_
  refine pr_ne_same (n := 2) (hok qs hall) (by decide) ?_
  refine tr_bool ?_
  with_reducible refine br_f ?_
  refine ex_nil ?_
  with_reducible refine then_next ?_
  refine ex_cons ?_
  have hget : ∀ i d, ((qs.map (pairSum e)).map dueD)[i]? = some d → ∃ fs, qs[i]? = some fs ∧ d = dueD (pairSum e fs) := fun i d hi => by
    rw [List.map_map, List.getElem?_map] at hi
    obtain ⟨p, q, r⟩ := Option.map_eq_some_iff.mp hi
    exact ⟨p, q, r.symm⟩
  have hls : ∀ l : List (List Nat), l.length ≤ 15 → l.length ≤ sizeLine := fun l h => hsmall _ (by omega)
  refine ex_comp hsc (evi_of ?_)
  refine ev_name (by (repeat' (first | with_reducible exact lk_here | refine lk_there (by decide +kernel) ?_ | refine lk_free (by decide +kernel) ?_ | with_reducible assumption))) ?_ (by decide +kernel) (by decide +kernel)
  refine itr_list trivial ?_
  refine ⟨by rw [List.length_map, List.length_map]; exact hls qs hql, fun i ys => ys = (rights ((qs.take i).map (pairSum e))).map pairI, rfl, ?_, ?_⟩
  · rintro i d ys C' hS hi rfl
    have hK' := sub_K hS hK
    have hsc' := hS.scope
    obtain ⟨fs, hp, rfl⟩ := hget i d hi
    have hst : qs.take (i + 1) = qs.take i ++ [fs] := by rw [List.take_add_one, hp]; rfl
    cases hps : pairSum e fs with
    | inl s =>
      refine asg_name (by (first | exact st_loc (by with_reducible assumption) (by decide +kernel) | exact st_cell (by with_reducible assumption) (by first | with_reducible assumption | exact FnCx.comp (by assumption)) (by decide +kernel))) ?_
      show EVB C' (("due", .dat (.str s)) :: _) _ _ _
      refine tests_one ?_
      refine evb_compare ?_
      refine ev_call ?_
      refine ev_typeK (by with_reducible assumption) (by with_reducible assumption) (by decide +kernel) (by intro _; kernel_rfl) (by with_reducible exact bb_type) ?_ (by decide +kernel) (by decide +kernel)
      refine call_pos0 (by (first | exact keep_B | exact keep_T | exact keepK (by with_reducible assumption) (by intro _; kernel_rfl))) ?_
      refine evl_cons ?_
      refine ev_name (by (repeat' (first | with_reducible exact lk_here | refine lk_there (by decide +kernel) ?_ | refine lk_free (by decide +kernel) ?_ | with_reducible assumption))) ?_ (by decide +kernel) (by decide +kernel)
      refine evl_nil ?_
      refine cl_type (fun _ e => nomatch e) ?_
      refine ev_typeK (by with_reducible assumption) (by with_reducible assumption) (by decide +kernel) (by intro _; kernel_rfl) (by with_reducible exact bb_str) ?_ (by decide +kernel) (by decide +kernel)
      refine pr_isNot (t := false) (by rfl) (by rfl) ?_
      refine tr_bool ?_
      with_reducible refine br_f ?_
      show _ = _
      rw [hst, List.map_append, rights_app, List.map_singleton, hps]
      show _ = (_ ++ []).map pairI
      rw [List.append_nil]
    | inr p =>
      refine asg_name (by (first | exact st_loc (by with_reducible assumption) (by decide +kernel) | exact st_cell (by with_reducible assumption) (by first | with_reducible assumption | exact FnCx.comp (by assumption)) (by decide +kernel))) ?_
      show EVB C' (("due", .dat (.tup [intsD p.1, intsD p.2])) :: _) _ _ _
      refine tests_one ?_
      refine evb_compare ?_
      refine ev_call ?_
      refine ev_typeK (by with_reducible assumption) (by with_reducible assumption) (by decide +kernel) (by intro _; kernel_rfl) (by with_reducible exact bb_type) ?_ (by decide +kernel) (by decide +kernel)
      refine call_pos0 (by (first | exact keep_B | exact keep_T | exact keepK (by with_reducible assumption) (by intro _; kernel_rfl))) ?_
      refine evl_cons ?_
      refine ev_name (by (repeat' (first | with_reducible exact lk_here | refine lk_there (by decide +kernel) ?_ | refine lk_free (by decide +kernel) ?_ | with_reducible assumption))) ?_ (by decide +kernel) (by decide +kernel)
      refine evl_nil ?_
      refine cl_type (fun _ e => nomatch e) ?_
      refine ev_typeK (by with_reducible assumption) (by with_reducible assumption) (by decide +kernel) (by intro _; kernel_rfl) (by with_reducible exact bb_str) ?_ (by decide +kernel) (by decide +kernel)
      refine pr_isNot (t := true) (by rfl) (by rfl) ?_
      refine tr_bool ?_
      with_reducible refine br_t ?_
      refine ev_name (by (repeat' (first | with_reducible exact lk_here | refine lk_there (by decide +kernel) ?_ | refine lk_free (by decide +kernel) ?_ | with_reducible assumption))) ?_ (by decide +kernel) (by decide +kernel)
      show _ = _
      rw [hst, List.map_append, rights_app, List.map_singleton, hps, List.map_append]; rfl
  rintro ys rfl
  rw [List.length_map, List.length_map, List.take_length]
  with_reducible refine then_next ?_
  refine ex_cons ?_
  refine ex_assign (by (first | exact st_loc (by with_reducible assumption) (by decide +kernel) | exact st_cell (by with_reducible assumption) (by first | with_reducible assumption | exact FnCx.comp (by assumption)) (by decide +kernel))) ?_
  refine ev_call ?_
  refine ev_globalK (by with_reducible assumption) (by with_reducible assumption) (by decide +kernel) (by intro _; rfl) ?_ (by decide +kernel)
  refine call_pos0 (by (first | exact keep_B | exact keep_T | exact keepK (by with_reducible assumption) (by intro _; kernel_rfl))) ?_
  refine evl_cons ?_
  refine ev_comp (hnc := by decide +kernel) (hfree := by decide +kernel) (hnames := by decide +kernel) hsc (evi_call ?_)
  refine ev_typeK (by with_reducible assumption) (by with_reducible assumption) (by decide +kernel) (by intro _; kernel_rfl) (by with_reducible exact bb_zip) ?_ (by decide +kernel) (by decide +kernel)
  refine ⟨_, rfl, by (first | exact keep_B | exact keep_T | exact keepK (by with_reducible assumption) (by intro _; kernel_rfl)), ?_⟩
  refine evl_cons ?_
  refine ev_name (by (repeat' (first | with_reducible exact lk_here | refine lk_there (by decide +kernel) ?_ | refine lk_free (by decide +kernel) ?_ | with_reducible assumption))) ?_ (by decide +kernel) (by decide +kernel)
  refine evl_cons ?_
  refine ev_name (by (repeat' (first | with_reducible exact lk_here | refine lk_there (by decide +kernel) ?_ | refine lk_free (by decide +kernel) ?_ | with_reducible assumption))) ?_ (by decide +kernel) (by decide +kernel)
  refine evl_nil ?_
  refine cli_zip ?_
  rw [show ((((qs.map (textOf (twoOf e))).map fun l => D.str (S l)).zip ((qs.map (pairSum e)).map dueD)).map fun p => D.tup [p.1, p.2]) = qs.map fun fs => D.tup [.str (S (textOf (twoOf e) fs)), dueD (pairSum e fs)] by
    rw [List.map_map, List.map_map, List.zip_map', List.map_map]; rfl]
  refine ⟨by rw [List.length_map]; exact hls qs hql, fun i ys => ys = (((qs.take i).filter fun fs => isR (pairSum e fs)).map (textOf (twoOf e))).map (fun l => .str (S l)), rfl, ?_, ?_⟩
  · rintro i d ys C' hS hi rfl
    have hK' := sub_K hS hK
    have hsc' := hS.scope
    obtain ⟨fs, hp, rfl⟩ : ∃ fs, qs[i]? = some fs ∧ d = .tup [.str (S (textOf (twoOf e) fs)), dueD (pairSum e fs)] := by
      rw [List.getElem?_map] at hi
      obtain ⟨p, q, r⟩ := Option.map_eq_some_iff.mp hi
      exact ⟨p, q, r.symm⟩
    have hst : qs.take (i + 1) = qs.take i ++ [fs] := by rw [List.take_add_one, hp]; rfl
    cases hps : pairSum e fs with
    | inl s =>
      refine asg_tup2 (by (first | exact st_loc (by with_reducible assumption) (by decide +kernel) | exact st_cell (by with_reducible assumption) (by first | with_reducible assumption | exact FnCx.comp (by assumption)) (by decide +kernel))) (by (first | exact st_loc (by with_reducible assumption) (by decide +kernel) | exact st_cell (by with_reducible assumption) (by first | with_reducible assumption | exact FnCx.comp (by assumption)) (by decide +kernel))) ?_
      show EVB C' (("due", .dat (.str s)) :: _) _ _ _
      refine tests_one ?_
      refine evb_compare ?_
      refine ev_call ?_
      refine ev_typeK (by with_reducible assumption) (by with_reducible assumption) (by decide +kernel) (by intro _; kernel_rfl) (by with_reducible exact bb_type) ?_ (by decide +kernel) (by decide +kernel)
      refine call_pos0 (by (first | exact keep_B | exact keep_T | exact keepK (by with_reducible assumption) (by intro _; kernel_rfl))) ?_
      refine evl_cons ?_
      refine ev_name (by (repeat' (first | with_reducible exact lk_here | refine lk_there (by decide +kernel) ?_ | refine lk_free (by decide +kernel) ?_ | with_reducible assumption))) ?_ (by decide +kernel) (by decide +kernel)
      refine evl_nil ?_
      refine cl_type (fun _ e => nomatch e) ?_
      refine ev_typeK (by with_reducible assumption) (by with_reducible assumption) (by decide +kernel) (by intro _; kernel_rfl) (by with_reducible exact bb_str) ?_ (by decide +kernel) (by decide +kernel)
      refine pr_isNot (t := false) (by rfl) (by rfl) ?_
      refine tr_bool ?_
      with_reducible refine br_f ?_
      show _ = _
      rw [hst, List.filter_append, List.filter_cons, hps, if_neg (show ¬ isR (.inl s) = true from nofun), List.filter_nil, List.append_nil]
    | inr p =>
      refine asg_tup2 (by (first | exact st_loc (by with_reducible assumption) (by decide +kernel) | exact st_cell (by with_reducible assumption) (by first | with_reducible assumption | exact FnCx.comp (by assumption)) (by decide +kernel))) (by (first | exact st_loc (by with_reducible assumption) (by decide +kernel) | exact st_cell (by with_reducible assumption) (by first | with_reducible assumption | exact FnCx.comp (by assumption)) (by decide +kernel))) ?_
      show EVB C' (("due", .dat (.tup [intsD p.1, intsD p.2])) :: _) _ _ _
      refine tests_one ?_
      refine evb_compare ?_
      refine ev_call ?_
      refine ev_typeK (by with_reducible assumption) (by with_reducible assumption) (by decide +kernel) (by intro _; kernel_rfl) (by with_reducible exact bb_type) ?_ (by decide +kernel) (by decide +kernel)
      refine call_pos0 (by (first | exact keep_B | exact keep_T | exact keepK (by with_reducible assumption) (by intro _; kernel_rfl))) ?_
      refine evl_cons ?_
      refine ev_name (by (repeat' (first | with_reducible exact lk_here | refine lk_there (by decide +kernel) ?_ | refine lk_free (by decide +kernel) ?_ | with_reducible assumption))) ?_ (by decide +kernel) (by decide +kernel)
      refine evl_nil ?_
      refine cl_type (fun _ e => nomatch e) ?_
      refine ev_typeK (by with_reducible assumption) (by with_reducible assumption) (by decide +kernel) (by intro _; kernel_rfl) (by with_reducible exact bb_str) ?_ (by decide +kernel) (by decide +kernel)
      refine pr_isNot (t := true) (by rfl) (by rfl) ?_
      refine tr_bool ?_
      with_reducible refine br_t ?_
      refine ev_name (by (repeat' (first | with_reducible exact lk_here | refine lk_there (by decide +kernel) ?_ | refine lk_free (by decide +kernel) ?_ | with_reducible assumption))) ?_ (by decide +kernel) (by decide +kernel)
      show _ = _
      rw [hst, List.filter_append, List.filter_cons, hps, if_pos (show isR (.inr p) = true from rfl), List.filter_nil, List.map_append, List.map_append]; rfl
  rintro ys rfl
  rw [List.length_map, List.take_length]
  have hfq : ∀ x ∈ qs.filter (fun fs => isR (pairSum e fs)), x ∈ qs := fun x hx => (List.mem_filter.mp hx).1
  have hfl : (qs.filter fun fs => isR (pairSum e fs)).length ≤ 15 := Nat.le_trans (List.length_filter_le _ _) hql
  refine evl_nil ?_
  refine cl_eq (fn_law_list _ hK ((qs.filter fun fs => isR (pairSum e fs)).map (textOf (twoOf e))) (by rw [List.length_map]; omega) (fun l hl => by
      obtain ⟨x, hx, rfl⟩ := List.mem_map.mp hl
      exact htz _ (List.mem_map_of_mem (hfq x hx))) (fun es h => Nat.le_trans (prun_len _ _ _ h) (by rw [List.length_map]; show 0 + (qs.filter fun fs => isR (pairSum e fs)).length ≤ 1000; omega))) (by omega) ?_
  rw [told_law he qs fun fs hf => (hqs fs hf).2]
  have hRs := hsR qs hall
  have hRl : (rights (qs.map (pairSum e))).length ≤ 15 := by have := rights_le (qs.map (pairSum e)); rw [List.length_map] at this; omega
  generalize rights (qs.map (pairSum e)) = R at *
  have hms := merged_small hRs
  have hdl : dueRes (twoOf e) (R.map Sum.inr) = .lst ((merged R).map (textD (twoOf e))) := due_sound _ _
  have hdk : okD 2 (.lst ((merged R).map (textD (twoOf e)))) := by
    rw [← hdl]
    refine dueRes_ok he (fun s hs => ?_) (by rw [(sums_inr R).2]; exact hRs)
    obtain ⟨_, _, q⟩ := List.mem_map.mp hs
    cases q
  have hdc := fn_law_due _ hK (R.map Sum.inr) (twoOf e) (two_len e) (by rw [List.length_map]; omega) (by rw [(sums_inr R).2]; exact hRs)
  rw [hdl, List.map_map] at hdc
  with_reducible refine then_next ?_
  refine ex_cons ?_
  refine ex_if ?_
  refine evb_compare ?_
  refine ev_name (by (repeat' (first | with_reducible exact lk_here | refine lk_there (by decide +kernel) ?_ | refine lk_free (by decide +kernel) ?_ | with_reducible assumption))) ?_ (by decide +kernel) (by decide +kernel)
  refine ev_call ?_
  refine ev_globalK (by with_reducible assumption) (by with_reducible assumption) (by decide +kernel) (by intro _; rfl) ?_ (by decide +kernel)
  refine call_pos0 (by (first | exact keep_B | exact keep_T | exact keepK (by with_reducible assumption) (by intro _; kernel_rfl))) ?_
  refine evl_cons ?_
  refine ev_name (by (repeat' (first | with_reducible exact lk_here | refine lk_there (by decide +kernel) ?_ | refine lk_free (by decide +kernel) ?_ | with_reducible assumption))) ?_ (by decide +kernel) (by decide +kernel)
  refine evl_cons ?_
  refine ev_name (by (repeat' (first | with_reducible exact lk_here | refine lk_there (by decide +kernel) ?_ | refine lk_free (by decide +kernel) ?_ | with_reducible assumption))) ?_ (by decide +kernel) (by decide +kernel)
  refine evl_nil ?_
  refine cl_eq (ds := [.lst (R.map pairI), .str (S (twoOf e))]) hdc (by omega) ?_
  refine pr_ne_same (n := 2) hdk (by decide) ?_
  refine tr_bool ?_
  with_reducible refine br_f ?_
  refine ex_nil ?_
  with_reducible refine then_next ?_
  refine ex_cons ?_
  refine ex_for hcm (evi_call ?_)
  refine ev_typeK (by with_reducible assumption) (by with_reducible assumption) (by decide +kernel) (by intro _; kernel_rfl) (by with_reducible exact bb_zip) ?_ (by decide +kernel) (by decide +kernel)
  refine ⟨_, rfl, by (first | exact keep_B | exact keep_T | exact keepK (by with_reducible assumption) (by intro _; kernel_rfl)), ?_⟩
  refine evl_cons ?_
  refine ev_name (by (repeat' (first | with_reducible exact lk_here | refine lk_there (by decide +kernel) ?_ | refine lk_free (by decide +kernel) ?_ | with_reducible assumption))) ?_ (by decide +kernel) (by decide +kernel)
  refine evl_cons ?_
  refine ev_call ?_
  refine ev_globalK (by with_reducible assumption) (by with_reducible assumption) (by decide +kernel) (by intro _; rfl) ?_ (by decide +kernel)
  refine call_pos0 (by (first | exact keep_B | exact keep_T | exact keepK (by with_reducible assumption) (by intro _; kernel_rfl))) ?_
  refine evl_cons ?_
  refine ev_name (by (repeat' (first | with_reducible exact lk_here | refine lk_there (by decide +kernel) ?_ | refine lk_free (by decide +kernel) ?_ | with_reducible assumption))) ?_ (by decide +kernel) (by decide +kernel)
  refine evl_nil ?_
  refine cl_eq (fn_law_merged _ hK R (by omega)) (by omega) ?_
  refine evl_nil ?_
  refine cli_zip ?_
  rw [show (((merged R).map (textD (twoOf e))).zip ((merged R).map pairI)).map (fun p => D.tup [p.1, p.2]) = (merged R).map fun p => D.tup [textD (twoOf e) p, pairI p] by rw [List.zip_map', List.map_map]; rfl]
  refine ⟨fun i σ => has σ "altchars" (.dat (.bytes (altOf e).toArray)), by (repeat' (first | with_reducible exact lk_here | refine lk_there (by decide +kernel) ?_ | refine lk_free (by decide +kernel) ?_ | with_reducible assumption)), ?_, ?_⟩
  · clear l1 l2 l3 l4
    rintro i d σ₁ hd l1
    obtain ⟨p, hp, rfl⟩ : ∃ p, p ∈ merged R ∧ d = .tup [textD (twoOf e) p, pairI p] := by
      rw [List.getElem?_map] at hd
      obtain ⟨p, q, r⟩ := Option.map_eq_some_iff.mp hd
      exact ⟨p, List.mem_of_getElem? q, r.symm⟩
    have hsp := hms p hp
    refine asg_tup2 (by (first | exact st_loc (by with_reducible assumption) (by decide +kernel) | exact st_cell (by with_reducible assumption) (by first | with_reducible assumption | exact FnCx.comp (by assumption)) (by decide +kernel))) (by (first | exact st_loc (by with_reducible assumption) (by decide +kernel) | exact st_cell (by with_reducible assumption) (by first | with_reducible assumption | exact FnCx.comp (by assumption)) (by decide +kernel))) ?_
    refine ex_cons ?_
    refine ex_for hcm (evi_call ?_)
    refine ev_typeK (by with_reducible assumption) (by with_reducible assumption) (by decide +kernel) (by intro _; kernel_rfl) (by with_reducible exact bb_zip) ?_ (by decide +kernel) (by decide +kernel)
    refine ⟨_, rfl, by (first | exact keep_B | exact keep_T | exact keepK (by with_reducible assumption) (by intro _; kernel_rfl)), ?_⟩
    refine evl_cons ?_
    refine ev_name (by (repeat' (first | with_reducible exact lk_here | refine lk_there (by decide +kernel) ?_ | refine lk_free (by decide +kernel) ?_ | with_reducible assumption))) ?_ (by decide +kernel) (by decide +kernel)
    refine evl_cons ?_
    refine ev_name (by (repeat' (first | with_reducible exact lk_here | refine lk_there (by decide +kernel) ?_ | refine lk_free (by decide +kernel) ?_ | with_reducible assumption))) ?_ (by decide +kernel) (by decide +kernel)
    refine evl_nil ?_
    refine cli_ziptup (as := [.str (S (textOf (twoOf e) p.1)), .str (S (textOf (twoOf e) p.2))]) (bs := [intsD p.1, intsD p.2]) ?_
    refine ⟨fun i σ => has σ "altchars" (.dat (.bytes (altOf e).toArray)), by (repeat' (first | with_reducible exact lk_here | refine lk_there (by decide +kernel) ?_ | refine lk_free (by decide +kernel) ?_ | with_reducible assumption)), ?_, ?_⟩
    · clear l1 hd
      rintro j d σ₂ hd l1
      obtain ⟨q, hq1, hq2, rfl⟩ : ∃ q : List Nat, q.length ≤ 24 ∧ (∀ f ∈ q, f < 64) ∧ d = .tup [.str (S (textOf (twoOf e) q)), intsD q] := by
        have hm := List.mem_of_getElem? hd
        simp only [List.zip_cons_cons, List.zip_nil_right, List.map_cons, List.map_nil, List.mem_cons, List.not_mem_nil, or_false] at hm
        rcases hm with rfl | rfl
        · exact ⟨p.1, hsp.1.1, hsp.1.2, rfl⟩
        · exact ⟨p.2, hsp.2.1, hsp.2.2, rfl⟩
      have htq : (textOf (twoOf e) q).length ≤ 100 := by unfold textOf; rw [List.length_map]; omega
      refine asg_tup2 (by (first | exact st_loc (by with_reducible assumption) (by decide +kernel) | exact st_cell (by with_reducible assumption) (by first | with_reducible assumption | exact FnCx.comp (by assumption)) (by decide +kernel))) (by (first | exact st_loc (by with_reducible assumption) (by decide +kernel) | exact st_cell (by with_reducible assumption) (by first | with_reducible assumption | exact FnCx.comp (by assumption)) (by decide +kernel))) ?_
      refine ex_cons ?_
      refine ex_if ?_
      refine evb_compare ?_
      refine ev_call ?_
      refine ev_globalK (by with_reducible assumption) (by with_reducible assumption) (by decide +kernel) (by intro _; rfl) ?_ (by decide +kernel)
      refine call_pos0 (by (first | exact keep_B | exact keep_T | exact keepK (by with_reducible assumption) (by intro _; kernel_rfl))) ?_
      refine evl_cons ?_
      refine ev_name (by (repeat' (first | with_reducible exact lk_here | refine lk_there (by decide +kernel) ?_ | refine lk_free (by decide +kernel) ?_ | with_reducible assumption))) ?_ (by decide +kernel) (by decide +kernel)
      refine evl_cons ?_
      refine ev_name (by (repeat' (first | with_reducible exact lk_here | refine lk_there (by decide +kernel) ?_ | refine lk_free (by decide +kernel) ?_ | with_reducible assumption))) ?_ (by decide +kernel) (by decide +kernel)
      refine evl_nil ?_
      refine cl_eq (fn_law_told_alt _ hK herr (textOf (twoOf e) q) (altOf e) q (by unfold altOf; rw [List.length_map, two_len]) (text_lt he hq2) htq hq2 (by omega) (trans_back he hq2)) (by omega) ?_
      refine ev_call ?_
      refine ev_globalK (by with_reducible assumption) (by with_reducible assumption) (by decide +kernel) (by intro _; rfl) ?_ (by decide +kernel)
      refine call_pos0 (by (first | exact keep_B | exact keep_T | exact keepK (by with_reducible assumption) (by intro _; kernel_rfl))) ?_
      refine evl_cons ?_
      refine ev_name (by (repeat' (first | with_reducible exact lk_here | refine lk_there (by decide +kernel) ?_ | refine lk_free (by decide +kernel) ?_ | with_reducible assumption))) ?_ (by decide +kernel) (by decide +kernel)
      refine evl_nil ?_
      refine cl_eq (fn_law_read _ hK q hq1) (by omega) ?_
      refine pr_ne_alike (a := readD q) (readD_ok (by omega)) ?_
      refine tr_bool ?_
      with_reducible refine br_f ?_
      refine ex_nil ?_
      with_reducible refine then_next ?_
      refine ex_nil ?_
      exact l1
    · rintro σ₂ l2
      with_reducible refine then_next ?_
      refine ex_nil ?_
      exact l2
  · rintro σ₂ _
    with_reducible refine then_next ?_
    refine ex_cons ?_
    refine ex_return ?_
    with_reducible refine ev_bool ?_
    exact rfl

end Mine
open PySem PySem.W PySem.Calls PyProof.Rows
theorem PySem.Challenge.cw_qh0086_01_holds : PySem.Challenge.rw_qh0086_01.Holds := by
  w_on
  o_law
  refine holds_open (q := Mine.hd01.view) (loose := Mine.hd01.loose) (Xt := fun s => xlAt Mine.hd01.view [] s && recOk (RowW.records PySem.Challenge.rw_qh0086_01.row.toRowW) s) (XP := XL Mine.hd01.view []) (Yf := Hook.obs Mine.hd01.hook) (Ya := Hook.val Mine.hd01.hook) (YP := Hook.says Mine.hd01.hook) (N := 1958)
    Mine.hd01.left (Hook.of Mine.hd01.hook) (Hook.keeps Mine.hd01.hook) (fun s e => xl_of s (Bool.and_eq_true_iff.mp e).1) XL.keeps (by rfl) (by rfl) (by rfl) (fun s e => recFacts_of (Bool.and_eq_true_iff.mp e).2) (by rfl) (by first | assumption | decide +kernel) (by decide +kernel) ⟨rfl, rfl, rfl, rfl, rfl, by decide +kernel⟩ ?hw ?hc
  case hw => w_witness2
  case hc =>
    k_go0
    rename_i hcond _ _ _ _ _ _
    refine Mine.run_law (K := Mine.hd01.heap_39 _) (by assumption) (topRead_of (by assumption)) (by assumption) (by assumption) (by assumption) (x0 := "script") rfl rfl (by decide +kernel) (by decide +kernel) 6 (by omega)
      (Mine.fn_law _ rfl (Mine.errAt_K (by assumption) (by rfl) (by kernel_rfl) (by kernel_rfl) (by kernel_rfl)) _ (by omega) ⟨_, _, _, _, _, _, _, _, _, _, _, _, rfl⟩) ?_
    intro h' tk' hk
    refine ⟨.inl ⟨.bool true, .bool true, [], rfl, fun _ => rfl, .bool true, ?_, fun _ => ⟨List.nodup_nil, fun _ h => nomatch h⟩⟩, hk, rfl, by assumption⟩
    kernel_rfl

