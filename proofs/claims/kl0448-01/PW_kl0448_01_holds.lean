import PyProof.Rows.All
import PyProof.RulesTry
import PyProof.FactsAll.object_1
import PyProof.FactsAll.object_2
import PyProof.AutoListH
import PyProof.SliceList
import PyProof.DictKinds
import PyProof.DictCalls
import PyProof.DictCompW
import PyProof.EnumMake
import PyProof.ExcFactsAll.ValueError
import PyProof.RaisesMany
import PyProof.StationsW
import PyProof.ExcStrAll.ValueError
import PyProof.ExcStrCall
import PyProof.StrLawsIn
import PyProof.StrLawsChain
import PyProof.GenObj
import PyProof.GenQ
import PyProof.IsiHeapPairs
import PyProof.LetGo
import PyProof.WalkInts
import PyProof.RulesAs
import PyProof.Rows.StrJoin2
import PyProof.Rows.StrBin
import PyProof.Rows.BitMore
import PyProof.Rows.CallKw2
import PyProof.WalksEnum
import PyProof.Rows.ListMul
import PyProof.SliceMore
import PyProof.TupleOfSeq
import PyProof.Rows.SortShellK
import KE.BytesMake
import KE.IntBitsLaws
import KE.KItem
import KE.KBytesWalk
import KE.KLam
import KE.KDictIter
import KE.KSortTup
import Wide.FinOn
import OpenK.AllK
import Wide.All
import PySem.Challenge.RW_kl0448_01
open PySem PySem.W PySem.Calls PySem.Spec PyProof.Rows
set_option Elab.async false
set_option linter.unusedVariables false
set_option linter.unusedSimpArgs false
set_option maxRecDepth 100000
set_option maxHeartbeats 4000000
namespace Mine.Internal
/-- the goal put out of sight while a fact is taken apart -/
theorem hideG {G : Prop} (h : ¬ G → False) : G := Classical.byContradiction h
local macro_rules | `(tactic| omega) => `(tactic| lia)
local macro_rules | `(tactic| obtain $p := $e) => `(tactic| (refine Mine.Internal.hideG fun hn => ?_; rcases $e:term with $p <;> (refine hn ?_; clear hn)))
local macro_rules | `(tactic| cases $e:ident) => `(tactic| (have hq := Option.some.inj $e; clear $e; subst hq))
section -- C1
def syN (k : String) (as : List Lean.Syntax) : Lean.Syntax := .node .none k.toName as.toArray
def syA (s : String) : Lean.Syntax := .atom .none s
def syP (k : String) (as : List Lean.Syntax) : Lean.Syntax := syN ("Lean.Parser.Tactic." ++ k) (syA k :: as)
def syQ (l : List Lean.Syntax) : Lean.Syntax := syN "Lean.Parser.Tactic.tacticSeq" [syN "Lean.Parser.Tactic.tacticSeq1Indented" [syN "null" l]]
def syX : Lean.Syntax := syP "tacticRfl" []
def syY : Lean.Syntax := syP "withUnfoldingAll" [syQ [syX]]
def syZ (n : Nat) (r : Lean.Syntax) : Lean.Syntax := syQ [syP "intro" [syN "null" (List.replicate n (syN "Lean.Parser.Term.hole" [syA "_"]))], syA ";", r]
def syR : Lean.Syntax := syQ [syX]
def syU : Lean.Syntax := syQ [syY]
def syI : Lean.Syntax := syZ 1 syX
def syJ : Lean.Syntax := syZ 2 syX
def syV : Lean.Syntax := syQ [syP "intros" [syN "null" []], syA ";", syY]
def syD : Lean.Syntax := syQ [syP "decide" [syN "Lean.Parser.Tactic.optConfig" [syN "null" []]]]
noncomputable def IsTabO (o : Obj) : Prop := ∃ ps : Array Value, o = tabObj ps ∧ TriplesOk ps.toList
noncomputable def Nd (o : Obj) : Prop := ¬ IsTabO o ∧ ∀ es n, o.data ≠ .dict es n
theorem nt_seq {o : Obj} {vs n} (h : o.data = .seq vs n) : Nd o := ⟨(by rintro ⟨ps, rfl, _⟩; cases h), fun _ _ q => nomatch h.symm.trans q⟩
theorem nt_dict {o : Obj} {vs n} (h : o.data = .dict vs n) : ¬ IsTabO o := by rintro ⟨ps, rfl, _⟩; cases h
theorem nt_cell {o : Obj} {v} (h : o.data = .cell v) : Nd o := ⟨(by rintro ⟨ps, rfl, _⟩; cases h), fun _ _ q => nomatch h.symm.trans q⟩
theorem nt_func {o : Obj} {v} (h : o.data = .func v) : Nd o := ⟨(by rintro ⟨ps, rfl, _⟩; cases h), fun _ _ q => nomatch h.symm.trans q⟩
theorem nt_cls {o : Obj} (h : o.cls ≠ .none) : ¬ IsTabO o := by rintro ⟨ps, rfl, _⟩; exact h rfl
structure Cx where
  prog : Program
  w : World
  h₁ : Heap
  mg : Str → Option Value
  mb : Str → Option Value
  g : h₁.Ns mainGlobals mg
  b : h₁.Ns builtinsNs mb
  nolimit : h₁.NoLimit
  mkr : List (Addr × Addr × Str)
  kn : List (Addr × Obj) := []
noncomputable def CodeR (h : Heap) (c : Addr) (q : Str) : Prop := ∃ o vs t, h.get? c = some o ∧ o.cls = .type "code" ∧ o.data = .fields vs ∧ vs[1]? = some (.str q t)
theorem CodeR.keeps {h h' : Heap} {c q} (x : CodeR h c q) (hk : ∀ b o, h.get? b = some o → h'.get? b = some o) : CodeR h' c q := let ⟨o, vs, t, e, r⟩ := x; ⟨o, vs, t, hk _ _ e, r⟩
theorem CodeR.rec' {h : Heap} {c q} (x : CodeR h c q) : h.CodeRec (.ref c) q := let ⟨o, vs, t, e, _, d, r⟩ := x; ⟨c, o, vs, t, rfl, e, d, r⟩
noncomputable def TabsOk (C : Cx) (h : Heap) : Prop := ∀ x ∈ C.mkr, ∃ ps : Array Value, h.get? x.2.1 = some (tabObj ps) ∧ TriplesOk ps.toList ∧
  ∀ pos v, codeAmong pos ps.toList = some v → ∃ c', v = .ref c' ∧ CodeR h c' x.2.2
structure Base (C : Cx) (s : Shared) : Prop where
  sub' : ∀ b o, C.h₁.get? b = some o → ¬ IsTabO o → s.heap.get? b = some o
  there : ∀ b o, C.h₁.get? b = some o → ∃ o', s.heap.get? b = some o'
  tabs : TabsOk C s.heap
  known : ∀ x ∈ C.kn, s.heap.get? x.1 = some x.2 ∧ Nd x.2
noncomputable def FrO (C : Cx) (b : Addr) (o : Obj) : Prop := C.h₁.get? b = none ∧ ∃ es n, o.data = .dict es n
noncomputable def GK (g g' : Array GenState) : Prop := (∀ (i : Nat) x, g[i]? = some x → g'[i]? = some x) ∧ (AllBare g → AllBare g')
theorem GK.refl (g : Array GenState) : GK g g := ⟨fun _ _ e => e, id⟩
theorem GK.trans {a b c : Array GenState} (x : GK a b) (y : GK b c) : GK a c := ⟨fun i z e => y.1 i z (x.1 i z e), y.2 ∘ x.2⟩
structure Kp (C : Cx) (s s' : Shared) : Prop where
  sub' : ∀ b o, s.heap.get? b = some o → ¬ IsTabO o → ∃ sl, s'.heap.get? b = some { o with slots := sl } ∧ (sl = o.slots ∨ FrO C b o)
  tab : ∀ b ps, s.heap.get? b = some (tabObj ps) → TriplesOk ps.toList → s'.heap.get? b = some (tabObj ps) ∨
    ((∃ x ∈ C.mkr, x.2.1 = b) ∧ ∃ more, s'.heap.get? b = some (tabObj (ps ++ more)) ∧ TriplesOk (ps ++ more).toList)
  tabs : TabsOk C s.heap → TabsOk C s'.heap
  os : s'.os = s.os
  gens : GK s.gens s'.gens
theorem Kp.sub {C : Cx} {s s' : Shared} (k : Kp C s s') (b : Addr) (o : Obj) (e : s.heap.get? b = some o) (n : Nd o) : s'.heap.get? b = some o := by
  obtain ⟨sl, h, rfl | ⟨_, es, m, d⟩⟩ := k.sub' b o e n.1
  · exact h
  · exact absurd d (n.2 es m)
theorem kx {C : Cx} {h : Heap} {b : Addr} {o : Obj} (e : h.get? b = some o) : ∃ sl, h.get? b = some { o with slots := sl } ∧ (sl = o.slots ∨ FrO C b o) := ⟨o.slots, e, .inl rfl⟩
theorem Kp.refl (C : Cx) (s : Shared) : Kp C s s := ⟨fun _ _ e _ => kx e, fun _ _ e _ => .inl e, id, rfl, .refl _⟩
theorem Kp.trans {C : Cx} {a b c : Shared} (x : Kp C a b) (y : Kp C b c) : Kp C a c where
  sub' := fun p o e n => by
    obtain ⟨sl, h, q⟩ := x.sub' p o e n
    rcases q with rfl | q
    · exact y.sub' p o h n
    · obtain ⟨q1, es, m, d⟩ := q
      obtain ⟨sl', h', _⟩ := y.sub' p _ h (nt_dict (o := { o with slots := sl }) d)
      exact ⟨sl', h', .inr ⟨q1, es, m, d⟩⟩
  tab := fun p ps e t => by
    rcases x.tab p ps e t with h | ⟨hm, more, h, t'⟩
    · exact y.tab p ps h t
    · rcases y.tab p _ h t' with h' | ⟨_, more', h', t''⟩
      · exact .inr ⟨hm, more, h', t'⟩
      · exact .inr ⟨hm, more ++ more', by rw [← Array.append_assoc]; exact h', by rw [← Array.append_assoc]; exact t''⟩
  tabs := y.tabs ∘ x.tabs
  os := y.os.trans x.os
  gens := x.gens.trans y.gens
theorem Kp.there {C : Cx} {s s' : Shared} (k : Kp C s s') {b : Addr} {o : Obj} (e : s.heap.get? b = some o) : ∃ o', s'.heap.get? b = some o' := by
  by_cases h : IsTabO o
  · obtain ⟨ps, rfl, t⟩ := h
    rcases k.tab b ps e t with h | ⟨_, more, h, _⟩
    · exact ⟨_, h⟩
    · exact ⟨_, h⟩
  · obtain ⟨sl, h', _⟩ := k.sub' b o e h
    exact ⟨_, h'⟩
theorem Base.mono {C : Cx} {s s' : Shared} (x : Base C s) (k : Kp C s s') : Base C s' :=
  ⟨fun b o e n => by
    obtain ⟨sl, h, rfl | q⟩ := k.sub' b o (x.sub' b o e n) n
    · exact h
    · exact absurd q.1 (by rw [e]; exact fun q => nomatch q), fun b o e => let ⟨_, h⟩ := x.there b o e; k.there h, k.tabs x.tabs, fun y hy => ⟨k.sub _ _ (x.known y hy).1 (x.known y hy).2, (x.known y hy).2⟩⟩
theorem TabsOk.keep {C : Cx} {h h' : Heap} (x : TabsOk C h) (hk : ∀ b o, h.get? b = some o → h'.get? b = some o) : TabsOk C h' := fun y hy =>
  let ⟨ps, h1, h2, h3⟩ := x y hy
  ⟨ps, hk _ _ h1, h2, fun pos v e => let ⟨c', h4, h5⟩ := h3 pos v e; ⟨c', h4, h5.keeps hk⟩⟩
theorem Kp.keep {C : Cx} {s : Shared} {h' : Heap} {tk : Nat} (hk : ∀ b o, s.heap.get? b = some o → h'.get? b = some o) : Kp C s { s with heap := h', toks := tk } :=
  ⟨fun b o e _ => kx (hk b o e), fun b _ e _ => .inl (hk b _ e), fun t => t.keep hk, rfl, .refl _⟩
theorem Kp.keepH {C : Cx} {s : Shared} {h' : Heap} (hk : ∀ b o, s.heap.get? b = some o → h'.get? b = some o) : Kp C s { s with heap := h' } := Kp.keep hk
theorem Kp.tok {C : Cx} {s : Shared} {tk : Nat} : Kp C s { s with toks := tk } := Kp.keep (h' := s.heap) fun _ _ e => e
theorem Kp.push {C : Cx} {s : Shared} {o : Obj} : Kp C s { s with heap := s.heap.push o } := Kp.keepH fun _ _ e => Heap.get?_push_of_some _ e
theorem TabsOk.same {C : Cx} {h h' : Heap} {L : Addr} (x : TabsOk C h) (hL : ∀ o, h.get? L = some o → ∀ vs, o.data ≠ .fields vs) (hs : Heap.SameBut L h h') : TabsOk C h' := fun y hy => by
  obtain ⟨ps, h1, h2, h3⟩ := x y hy
  refine ⟨ps, (hs.2 _ fun e => ?_).trans h1, h2, fun pos v e => ?_⟩
  · rw [e] at h1; exact hL _ h1 ps rfl
  · obtain ⟨c', rfl, o, vs, t, e2, e2', e3, e4⟩ := h3 pos v e
    exact ⟨_, rfl, o, vs, t, (hs.2 _ fun q => by rw [q] at e2; exact hL _ e2 vs e3).trans e2, e2', e3, e4⟩
theorem Kp.same {C : Cx} {s₀ s : Shared} {h' : Heap} {tk : Nat} {L : Addr} (k : Kp C s₀ s) (hn : s₀.heap.get? L = none) (hL : ∀ o, s.heap.get? L = some o → ∀ vs, o.data ≠ .fields vs)
    (hs : Heap.SameBut L s.heap h') : Kp C s₀ { s with heap := h', toks := tk } := by
  have ne : ∀ b o, s₀.heap.get? b = some o → b ≠ L := fun b o e q => by rw [q, hn] at e; cases e
  refine ⟨fun b o e n => let ⟨sl, h, q⟩ := k.sub' b o e n; ⟨sl, (hs.2 b (ne b o e)).trans h, q⟩, fun b ps e t => ?_, fun t => (k.tabs t).same hL hs, k.os, k.gens⟩
  rcases k.tab b ps e t with h | ⟨hm, more, h, t'⟩
  · exact .inl ((hs.2 b (ne b _ e)).trans h)
  · exact .inr ⟨hm, more, (hs.2 b (ne b _ e)).trans h, t'⟩
theorem Kp.ext {C : Cx} {s₀ s : Shared} {h' : Heap} {tk : Nat} {L : Addr} (k : Kp C s₀ s) (hn : s₀.heap.get? L = none) (hL : ∀ o, s.heap.get? L = some o → o.cls ≠ .none ∧ o.cls ≠ .type "code")
    (hs : ∀ b o, b ≠ L → s.heap.get? b = some o → h'.get? b = some o) : Kp C s₀ { s with heap := h', toks := tk } := by
  have ne : ∀ b o, s₀.heap.get? b = some o → b ≠ L := fun b o e q => by rw [q, hn] at e; cases e
  refine ⟨fun b o e n => let ⟨sl, h, q⟩ := k.sub' b o e n; ⟨sl, hs b _ (ne b o e) h, q⟩, fun b ps e t => ?_, fun t y hy => ?_, k.os, k.gens⟩
  · rcases k.tab b ps e t with h | ⟨hm, more, h, t'⟩
    · exact .inl (hs b _ (ne b _ e) h)
    · exact .inr ⟨hm, more, hs b _ (ne b _ e) h, t'⟩
  · obtain ⟨ps, h1, h2, h3⟩ := k.tabs t y hy
    refine ⟨ps, hs _ _ (fun e => ?_) h1, h2, fun pos v e => ?_⟩
    · rw [e] at h1; exact (hL _ h1).1 rfl
    · obtain ⟨c', rfl, o, vs, t, e2, e2', e3, e4⟩ := h3 pos v e
      exact ⟨_, rfl, o, vs, t, hs _ _ (fun q => by rw [q] at e2; exact (hL _ e2).2 e2') e2, e2', e3, e4⟩
-- single facts along Kp
section
variable {C : Cx} {s s' : Shared} {a : Addr}
theorem kp_ns {m} (k : Kp C s s') (x : s.heap.Ns a m) : s'.heap.Ns a m := let ⟨o, es, ep, e, d, r⟩ := x; let ⟨sl, h, _⟩ := k.sub' _ _ e (nt_dict d); ⟨{ o with slots := sl }, es, ep, h, d, r⟩
theorem kp_cell {v} (k : Kp C s s') (x : s.heap.IsCell a v) : s'.heap.IsCell a v := let ⟨o, e, d⟩ := x; ⟨o, k.sub _ _ e (nt_cell d), d⟩
theorem kp_list {vs} (k : Kp C s s') (x : s.heap.IsList a vs) : s'.heap.IsList a vs := let ⟨o, e, c, n, d⟩ := x; ⟨o, k.sub _ _ e (nt_seq d), c, n, d⟩
end
theorem base_ns {C : Cx} {s : Shared} (B : Base C s) {a : Addr} {m} (x : C.h₁.Ns a m) : s.heap.Ns a m := let ⟨o, es, ep, e, d, r⟩ := x; ⟨o, es, ep, B.sub' _ _ e (nt_dict d), d, r⟩
theorem base_nolimit {C : Cx} {s : Shared} (B : Base C s) (x : C.h₁.NoLimit) : s.heap.NoLimit := let ⟨m, h, e⟩ := x; ⟨m, base_ns B h, e⟩
noncomputable def LsAt (h : Heap) (a : Addr) (vs : Array Value) : Prop := ∃ n, IsL h a vs n
theorem LsAt.isList {h a vs} (x : LsAt h a vs) : h.IsList a vs := let ⟨_, e⟩ := x; e.isList
theorem kp_ls {C : Cx} {s s' : Shared} {a : Addr} {vs} (k : Kp C s s') (x : LsAt s.heap a vs) : LsAt s'.heap a vs := let ⟨n, e⟩ := x; ⟨n, k.sub _ _ e (nt_seq rfl)⟩
-- data
mutual
inductive RD (h : Heap) (pv : List Addr) : Value → PyData → Prop
  | none : RD h pv .none .none
  | bool (b) : RD h pv (.bool b) (.bool b)
  | int (i t) : RD h pv (.int i t) (.int i)
  | str (x t) : RD h pv (.str x t) (.str x)
  | list {a vs ds} : a ∉ pv → LsAt h a vs → RDs h pv vs.toList ds → RD h pv (.ref a) (.list ds)
  | tuple {a vs ds} : a ∉ pv → h.IsTuple a vs → RDs h pv vs.toList ds → RD h pv (.ref a) (.tuple ds)
  | opq (a) : RD h pv (.ref a) (.dict [(.int a, .none)])
  | ent {a o vs m ds k} : a ∉ pv → h.get? a = some o → o.cls = .ref k → o.data = .seq vs m → RDs h pv vs.toList ds → RD h pv (.ref a) (.dict [(.int k, .tuple ds)])
inductive RDs (h : Heap) (pv : List Addr) : List Value → List PyData → Prop
  | nil : RDs h pv [] []
  | cons {v d vs ds} : RD h pv v d → RDs h pv vs ds → RDs h pv (v :: vs) (d :: ds)
end
noncomputable def SqK (pv : List Addr) (h h' : Heap) : Prop := ∀ b o vs n, b ∉ pv → h.get? b = some o → o.data = .seq vs n → h'.get? b = some o
theorem SqK.ls {pv h h' a vs} (k : SqK pv h h') (ha : a ∉ pv) (x : LsAt h a vs) : LsAt h' a vs := let ⟨n, e⟩ := x; ⟨n, k _ _ _ _ ha e rfl⟩
theorem SqK.tuple {pv h h' a vs} (k : SqK pv h h') (ha : a ∉ pv) (x : h.IsTuple a vs) : h'.IsTuple a vs := let ⟨o, e, c, n, d⟩ := x; ⟨o, k _ _ _ _ ha e d, c, n, d⟩
theorem RDs.ind {h : Heap} {pv : List Addr} {M : List Value → List PyData → Prop} (n : M [] []) (c : ∀ {v d vs ds}, RD h pv v d → RDs h pv vs ds → M vs ds → M (v :: vs) (d :: ds)) : ∀ {vs ds}, RDs h pv vs ds → M vs ds := by
  intro vs
  induction vs with
  | nil => intro ds x; cases x; exact n
  | cons v vs ih => intro ds x; cases x with | cons a r => exact c a r (ih r)
theorem RD.mono {h h' pv} (k : SqK pv h h') {v d} (x : RD h pv v d) : RD h' pv v d :=
  RD.rec (motive_1 := fun v d _ => RD h' pv v d) (motive_2 := fun vs ds _ => RDs h' pv vs ds) .none .bool .int .str (fun ha hl _ ih => .list ha (k.ls ha hl) ih) (fun ha hl _ ih => .tuple ha (k.tuple ha hl) ih) .opq (fun ha e c d _ ih => .ent ha (k _ _ _ _ ha e d) c d ih) .nil (fun _ _ a b => .cons a b) x
theorem RDs.mono {h h' pv} (k : SqK pv h h') {vs ds} (x : RDs h pv vs ds) : RDs h' pv vs ds := RDs.ind (M := RDs h' pv) .nil (fun a _ ih => .cons (a.mono k) ih) x
theorem RD.sub {h pv pv'} (k : ∀ a o, a ∈ pv' → h.get? a = some o → a ∈ pv) {v d} (x : RD h pv v d) : RD h pv' v d :=
  RD.rec (motive_1 := fun v d _ => RD h pv' v d) (motive_2 := fun vs ds _ => RDs h pv' vs ds) .none .bool .int .str (fun ha hl _ ih => .list (fun m => hl.elim fun _ e => ha (k _ _ m e)) hl ih) (fun ha hl _ ih => .tuple (fun m => hl.elim fun o e => ha (k _ o m e.1)) hl ih) .opq (fun ha e c d _ ih => .ent (fun m => ha (k _ _ m e)) e c d ih) .nil (fun _ _ a b => .cons a b) x
theorem RDs.sub {h pv pv'} (k : ∀ a o, a ∈ pv' → h.get? a = some o → a ∈ pv) {vs ds} (x : RDs h pv vs ds) : RDs h pv' vs ds := RDs.ind (M := RDs h pv') .nil (fun a _ ih => .cons (RD.sub k a) ih) x
theorem SqK.of_kp {C : Cx} {s s' : Shared} (k : Kp C s s') (pv) : SqK pv s.heap s'.heap := fun b o _ _ _ e d => k.sub b o e (nt_seq d)
theorem RD.kp {C : Cx} {s s' : Shared} {pv v d} (x : RD s.heap pv v d) (k : Kp C s s') : RD s'.heap pv v d := x.mono (.of_kp k pv)
theorem RDs.kp {C : Cx} {s s' : Shared} {pv vs ds} (x : RDs s.heap pv vs ds) (k : Kp C s s') : RDs s'.heap pv vs ds := x.mono (.of_kp k pv)
theorem RDs.length {h pv} {vs ds} (x : RDs h pv vs ds) : vs.length = ds.length := RDs.ind (M := fun vs ds => vs.length = ds.length) rfl (fun _ _ ih => congrArg (· + 1) ih) x
theorem RDs.get {h pv} {vs ds} {i : Nat} {d} (x : RDs h pv vs ds) (e : ds[i]? = some d) : ∃ v, vs[i]? = some v ∧ RD h pv v d :=
  RDs.ind (M := fun vs ds => ∀ i : Nat, ds[i]? = some d → ∃ v, vs[i]? = some v ∧ RD h pv v d) (fun i e => nomatch e) (fun {v d' vs ds} a _ ih i e => by
    cases i with
    | zero => cases e; exact ⟨_, rfl, a⟩
    | succ i => exact ih i e) x i e
theorem RDs.append {h pv} {vs ds vs' ds'} (x : RDs h pv vs ds) (y : RDs h pv vs' ds') : RDs h pv (vs ++ vs') (ds ++ ds') := RDs.ind (M := fun vs ds => RDs h pv (vs ++ vs') (ds ++ ds')) y (fun a _ ih => .cons a ih) x
theorem RDs.one {h pv v d} (x : RD h pv v d) : RDs h pv [v] [d] := .cons x .nil
theorem RDs.drop {h pv} {vs ds} (n : Nat) (x : RDs h pv vs ds) : RDs h pv (vs.drop n) (ds.drop n) :=
  RDs.ind (M := fun vs ds => ∀ n, RDs h pv (vs.drop n) (ds.drop n)) (fun n => by rw [List.drop_nil, List.drop_nil]; exact .nil) (fun a r ih n => by
    cases n with
    | zero => exact .cons a r
    | succ n => exact ih n) x n
theorem RDs.take {h pv} {vs ds} (n : Nat) (x : RDs h pv vs ds) : RDs h pv (vs.take n) (ds.take n) :=
  RDs.ind (M := fun vs ds => ∀ n, RDs h pv (vs.take n) (ds.take n)) (fun n => by rw [List.take_nil, List.take_nil]; exact .nil) (fun a r ih n => by
    cases n with
    | zero => exact .nil
    | succ n => exact .cons a (ih n)) x n
-- inversions
theorem RDs.inv {h pv vs d ds} (x : RDs h pv vs (d :: ds)) : ∃ v ws, vs = v :: ws ∧ RD h pv v d ∧ RDs h pv ws ds := by cases x; exact ⟨_, _, rfl, ‹_›, ‹_›⟩
theorem RDs.inv0 {h pv vs} (x : RDs h pv vs []) : vs = [] := by cases x; rfl
inductive RDs1 (h : Heap) (pv : List Addr) (vs : List Value) (d : PyData) : Prop
  | mk (v : Value) (e : vs = [v]) (r : RD h pv v d)
inductive RDs2 (h : Heap) (pv : List Addr) (vs : List Value) (d e : PyData) : Prop
  | mk (v w : Value) (q : vs = [v, w]) (r : RD h pv v d) (r' : RD h pv w e)
theorem RDs.inv1 {h pv vs d} (x : RDs h pv vs [d]) : RDs1 h pv vs d := let ⟨v, _, e, a, b⟩ := x.inv; ⟨v, by rw [e, b.inv0], a⟩
theorem RDs.inv2 {h pv vs d e} (x : RDs h pv vs [d, e]) : RDs2 h pv vs d e := let ⟨v, _, q, a, b⟩ := x.inv; let ⟨w, q', c⟩ := b.inv1; ⟨v, w, by rw [q, q'], a, c⟩
theorem RDs.inv3 {h pv vs d e f} (x : RDs h pv vs [d, e, f]) : ∃ v w u, vs = [v, w, u] ∧ RD h pv v d ∧ RD h pv w e ∧ RD h pv u f := let ⟨v, _, q, a, b⟩ := x.inv; let ⟨w, u, q', c, d⟩ := b.inv2; ⟨v, w, u, by rw [q, q'], a, c, d⟩
noncomputable def InvD (h : Heap) (pv : List Addr) (v : Value) : PyData → Prop
  | .none => v = .none
  | .bool b => v = .bool b
  | .int i => ∃ t, v = .int i t
  | .str x => ∃ t, v = .str x t
  | .list ds => ∃ a vs, v = .ref a ∧ a ∉ pv ∧ LsAt h a vs ∧ RDs h pv vs.toList ds
  | .tuple ds => ∃ a vs, v = .ref a ∧ a ∉ pv ∧ h.IsTuple a vs ∧ RDs h pv vs.toList ds
  | .dict kvs => (∃ a : Addr, kvs = [(.int a, .none)] ∧ v = .ref a) ∨ ∃ (a : Addr) (o : Obj) (vs : Array Value) (m : Nat) (ds : List PyData) (k : Addr), kvs = [(.int k, .tuple ds)] ∧ v = .ref a ∧ a ∉ pv ∧ h.get? a = some o ∧ o.cls = .ref k ∧ o.data = .seq vs m ∧ RDs h pv vs.toList ds
theorem RD.all {h pv v d} (x : RD h pv v d) : InvD h pv v d :=
  RD.rec (motive_1 := fun v d _ => InvD h pv v d) (motive_2 := fun _ _ _ => True) rfl (fun _ => rfl) (fun _ t => ⟨t, rfl⟩) (fun _ t => ⟨t, rfl⟩) (fun ha hl hr _ => ⟨_, _, rfl, ha, hl, hr⟩) (fun ha hl hr _ => ⟨_, _, rfl, ha, hl, hr⟩) (fun _ => .inl ⟨_, rfl, rfl⟩) (fun ha e c d hr _ => .inr ⟨_, _, _, _, _, _, rfl, rfl, ha, e, c, d, hr⟩) trivial (fun _ _ _ _ => trivial) x
theorem RD.int_inv {h pv v i} (x : RD h pv v (.int i)) : ∃ t, v = .int i t := x.all
theorem RD.str_inv {h pv v i} (x : RD h pv v (.str i)) : ∃ t, v = .str i t := x.all
theorem RD.bool_inv {h pv v i} (x : RD h pv v (.bool i)) : v = .bool i := x.all
theorem RD.opq_inv {h pv v} {a : Addr} (x : RD h pv v (.dict [(.int a, .none)])) : v = .ref a := by
  rcases (show InvD h pv v (.dict [(.int a, .none)]) from x.all) with ⟨b, e, q⟩ | ⟨_, _, _, _, ds, k, e, _⟩
  · have e := (Prod.mk.inj (List.cons.inj e).1).1
    rw [q, Int.ofNat.inj (PyData.int.inj e)]
  · have e := (Prod.mk.inj (List.cons.inj e).1).2
    exact nomatch e
theorem RD.none_inv {h pv v} (x : RD h pv v .none) : v = .none := x.all
inductive LsV (h : Heap) (pv : List Addr) (v : Value) (ds : List PyData) : Prop
  | mk (a : Addr) (vs : Array Value) (e : v = .ref a) (n : a ∉ pv) (l : LsAt h a vs) (r : RDs h pv vs.toList ds)
theorem RD.list_inv {h pv v ds} (x : RD h pv v (.list ds)) : LsV h pv v ds := let ⟨a, vs, e, n, l, r⟩ := x.all; ⟨a, vs, e, n, l, r⟩
theorem RD.tuple_inv {h pv v ds} (x : RD h pv v (.tuple ds)) : ∃ a vs, v = .ref a ∧ a ∉ pv ∧ h.IsTuple a vs ∧ RDs h pv vs.toList ds := x.all
noncomputable def flat : PyData → Bool
  | .none | .bool _ | .int _ | .str _ => true
  | _ => false
theorem RD.flat {h pv v d} (x : RD h pv v d) (f : flat d = true) (h' pv') : RD h' pv' v d :=
  RD.rec (motive_1 := fun v d _ => Mine.Internal.flat d = true → RD h' pv' v d) (motive_2 := fun _ _ _ => True) (fun _ => .none) (fun _ _ => .bool _) (fun _ _ _ => .int _ _) (fun _ _ _ => .str _ _) (fun _ _ _ _ f => nomatch f) (fun _ _ _ _ f => nomatch f) (fun _ f => nomatch f) (fun _ _ _ _ _ _ f => nomatch f) trivial (fun _ _ _ _ => trivial) x f
structure Room (n : Nat) (A : Around) : Prop where
  handled : A.handled = none
  depth : A.depth + n < recursionLimit
  units : A.units + 8 * n + 100 < cLine
theorem Room.le {n m : Nat} {A : Around} (x : Room n A) (h : m ≤ n) : Room m A := ⟨x.1, by have := x.2; omega, by have := x.3; omega⟩
theorem Room.deeper {n : Nat} {A : Around} (x : Room (n + 1) A) (env : Env) : Room n (A.deeper env) := ⟨x.1, by have := x.2; show A.depth + 1 + n < _; omega, by have := x.3; show A.units + 3 + 8 * n + 100 < _; omega⟩
noncomputable def IsD (h : Heap) (L : Addr) : Prop := ∃ o es n, h.get? L = some o ∧ o.data = .dict es n
theorem IsD.ns {h : Heap} {L m} (x : h.Ns L m) : IsD h L := let ⟨o, es, n, e, d, _⟩ := x; ⟨o, es, n, e, d⟩
theorem IsD.ne {h : Heap} {L b : Addr} {o : Obj} (x : IsD h L) (e : h.get? b = some o) (n : ∀ es m, o.data ≠ .dict es m) : L ≠ b := fun q => by
  obtain ⟨o', es, m, e', d⟩ := x; rw [q, e] at e'; cases e'; exact n _ _ d
noncomputable def DFr (base h : Heap) (l : List Env) : Prop := ∀ env ∈ l, env.scope.kind ≠ .module ∧ ∃ L, env.frame = some L ∧ base.get? L = none ∧ IsD h L
theorem DFr.mono {base h h' : Heap} {l : List Env} (x : DFr base h l) (k : ∀ L, base.get? L = none → IsD h L → IsD h' L) : DFr base h' l := fun env he =>
  let ⟨a, L, b, c, d⟩ := x env he; ⟨a, L, b, c, k L c d⟩
theorem DFr.fun {base h : Heap} : ∀ {l : List Env}, DFr base h l → h.FunFrames base l
  | [], _ => trivial
  | e :: l, x => by
    obtain ⟨a, L, b, c, o, es, n, d, f⟩ := x e List.mem_cons_self
    exact ⟨a, ⟨L, o, b, c, d, fun vs q => nomatch f.symm.trans q⟩, DFr.fun fun e he => x e (List.mem_cons_of_mem _ he)⟩
noncomputable def Live (C : Cx) (A : Around) (s : Shared) : Prop := ∃ l, A.frames = some l ∧ DFr C.h₁ s.heap l
theorem Live.mono {C : Cx} {A : Around} {s s' : Shared} (x : Live C A s) (k : Kp C s s') : Live C A s' :=
  let ⟨l, h, f⟩ := x; ⟨l, h, f.mono fun L _ ⟨o, es, n, e, d⟩ => let ⟨sl, h, _⟩ := k.sub' L o e (nt_dict d); ⟨{ o with slots := sl }, es, n, h, d⟩⟩
end
section -- C2
structure EnvOk (env : Env) : Prop where
  kind : env.scope.kind = .function
  gl : env.globals = mainGlobals
  bi : env.builtins = builtinsNs
noncomputable def NameAt (env : Env) (h : Heap) (x : Str) (v : Value) : Prop :=
  (env.kindOf x = some .local ∧ ∃ m, h.Ns env.locals m ∧ m x = some v) ∨
  ((env.kindOf x = some .cell ∨ env.kindOf x = some .free) ∧ ∃ c, env.cells.lookup x = some c ∧ h.IsCell c (some v))
theorem NameAt.kp {C : Cx} {s s' : Shared} {env x v} (n : NameAt env s.heap x v) (k : Kp C s s') : NameAt env s'.heap x v := by
  rcases n with ⟨a, m, b, c⟩ | ⟨a, c, b, d⟩
  · exact .inl ⟨a, m, kp_ns k b, c⟩
  · exact .inr ⟨a, c, b, kp_cell k d⟩
noncomputable abbrev Names := List (Str × PyData)
structure Rdy (C : Cx) (A : Around) (env : Env) (ρ : Names) (pv : List Addr) (s : Shared) : Prop where
  ok : EnvOk env
  base : Base C s
  live : Live C A s
  names : ∀ x d, (x, d) ∈ ρ → ∃ v, NameAt env s.heap x v ∧ RD s.heap pv v d
  priv : ∀ p ∈ pv, ∃ o, s.heap.get? p = some o
theorem Rdy.kp {C A env ρ pv s s'} (x : Rdy C A env ρ pv s) (k : Kp C s s') : Rdy C A env ρ pv s' :=
  ⟨x.ok, x.base.mono k, x.live.mono k, fun y d m => let ⟨v, h1, h2⟩ := x.names y d m; ⟨v, h1.kp k, h2.kp k⟩, fun p m => let ⟨_, h⟩ := x.priv p m; k.there h⟩
theorem Rdy.new {C A env ρ pv s} (x : Rdy C A env ρ pv s) : s.heap.objs.size ∉ pv := fun m => by
  obtain ⟨o, e⟩ := x.priv _ m
  exact Nat.lt_irrefl _ (Heap.lt_size e)
noncomputable def Ev (C : Cx) (n : Nat) (env : Env) (ρ : Names) (e : Expr) (d : PyData) : Prop :=
  ∀ A, Room n A → ∀ s pv, Rdy C A env ρ pv s → ∀ Q E, (∀ v s', Kp C s s' → RD s'.heap pv v d → Q v s') → wpAny (model C.prog C.w) A (eval e env) Q E s
noncomputable def Tst (C : Cx) (n : Nat) (env : Env) (ρ : Names) (e : Expr) (b : Bool) : Prop :=
  ∀ A, Room n A → ∀ s pv, Rdy C A env ρ pv s → ∀ (Q : Bool → Shared → Prop) E, (∀ s', Kp C s s' → Q b s') → wpAny (model C.prog C.w) A (isTrue e env (eval e env)) Q E s
noncomputable def Evs (C : Cx) (n : Nat) (env : Env) (ρ : Names) (es : List Expr) (ds : List PyData) : Prop :=
  ∀ A, Room n A → ∀ s pv pos, Rdy C A env ρ pv s → ∀ Q E, (∀ vs s', Kp C s s' → RDs s'.heap pv vs ds → Q vs s') →
    wpAny (model C.prog C.w) A (spliced (backTo pos (starEach es env))) Q E s
section
variable {C : Cx} {n : Nat} {env : Env} {ρ : Names}
theorem Ev.cint {i k pos} : Ev C n env ρ (.Constant (.int i) k pos) (.int i) := fun _ _ _ _ _ _ _ h => wpAny_Constant_int (h _ _ Kp.tok (.int _ _))
theorem Ev.cstr {x k pos} : Ev C n env ρ (.Constant (.str x) k pos) (.str x) := fun _ _ _ _ _ _ _ h => wpAny_Constant_str (h _ _ Kp.tok (.str _ _))
theorem Ev.cnone {k pos} : Ev C n env ρ (.Constant .none k pos) .none := fun _ _ _ _ _ _ _ h => wpAny_Constant_none (h _ _ (.refl _ _) .none)
theorem Ev.cbool {b k pos} : Ev C n env ρ (.Constant (.bool b) k pos) (.bool b) := fun _ _ _ _ _ _ _ h => wpAny_Constant_bool (h _ _ (.refl _ _) (.bool _))
theorem ev_loadName {A : Around} {x v s} {Q : Value → Shared → Prop} {E : Value → Shared → Prop} (ok : EnvOk env) (hn : NameAt env s.heap x v) (hx : (x == ("__classdict__" : Str)) = false) (h : Q v s) :
    wpAny (model C.prog C.w) A (loadName env x) Q E s := by
  rcases hn with ⟨a, m, b, c⟩ | ⟨a | a, c, b, d⟩
  · exact wpAny_loadName_local ok.kind a b c h
  · exact wpAny_loadName_cell ok.kind a b d h
  · exact wpAny_loadName_free ok.kind a b d h hx
theorem Ev.nam {x d pos} (m : (x, d) ∈ ρ) (hd : autoParam ((x == ("__debug__" : Str)) = false) syD) (hx : autoParam ((x == ("__classdict__" : Str)) = false) syD) : Ev C n env ρ (.Name x pos) d := fun A _ s pv r Q E h => by
  obtain ⟨v, h1, h2⟩ := r.names _ _ m
  exact wpAny_Name (ev_loadName r.ok h1 hx (h v s (.refl _ _) h2)) hd
inductive BinOk : Operator → PyData → PyData → PyData → Prop
  | add (i j) : BinOk .Add (.int i) (.int j) (.int (i + j))
  | sub (i j) : BinOk .Sub (.int i) (.int j) (.int (i - j))
  | mul (i j) : IntMulOk i j → BinOk .Mult (.int i) (.int j) (.int (i * j))
  | div (i j) : j ≠ 0 → j.natAbs < 1073741824 → BinOk .FloorDiv (.int i) (.int j) (.int (i.fdiv j))
  | mod (i j) : j ≠ 0 → BinOk .Mod (.int i) (.int j) (.int (i.fmod j))
  | pow (i j) : 0 ≤ j → (Builtin.Int.intBits i : Int) * j ≤ 2 ^ 27 → BinOk .Pow (.int i) (.int j) (.int (i ^ j.toNat))
  | shl (i j) : 0 ≤ j → (Builtin.Int.intBits i : Int) + j ≤ 2 ^ 27 → BinOk .LShift (.int i) (.int j) (.int (i * 2 ^ j.toNat))
  | shr (i j) : 0 ≤ j → BinOk .RShift (.int i) (.int j) (.int (i.fdiv (2 ^ j.toNat)))
  | and (i j) : BinOk .BitAnd (.int i) (.int j) (.int (Builtin.bitAnd i j))
  | xor (i j) : BinOk .BitXor (.int i) (.int j) (.int (Builtin.bitXor i j))
  | cat (x y) : x.length + y.length ≤ sizeLine → BinOk .Add (.list x) (.list y) (.list (x ++ y))
  | txt (x y : Str) : x.length + y.length ≤ sizeLine → BinOk .Add (.str x) (.str y) (.str (x ++ y))
theorem BinOk.run {A : Around} {op a b x y d} (k : BinOk op x y d) {s : Shared} {pv} (ha : RD s.heap pv a x) (hb : RD s.heap pv b y) (hn : s.heap.objs.size ∉ pv) {Q : Value → Shared → Prop} {E : Value → Shared → Prop}
    (h : ∀ v s', Kp C s s' → RD s'.heap pv v d → Q v s') : wpAny (model C.prog C.w) A (binaryOp op a b) Q E s := by
  induction k with
  | add => obtain ⟨t, rfl⟩ := ha.int_inv; obtain ⟨u, rfl⟩ := hb.int_inv; exact PyProof.Rows.add_int (h _ _ Kp.tok (.int _ _))
  | sub => obtain ⟨t, rfl⟩ := ha.int_inv; obtain ⟨u, rfl⟩ := hb.int_inv; exact PyProof.Rows.sub_int (h _ _ Kp.tok (.int _ _))
  | mul _ _ hm => obtain ⟨t, rfl⟩ := ha.int_inv; obtain ⟨u, rfl⟩ := hb.int_inv; exact PyProof.Rows.mul_int (h _ _ Kp.tok (.int _ _)) hm
  | div _ _ h0 hj => obtain ⟨t, rfl⟩ := ha.int_inv; obtain ⟨u, rfl⟩ := hb.int_inv; exact PyProof.Rows.floordiv_int h0 (h _ _ Kp.tok (.int _ _)) (Or.inl (PyProof.noPylong_small hj))
  | mod _ _ h0 => obtain ⟨t, rfl⟩ := ha.int_inv; obtain ⟨u, rfl⟩ := hb.int_inv; exact PyProof.Rows.mod_int h0 (h _ _ Kp.tok (.int _ _))
  | pow _ _ h0 hj => obtain ⟨t, rfl⟩ := ha.int_inv; obtain ⟨u, rfl⟩ := hb.int_inv; exact PyProof.Rows.pow_int h0 hj (h _ _ Kp.tok (.int _ _))
  | shl _ _ h0 hj => obtain ⟨t, rfl⟩ := ha.int_inv; obtain ⟨u, rfl⟩ := hb.int_inv; exact PyProof.Rows.lshift_int h0 hj (h _ _ Kp.tok (.int _ _))
  | shr _ _ h0 => obtain ⟨t, rfl⟩ := ha.int_inv; obtain ⟨u, rfl⟩ := hb.int_inv; exact PyProof.Rows.rshift_int h0 (h _ _ Kp.tok (.int _ _))
  | and => obtain ⟨t, rfl⟩ := ha.int_inv; obtain ⟨u, rfl⟩ := hb.int_inv; exact PyProof.Rows.and_int (h _ _ Kp.tok (.int _ _))
  | xor => obtain ⟨t, rfl⟩ := ha.int_inv; obtain ⟨u, rfl⟩ := hb.int_inv; exact PyProof.Rows.xor_int (h _ _ Kp.tok (.int _ _))
  | cat x y hsz =>
    obtain ⟨a, vs, rfl, ha1, ⟨n1, ha2⟩, ha3⟩ := ha.list_inv
    obtain ⟨b, ws, rfl, hb1, ⟨n2, hb2⟩, hb3⟩ := hb.list_inv
    have l1 := ha3.length
    have l2 := hb3.length
    simp only [Array.length_toList] at l1 l2
    refine PySem.P.add_list ha2 hb2 (h _ _ Kp.push ?_) (by omega)
    exact .list hn ⟨0, IsL.new _ _⟩ (by rw [Array.toList_append]; exact (ha3.append hb3).kp (Kp.push (C := C)))
  | txt x y hsz => obtain ⟨t, rfl⟩ := ha.str_inv; obtain ⟨u, rfl⟩ := hb.str_inv; exact PyProof.Rows.add_str (fun t' tk => h _ _ Kp.tok (.str _ _)) hsz
theorem Ev.bin {op l r pos x y d} (hl : Ev C n env ρ l x) (hr : Ev C n env ρ r y) (k : BinOk op x y d) : Ev C n env ρ (.BinOp l op r pos) d := fun A ra s pv r Q E h => by
  refine wpAny_BinOp (hl A ra s pv r _ _ fun a s1 k1 h1 => hr A ra s1 pv (r.kp k1) _ _ fun b s2 k2 h2 => ?_)
  exact k.run (h1.kp k2) h2 ((r.kp k1).kp k2).new fun v s' k3 h3 => h v s' ((k1.trans k2).trans k3) h3
theorem Ev.neg {e i pos} (he : Ev C n env ρ e (.int i)) : Ev C n env ρ (.UnaryOp .USub e pos) (.int (-i)) := fun A ra s pv r Q E h => by
  refine wpAny_UnaryOp (he A ra s pv r _ _ fun a s1 k1 h1 => ?_)
  obtain ⟨t, rfl⟩ := h1.int_inv
  exact PyProof.Rows.neg_int (h _ _ (k1.trans Kp.tok) (.int _ _))
theorem Evs.nil : Evs C n env ρ [] [] := fun _ _ s _ _ _ _ _ h => wpAny_items_nil (h _ s (.refl _ _) .nil)
theorem Evs.cons {e es d ds} (he : Ev C n env ρ e d) (hs : Evs C n env ρ es ds) (hst : autoParam (starEach (e :: es) env = (false, eval e env) :: starEach es env) syR) : Evs C n env ρ (e :: es) (d :: ds) := fun A ra s pv pos r Q E h => by
  refine wpAny_items_cons (he A ra s pv r _ _ fun v s1 k1 h1 => hs A ra s1 pv pos (r.kp k1) _ _ fun vs s2 k2 h2 => ?_) hst
  exact h _ _ (k1.trans k2) (.cons (h1.kp k2) h2)
theorem Ev.tup {es ds k pos} (he : Evs C n env ρ es ds) (hsz : autoParam (ds.length ≤ sizeLine) syD) : Ev C n env ρ (.Tuple es k pos) (.tuple ds) := fun A ra s pv r Q E h => by
  refine wpAny_Tuple (he A ra s pv pos r _ _ fun vs s1 k1 h1 => ⟨by rw [h1.length]; exact hsz, ?_⟩)
  exact h _ _ (k1.trans Kp.push) (.tuple (r.kp k1).new ⟨_, Heap.get?_push_size _ rfl, rfl, 0, rfl⟩ (h1.kp (Kp.push (C := C))))
theorem Ev.lst {es ds pos} (he : Evs C n env ρ es ds) (hsz : autoParam (ds.length ≤ sizeLine) syD) : Ev C n env ρ (.List es pos) (.list ds) := fun A ra s pv r Q E h => by
  refine wpAny_List (he A ra s pv pos r _ _ fun vs s1 k1 h1 => ⟨by rw [h1.length]; exact hsz, ?_⟩)
  exact h _ _ (k1.trans Kp.push) (.list (r.kp k1).new ⟨0, IsL.new _ _⟩ (h1.kp (Kp.push (C := C))))
inductive ItemOk : PyData → Int → PyData → Prop
  | list {ds i k d} : seqIndex? i ds.length = some k → ds[k]? = some d → -(2 ^ 63) ≤ i → i < 2 ^ 63 → ItemOk (.list ds) i d
  | tuple {ds i k d} : seqIndex? i ds.length = some k → ds[k]? = some d → -(2 ^ 63) ≤ i → i < 2 ^ 63 → ItemOk (.tuple ds) i d
  | str {x : Str} {i : Int} {c} : (decide (i < -(2 ^ 63 : Int)) || decide (i ≥ 2 ^ 63)) = false → (seqIndex? i x.length).bind (x.cps[·]?) = some c → ItemOk (.str x) i (.str ⟨#[c]⟩)
theorem getItem_listI {A : Around} {l : Addr} {items : Array Value} {k : Int} {j : Nat} {t : Tok} {x : Value} {s : Shared} {Q : Value → Shared → Prop} {E : Value → Shared → Prop} (hl : s.heap.IsList l items) (h0 : -(2 ^ 63) ≤ k) (hfit : k < 2 ^ 63)
    (hj : seqIndex? k items.size = some j) (hx : items[j]? = some x) (h : Q x s) : wpAny (model C.prog C.w) A (getItem (.ref l) (.int k t)) Q E s := by
  unfold seqIndex? at hj
  by_cases hk : k < 0
  · simp only [hk, if_true] at hj
    split at hj
    · rename_i hh
      simp only [Bool.and_eq_true, decide_eq_true_eq] at hh
      cases hj
      exact wpAny_getItem_list_neg hl hk (by omega) h0 hx h
    · cases hj
  · simp only [hk, if_false] at hj
    split at hj
    · cases hj
      exact wpAny_getItem_list hl (by omega) hfit hx h
    · cases hj
theorem Ev.itm {value slice pos d i d'} (hv : Ev C n env ρ value d) (hi : Ev C n env ρ slice (.int i)) (k : ItemOk d i d')
    (hs : autoParam (∀ o i, subscripted slice false o i = operate [o, i] (getItem o i)) syV) : Ev C n env ρ (.Subscript value slice pos) d' := fun A ra s pv r Q E h => by
  refine Subscript_ (hv A ra s pv r _ _ fun a s1 k1 h1 => hi A ra s1 pv (r.kp k1) _ _ fun b s2 k2 h2 => ?_)
  obtain ⟨t, rfl⟩ := h2.int_inv
  have h1 := h1.kp k2
  cases k with
  | @list ds _ k _ hj hd lo hi' =>
    obtain ⟨a, vs, rfl, ha1, ha2, ha3⟩ := h1.list_inv
    obtain ⟨v, e1, e2⟩ := ha3.get hd
    refine tail_any ha2.isList.typeIs slot_list_getitem.lookup (getItem_listI ha2.isList lo hi' (j := k) ?_ ?_ (h v _ (k1.trans k2) e2)) (hs _ _)
    · rw [← ha3.length] at hj; simpa using hj
    · simpa using e1
  | tuple hj hd lo hi' =>
    obtain ⟨a, vs, rfl, ha1, ha2, ha3⟩ := h1.tuple_inv
    obtain ⟨v, e1, e2⟩ := ha3.get hd
    have hs' := hs (.ref a) (.int i t)
    obtain ⟨vs⟩ := vs
    exact item_tupleT ha2 lo hi' (by rw [← ha3.length] at hj; simpa using hj) (by simpa using e1) (h v _ (k1.trans k2) e2) hs'
  | str hr hc =>
    obtain ⟨u, rfl⟩ := h1.str_inv
    exact tail_any (T := "str") (by rfl) slot_str_getitem.lookup (PyProof.Rows.getItem_str hr hc (h _ _ ((k1.trans k2).trans Kp.tok) (.str _ _))) (hs _ _)
end
end
section -- C3
-- the library's reading of the same data
theorem RD.reads {h pv} {v d} (x : RD h pv v d) : d.canLay0 = true → ∃ as, Reads h v d as :=
  RD.rec (motive_1 := fun v d _ => d.canLay0 = true → ∃ as, Reads h v d as) (motive_2 := fun vs ds _ => PyData.canLayAll0 ds = true → ∃ as, ReadsAll h vs ds as) (fun _ => ⟨_, .none⟩) (fun b _ => ⟨_, .bool b⟩) (fun i t _ => ⟨_, .int i t⟩) (fun x t _ => ⟨_, .str x t⟩)
    (fun _ hl _ ih c => hl.elim fun _ e => (ih c).elim fun _ q => ⟨_, .list e rfl rfl q⟩) (fun _ hl _ ih c => hl.elim fun _ e => e.2.2.elim fun _ d => (ih c).elim fun _ q => ⟨_, .tuple e.1 e.2.1 d q⟩) (fun _ c => nomatch c) (fun _ _ _ _ _ _ c => nomatch c)
    (fun _ => ⟨_, .nil⟩) (fun _ _ a b c => (a (Bool.and_eq_true_iff.mp c).1).elim fun _ p => (b (Bool.and_eq_true_iff.mp c).2).elim fun _ q => ⟨_, .cons p q⟩) x
theorem RDs.reads {h pv} {vs ds} (x : RDs h pv vs ds) : PyData.canLayAll0 ds = true → ∃ as, ReadsAll h vs ds as :=
  RDs.ind (M := fun vs ds => PyData.canLayAll0 ds = true → ∃ as, ReadsAll h vs ds as) (fun _ => ⟨_, .nil⟩) (fun a _ b c => (a.reads (Bool.and_eq_true_iff.mp c).1).elim fun _ p => (b (Bool.and_eq_true_iff.mp c).2).elim fun _ q => ⟨_, .cons p q⟩) x
theorem RDs.ints {h pv} {ns : List Int} {vs} (x : RDs h pv vs (ns.map PyData.int)) : IntsAre vs ns := by
  induction ns generalizing vs with
  | nil => rw [x.inv0]; exact .nil
  | cons n ns ih => obtain ⟨v, ws, rfl, a, r⟩ := x.inv; obtain ⟨t, rfl⟩ := a.int_inv; exact .cons _ _ (ih r)
theorem RDs.of_ints {h pv} {vs : List Value} {ns : List Int} (x : IntsAre vs ns) : RDs h pv vs (ns.map PyData.int) := by
  induction x with
  | nil => exact .nil
  | cons => rename_i ih; exact .cons (.int _ _) ih
noncomputable def isN : PyData → Bool | .none => true | _ => false
theorem RD.eq_none {h pv v d} (x : RD h pv v d) : (v == Value.none) = isN d := RD.rec (motive_1 := fun v d _ => (v == Value.none) = isN d) (motive_2 := fun _ _ _ => True) rfl (fun _ => rfl) (fun _ _ => rfl) (fun _ _ => rfl) (fun _ _ _ _ => rfl) (fun _ _ _ _ => rfl) (fun _ => rfl) (fun _ _ _ _ _ _ => rfl) trivial (fun _ _ _ _ => trivial) x
inductive CmpOk : CmpOp → PyData → PyData → Bool → Prop
  | lt (i j) : CmpOk .Lt (.int i) (.int j) (decide (i < j))
  | le (i j) : CmpOk .LtE (.int i) (.int j) (decide (i ≤ j))
  | gt (i j) : CmpOk .Gt (.int i) (.int j) (decide (j < i))
  | ge (i j) : CmpOk .GtE (.int i) (.int j) (decide (j ≤ i))
  | eq (x y) : SeqAt.shaped x = true → SeqAt.shaped y = true → CmpOk .Eq x y (PyData.eqv x y)
  | ne (x y) : SeqAt.shaped x = true → SeqAt.shaped y = true → CmpOk .NotEq x y (!PyData.eqv x y)
  | isNone (x) : CmpOk .Is x .none (isN x)
  | isBool (a b) : CmpOk .Is (.bool a) (.bool b) (a == b)
  | isIn (i : Int) (ns : List Int) : CmpOk .In (.int i) (.list (ns.map .int)) (ns.any (· == i))
theorem CmpOk.run {C : Cx} {n : Nat} {A : Around} (ra : Room n A) {op a b x y d} (k : CmpOk op x y d) {s : Shared} {pv} (ha : RD s.heap pv a x) (hb : RD s.heap pv b y) {Q : Value → Shared → Prop} {E : Value → Shared → Prop}
    (h : ∀ s', Kp C s s' → Q (.bool d) s') : wpAny (model C.prog C.w) A (compareOp op a b) Q E s := by
  have hu := ra.units
  induction k with
  | lt => obtain ⟨t, rfl⟩ := ha.int_inv; obtain ⟨u, rfl⟩ := hb.int_inv; exact PyProof.Rows.lt_int (h _ (.refl _ _))
  | le => obtain ⟨t, rfl⟩ := ha.int_inv; obtain ⟨u, rfl⟩ := hb.int_inv; exact PyProof.Rows.le_int (h _ (.refl _ _))
  | gt => obtain ⟨t, rfl⟩ := ha.int_inv; obtain ⟨u, rfl⟩ := hb.int_inv; exact PyProof.Rows.gt_int (h _ (.refl _ _))
  | ge => obtain ⟨t, rfl⟩ := ha.int_inv; obtain ⟨u, rfl⟩ := hb.int_inv; exact PyProof.Rows.ge_int (h _ (.refl _ _))
  | eq _ _ hx hy => obtain ⟨_, p⟩ := ha.reads (SeqAt.canLay_of_shaped hx); obtain ⟨_, q⟩ := hb.reads (SeqAt.canLay_of_shaped hy); exact eq_dataH p q hx hy (by omega) (h _ (.refl _ _))
  | ne _ _ hx hy => obtain ⟨_, p⟩ := ha.reads (SeqAt.canLay_of_shaped hx); obtain ⟨_, q⟩ := hb.reads (SeqAt.canLay_of_shaped hy); exact ne_dataH p q hx hy (by omega) (h _ (.refl _ _))
  | isNone => have := hb.none_inv; subst this; exact is_none (by rw [ha.eq_none]; exact h _ (.refl _ _))
  | isBool p q =>
    have := hb.bool_inv; subst this; have := ha.bool_inv; subst this
    exact wpAny_is_plain rfl (by have e : (Value.bool p == Value.bool q) = (p == q) := by cases p <;> cases q <;> rfl
                                 rw [e]; exact h _ (.refl _ _))
  | isIn i ns =>
    obtain ⟨t, rfl⟩ := ha.int_inv
    obtain ⟨l, vs, rfl, _, h1, h2⟩ := hb.list_inv
    obtain ⟨vs⟩ := vs
    exact in_list_ints h1.isList h2.ints (h _ (.refl _ _))
section
variable {C : Cx} {n : Nat} {env : Env} {ρ : Names}
theorem Ev.cmp {op l r pos x y b} (hl : Ev C n env ρ l x) (hr : Ev C n env ρ r y) (k : CmpOk op x y b) (hm : autoParam (behindInMarks op r = false) syU) : Ev C n env ρ (.Compare l [op] [r] pos) (.bool b) := fun A ra s pv r Q E h => by
  refine wpAny_Compare1 (hl A ra s pv r _ _ fun a s1 k1 h1 => hr A ra s1 pv (r.kp k1) _ _ fun b s2 k2 h2 => ?_) hm
  exact k.run ra (h1.kp k2) h2 fun s' k3 => h _ s' ((k1.trans k2).trans k3) (.bool _)
theorem Tst.cmp {op l r pos x y b} (hl : Ev C n env ρ l x) (hr : Ev C n env ρ r y) (k : CmpOk op x y b) (hm : autoParam (behindInMarks op r = false) syU) : Tst C n env ρ (.Compare l [op] [r] pos) b := fun A ra s pv r Q E h => by
  refine wpAny_isTrue_Compare1 (hl A ra s pv r _ _ fun a s1 k1 h1 => hr A ra s1 pv (r.kp k1) _ _ fun b s2 k2 h2 => ?_) hm
  exact k.run ra (h1.kp k2) h2 fun s' k3 => wpAny_truthy_bool (h s' ((k1.trans k2).trans k3))
inductive TruOk : PyData → Bool → Prop
  | bool (b) : TruOk (.bool b) b
  | int (i) : TruOk (.int i) (i != 0)
  | list (ds) : ds.length < 2 ^ 62 → TruOk (.list ds) (!ds.isEmpty)
theorem TruOk.run {A : Around} {d b} (k : TruOk d b) {s : Shared} {pv v} (ha : RD s.heap pv v d) {Q : Bool → Shared → Prop} {E : Value → Shared → Prop}
    (h : ∀ s', Kp C s s' → Q b s') : wpAny (model C.prog C.w) A (truthy v) Q E s := by
  induction k with
  | bool => have := ha.bool_inv; subst this; exact wpAny_truthy_bool (h _ (.refl _ _))
  | int => obtain ⟨t, rfl⟩ := ha.int_inv; exact PyProof.Rows.truthy_int (h _ (.refl _ _))
  | list ds hl =>
    obtain ⟨l, vs, rfl, _, h1, h2⟩ := ha.list_inv
    have e := h2.length
    simp only [Array.length_toList] at e
    refine wpAny_truthy_list h1.isList (by omega) ?_
    have : vs.isEmpty = ds.isEmpty := by
      obtain ⟨vs⟩ := vs
      cases vs <;> cases ds <;> simp_all
    rw [this]
    exact h _ Kp.tok
theorem Tst.val {e d b} (he : Ev C n env ρ e d) (k : TruOk d b) (hs : autoParam (∀ whole, isTrue e env whole = (do let v ← whole; standAt e.pos; holding [v] (truthy v))) syI) : Tst C n env ρ e b := fun A ra s pv r Q E h =>
  wpAny_isTrue_value (he A ra s pv r _ _ fun _ _ k1 h1 => k.run h1 fun s' k2 => h s' (k1.trans k2)) (hs _)
theorem Tst.not {x pos b} (hx : Tst C n env ρ x b) : Tst C n env ρ (.UnaryOp .Not x pos) (!b) := fun A ra s pv r Q E h =>
  wpAny_isTrue_Not (hx A ra s pv r _ _ fun s' k => h s' k)
noncomputable def TAll (C : Cx) (n : Nat) (env : Env) (ρ : Names) (es : List Expr) (b : Bool) : Prop :=
  ∀ A, Room n A → ∀ s pv, Rdy C A env ρ pv s → ∀ (Q : Bool → Shared → Prop) E, (∀ s', Kp C s s' → Q b s') → wpAny (model C.prog C.w) A (allTrue .And es env) Q E s
theorem TAll.nil : TAll C n env ρ [] true := fun _ _ s _ _ _ _ h => wpAny_allTrue_And_nil (h s (.refl _ _))
theorem TAll.cons {e es b c} (he : Tst C n env ρ e b) (hs : b = true → TAll C n env ρ es c) : TAll C n env ρ (e :: es) (b && c) := fun A ra s pv r Q E h => by
  refine wpAny_allTrue_And_cons (he A ra s pv r _ _ fun s1 k1 => ?_)
  cases b with
  | false => exact h s1 k1
  | true => exact hs rfl A ra s1 pv (r.kp k1) _ _ fun s' k2 => h s' (k1.trans k2)
theorem Tst.and {es pos b} (h : TAll C n env ρ es b) : Tst C n env ρ (.BoolOp .And es pos) b := fun A ra s pv r Q E hq => wpAny_isTrue_BoolOp (h A ra s pv r Q E hq)
theorem Ev.ite {t x y pos b d} (ht : Tst C n env ρ t b) (hx : b = true → Ev C n env ρ x d) (hy : b = false → Ev C n env ρ y d) : Ev C n env ρ (.IfExp t x y pos) d := fun A ra s pv r Q E h => by
  refine wpAny_IfExp (ht A ra s pv r _ _ fun s1 k1 => ?_)
  cases b with
  | true => exact hx rfl A ra s1 pv (r.kp k1) _ _ fun v s' k2 => h v s' (k1.trans k2)
  | false => exact hy rfl A ra s1 pv (r.kp k1) _ _ fun v s' k2 => h v s' (k1.trans k2)
theorem Ev.or2 {x y pos d b d'} (hx : Ev C n env ρ x d) (k : TruOk d b) (h1 : b = true → d' = d) (hy : b = false → Ev C n env ρ y d') : Ev C n env ρ (.BoolOp .Or [x, y] pos) d' := fun A ra s pv r Q E h => by
  refine wpAny_Or2 (hx A ra s pv r _ _ fun v s1 k1 hv => k.run hv fun s2 k2 => ?_)
  cases b with
  | true => have := h1 rfl; subst this; exact h v s2 (k1.trans k2) (hv.kp k2)
  | false => exact hy rfl A ra s2 pv ((r.kp k1).kp k2) _ _ fun v s' k3 => h v s' ((k1.trans k2).trans k3)
noncomputable def AndT (C : Cx) (n : Nat) (env : Env) (ρ : Names) (es : List Expr) : Prop :=
  ∀ A, Room n A → ∀ s pv pos, Rdy C A env ρ pv s → ∀ (Q : Value → Shared → Prop) E, (∀ s', Kp C s s' → Q (.bool true) s') → wpAny (model C.prog C.w) A (boolOp pos .And (evalEach es env)) Q E s
theorem AndT.one {e} (he : Ev C n env ρ e (.bool true)) : AndT C n env ρ [e] := fun A ra s pv pos r Q E h => by
  show wpAny _ A (eval e env) Q E s
  exact he A ra s pv r _ _ fun v s' k hv => by have := hv.bool_inv; subst this; exact h s' k
theorem AndT.cons {e e' es} (he : Ev C n env ρ e (.bool true)) (hs : AndT C n env ρ (e' :: es)) : AndT C n env ρ (e :: e' :: es) := fun A ra s pv pos r Q E h => by
  show wpAny _ A (do
    let v ← eval e env
    standAt pos
    let t ← holding [v] (truthy v)
    match BoolOp.And, t with
    | .And, false | .Or, true => pure v
    | _, _ => boolOp pos .And (evalEach (e' :: es) env)) Q E s
  refine wpAny_bind (he A ra s pv r _ _ fun v s1 k1 hv => wpAny_bind (wpAny_standAt (wpAny_bind (wpAny_holding ?_))))
  have := hv.bool_inv; subst this
  exact wpAny_truthy_bool (hs A ra s1 pv pos (r.kp k1) Q E fun s' k2 => h s' (k1.trans k2))
theorem Ev.andT {es pos} (h : AndT C n env ρ es) : Ev C n env ρ (.BoolOp .And es pos) (.bool true) := fun A ra s pv r Q E hq => by
  rw [arm_eval_BoolOp]
  exact h A ra s pv pos r Q E fun s' k => hq _ s' k (.bool _)
-- calls
noncomputable def PFn (C : Cx) (n : Nat) (f : Value) (args : List PyData) (d : PyData) : Prop :=
  ∀ A, Room n A → ∀ s pv vs, Base C s → Live C A s → (∀ p ∈ pv, ∃ o, s.heap.get? p = some o) → RDs s.heap pv vs args → ∀ Q E,
    (∀ v s', Kp C s s' → RD s'.heap pv v d → Q v s') → wpAny (model C.prog C.w) A (call f vs) Q E s
theorem evalArgs_ev {A : Around} (ra : Room n A) {s pv pos e es ds f} (r : Rdy C A env ρ pv s) (hes : Evs C n env ρ (e :: es) ds) {Q : Args → Shared → Prop} {E : Value → Shared → Prop} (hst : starEach (e :: es) env = (false, eval e env) :: starEach es env)
    (h : ∀ vs s', Kp C s s' → RDs s'.heap pv vs ds → Q ⟨vs, []⟩ s') : wpAny (model C.prog C.w) A (evalArgs f true (backTo pos (starEach (e :: es) env)) []) Q E s := by
  have key := hes A ra s pv pos r (fun vs s' => Q ⟨vs, []⟩ s') E h
  rw [hst] at key ⊢
  exact evalArgs_plain key
theorem ev_glob {A : Around} {s pv x pos} {Q : Value → Shared → Prop} {E : Value → Shared → Prop} (r : Rdy C A env ρ pv s) {v} (hk : env.kindOf x = some .globalImplicit) (hv : C.mg x = some v) (h : Q v s)
    (hd : autoParam ((x == ("__debug__" : Str)) = false) syD) : wpAny (model C.prog C.w) A (eval (.Name x pos) env) Q E s :=
  Name_function_global r.ok.kind hk (loadGlobal_global (by rw [r.ok.gl]; exact base_ns r.base C.g) hv h) hd
theorem ev_built {A : Around} {s pv x pos} {Q : Value → Shared → Prop} {E : Value → Shared → Prop} (r : Rdy C A env ρ pv s) {v} (hk : env.kindOf x = some .globalImplicit) (hm : C.mg x = none) (hv : C.mb x = some v) (h : Q v s)
    (hd : autoParam ((x == ("__debug__" : Str)) = false) syD) : wpAny (model C.prog C.w) A (eval (.Name x pos) env) Q E s :=
  Name_function_global r.ok.kind hk (loadGlobal_builtin (by rw [r.ok.gl]; exact base_ns r.base C.g) hm (by rw [r.ok.bi]; exact base_ns r.base C.b) hv h) hd
theorem star_plain {es : List Expr} (hst : (starEach es env).all (fun x => !x.1) = true) (pos : Pos) : (backTo pos (starEach es env)).any (·.1) = false := by
  unfold backTo
  rw [List.any_map, List.any_eq_false]
  intro x hx
  have := List.all_eq_true.mp hst x hx
  simpa using this
noncomputable def FnAt (C : Cx) (a : Addr) : Prop := ∀ s, Base C s → ∃ o fd, s.heap.get? a = some o ∧ o.data = .func fd
theorem Ev.callF {x p pos e es ds d a} (hes : Evs C n env ρ (e :: es) ds) (hf : PFn C n (.ref a) ds d) (hg : C.mg x = some (.ref a)) (ho : FnAt C a)
    (hk : autoParam (env.kindOf x = some .globalImplicit) syR) (hst : autoParam (starEach (e :: es) env = (false, eval e env) :: starEach es env) syR)
    (hd : autoParam ((x == ("__debug__" : Str)) = false) syD) : Ev C n env ρ (.Call (.Name x p) (e :: es) [] pos) d := fun A ra s pv r Q E h => by
  refine wpAny_Call_NameR (ev_glob r hk hg ?_ hd)
  obtain ⟨o, fd, ho, hfd⟩ := ho s r.base
  refine callWith_function (o := o) (fd := fd) (evalArgs_ev ra r hes hst fun vs s1 k1 h1 => ⟨⟨?_, hfd⟩, ?_⟩)
  · exact k1.sub _ _ ho (nt_func hfd)
  · exact hf A ra s1 pv vs (r.base.mono k1) (r.live.mono k1) (r.kp k1).priv h1 _ _ fun v s' k2 h2 => h v s' (k1.trans k2) h2
theorem Ev.callF0 {x p pos d a} (hf : PFn C n (.ref a) [] d) (hg : C.mg x = some (.ref a)) (ho : FnAt C a)
    (hk : autoParam (env.kindOf x = some .globalImplicit) syR) (hd : autoParam ((x == ("__debug__" : Str)) = false) syD) : Ev C n env ρ (.Call (.Name x p) [] [] pos) d := fun A ra s pv r Q E h => by
  refine wpAny_Call_NameR (ev_glob r hk hg ?_ hd)
  obtain ⟨o, fd, ho, hfd⟩ := ho s r.base
  refine callWith_function (o := o) (fd := fd) (PySem.evalArgs_none ⟨⟨ho, hfd⟩, ?_⟩)
  · exact hf A ra s pv [] r.base r.live r.priv .nil _ _ fun v s' k2 h2 => h v s' k2 h2
theorem Ev.callB {x p pos e es ds d id} (hes : Evs C n env ρ (e :: es) ds) (hf : PFn C n (.builtin id) ds d) (hm : C.mg x = none) (hv : C.mb x = some (.builtin id))
    (hk : autoParam (env.kindOf x = some .globalImplicit) syR) (hst : autoParam (starEach (e :: es) env = (false, eval e env) :: starEach es env) syR) (hpl : autoParam ((starEach (e :: es) env).all (fun x => !x.1) = true) syR)
    (hd : autoParam ((x == ("__debug__" : Str)) = false) syD) : Ev C n env ρ (.Call (.Name x p) (e :: es) [] pos) d := fun A ra s pv r Q E h => by
  refine wpAny_Call_NameR (ev_built r hk hm hv ?_ hd)
  refine callWith_builtin (star_plain hpl pos) (evalArgs_ev ra r hes hst fun vs s1 k1 h1 => ?_)
  exact hf A ra s1 pv vs (r.base.mono k1) (r.live.mono k1) (r.kp k1).priv h1 _ _ fun v s' k2 h2 => h v s' (k1.trans k2) h2
theorem Ev.callT {x p pos e es ds d T} (hes : Evs C n env ρ (e :: es) ds) (hf : PFn C n (.type T) ds d) (hm : C.mg x = none) (hv : C.mb x = some (.type T))
    (hk : autoParam (env.kindOf x = some .globalImplicit) syR) (hst : autoParam (starEach (e :: es) env = (false, eval e env) :: starEach es env) syR) (hpl : autoParam ((starEach (e :: es) env).all (fun x => !x.1) = true) syR)
    (hd : autoParam ((x == ("__debug__" : Str)) = false) syD) : Ev C n env ρ (.Call (.Name x p) (e :: es) [] pos) d := fun A ra s pv r Q E h => by
  refine wpAny_Call_NameR (ev_built r hk hm hv ?_ hd)
  refine PySem.callWith_type (star_plain hpl pos) (evalArgs_ev ra r hes hst fun vs s1 k1 h1 => ?_)
  exact hf A ra s1 pv vs (r.base.mono k1) (r.live.mono k1) (r.kp k1).priv h1 _ _ fun v s' k2 h2 => h v s' (k1.trans k2) h2
theorem pf_len {ds : List PyData} (hl : ds.length < 2 ^ 62) : PFn C n (.builtin "len") [.list ds] (.int ds.length) := fun A ra s pv vs B L P h Q E hq => by
  cases h with
  | cons h1 h2 =>
    cases h2
    obtain ⟨a, ws, rfl, _, e1, e2⟩ := h1.list_inv
    have e := e2.length
    simp only [Array.length_toList] at e
    refine call_len_list e1.isList (by omega) ?_
    rw [e]
    exact hq _ _ Kp.tok (.int _ _)
end
end
section -- C4
def syT (w : String) : Lean.Syntax :=
  if w == "rfl" then syP "tacticRfl" []
  else if w == "z" then syP "withUnfoldingAll" [syQ [syP "tacticRfl" []]]
  else if w == "iz" || w == "iiz" then syP "paren" [syQ [syP "intro" [syN "null" (List.replicate (w.length - 1) (syN "Lean.Parser.Term.hole" [syA "_"]))], syA ";", syP "withUnfoldingAll" [syQ [syP "tacticRfl" []]]], syA ")"]
  else if w == "k" then syN "PyProof.Rows.tacticKernel_rfl!" [syA w]
  else if w == "asm" then syP "assumption" []
  else if w == "ra" then syP "withReducible" [syQ [syP "assumption" []]]
  else syN "PyProof.Rows.tacticWalk_at_" [syA w, (Lean.Syntax.mkStrLit w).raw]
def syH (n : Nat) (w : String) : Lean.Syntax :=
  let c : Lean.Syntax := Lean.mkIdent (w.drop 1).toString.toName
  if n == 48 then syP "exact" [c]
  else if n == 97 then syP "apply" [c]
  else if n == 114 then syP "withReducible" [syQ [syP "apply" [c]]]
  else if n == 33 then syT (w.drop 1).toString
  else syP "refine" [syN "Lean.Parser.Term.app" [c, syN "null" (List.replicate (n - 48) (syN "Lean.Parser.Term.syntheticHole" [syA "?", syA "_"]))]]
def syB (a : String) : Lean.Syntax := syN "group" [syA "|", syQ (match a.splitOn " " with
    | [] => []
    | h :: ws => if h.front.toNat == 98 then [syP "exact" [syN "Lean.Parser.Term.app" [Lean.mkIdent (h.drop 1).toString.toName, syN "null" (ws.map fun w => syN "Lean.Parser.Term.byTactic" [syA "by", syQ [syT w]])]]]
      else syH h.front.toNat h :: ws.flatMap fun w => [syA ";", syP "focus" [syQ [syT w]]])]
def syTab : String := "has: rList.mem_cons_self|rseen_mem has|aList.mem_cons_of_mem has|aList.mem_append_left has|aList.mem_append_right has
ah: !asm|!has
upd: rUpd.nil|rUpd.hit upnot|aUpd.miss ne upd
ne: 1ne_s k
upnot: 1notin_of k
upds: aUpds.nil|aUpds.cons upd upds
ownn: 1Or.inl rfl|1Or.inr rr
rr: 2And.intro rfl rfl
ownall: 0all_nil|2all_cons ownn ownall
none: 0all_nil
evs: aEvs.nil|aEvs.cons ev evs rfl
bin: aBinOk.add|aBinOk.sub|aBinOk.mod dec|aBinOk.div dec dec|aBinOk.cat da
dec: 1of_decide_eq_true k
da: !dec|!asm
itm: aItemOk.tuple rfl rfl dec dec|aItemOk.list rfl rfl dec dec
cmp: aCmpOk.lt|aCmpOk.le|aCmpOk.gt|aCmpOk.ge|aCmpOk.eq rfl rfl|aCmpOk.ne rfl rfl|aCmpOk.isNone|aCmpOk.isBool
ev: 0Ev.cint|0Ev.cstr|0Ev.cnone|0Ev.cbool|bEv.nam has|aEv.neg ev|aEv.bin ev ev bin|aEv.itm ev ev itm iiz|aEv.tup evs len|aEv.lst evs len|aEv.cmp ev ev cmp z
len: 1len_ok k
tst: aTst.cmp ev ev cmp z|aTst.val ev tru iz
tru: aTruOk.bool|aTruOk.int
frees: aFrees.nil|aFrees.skip dec frees|aFrees.take ah ownn frees
subl: rList.Sublist.slnil|rList.Sublist.cons_cons subl|rList.Sublist.cons subl
weak: 0all_nil|1weak_of subl|2all_cons has weak
owno: 0all_nil|1own_ne k|2all_cons dec owno
ownt: 0all_nil|1own_nt k
xnames: 0all_nil|2all_cons xn xnames
xn: 2or_and has dec|1Or.inl sd
sd: rdatsOf_self|rdatsOf_own sd|rdatsOf_next sd
lin: !ra|rNat.le_refl|rNat.le_of_lt ra|rNat.le_add_right|rNat.le_add_left|rInt.natCast_nonneg|rNat.le_trans ra ra|rNat.lt_of_le_of_lt ra ra|rNat.lt_of_lt_of_le ra ra|rNat.lt_trans ra ra|rNat.le_trans ra dec|rNat.lt_of_le_of_lt ra dec|rNat.lt_of_lt_of_le ra dec|req_le ra dec|req_lt ra dec|ri_lt ra k|ri_le ra k|ri_ge dec|rNat.succ_le_of_lt ra|rNat.lt_succ_of_le ra|rNat.le_succ_of_le ra|rNat.le_of_lt_succ ra|rNat.le_of_succ_le ra|rNat.le_of_not_lt ra|rNat.lt_of_not_le ra|rNat.not_lt_of_le ra|rNat.not_le_of_lt ra|rNat.ne_of_gt ra|rle_tt ra lin2|rlt_tt ra lin2|rNat.succ_le_succ lin2|rNat.lt_of_succ_lt ra|rNat.le_antisymm ra lin2|radd_tr ra dec|rNat.add_sub_cancel_left|rNat.add_sub_cancel|rNat.sub_succ_lt_self lin2|rsub_turn ra|rsub_three ra|rNat.sub_sub_self lin2|rsub_step ra|rsub_one ra|rsub_gap ra|rsub_pos ra|rNat.add_sub_cancel' lin2|rsub_back lin2|rmid_l ra|rmid_h ra|rmid_lt ra lin2|rInt.ofNat_lt.mp ra|rInt.ofNat_le.mp ra|rInt.ofNat_lt.mpr ra|rInt.ofNat_le.mpr ra|rsub_nn ra|rInt.not_lt.mpr ra|rInt.not_le.mpr ra|rInt.le_trans ra ra|rInt.lt_of_lt_of_le ra ra|rInt.lt_of_le_of_lt ra ra|rInt.le_of_lt ra|rNat.sub_lt_of_lt ra|rNat.sub_le_of_le_add ra
lin2: !ra|rNat.le_refl|rNat.le_of_lt ra|rNat.lt_succ_of_lt ra|rNat.le_of_not_lt ra|rNat.le_trans ra ra"
def syGo (s : String) : Lean.MacroM Lean.Syntax :=
  match (syTab.splitOn "\n").find? (·.startsWith (s ++ ": ")) with
  | none => Lean.Macro.throwUnsupported
  | some r => pure (syP "first" [syN "null" (((r.drop (s.length + 2)).toString.splitOn "|").map syB)])
theorem eq_le {a b c : Nat} (h : a = b) (k : b ≤ c) : a ≤ c := h ▸ k
theorem eq_lt {a b c : Nat} (h : a = b) (k : b < c) : a < c := h ▸ k
theorem i_lt {i k : Nat} {K : Int} (h : i < k) (d : Nat.ble k K.toNat = true) : (i : Int) < K := Int.lt_toNat.mp (Nat.lt_of_lt_of_le h (Nat.le_of_ble_eq_true d))
theorem i_le {i k : Nat} {K : Int} (h : i ≤ k) (d : Nat.ble (k + 1) K.toNat = true) : (i : Int) < K := Int.lt_toNat.mp (Nat.lt_of_le_of_lt h (Nat.le_of_ble_eq_true d))
theorem i_ge {i : Nat} {K : Int} (d : K ≤ 0) : K ≤ (i : Int) := Int.le_trans d (Int.natCast_nonneg i)
theorem le_tt {a b c : Nat} (h : a ≤ b) (k : b ≤ c) : a ≤ c + 1 := Nat.le_succ_of_le (Nat.le_trans h k)
theorem lt_tt {a b c : Nat} (h : a ≤ b) (k : b ≤ c) : a < c + 1 := Nat.lt_succ_of_le (Nat.le_trans h k)
theorem sub_turn {G k m : Nat} (h : G - k = m + 1) : G - (k + 1) = m := by rw [Nat.sub_succ, h]; rfl
theorem sub_three {G k : Nat} (h : k < G) : G - 1 - (G - k - 1) = k := by rw [Nat.sub_right_comm G k 1]; exact Nat.sub_sub_self (Nat.le_sub_one_of_lt h)
theorem sub_step {a n : Nat} (h : a < n) : n - a = n - (a + 1) + 1 := (Nat.succ_pred_eq_of_pos (Nat.sub_pos_of_lt h)).symm
theorem sub_one {n : Nat} (h : 1 ≤ n) : n = n - 1 + 1 := (Nat.succ_pred_eq_of_pos h).symm
theorem sub_back {a i : Nat} (h : a ≤ i) : i = a + (i - a) := (Nat.add_sub_cancel' h).symm
theorem sub_nn {a b : Nat} (h : b ≤ a) : (0 : Int) ≤ (a : Int) - b := Int.sub_nonneg_of_le (Int.ofNat_le.mpr h)
theorem sub_gap {G k : Nat} (h : k + 1 < G) : G - k = G - k - 1 + 1 := sub_one (Nat.sub_pos_of_lt (Nat.lt_of_succ_lt h))
theorem sub_pos {G k : Nat} (h : k + 1 < G) : 1 ≤ G - k - 1 := by rw [Nat.sub_sub]; exact Nat.sub_pos_of_lt h
theorem mid_lt {l h n : Nat} (q : l < h) (k : h ≤ n) : (l + h) / 2 < n := Nat.lt_of_lt_of_le (Nat.div_lt_of_lt_mul (Nat.two_mul h ▸ Nat.add_lt_add_right q h)) k
theorem mid_ge {l h : Nat} (q : l < h) : l ≤ (l + h) / 2 := (Nat.le_div_iff_mul_le (by decide)).mpr (Nat.mul_two l ▸ Nat.add_le_add_left (Nat.le_of_lt q) l)
theorem mid_l {l h : Nat} (q : l < h) : (l + h) / 2 - l < h - l := Nat.sub_lt_sub_right (mid_ge q) (mid_lt q (Nat.le_refl _))
theorem mid_h {l h : Nat} (q : l < h) : h - ((l + h) / 2 + 1) < h - l := Nat.sub_lt_sub_left q (Nat.lt_succ_of_le (mid_ge q))
theorem add_tr {a b c k : Nat} (h : a ≤ b) (d : b + k ≤ c) : a + k ≤ c := Nat.le_trans (Nat.add_le_add_right h k) d
inductive Upd (x : Str) (d : PyData) : Names → Names → Prop
  | nil : Upd x d [] [(x, d)]
  | hit {d0 ρ} : (∀ e, (x, e) ∉ ρ) → Upd x d ((x, d0) :: ρ) ((x, d) :: ρ)
  | miss {y d0 ρ ρ'} : y ≠ x → Upd x d ρ ρ' → Upd x d ((y, d0) :: ρ) ((y, d0) :: ρ')
theorem ne_s {x y : Str} (h : (x == y) = false) : x ≠ y := beq_eq_false_iff_ne.mp h
theorem notin_of {x : Str} {ρ : Names} (h : (ρ.any fun p => p.1 == x) = false) : ∀ e, (x, e) ∉ ρ := fun e m => by
  have := List.any_eq_false.mp h _ m
  exact this (beq_self_eq_true x)
theorem all_nil {α : Type} {P : α → Prop} : ∀ y ∈ ([] : List α), P y := fun y h => absurd h List.not_mem_nil
theorem all_cons {α : Type} {P : α → Prop} {a : α} {l : List α} (h : P a) (t : ∀ y ∈ l, P y) : ∀ y ∈ a :: l, P y := List.forall_mem_cons.mpr ⟨h, t⟩
theorem or_and {A B D : Prop} (b : B) (d : D) : A ∨ B ∧ D := .inr ⟨b, d⟩
theorem len_ok {α : Type} {l : List α} {n : Nat} (h : Nat.ble l.length n = true) : l.length ≤ n := Nat.le_of_ble_eq_true h
theorem own_ne {β : Type} {own : List (Str × β)} {x : Str} (h : (own.any fun y => y.1 == x) = false) : ∀ y ∈ own, y.1 ≠ x := fun y m e => List.any_eq_false.mp h y m (beq_iff_eq.mpr e)
theorem own_nt {β : Type} {own : List (Str × β)} {ρt : Names} (h : (own.any fun y => ρt.any fun p => p.1 == y.1) = false) : ∀ y ∈ own, ∀ e, (y.1, e) ∉ ρt := fun y m => notin_of (Bool.eq_false_iff.mpr (List.any_eq_false.mp h y m))
theorem Upd.sound {x d} {ρ ρ'} (u : Upd x d ρ ρ') : ∀ y e, (y, e) ∈ ρ' → (y = x ∧ e = d) ∨ (y ≠ x ∧ (y, e) ∈ ρ) := by
  induction u with
  | nil => intro y e m; cases List.mem_singleton.mp m; exact .inl ⟨rfl, rfl⟩
  | hit h =>
    intro y e m
    rcases List.mem_cons.mp m with q | q
    · cases q; exact .inl ⟨rfl, rfl⟩
    · exact .inr ⟨fun z => h e (z ▸ q), List.mem_cons_of_mem _ q⟩
  | miss h _ ih =>
    intro y e m
    rcases List.mem_cons.mp m with q | q
    · cases q; exact .inr ⟨h, List.mem_cons_self⟩
    · rcases ih y e q with r | ⟨r1, r2⟩
      · exact .inl r
      · exact .inr ⟨r1, List.mem_cons_of_mem _ r2⟩
structure Fr2 (s₀ : Shared) (env : Env) (oc : List (Str × Addr)) (m cm : Str → Option Value) (s : Shared) : Prop where
  ns : s.heap.Ns env.locals m
  new : s₀.heap.get? env.locals = none
  same : ∀ x c, oc.lookup x = some c → env.cells.lookup x = some c
  cell : ∀ x c, oc.lookup x = some c → s.heap.IsCell c (cm x) ∧ s₀.heap.get? c = none
  apart : oc.Pairwise fun x y => x.2 ≠ y.2
noncomputable def nv (env : Env) (oc : List (Str × Addr)) (m cm : Str → Option Value) (x : Str) : Option Value :=
  match env.kindOf x with
  | some .local => m x
  | some .cell => if (oc.lookup x).isSome then cm x else none
  | _ => none
theorem nameAt_of {s₀ env oc m cm s x v} (F : Fr2 s₀ env oc m cm s) (h : nv env oc m cm x = some v) : NameAt env s.heap x v := by
  unfold nv at h
  split at h
  · exact .inl ⟨‹_›, m, F.ns, h⟩
  · split at h
    · rename_i hc
      obtain ⟨c, hc⟩ := Option.isSome_iff_exists.mp hc
      exact .inr ⟨.inl ‹_›, c, F.same x c hc, h ▸ (F.cell x c hc).1⟩
    · cases h
  · cases h
noncomputable abbrev Own := List (Str × Addr × List PyData)
noncomputable abbrev prv (own : Own) (pvc : List Addr) : List Addr := own.map (·.2.1) ++ pvc
noncomputable def Holds (env : Env) (oc : List (Str × Addr)) (m cm : Str → Option Value) (s : Shared) (pv : List Addr) (ρ : Names) : Prop := ∀ x d, (x, d) ∈ ρ → ∃ v, nv env oc m cm x = some v ∧ RD s.heap pv v d
noncomputable def Owns (s₀ : Shared) (env : Env) (m cm : Str → Option Value) (s : Shared) (pv : List Addr) (own : Own) : Prop :=
  ∀ x a ds, (x, a, ds) ∈ own → nv env env.cells m cm x = some (.ref a) ∧ s₀.heap.get? a = none ∧ ∃ vs, LsAt s.heap a vs ∧ RDs s.heap pv vs.toList ds
inductive FrT (s₀ : Shared) (env : Env) (pvc : List Addr) (ρ : Names) (own : Own) (s : Shared) : Prop
  | mk (m cm : Str → Option Value) (F : Fr2 s₀ env env.cells m cm s) (H : Holds env env.cells m cm s (prv own pvc) ρ) (O : Owns s₀ env m cm s (prv own pvc) own)
structure St (C : Cx) (A : Around) (s₀ : Shared) (pvc : List Addr) (env : Env) (ρ : Names) (own : Own) (s : Shared) : Prop where
  ok : EnvOk env
  base : Base C s₀
  live : Live C A s
  kp : Kp C s₀ s
  priv : ∀ p ∈ pvc, ∃ o, s₀.heap.get? p = some o
  fr : FrT s₀ env pvc ρ own s
  nd : (own.map (·.2.1)).Nodup
section
variable {C : Cx} {n : Nat} {A : Around} {s₀ s s' : Shared} {pvc : List Addr} {env : Env} {ρ ρ' : Names} {own : Own}
theorem Fr2.kp {oc m cm} (F : Fr2 s₀ env oc m cm s) (k : Kp C s s') : Fr2 s₀ env oc m cm s' := ⟨kp_ns k F.ns, F.new, F.same, fun x c h => ⟨kp_cell k (F.cell x c h).1, (F.cell x c h).2⟩, F.apart⟩
theorem Holds.kp {oc m cm pv} (h : Holds env oc m cm s pv ρ) (k : Kp C s s') : Holds env oc m cm s' pv ρ := fun x d i => let ⟨v, a, b⟩ := h x d i; ⟨v, a, b.kp k⟩
theorem Owns.kp {m cm pv} (h : Owns s₀ env m cm s pv own) (k : Kp C s s') : Owns s₀ env m cm s' pv own := fun x a ds i => let ⟨h1, h2, vs, h3, h4⟩ := h x a ds i; ⟨h1, h2, vs, kp_ls k h3, h4.kp k⟩
theorem St.kps (h : St C A s₀ pvc env ρ own s) (k : Kp C s s') : St C A s₀ pvc env ρ own s' :=
  ⟨h.ok, h.base, h.live.mono k, h.kp.trans k, h.priv, let ⟨m, cm, F, H, O⟩ := h.fr; ⟨m, cm, F.kp k, H.kp k, O.kp k⟩, h.nd⟩
theorem St.weak (h : St C A s₀ pvc env ρ own s) (hs : ∀ x ∈ ρ', x ∈ ρ) : St C A s₀ pvc env ρ' own s :=
  ⟨h.ok, h.base, h.live, h.kp, h.priv, let ⟨m, cm, F, H, O⟩ := h.fr; ⟨m, cm, F, fun x d i => H x d (hs _ i), O⟩, h.nd⟩
theorem prv_there (h : St C A s₀ pvc env ρ own s) : ∀ p ∈ prv own pvc, ∃ o, s.heap.get? p = some o := fun p m => by
  rcases List.mem_append.mp m with m | m
  · obtain ⟨⟨x, a, ds⟩, h1, rfl⟩ := List.mem_map.mp m
    obtain ⟨_, _, _, _, O⟩ := h.fr
    obtain ⟨_, _, vs, ⟨k, e⟩, _⟩ := O x a ds h1
    exact ⟨_, e⟩
  · obtain ⟨o, e⟩ := h.priv p m
    exact h.kp.there e
theorem St.rdy (h : St C A s₀ pvc env ρ own s) : Rdy C A env ρ (prv own pvc) s :=
  ⟨h.ok, h.base.mono h.kp, h.live, fun x d i => let ⟨m, cm, F, H, _⟩ := h.fr; let ⟨v, h1, h2⟩ := H x d i; ⟨v, nameAt_of F h1, h2⟩, prv_there h⟩
noncomputable abbrev seen (own : Own) : Names := own.map fun x => (x.1, .list x.2.2)
theorem St.rdyF (h : St C A s₀ pvc env ρ own s) : Rdy C A env (ρ ++ seen own) pvc s := by
  refine ⟨h.ok, h.base.mono h.kp, h.live, fun x d i => ?_, fun p m => let ⟨o, e⟩ := h.priv p m; h.kp.there e⟩
  obtain ⟨m, cm, F, H, O⟩ := h.fr
  have sub : ∀ a o, a ∈ pvc → s.heap.get? a = some o → a ∈ prv own pvc := fun a _ ha _ => List.mem_append_right _ ha
  rcases List.mem_append.mp i with i | i
  · obtain ⟨v, h1, h2⟩ := H x d i
    exact ⟨v, nameAt_of F h1, h2.sub sub⟩
  · obtain ⟨⟨y, a, ds⟩, h1, e⟩ := List.mem_map.mp i
    cases e
    obtain ⟨p1, p2, vs, p3, p4⟩ := O y a ds h1
    refine ⟨_, nameAt_of F p1, .list (fun q => ?_) p3 (p4.sub sub)⟩
    obtain ⟨o, e⟩ := h.priv a q
    rw [p2] at e; cases e
noncomputable def OwnN (env : Env) (oc : List (Str × Addr)) (x : Str) : Prop := env.kindOf x = some .local ∨ (env.kindOf x = some .cell ∧ (oc.lookup x).isSome = true)
noncomputable def Pl (h : Heap) (L : Addr) : Prop := ∃ o, h.get? L = some o ∧ ((∃ es n, o.data = .dict es n) ∨ ∃ v, o.data = .cell v)
theorem Pl.ns {h : Heap} {L m} (x : h.Ns L m) : Pl h L := let ⟨o, es, n, e, d, _⟩ := x; ⟨o, e, .inl ⟨es, n, d⟩⟩
theorem Pl.cell {h : Heap} {L v} (x : h.IsCell L v) : Pl h L := let ⟨o, e, d⟩ := x; ⟨o, e, .inr ⟨v, d⟩⟩
theorem Pl.nf {h : Heap} {L} (x : Pl h L) : ∀ o, h.get? L = some o → ∀ vs, o.data ≠ .fields vs := fun o e vs q => by
  obtain ⟨o', e', ⟨_, _, d⟩ | ⟨_, d⟩⟩ := x <;> (rw [e] at e'; cases e'; rw [d] at q; cases q)
theorem Pl.ns' {h : Heap} {L} (x : Pl h L) : ∀ o, h.get? L = some o → ∀ vs n, o.data ≠ .seq vs n := fun o e vs n q => by
  obtain ⟨o', e', ⟨_, _, d⟩ | ⟨_, d⟩⟩ := x <;> (rw [e] at e'; cases e'; rw [d] at q; cases q)
theorem Pl.sq {h h' : Heap} {L pv} (x : Pl h L) (hs : Heap.SameBut L h h') : SqK pv h h' := fun b o vs n _ e d => (hs.2 b fun q => by
  rw [q] at e; exact x.ns' _ e _ _ d).trans e
noncomputable def Pl2 (h h' : Heap) (L : Addr) : Prop := Pl h' L ∧ (IsD h L → IsD h' L)
theorem Pl2.ns {h h' : Heap} {L m} (x : h'.Ns L m) : Pl2 h h' L := ⟨.ns x, fun _ => .ns x⟩
theorem Pl2.cell {h h' : Heap} {L v v'} (x : h.IsCell L v) (y : h'.IsCell L v') : Pl2 h h' L := ⟨.cell y, fun ⟨o, es, n, e, d⟩ => by
  obtain ⟨o', e', d'⟩ := x; rw [e] at e'; cases e'; exact nomatch d.symm.trans d'⟩
theorem Live.same {h' tk L} (x : Live C A s) (hs : Heap.SameBut L s.heap h') (p : Pl2 s.heap h' L) : Live C A { s with heap := h', toks := tk } :=
  let ⟨l, a, b⟩ := x; ⟨l, a, b.mono fun L' _ d => by
    by_cases q : L' = L
    · rw [q] at d ⊢; exact p.2 d
    · obtain ⟨o, es, n, e, dd⟩ := d; exact ⟨o, es, n, (hs.2 _ q).trans e, dd⟩⟩
theorem store_at {oc m cm x v} {Q : Unit → Shared → Prop} {E : Value → Shared → Prop} (ok : EnvOk env) (F : Fr2 s₀ env oc m cm s) (hx : OwnN env oc x)
    (h : ∀ h' tk L m' cm', Fr2 s₀ env oc m' cm' { s with heap := h', toks := tk } → s₀.heap.get? L = none → Heap.SameBut L s.heap h' → Pl s.heap L → Pl2 s.heap h' L →
      (∀ y, nv env oc m' cm' y = if y = x then some v else nv env oc m cm y) → (L = env.locals ∨ ∃ y, oc.lookup y = some L) → Q () { s with heap := h', toks := tk }) : wpAny (model C.prog C.w) A (storeName env x v) Q E s := by
  rcases hx with hl | ⟨hl, hc⟩
  · have hp : (env.scope.kind == .class || (env.scope.kind == .module && env.locals != env.globals)) = false := by rw [ok.kind]; rfl
    refine wpAny_storeName_local hl F.ns (fun h' hn hs => ?_) hp
    refine h _ _ env.locals (fun y => if y = x then some v else m y) cm ⟨hn, F.new, F.same, fun y c hy => ⟨(F.cell y c hy).1.sameBut hs fun q => ?_, (F.cell y c hy).2⟩, F.apart⟩ F.new hs (.ns F.ns) (.ns hn) (fun y => ?_) (.inl rfl)
    · obtain ⟨oc, ec, dc⟩ := (F.cell y c hy).1
      obtain ⟨oL, _, _, eL, dL, _⟩ := F.ns
      rw [q, eL] at ec; cases ec; exact nomatch dL.symm.trans dc
    · unfold nv
      by_cases q : y = x
      · subst q; simp [hl]
      · simp only [q, if_false]
  · obtain ⟨c, hc⟩ := Option.isSome_iff_exists.mp hc
    have hce := F.cell x c hc
    refine wpAny_storeName_cell ok.kind hl (F.same x c hc) hce.1 fun h' hn hs => ?_
    refine h _ s.toks c m (fun y => if y = x then some v else cm y) ⟨F.ns.sameBut hs fun q => ?_, F.new, F.same, fun y c' hy => ?_, F.apart⟩ hce.2 hs (.cell hce.1) (.cell hce.1 hn) (fun y => ?_) (.inr ⟨x, hc⟩)
    · obtain ⟨oc, ec, dc⟩ := hce.1
      obtain ⟨oL, _, _, eL, dL, _⟩ := F.ns
      rw [← q, eL] at ec; cases ec; exact nomatch dL.symm.trans dc
    · by_cases q : y = x
      · subst q; rw [hc] at hy; cases hy; simpa using ⟨hn, hce.2⟩
      · simp only [q, if_false]
        exact ⟨(F.cell y c' hy).1.sameBut hs fun e => q (name_of_addr F.apart (mem_of_lookup hy) (e ▸ mem_of_lookup hc)), (F.cell y c' hy).2⟩
    · unfold nv
      by_cases q : y = x
      · subst q; rw [hl]; simp [hc]
      · simp only [q, if_false]
theorem St.stored {x v d} {h' : Heap} {tk : Nat} {L : Addr} {m cm m' cm' : Str → Option Value} (h : St C A s₀ pvc env ρ own s) (hv : RD s.heap (prv own pvc) v d) (hu : Upd x d ρ ρ') (ho : ∀ y ∈ own, y.1 ≠ x)
    (H : Holds env env.cells m cm s (prv own pvc) ρ) (O : Owns s₀ env m cm s (prv own pvc) own)
    (F' : Fr2 s₀ env env.cells m' cm' { s with heap := h', toks := tk }) (hn : s₀.heap.get? L = none) (hs : Heap.SameBut L s.heap h') (p : Pl s.heap L) (p' : Pl2 s.heap h' L)
    (hnv : ∀ y, nv env env.cells m' cm' y = if y = x then some v else nv env env.cells m cm y) : St C A s₀ pvc env ρ' own { s with heap := h', toks := tk } := by
  refine ⟨h.ok, h.base, h.live.same hs p', h.kp.same hn p.nf hs, h.priv, ⟨m', cm', F', fun y e i => ?_, fun y a ds i => ?_⟩, h.nd⟩
  · rcases hu.sound y e i with ⟨rfl, rfl⟩ | ⟨h1, h2⟩
    · exact ⟨v, by rw [hnv]; simp, hv.mono (p.sq hs)⟩
    · obtain ⟨v', e1, e2⟩ := H y e h2
      exact ⟨v', by rw [hnv]; simp [h1, e1], e2.mono (p.sq hs)⟩
  · obtain ⟨e1, e2, vs, ⟨n, e3⟩, e4⟩ := O y a ds i
    exact ⟨by rw [hnv]; simp [ho _ i, e1], e2, vs, ⟨n, (hs.2 _ fun q => by rw [q] at e3; exact p.ns' _ e3 _ _ rfl).trans e3⟩, e4.mono (p.sq hs)⟩
theorem St.store {x v d} {Q : Unit → Shared → Prop} {E : Value → Shared → Prop} (h : St C A s₀ pvc env ρ own s) (hx : OwnN env env.cells x) (hv : RD s.heap (prv own pvc) v d) (hu : Upd x d ρ ρ') (ho : ∀ y ∈ own, y.1 ≠ x)
    (k : ∀ s', St C A s₀ pvc env ρ' own s' → Q () s') : wpAny (model C.prog C.w) A (storeName env x v) Q E s := by
  obtain ⟨m, cm, F, H, O⟩ := h.fr
  exact store_at h.ok F hx fun h' tk L m' cm' F' hn hs p p' hnv _ => k _ (h.stored hv hu ho H O F' hn hs p p' hnv)
theorem St.assign {x p e q rest d} {Q : Flow → Shared → Prop} {E : Value → Shared → Prop} (h : St C A s₀ pvc env ρ own s) (ra : Room n A) (he : Ev C n env ρ e d) (hu : Upd x d ρ ρ') (ho : ∀ y ∈ own, y.1 ≠ x)
    (k : ∀ s', St C A s₀ pvc env ρ' own s' → wpAny (model C.prog C.w) A (execs rest env) Q E s')
    (hx : OwnN env env.cells x) (hsw : autoParam (swapsWith e (some (.Name x p)) q.line env = pure false) syU) :
    wpAny (model C.prog C.w) A (execs (.Assign [.Name x p] e q :: rest) env) Q E s := by
  refine wpAny_execs_cons (wpAny_Assign_Name (he A ra s _ h.rdy _ _ fun v s1 k1 hv => ?_) hsw)
  exact (h.kps k1).store hx hv hu ho k
theorem St.assignF {x p e q rest d} {Q : Flow → Shared → Prop} {E : Value → Shared → Prop} (h : St C A s₀ pvc env ρ own s) (ra : Room n A) (he : Ev C n env (ρ ++ seen own) e d) (hf : flat d = true) (hu : Upd x d ρ ρ') (ho : ∀ y ∈ own, y.1 ≠ x)
    (k : ∀ s', St C A s₀ pvc env ρ' own s' → wpAny (model C.prog C.w) A (execs rest env) Q E s')
    (hx : OwnN env env.cells x) (hsw : autoParam (swapsWith e (some (.Name x p)) q.line env = pure false) syU) :
    wpAny (model C.prog C.w) A (execs (.Assign [.Name x p] e q :: rest) env) Q E s := by
  refine wpAny_execs_cons (wpAny_Assign_Name (he A ra s _ h.rdyF _ _ fun v s1 k1 hv => ?_) hsw)
  exact (h.kps k1).store hx (hv.flat hf _ _) hu ho k
noncomputable abbrev ifQ (C : Cx) (A : Around) (env : Env) (rest : List Stmt) (Q : Flow → Shared → Prop) (E : Value → Shared → Prop) : Flow → Shared → Prop := fun f s' => match f with | .next => wpAny (model C.prog C.w) A (execs rest env) Q E s' | f => Q f s'
theorem St.ifs {t body orelse q rest b} {Q : Flow → Shared → Prop} {E : Value → Shared → Prop} (h : St C A s₀ pvc env ρ own s) (ra : Room n A) (ht : Tst C n env (ρ ++ seen own) t b)
    (k1 : b = true → ∀ s', St C A s₀ pvc env ρ own s' → wpAny (model C.prog C.w) A (execs body env) (ifQ C A env rest Q E) E s')
    (k2 : b = false → ∀ s', St C A s₀ pvc env ρ own s' → wpAny (model C.prog C.w) A (execs orelse env) (ifQ C A env rest Q E) E s') :
    wpAny (model C.prog C.w) A (execs (.If t body orelse q :: rest) env) Q E s := by
  refine wpAny_execs_cons (wpAny_If (ht A ra s _ h.rdyF _ _ fun s1 k => ?_))
  cases b with
  | true => exact k1 rfl s1 (h.kps k)
  | false => exact k2 rfl s1 (h.kps k)
theorem St.ret {e q rest d} {Q : Flow → Shared → Prop} {E : Value → Shared → Prop} (h : St C A s₀ pvc env ρ own s) (ra : Room n A) (he : Ev C n env (ρ ++ seen own) e d)
    (k : ∀ v s', Kp C s₀ s' → RD s'.heap pvc v d → Q (.ret v) s') : wpAny (model C.prog C.w) A (execs (.Return (some e) q :: rest) env) Q E s :=
  wpAny_execs_cons (wpAny_Return_some (he A ra s _ h.rdyF _ _ fun v s1 k1 hv => k v s1 (h.kp.trans k1) hv))
end
end
local macro_rules | `(tactic| walk_at $s:str) => Mine.Internal.syGo s.getString
local macro_rules | `(tactic| omega) => `(tactic| walk_at "lin")
section -- C5
structure DefAt (C : Cx) (a : Addr) (fd : FuncData) : Prop where
  at' : ∀ s, Base C s → ∃ o, s.heap.get? a = some o ∧ o.data = .func fd
  code : ∀ s, Base C s → s.heap.CodeRec fd.code fd.qualname
  gl : fd.globals = mainGlobals
  bi : fd.builtins = builtinsNs
  clo : fd.closure = []
  kind : fd.scope.kind = .function
  co : fd.scope.isCoroutine = false
theorem DefAt.fn {C a fd} (D : DefAt C a fd) : FnAt C a := fun s B => let ⟨o, h, d⟩ := D.at' s B; ⟨o, fd, h, d⟩
theorem bindL_other {kindOf : Str → Option NameKind} : ∀ {binds : List (Str × Value)} {m : Str → Option Value} {x : Str}, (∀ v, (x, v) ∉ binds) → bindL kindOf binds m x = m x
  | [], _, _, _ => rfl
  | (y, v) :: r, m, x, h => by
    unfold bindL
    rw [bindL_other fun u q => h u (List.mem_cons_of_mem _ q)]
    by_cases q : x = y
    · exact absurd (q ▸ List.mem_cons_self) (h v)
    · split
      · simp [q]
      · rfl
theorem bindC_other {kindOf : Str → Option NameKind} : ∀ {binds : List (Str × Value)} {m : Str → Option Value} {x : Str}, (∀ v, (x, v) ∉ binds) → bindC kindOf binds m x = m x
  | [], _, _, _ => rfl
  | (y, v) :: r, m, x, h => by
    unfold bindC
    rw [bindC_other fun u q => h u (List.mem_cons_of_mem _ q)]
    by_cases q : x = y
    · exact absurd (q ▸ List.mem_cons_self) (h v)
    · split
      · rfl
      · simp [q]
theorem bind_nv {kindOf : Str → Option NameKind} {binds : List (Str × Value)} : ∀ {m cm : Str → Option Value} {x : Str} {v : Value}, (binds.map (·.1)).Nodup → (x, v) ∈ binds →
    (kindOf x = some .local → bindL kindOf binds m x = some v) ∧ (kindOf x = some .cell → bindC kindOf binds cm x = some v) := by
  induction binds with
  | nil => intro m cm x v nd h; exact absurd h List.not_mem_nil
  | cons p r ih =>
    intro m cm x v nd h
    obtain ⟨y, u⟩ := p
    have nd' := List.nodup_cons.mp nd
    rcases List.mem_cons.mp h with q | q
    · obtain ⟨rfl, rfl⟩ : x = y ∧ v = u := ⟨congrArg Prod.fst q, congrArg Prod.snd q⟩
      have no : ∀ w, (x, w) ∉ r := fun w hw => nd'.1 (List.mem_map.mpr ⟨_, hw, rfl⟩)
      constructor <;> intro hk
      · unfold bindL; rw [bindL_other no, if_pos hk]; simp
      · unfold bindC; rw [bindC_other no, if_neg (by rw [hk]; decide)]; simp
    · unfold bindL bindC
      exact ih nd'.2 q
section
variable {C : Cx} {n : Nat} {A : Around} {s : Shared}
theorem St.start {pvc : List Addr} {env : Env} {binds : List (Str × Value)} {ρ : Names} {s' : Shared} (ok : EnvOk env) (B : Base C s) (L : Live C A s) (P : ∀ p ∈ pvc, ∃ o, s.heap.get? p = some o)
    (x : InCallC s env.locals (bindL env.kindOf binds fun _ => none) env.cells (bindC env.kindOf binds fun _ => none) s') (nd : (binds.map (·.1)).Nodup) (hf : env.frame = some env.locals)
    (hr : ∀ y d, (y, d) ∈ ρ → ∃ v, (y, v) ∈ binds ∧ RD s.heap pvc v d ∧ (env.kindOf y = some .local ∨ (env.kindOf y = some .cell ∧ (env.cells.lookup y).isSome = true))) :
    St C (A.deeper env) s pvc env ρ [] s' := by
  obtain ⟨h', tk, rfl⟩ := x.toInCall.same
  have hk : ∀ b o, s.heap.get? b = some o → h'.get? b = some o := x.toInCall.keep
  have none_of : ∀ c, s.heap.objs.size ≤ c → s.heap.get? c = none := fun c hc => by
    cases q : s.heap.get? c with
    | none => rfl
    | some o => exact absurd (Heap.lt_size q) (Nat.not_lt.mpr hc)
  have hL := none_of _ x.toInCall.fresh
  refine ⟨ok, B, ?_, Kp.keep hk, P, ⟨_, _, ⟨x.toInCall.ns, hL, fun _ _ e => e, fun y c hy => ⟨x.cell y c hy, none_of _ ?_⟩, x.apart⟩, fun y d i => ?_, fun _ _ _ i => nomatch i⟩, List.nodup_nil⟩
  · obtain ⟨l, a, b⟩ := L.mono (Kp.keep (C := C) (tk := tk) hk)
    refine ⟨env :: l, by show A.frames.map (env :: ·) = _; rw [a]; rfl, fun e' he => ?_⟩
    rcases List.mem_cons.mp he with rfl | he
    · refine ⟨by rw [ok.kind]; decide, e'.locals, hf, ?_, .ns x.toInCall.ns⟩
      cases q : C.h₁.get? e'.locals with
      | none => rfl
      | some o' => obtain ⟨_, q'⟩ := B.there _ _ q; rw [hL] at q'; cases q'
    · exact b e' he
  · exact Nat.le_trans x.toInCall.fresh (Nat.le_of_lt (x.above y c (mem_of_lookup hy)))
  · obtain ⟨v, h1, h2, h3⟩ := hr y d i
    obtain ⟨b1, b2⟩ := bind_nv (kindOf := env.kindOf) (m := fun _ => none) (cm := fun _ => none) nd h1
    refine ⟨v, ?_, h2.kp (Kp.keep (C := C) (tk := tk) hk)⟩
    unfold nv
    rcases h3 with h3 | ⟨h3, h4⟩
    · rw [h3]; exact b1 h3
    · rw [h3]; simp [h4, b2 h3]
theorem call_def {a : Addr} {fd : FuncData} {body : List Stmt} {args : Args} {binds : List (Str × Value)} {R : Result → Shared → Prop} (D : DefAt C a fd) (hbody : fd.body = .stmts body) (hgen : fd.scope.isGenerator = false) (B : Base C s)
    (hroom : A.depth < recursionLimit) (hbind : BindsTo s fd args binds)
    (hkind : ∀ x ∈ binds, fd.scope.names.lookup x.1 = some .local ∨ (fd.scope.names.lookup x.1 = some .cell ∧ ((cellsFrom (s.heap.objs.size + 1) fd.scope.names []).lookup x.1).isSome = true))
    (h : ∀ s₁ env, env = callEnvC fd s.heap.objs.size a → InCallC s env.locals (bindL env.kindOf binds fun _ => none) env.cells (bindC env.kindOf binds fun _ => none) s₁ →
      wpAny (model C.prog C.w) (A.deeper env) (execs body env) (fun f s' => R (.ok (.ret (match f with | .ret v => v | _ => .none))) s')
        (fun e s' => wpAny (model C.prog C.w) (A.deeper env) (leaving env e) (fun _ s'' => R (.error e) s'') (fun e' s'' => R (.error e') s'') s') s₁) :
    codeAny (model C.prog C.w) A (.call (.ref a) args) R s := by
  obtain ⟨o, ho, hd⟩ := D.at' s B
  refine codeAny_call_function hroom ho hd D.co hgen hbody (D.code s B) ?_
  refine hbind _ _ _ _ ?_
  rw [D.clo]
  refine wpAny_newFunctionEnv_cells D.kind hkind fun env he s' x => ?_
  subst he
  exact ⟨(base_nolimit B C.nolimit).keeps x.toInCall.keep, codeAny_func (h s' _ rfl x)⟩
theorem envOk_of {a : Addr} {fd : FuncData} {L : Addr} (D : DefAt C a fd) : EnvOk (callEnvC fd L a) := ⟨D.kind, D.gl, D.bi⟩
theorem all0 {P : List Value → Prop} (h : P []) (vs : List Value) (e : vs.length = 0) : P vs := by cases vs; exact h; cases e
theorem all1 {P : List Value → Prop} (h : ∀ v, P [v]) (vs : List Value) (e : vs.length = 1) : P vs := by
  obtain ⟨v, rfl⟩ := List.length_eq_one_iff.mp e; exact h v
theorem all2 {P : List Value → Prop} (h : ∀ v w, P [v, w]) (vs : List Value) (e : vs.length = 2) : P vs := by
  cases vs with
  | nil => cases e
  | cons v r => exact all1 (P := fun r => P (v :: r)) (h v) r (Nat.succ.inj e)
theorem PFn.of_def {a : Addr} {fd : FuncData} {body : List Stmt} {xs : List Str} {args : List PyData} {d : PyData} (D : DefAt C a fd) (hbody : fd.body = .stmts body) (hgen : fd.scope.isGenerator = false)
    (hlen : xs.length = args.length) (hbind : ∀ vs : List Value, vs.length = xs.length → bindArgs fd ⟨vs, []⟩ = pure (xs.zip vs)) (nd : xs.Nodup)
    (hkind : ∀ L, ∀ x ∈ xs, fd.scope.names.lookup x = some .local ∨ (fd.scope.names.lookup x = some .cell ∧ ((cellsFrom (L + 1) fd.scope.names []).lookup x).isSome = true))
    (h : ∀ A s₀ pvc L s env, env = callEnvC fd L a → Room n A → St C A s₀ pvc env (xs.zip args) [] s → ∀ Q E, (∀ f v s', (f = .ret v ∨ (v = .none ∧ ∀ u, f ≠ .ret u)) → Kp C s₀ s' → RD s'.heap pvc v d → Q f s') → wpAny (model C.prog C.w) A (execs body env) Q E s) :
    PFn C (n + 1) (.ref a) args d := fun A ra s pv vs B L P hv Q E hq => by
  have hl : vs.length = xs.length := by rw [hv.length, hlen]
  have fst : ∀ y ∈ xs.zip vs, y.1 ∈ xs := fun y hy => (List.of_mem_zip (show (y.1, y.2) ∈ xs.zip vs from hy)).1
  have ndz : ((xs.zip vs).map (·.1)).Nodup := by rw [List.map_fst_zip (by omega)]; exact nd
  refine wpAny_call (call_def D hbody hgen B (by have := ra.depth; omega) (.of_eq (hbind vs hl)) (fun x hx => hkind _ _ (fst x hx)) fun s₁ env he x => ?_)
  have ok : EnvOk env := he ▸ envOk_of D
  have st : St C (A.deeper env) s pv env (xs.zip args) [] s₁ := by
    refine St.start ok B L P x ndz (by rw [he]; rfl) fun y d' i => ?_
    obtain ⟨j, hj, e⟩ := List.mem_iff_getElem.mp i
    have hj' : j < xs.length ∧ j < args.length := by simp at hj; omega
    rw [List.getElem_zip] at e
    cases e
    obtain ⟨v, e1, e2⟩ := hv.get (i := j) (List.getElem?_eq_getElem hj'.2)
    refine ⟨v, ?_, e2, ?_⟩
    · refine List.mem_iff_getElem.mpr ⟨j, by simp; omega, ?_⟩
      rw [List.getElem_zip]
      have := List.getElem?_eq_some_iff.mp e1
      obtain ⟨_, e1⟩ := this
      rw [e1]
    · rw [he]; exact hkind _ _ (List.getElem_mem _)
  refine wpAny_mono (h _ s pv _ s₁ env he (ra.deeper env) st (fun f s' => Q (match f with | .ret v => v | _ => .none) s') (fun _ _ => False) fun f v s' hf k1 k2 => ?_) (fun _ _ q => q) fun _ _ e => e.elim
  rcases hf with rfl | ⟨rfl, hf⟩
  · exact hq _ _ k1 k2
  · cases f <;> first | exact hq _ _ k1 k2 | exact absurd rfl (hf _)
theorem PFn.le {f args d m} (h : PFn C n f args d) (hm : n ≤ m) : PFn C m f args d := fun A ra => h A (ra.le hm)
end
end
section -- C6
noncomputable def Nf (o : Obj) : Prop := Nd o ∧ (∀ es n, o.data ≠ .dict es n) ∧ ∀ v, o.data ≠ .cell v
theorem Nf.seq {o : Obj} {vs n} (h : o.data = .seq vs n) : Nf o := ⟨nt_seq h, fun _ _ q => (nomatch h.symm.trans q), fun _ q => (nomatch h.symm.trans q)⟩
theorem Nf.fields {o : Obj} {vs T} (h : o.data = .fields vs) (c : o.cls = .type T) : Nf o := ⟨⟨nt_cls (by rw [c]; exact fun q => nomatch q), fun _ _ q => (nomatch h.symm.trans q)⟩, fun _ _ q => (nomatch h.symm.trans q), fun _ q => (nomatch h.symm.trans q)⟩
structure Itr (C : Cx) (A : Around) (pv : List Addr) (s s' : Shared) (I : Addr) (ds : List PyData) (fp wr : List Addr) (P : Nat → Value → Prop) (J : Nat → Heap → Prop) : Prop where
  kp : Kp C s s'
  walk : Walks C.prog C.w A I fp wr ds.length P J
  start : J 0 s'.heap
  out : ∀ b ∈ fp, b ∉ pv
  live : ∀ i h, J i h → ∀ b ∈ fp, ∃ o, h.get? b = some o ∧ Nf o
  wrI : ∀ b ∈ wr, b = I
  newI : s.heap.get? I = none
  memI : I ∈ fp
  clsI : ∀ i h, J i h → ∀ o, h.get? I = some o → o.cls ≠ .none ∧ o.cls ≠ .type "code" ∧ ∃ vs, o.data = .fields vs
  read : ∀ i v d, P i v → ds[i]? = some d → RD s.heap pv v d
  let' : ∀ i (s : Shared) t v (Q : Unit → Shared → Prop) E, J i s.heap → Q () s → wpAny (model C.prog C.w) A (letOwnedTupleGo t (.ref I) v) Q E s
theorem letGo_any {M : Model} {A : Around} {s : Shared} {I : Addr} {o : Obj} {n : String} {t : Expr} {v : Value} {Q : Unit → Shared → Prop} {E : Value → Shared → Prop} (ho : s.heap.get? I = some o) (hc : o.cls = .type n)
    (hn : ["enumerate", "zip", "dict_itemiterator", "dict_reverseitemiterator", "odict_iterator", "itertools.zip_longest", "itertools.pairwise"].contains n = false) (h : Q () s) : wpAny M A (letOwnedTupleGo t (.ref I) v) Q E s := by
  have go : wpAny M A (match (Value.ref I, v) with
      | (.ref r, .ref a) => (do
        let o ← load r
        match o.cls, o.data with
        | .type n, .fields vs =>
          if ["enumerate", "zip", "dict_itemiterator", "dict_reverseitemiterator", "odict_iterator", "itertools.zip_longest", "itertools.pairwise"].contains n && vs[0]? == some (rawInt a) then
            rule "for.unpacks-the-owned-tuple"
            updateField r 0 .none
        | _, _ => pure () : Sem Unit)
      | _ => pure ()) Q E s := by
    cases v <;> first | exact wpAny_pure h | skip
    refine wpAny_bind (wpAny_load ho ?_)
    rw [hc]
    cases o.data <;> first | exact wpAny_pure h | skip
    dsimp only
    rw [hn]
    exact wpAny_pure h
  cases t <;> first | exact wpAny_pure h | exact go
noncomputable def EvIt (C : Cx) (n : Nat) (env : Env) (ρ : Names) (e : Expr) (ds : List PyData) : Prop :=
  ∀ A, Room n A → ∀ s pv, Rdy C A env ρ pv s → ∀ (Q : Value → Shared → Prop) E, (∀ I s₁ s₂ fp wr P J, Kp C s s₁ → Itr C A pv s₁ s₂ I ds fp wr P J → Q (.ref I) s₂) →
    wpAny (model C.prog C.w) A (eval e env) (fun x s₁ => wpAny (model C.prog C.w) A (pyIter x) Q E s₁) E s
noncomputable def rangeD (a c : Int) (n : Nat) : List PyData := (List.range n).map fun i : Nat => .int (a + i * c)
section
variable {C : Cx} {n : Nat} {env : Env} {ρ : Names}
theorem noObj {h : Heap} : h.get? h.objs.size = none := by
  cases q : h.get? h.objs.size with
  | none => rfl
  | some o => exact absurd (Heap.lt_size q) (Nat.lt_irrefl _)
theorem itr_list {A : Around} {s : Shared} {pv a} {vs : Array Value} {ds} (hh : A.handled = none) (ha : a ∉ pv) (hn : s.heap.objs.size ∉ pv) (hl : LsAt s.heap a vs) (hr : RDs s.heap pv vs.toList ds) :
    Itr C A pv s { s with heap := s.heap.push { cls := .type "list_iterator", data := .fields #[.ref a, .int 0 0] } } s.heap.objs.size ds [s.heap.objs.size, a] [s.heap.objs.size] (fun i v => vs[i]? = some v)
      (fun i h => h.IsListIter s.heap.objs.size a i ∧ h.IsList a vs) := by
  have hne : a ≠ s.heap.objs.size := fun q => by obtain ⟨_, e⟩ := hl; rw [q] at e; exact nomatch noObj.symm.trans e
  have hlen : vs.size = ds.length := by rw [← hr.length]; simp
  refine ⟨Kp.push, hlen ▸ Walks.list hh _ _ hne vs, ⟨⟨_, Heap.get?_push_size _ rfl, rfl, rfl⟩, hl.isList.push _⟩, ?_, ?_, ?_, noObj, by simp, ?_, ?_, ?_⟩
  · intro b hb; simp at hb; rcases hb with rfl | rfl <;> assumption
  · rintro i h ⟨⟨o, e, c, d⟩, o', e', c', n', d'⟩ b hb
    simp at hb
    rcases hb with rfl | rfl
    · exact ⟨o, e, .fields d c⟩
    · exact ⟨o', e', .seq d'⟩
  · intro b hb; simpa using hb
  · rintro i h ⟨⟨o, e, c, d⟩, _⟩ o' e'
    rw [e] at e'; cases e'; rw [c]; exact ⟨(fun q => nomatch q), by decide, _, d⟩
  · intro i v d hv hd
    obtain ⟨v', e1, e2⟩ := hr.get hd
    have : v' = v := by
      have hv : vs.toList[i]? = some v := by simpa using hv
      rw [hv] at e1; cases e1; rfl
    exact this ▸ e2
  · rintro i s' t v Q E ⟨⟨o, e, c, d⟩, _⟩ h
    exact letGo_any e c (by decide) h
theorem itr_tuple {A : Around} {s : Shared} {pv a} {vs : Array Value} {ds} (hh : A.handled = none) (ha : a ∉ pv) (hn : s.heap.objs.size ∉ pv) (hl : s.heap.IsTuple a vs) (hr : RDs s.heap pv vs.toList ds) :
    Itr C A pv s { s with heap := s.heap.push { cls := .type "tuple_iterator", data := .fields #[.ref a, .int 0 0] } } s.heap.objs.size ds [s.heap.objs.size, a] [s.heap.objs.size] (fun i v => vs[i]? = some v)
      (fun i h => h.IsTupleIter s.heap.objs.size a i ∧ h.IsTuple a vs) := by
  have hne : a ≠ s.heap.objs.size := fun q => by obtain ⟨_, e, _⟩ := hl; rw [q] at e; exact nomatch noObj.symm.trans e
  have hlen : vs.size = ds.length := by rw [← hr.length]; simp
  refine ⟨Kp.push, hlen ▸ Walks.tuple hh _ _ hne vs, ⟨⟨_, Heap.get?_push_size _ rfl, rfl, rfl⟩, hl.push _⟩, ?_, ?_, ?_, noObj, by simp, ?_, ?_, ?_⟩
  · intro b hb; simp at hb; rcases hb with rfl | rfl <;> assumption
  · rintro i h ⟨⟨o, e, c, d⟩, o', e', c', n', d'⟩ b hb
    simp at hb
    rcases hb with rfl | rfl
    · exact ⟨o, e, .fields d c⟩
    · exact ⟨o', e', .seq d'⟩
  · intro b hb; simpa using hb
  · rintro i h ⟨⟨o, e, c, d⟩, _⟩ o' e'
    rw [e] at e'; cases e'; rw [c]; exact ⟨(fun q => nomatch q), by decide, _, d⟩
  · intro i v d hv hd
    obtain ⟨v', e1, e2⟩ := hr.get hd
    have : v' = v := by
      have hv : vs.toList[i]? = some v := by simpa using hv
      rw [hv] at e1; cases e1; rfl
    exact this ▸ e2
  · rintro i s' t v Q E ⟨⟨o, e, c, d⟩, _⟩ h
    exact letGo_any e c (by decide) h
theorem itr_range {A : Around} {s : Shared} {pv} {a c : Int} {k : Nat} (hh : A.handled = none) (hn : s.heap.objs.size ∉ pv) :
    Itr C A pv s { s with heap := s.heap.push { cls := .type "range_iterator", data := .fields #[rawInt a, rawInt k, rawInt c] } } s.heap.objs.size (rangeD a c k) [s.heap.objs.size] [s.heap.objs.size] (fun i v => ∃ t, v = .int (a + i * c) t)
      (fun i h => IsRangeIter h s.heap.objs.size (a + (i : Nat) * c) ((k : Int) - (i : Nat)) c) := by
  have hlen : k = (rangeD a c k).length := by simp [rangeD]
  refine ⟨Kp.push, hlen ▸ Walks.range hh _ a c k, ?_, ?_, ?_, ?_, noObj, by simp, ?_, ?_, ?_⟩
  · have : a + ((0 : Nat) : Int) * c = a := by simp
    show Heap.get? _ _ = _
    rw [this]
    simpa using Heap.get?_push_size (h := s.heap) (o := { cls := .type "range_iterator", data := .fields #[rawInt a, rawInt k, rawInt c] }) rfl
  · intro b hb; simp at hb; rcases hb with rfl; assumption
  · rintro i h e b hb
    simp at hb
    rcases hb with rfl
    exact ⟨_, e, .fields rfl rfl⟩
  · intro b hb; simpa using hb
  · rintro i h e o' e'
    rw [e] at e'; cases e'; exact ⟨(fun q => nomatch q), by show Value.type "range_iterator" ≠ .type "code"; decide, _, rfl⟩
  · rintro i v d ⟨t, rfl⟩ hd
    simp only [rangeD, List.getElem?_map, Option.map_eq_some_iff] at hd
    obtain ⟨j, hj, rfl⟩ := hd
    obtain ⟨h1, h2⟩ := List.getElem?_eq_some_iff.mp hj
    simp at h2
    subst h2
    exact .int _ _
  · rintro i s' t v Q E e h
    exact letGo_any e rfl (by decide) h
theorem EvIt.list {e ds} (he : Ev C n env ρ e (.list ds)) : EvIt C n env ρ e ds := fun A ra s pv r Q E h =>
  he A ra s pv r _ _ fun v s1 k1 hv => by
    obtain ⟨a, vs, rfl, h1, h2, h3⟩ := hv.list_inv
    exact wpAny_pyIter_list h2.isList (h _ s1 _ _ _ _ _ k1 (itr_list ra.handled h1 (r.kp k1).new h2 h3))
theorem EvIt.tuple {e ds} (he : Ev C n env ρ e (.tuple ds)) : EvIt C n env ρ e ds := fun A ra s pv r Q E h =>
  he A ra s pv r _ _ fun v s1 k1 hv => by
    obtain ⟨a, vs, rfl, h1, h2, h3⟩ := hv.tuple_inv
    exact wpAny_pyIter_tuple h2 (h _ s1 _ _ _ _ _ k1 (itr_tuple ra.handled h1 (r.kp k1).new h2 h3))
theorem evIt_range {A : Around} {s s1 : Shared} {pv} {Q : Value → Shared → Prop} {E : Value → Shared → Prop} {a b c : Int} {t u v : Tok} {k : Nat} {r : Addr} (hh : A.handled = none) (k1 : Kp C s s1) (hp : s1.heap.objs.size ∉ pv)
    (hr : IsRange s1.heap r a b c t u v) (hs : Builtin.Range.small a b c = true) (hk : Builtin.Range.rangeSize a b c = k)
    (h : ∀ I s₁ s₂ fp wr P J, Kp C s s₁ → Itr C A pv s₁ s₂ I (rangeD a c k) fp wr P J → Q (.ref I) s₂) : wpAny (model C.prog C.w) A (pyIter (.ref r)) Q E s1 := by
  refine wpAny_pyIter_range hr hs ?_
  rw [hk]
  exact h _ s1 _ _ _ _ _ k1 (itr_range hh hp)
noncomputable def RangeIs (C : Cx) : Prop := C.mg "range" = none ∧ C.mb "range" = some (.type "range")
theorem EvIt.range1 (hR : RangeIs C) {p e pos} {N : Nat} (he : Ev C n env ρ e (.int N)) (hN : (N : Int) < 2 ^ 62) (hk : autoParam (env.kindOf "range" = some .globalImplicit) syR)
    (hst : autoParam (starEach [e] env = (false, eval e env) :: starEach [] env) syR) (hpl : autoParam ((starEach [e] env).all (fun x => !x.1) = true) syR) : EvIt C n env ρ (.Call (.Name "range" p) [e] [] pos) (rangeD 0 1 N) := fun A ra s pv r Q E h => by
  refine wpAny_Call_NameR (ev_built r hk hR.1 hR.2 ?_)
  refine PySem.callWith_type (star_plain hpl pos) (evalArgs_ev ra r (.cons he .nil hst) hst fun vs s1 k1 h1 => ?_)
  obtain ⟨v, rfl, g1⟩ := RDs.inv1 h1
  obtain ⟨t, rfl⟩ := g1.int_inv
  refine call_range_1 ?_
  have kk := k1.trans (Kp.push (C := C) (s := s1) (o := { cls := .type "range", data := .fields #[.int 0 s1.toks, .int N t, .int 1 (s1.toks + 1)] }))
  refine evIt_range ra.handled (kk.trans (Kp.tok (tk := s1.toks + 1 + 1))) ((r.kp kk).kp (Kp.tok (tk := s1.toks + 1 + 1))).new (IsRange.new _ _ _ _ _ _ _) (small_one (by omega) (by omega) (by omega) hN) ?_ h
  rw [rangeSize_one]; split <;> omega
theorem EvIt.range2 (hR : RangeIs C) {p e e' pos} {a : Int} {N : Nat} (he : Ev C n env ρ e (.int a)) (he' : Ev C n env ρ e' (.int (a + N))) (ha : -(2 ^ 62) ≤ a) (hN : a + N < 2 ^ 62) (hk : autoParam (env.kindOf "range" = some .globalImplicit) syR)
    (hst : autoParam (starEach [e, e'] env = (false, eval e env) :: starEach [e'] env) syR) (hst' : autoParam (starEach [e'] env = (false, eval e' env) :: starEach [] env) syR) (hpl : autoParam ((starEach [e, e'] env).all (fun x => !x.1) = true) syR) :
    EvIt C n env ρ (.Call (.Name "range" p) [e, e'] [] pos) (rangeD a 1 N) := fun A ra s pv r Q E h => by
  refine wpAny_Call_NameR (ev_built r hk hR.1 hR.2 ?_)
  refine PySem.callWith_type (star_plain hpl pos) (evalArgs_ev ra r (.cons he (.cons he' .nil hst') hst) hst fun vs s1 k1 h1 => ?_)
  obtain ⟨v, w, rfl, g1, g2⟩ := h1.inv2
  obtain ⟨t, rfl⟩ := g1.int_inv
  obtain ⟨u, rfl⟩ := g2.int_inv
  refine call_range_2 ?_
  have kk := k1.trans (Kp.push (C := C) (s := s1) (o := { cls := .type "range", data := .fields #[.int a t, .int (a + N) u, .int 1 s1.toks] }))
  refine evIt_range ra.handled (kk.trans (Kp.tok (tk := s1.toks + 1))) ((r.kp kk).kp (Kp.tok (tk := s1.toks + 1))).new (IsRange.new _ _ _ _ _ _ _) (small_one ha (by omega) (by omega) hN) ?_ h
  rw [rangeSize_one]; split <;> omega
theorem EvIt.rangeDown (hR : RangeIs C) {p e e' e'' pos} {N : Nat} (he : Ev C n env ρ e (.int N)) (he' : Ev C n env ρ e' (.int (-1))) (he'' : Ev C n env ρ e'' (.int (-1))) (hN : N < 1000) (hk : autoParam (env.kindOf "range" = some .globalImplicit) syR)
    (hst : autoParam (starEach [e, e', e''] env = (false, eval e env) :: starEach [e', e''] env) syR) (hst' : autoParam (starEach [e', e''] env = (false, eval e' env) :: starEach [e''] env) syR) (hst'' : autoParam (starEach [e''] env = (false, eval e'' env) :: starEach [] env) syR)
    (hpl : autoParam ((starEach [e, e', e''] env).all (fun x => !x.1) = true) syR) :
    EvIt C n env ρ (.Call (.Name "range" p) [e, e', e''] [] pos) (rangeD N (-1) (N + 1)) := fun A ra s pv r Q E h => by
  refine wpAny_Call_NameR (ev_built r hk hR.1 hR.2 ?_)
  refine PySem.callWith_type (star_plain hpl pos) (evalArgs_ev ra r (.cons he (.cons he' (.cons he'' .nil hst'') hst') hst) hst fun vs s1 k1 h1 => ?_)
  obtain ⟨v, w, x, rfl, g1, g2, g3⟩ := h1.inv3
  obtain ⟨t, rfl⟩ := g1.int_inv
  obtain ⟨u, rfl⟩ := g2.int_inv
  obtain ⟨v, rfl⟩ := g3.int_inv
  refine PySem.call_range_3 (by decide) ?_ (Or.inl (PyProof.noPylong_small (by decide)))
  have kk := k1.trans (Kp.push (C := C) (s := s1) (o := { cls := .type "range", data := .fields #[.int N t, .int (-1) u, .int (-1) v] }))
  refine evIt_range ra.handled kk (r.kp kk).new (IsRange.new _ _ _ _ _ _ _) ?_ ?_ h
  · have e : Builtin.Range.rangeSize (N : Int) (-1) (-1) = N + 1 := by
      unfold Builtin.Range.rangeSize
      rw [if_neg (by decide), if_pos (by omega)]
      show ((N : Int) - (-1) - 1) / 1 + 1 = _
      rw [Int.ediv_one]; omega
    unfold Builtin.Range.small
    rw [e]
    unfold Builtin.Range.rangeFitsLong
    simp
    omega
  · unfold Builtin.Range.rangeSize
    rw [if_neg (by decide), if_pos (by omega)]
    show ((N : Int) - (-1) - 1) / 1 + 1 = _
    rw [Int.ediv_one]; omega
end
end
section -- C7
-- closures
noncomputable def clOf (env : Env) : List (Str × NameKind) → List (Str × Addr) → List (Str × Addr)
  | [], acc => acc
  | (x, k) :: r, acc => if k == .free then clOf env r ((x, (env.cells.lookup x).getD 0) :: acc) else clOf env r acc
theorem closureFor_eq {scope : Scope} {env : Env} (h : ∀ x, (x, NameKind.free) ∈ scope.names → (env.cells.lookup x).isSome = true) : closureFor scope env = pure (clOf env scope.names []) := by
  unfold closureFor
  have key : ∀ (names : List (Str × NameKind)) (acc : List (Str × Addr)), (∀ x, (x, NameKind.free) ∈ names → (env.cells.lookup x).isSome = true) →
      (forIn names acc fun (a : Str × NameKind) r => (if a.2 == NameKind.free then do
        let c ← cellOf env a.1
        pure (ForInStep.yield ((a.1, c) :: r)) else pure (ForInStep.yield r) : Sem _)) = pure (clOf env names acc) := by
    intro names
    induction names with
    | nil => intro acc _; rfl
    | cons y r ih =>
      obtain ⟨x, k⟩ := y
      intro acc hh
      rw [List.forIn_cons]
      unfold clOf
      by_cases hk : (k == NameKind.free) = true
      · have hx := hh x (by simp at hk; subst hk; exact List.mem_cons_self)
        obtain ⟨c, hc⟩ := Option.isSome_iff_exists.mp hx
        have e : cellOf env x = pure c := by unfold cellOf; rw [hc]
        simp only [hk, if_true, e, hc, Option.getD_some]
        exact ih _ fun x hx => hh x (List.mem_cons_of_mem _ hx)
      · simp only [hk]
        exact ih _ fun x hx => hh x (List.mem_cons_of_mem _ hx)
  have := key scope.names [] h
  simp only [this]
  rfl
theorem clOf_lookup {env : Env} {x : Str} : ∀ {names : List (Str × NameKind)} {acc : List (Str × Addr)}, (∀ k, (x, k) ∉ names) → (clOf env names acc).lookup x = acc.lookup x
  | [], _, _ => rfl
  | (y, k) :: r, acc, h => by
    unfold clOf
    have hr : ∀ k, (x, k) ∉ r := fun k q => h k (List.mem_cons_of_mem _ q)
    split
    · rw [clOf_lookup hr, List.lookup_cons]
      have : (x == y) = false := by
        rw [beq_eq_false_iff_ne]; intro q; exact h k (q ▸ List.mem_cons_self)
      rw [this]
    · exact clOf_lookup hr
theorem clOf_free {env : Env} {x : Str} {c : Addr} (hc : env.cells.lookup x = some c) : ∀ {names : List (Str × NameKind)} {acc : List (Str × Addr)}, (names.map (·.1)).Nodup → (x, NameKind.free) ∈ names → (clOf env names acc).lookup x = some c
  | (y, k) :: r, acc, nd, h => by
    have nd' := List.nodup_cons.mp nd
    unfold clOf
    rcases List.mem_cons.mp h with q | q
    · cases q
      rw [if_pos (by rfl), clOf_lookup fun k q => nd'.1 (List.mem_map.mpr ⟨_, q, rfl⟩), List.lookup_cons]
      simp [hc]
    · split
      · exact clOf_free hc nd'.2 q
      · exact clOf_free hc nd'.2 q
theorem cellsFrom_append : ∀ (names : List (Str × NameKind)) (n : Nat) (acc : List (Str × Addr)), cellsFrom n names acc = cellsFrom n names [] ++ acc
  | [], _, _ => rfl
  | (x, k) :: r, n, acc => by
    unfold cellsFrom
    split
    · rw [cellsFrom_append r (n + 1) ((x, n) :: acc), cellsFrom_append r (n + 1) [(x, n)], List.append_assoc]; rfl
    · exact cellsFrom_append r n acc
theorem cellsFrom_miss {x : Str} : ∀ {names : List (Str × NameKind)} {n : Nat} {acc : List (Str × Addr)}, (x, NameKind.cell) ∉ names → (cellsFrom n names acc).lookup x = acc.lookup x
  | [], _, _, _ => rfl
  | (y, k) :: r, n, acc, h => by
    have hr : (x, NameKind.cell) ∉ r := fun q => h (List.mem_cons_of_mem _ q)
    unfold cellsFrom
    split
    · rename_i hk
      rw [cellsFrom_miss hr, List.lookup_cons]
      have : (x == y) = false := by
        rw [beq_eq_false_iff_ne]; intro q; simp at hk; exact h (q ▸ hk ▸ List.mem_cons_self)
      rw [this]
    · exact cellsFrom_miss hr
theorem lookup_append_left {α : Type} {x : Str} {c : α} : ∀ {l r : List (Str × α)}, l.lookup x = some c → (l ++ r).lookup x = some c
  | (y, v) :: l, r, h => by
    rw [List.cons_append, List.lookup_cons]
    rw [List.lookup_cons] at h
    cases hb : x == y with
    | true => rw [hb] at h; exact h
    | false => rw [hb] at h; exact lookup_append_left h
noncomputable abbrev ocC (scope : Scope) (L : Addr) : List (Str × Addr) := cellsFrom (L + 1) scope.names []
noncomputable abbrev cenvC (scope : Scope) (env : Env) (L : Addr) : Env := compEnvC scope (cellsFrom (L + 1) scope.names (clOf env scope.names [])) L env
inductive Frees (env : Env) (ρ : Names) : List (Str × NameKind) → Names → Prop
  | nil : Frees env ρ [] []
  | skip {x k r ρf} : k ≠ .free → Frees env ρ r ρf → Frees env ρ ((x, k) :: r) ρf
  | take {x d r ρf} : (x, d) ∈ ρ → (env.kindOf x = some .cell ∨ env.kindOf x = some .free) → Frees env ρ r ρf → Frees env ρ ((x, .free) :: r) ((x, d) :: ρf)
theorem Frees.mem {env ρ} {names ρf} (f : Frees env ρ names ρf) : ∀ x d, (x, d) ∈ ρf → (x, NameKind.free) ∈ names ∧ (x, d) ∈ ρ := by
  induction f with
  | nil => intro x d h; exact absurd h List.not_mem_nil
  | skip _ _ ih => intro x d h; exact ⟨List.mem_cons_of_mem _ (ih x d h).1, (ih x d h).2⟩
  | take a _ _ ih =>
    intro x d h
    rcases List.mem_cons.mp h with q | q
    · cases q; exact ⟨List.mem_cons_self, a⟩
    · exact ⟨List.mem_cons_of_mem _ (ih x d q).1, (ih x d q).2⟩
theorem Frees.all {env ρ} {names ρf} (f : Frees env ρ names ρf) : ∀ x, (x, NameKind.free) ∈ names → (env.kindOf x = some .cell ∨ env.kindOf x = some .free) ∧ ∃ d, (x, d) ∈ ρ := by
  induction f with
  | nil => intro x h; exact absurd h List.not_mem_nil
  | skip hk _ ih =>
    intro x h
    rcases List.mem_cons.mp h with q | q
    · cases q; exact absurd rfl hk
    · exact ih x q
  | take a b _ ih =>
    intro x h
    rcases List.mem_cons.mp h with q | q
    · cases q; exact ⟨b, _, a⟩
    · exact ih x q
theorem relabel_free {env : Env} {x : Str} : ∀ {names : List (Str × NameKind)}, (names.map (·.1)).Nodup → (x, NameKind.free) ∈ names →
    (names.map fun (n, k) => if (k == NameKind.free && env.scope.kind == .function && env.kindOf n == some .cell) then (n, NameKind.cell) else (n, k)).lookup x = some .cell ∨
    (names.map fun (n, k) => if (k == NameKind.free && env.scope.kind == .function && env.kindOf n == some .cell) then (n, NameKind.cell) else (n, k)).lookup x = some .free
  | (y, k) :: r, nd, h => by
    have nd' := List.nodup_cons.mp nd
    rcases List.mem_cons.mp h with q | q
    · cases q
      rw [List.map_cons]
      dsimp only
      split
      · exact .inl (by rw [List.lookup_cons]; simp)
      · exact .inr (by rw [List.lookup_cons]; simp)
    · have hne : (x == y) = false := by
        rw [beq_eq_false_iff_ne]; intro e; exact nd'.1 (List.mem_map.mpr ⟨_, q, e⟩)
      have := relabel_free (env := env) nd'.2 q
      rw [List.map_cons]
      dsimp only
      split <;> (rw [List.lookup_cons, hne]; exact this)
theorem cenv_ok {scope : Scope} {env : Env} {L : Addr} (ok : EnvOk env) (hk : scope.kind = .function) : EnvOk (cenvC scope env L) := ⟨hk, ok.gl, ok.bi⟩
section
variable {C : Cx} {n : Nat} {A : Around} {s₀ s s' : Shared} {env : Env} {ρ ρf : Names} {pv : List Addr}
theorem free_at {scope : Scope} {L : Addr} (nd : (scope.names.map (·.1)).Nodup) (hf : Frees env ρ scope.names ρf) {x d v} (hx : (x, d) ∈ ρf) (hn : NameAt env s.heap x v) : NameAt (cenvC scope env L) s.heap x v := by
  obtain ⟨h1, h2⟩ := hf.mem x d hx
  obtain ⟨h3, _⟩ := hf.all x h1
  rcases hn with ⟨a, _⟩ | ⟨a, c, b, e⟩
  · rcases h3 with h3 | h3 <;> (rw [a] at h3; cases h3)
  · refine .inr ⟨?_, c, ?_, e⟩
    · exact relabel_free nd h1
    · show (cellsFrom (L + 1) scope.names (clOf env scope.names [])).lookup x = some c
      rw [cellsFrom_miss fun q => ?_, clOf_free b nd h1]
      have : ∀ {names : List (Str × NameKind)}, (names.map (·.1)).Nodup → (x, NameKind.free) ∈ names → (x, NameKind.cell) ∉ names := by
        intro names
        induction names with
        | nil => intro _ h; cases h
        | cons y r ih =>
          intro nd h q
          have nd' := List.nodup_cons.mp nd
          rcases List.mem_cons.mp h with h | h <;> rcases List.mem_cons.mp q with q | q
          · rw [← h] at q; cases q
          · exact nd'.1 (List.mem_map.mpr ⟨_, q, by rw [← h]⟩)
          · exact nd'.1 (List.mem_map.mpr ⟨_, h, by rw [← q]⟩)
          · exact ih nd'.2 h q
      exact this nd h1 q
theorem frees_closure {scope : Scope} {A pv s} (r : Rdy C A env ρ pv s) (hf : Frees env ρ scope.names ρf) : closureFor scope env = pure (clOf env scope.names []) :=
  closureFor_eq fun x hx => by
    obtain ⟨h1, d, h2⟩ := hf.all x hx
    obtain ⟨v, hn, _⟩ := r.names x d h2
    rcases hn with ⟨a, _⟩ | ⟨_, c, b, _⟩
    · rcases h1 with h1 | h1 <;> (rw [a] at h1; cases h1)
    · rw [b]; rfl
theorem wp_compEnv {M : Model} {scope : Scope} {cl : List (Str × Addr)} {Q : Env → Shared → Prop} {E : Value → Shared → Prop}
    (h : Q { scope := scope, locals := s.heap.objs.size, globals := env.globals, cells := cellsFrom (s.heap.objs.size + 1) scope.names cl, qual := env.qual, func := none, code := env.code, frame := env.frame, builtins := env.builtins }
      { s with heap := pushCells (s.heap.push { cls := .type "dict", data := .dict #[] }) scope.names }) : wpAny M A (newFunctionEnv scope env.globals cl [] env.qual none .none (some env)) Q E s := by
  simp only [newFunctionEnv, Option.isSome_some, if_true]
  refine wpAny_bind (wpAny_alloc ?_)
  refine wpAny_bind (wpAny_layCells _ (fun name kind cells => by cases hkc : kind == NameKind.cell <;> simp [hkc]) _ _ _ _ ?_)
  rw [show ({ s with heap := s.heap.push { cls := .type "dict", data := .dict #[] } } : Shared).heap.objs.size = s.heap.objs.size + 1 from Heap.size_push ..]
  exact wpAny_bind (wpAny_pure (wpAny_bind (wpAny_pure (wpAny_pure h))))
structure Fz (C : Cx) (s₀ s s' : Shared) : Prop where
  kp : Kp C s₀ s → Kp C s₀ s'
  nf : ∀ b o, s.heap.get? b = some o → Nf o → s'.heap.get? b = some o
  live : ∀ A, Live C A s → Live C A s'
  there : ∀ b o, s.heap.get? b = some o → ∃ o', s'.heap.get? b = some o'
theorem Fz.refl : Fz C s₀ s s := ⟨id, fun _ _ e _ => e, fun _ => id, fun _ o e => ⟨o, e⟩⟩
theorem Fz.trans {s'' : Shared} (x : Fz C s₀ s s') (y : Fz C s₀ s' s'') : Fz C s₀ s s'' := ⟨y.kp ∘ x.kp, fun b o e n => y.nf b o (x.nf b o e n) n, fun A => y.live A ∘ x.live A, fun b o e => let ⟨o', e'⟩ := x.there b o e; y.there b o' e'⟩
theorem Fz.of_kp (k : Kp C s s') : Fz C s₀ s s' := ⟨fun x => x.trans k, fun b o e n => k.sub b o e n.1, fun A x => x.mono k, fun b o e => k.there e⟩
theorem Fz.sq (x : Fz C s₀ s s') (pv) : SqK pv s.heap s'.heap := fun b o vs n _ e d => x.nf b o e (.seq d)
theorem Fz.ls (x : Fz C s₀ s s') {a vs} (h : LsAt s.heap a vs) : LsAt s'.heap a vs := let ⟨n, e⟩ := h; ⟨n, x.nf _ _ e (.seq rfl)⟩
theorem fz_store {oc m cm x v} {Q : Unit → Shared → Prop} {E : Value → Shared → Prop} (ok : EnvOk env) (F : Fr2 s₀ env oc m cm s) (hx : OwnN env oc x)
    (h : ∀ s' m' cm', Fr2 s₀ env oc m' cm' s' → Fz C s₀ s s' → (∀ y, nv env oc m' cm' y = if y = x then some v else nv env oc m cm y) → Q () s') : wpAny (model C.prog C.w) A (storeName env x v) Q E s :=
  store_at ok F hx fun h' tk L m' cm' F' hn hs p p' hnv _ => h _ m' cm' F' ⟨fun k => k.same hn p.nf hs, fun b o e n => (hs.2 b fun q => by
    rw [q] at e
    obtain ⟨o', e', ⟨_, _, d⟩ | ⟨_, d⟩⟩ := p <;> rw [e] at e' <;> cases e'
    · exact n.2.1 _ _ d
    · exact n.2.2 _ d).trans e, fun A x => x.same hs p', fun b o e => by
    by_cases q : b = L
    · rw [q]; obtain ⟨o', e', _⟩ := p'.1; exact ⟨o', e'⟩
    · exact ⟨o, (hs.2 b q).trans e⟩⟩ hnv
end
end
section -- C8
inductive Tgts (env : Env) (oc : List (Str × Addr)) : List Expr → List PyData → Names → Prop
  | nil : Tgts env oc [] [] []
  | cons {x p es d ds ρt} : OwnN env oc x → (∀ e, (x, e) ∉ ρt) → Tgts env oc es ds ρt → Tgts env oc (.Name x p :: es) (d :: ds) ((x, d) :: ρt)
inductive Tgt (env : Env) (oc : List (Str × Addr)) : Expr → PyData → Names → Prop
  | name {x p d} : OwnN env oc x → Tgt env oc (.Name x p) d [(x, d)]
  | tup {es ds ρt k p} : Tgts env oc es ds ρt → Tgt env oc (.Tuple es k p) (.tuple ds) ρt
section
variable {C : Cx} {n : Nat} {A : Around} {s₀ s s' : Shared} {env : Env} {ρ ρf : Names} {pv : List Addr} {oc : List (Str × Addr)}
theorem assign_tgts (ok : EnvOk env) : ∀ {es ds ρt}, Tgts env oc es ds ρt → ∀ {s : Shared} {m cm} {vs : List Value} {Q : Unit → Shared → Prop} {E : Value → Shared → Prop}, RDs s.heap pv vs ds → Fr2 s₀ env oc m cm s →
    (∀ s' m' cm', Fr2 s₀ env oc m' cm' s' → Fz C s₀ s s' → Holds env oc m' cm' s' pv ρt → (∀ y, (∀ e, (y, e) ∉ ρt) → nv env oc m' cm' y = nv env oc m cm y) → Q () s') →
    wpAny (model C.prog C.w) A (assignInOrder ((assignEach es env).map (·.2)) vs) Q E s := by
  intro es ds ρt t
  induction t with
  | nil =>
    intro s m cm vs Q E hv F h
    have := hv.inv0; subst this
    exact wpAny_pure (h s m cm F .refl (fun _ _ i => nomatch i) fun _ _ => rfl)
  | @cons x p es d ds ρt hx hn ht ih =>
    intro s m cm vs Q E hv F h
    obtain ⟨v, ws, rfl, h1, h2⟩ := hv.inv
    show wpAny _ A (do holding ws (assign (.Name x p) env v); assignInOrder ((assignEach es env).map (·.2)) ws) Q E s
    refine wpAny_bind (wpAny_holding (PySem.wpAny_assign_Name (fz_store ok F hx fun s1 m1 cm1 F1 z1 e1 => ?_)))
    refine ih (h2.mono (z1.sq pv)) F1 fun s2 m2 cm2 F2 z2 H2 o2 => h s2 m2 cm2 F2 (z1.trans z2) (fun y d' i => ?_) fun y hy => ?_
    · rcases List.mem_cons.mp i with q | q
      · cases q
        exact ⟨v, by rw [o2 x hn, e1]; simp, (h1.mono (z1.sq pv)).mono (z2.sq pv)⟩
      · exact H2 y d' q
    · rw [o2 y fun e q => hy e (List.mem_cons_of_mem _ q), e1, if_neg fun q : y = x => hy d (by rw [q]; exact List.mem_cons_self)]
theorem tgts_len {es ds ρt} (t : Tgts env oc es ds ρt) : (assignEach es env).length = ds.length ∧ (assignEach es env).findIdx? (·.1) = none := by
  induction t with
  | nil => exact ⟨rfl, rfl⟩
  | @cons x p es d ds ρt _ _ _ ih =>
    have e : assignEach (.Name x p :: es) env = (false, assign (.Name x p) env) :: assignEach es env := rfl
    rw [e]
    refine ⟨by simp [ih.1], ?_⟩
    rw [List.findIdx?_cons, ih.2]; rfl
theorem assign_tgt (ok : EnvOk env) (hh : A.handled = none) {t d ρt} (ht : Tgt env oc t d ρt) {m cm} {v : Value} {Q : Unit → Shared → Prop} {E : Value → Shared → Prop} (hv : RD s.heap pv v d) (F : Fr2 s₀ env oc m cm s)
    (h : ∀ s' m' cm', Fr2 s₀ env oc m' cm' s' → Fz C s₀ s s' → Holds env oc m' cm' s' pv ρt → (∀ y, (∀ e, (y, e) ∉ ρt) → nv env oc m' cm' y = nv env oc m cm y) → Q () s') :
    wpAny (model C.prog C.w) A (assign t env v) Q E s := by
  cases ht with
  | @name x p d hx =>
    refine PySem.wpAny_assign_Name (fz_store ok F hx fun s1 m1 cm1 F1 z1 e1 => h s1 m1 cm1 F1 z1 (fun y d' i => ?_) fun y hy => ?_)
    · have i := List.mem_singleton.mp i; cases i
      exact ⟨v, by rw [e1]; simp, hv.mono (z1.sq pv)⟩
    · rw [e1, if_neg fun q : y = x => hy d (by rw [q]; exact List.mem_cons_self)]
  | tup ht =>
    obtain ⟨a, vs, rfl, h1, h2, h3⟩ := hv.tuple_inv
    obtain ⟨e1, e2⟩ := tgts_len ht
    refine wpAny_assign_Tuple hh h2 ?_ e2 fun h' hx => ?_
    · rw [e1, ← h3.length]; simp
    · have k : Kp C s { s with heap := h' } := Kp.keepH fun b o e => hx b o (Nat.ne_of_lt (Heap.lt_size e)) e
      exact assign_tgts ok ht (h3.kp k) (F.kp k) fun s' m' cm' F' z' H' o' => h s' m' cm' F' ((Fz.of_kp k).trans z') H' o'
noncomputable def TstL (C : Cx) (n : Nat) (env : Env) (ρ : Names) (ifs : List Expr) (b : Bool) : Prop :=
  match ifs with
  | [] => b = true
  | [c] => Tst C n env ρ c b
  | _ => False
theorem TstL.run {ifs b} (t : TstL C n env ρ ifs b) (ra : Room n A) (r : Rdy C A env ρ pv s) {Q : Bool → Shared → Prop} {E : Value → Shared → Prop} (h : ∀ s', Kp C s s' → Q b s') :
    wpAny (model C.prog C.w) A (forIn ifs true fun c r => if r = true then do let ok ← isTrue c env (eval c env); pure (ForInStep.yield ok) else pure (ForInStep.yield r)) Q E s := by
  match ifs, t with
  | [], t => cases t; exact wpAny_tests_nil (h s (.refl _ _))
  | [c], t => exact wpAny_tests_one (t A ra s pv r Q E h)
theorem compLoop_gen {e : Expr} {d : Nat} {target : Expr} {ifs : List Expr} {it acc : Value} {p : Pos} {body : Sem Unit} {R : Result → Shared → Prop} (I : Nat → Shared → Prop)
    (hT : compTurn e d it acc env = (do
      standAt p
      match ← pyNext it with
      | none => pure (.done .next)
      | some v =>
        letOwnedTupleGo target it v
        assign target env v
        let mut ok := true
        for c in ifs do
          if ok then ok ← isTrue c env (eval c env)
        if ok then body
        again (.compLoop e d it acc env)))
    (hfr : (Code.compLoop e d it acc env).isFrame = false) (hq : (Code.compLoop e d it acc env).quiet = true) (hw : A.under (Code.compLoop e d it acc env) = A)
    (turn : ∀ n s, I n s → ∀ E, wpAny (model C.prog C.w) A (pyNext it) (fun r s₁ => match r with
      | none => R (.ok .next) s₁
      | some v => wpAny (model C.prog C.w) A (letOwnedTupleGo target it v) (fun _ s₁' => wpAny (model C.prog C.w) A (assign target env v) (fun _ s₂ =>
          wpAny (model C.prog C.w) A (forIn ifs true fun c r => if r = true then do let ok ← isTrue c env (eval c env); pure (ForInStep.yield ok) else pure (ForInStep.yield r)) (fun ok s₃ =>
            if ok = true then wpAny (model C.prog C.w) A body (fun _ s₅ => ∃ m, m < n ∧ I m s₅) E s₃
            else ∃ m, m < n ∧ I m s₃) E s₂) E s₁') E s₁) E s)
    (n : Nat) (h : I n s) : codeAny (model C.prog C.w) A (.compLoop e d it acc env) R s := by
  refine codeAny_loop hq I (fun n s hI => ?_) n h
  show wpAny _ (A.under _) (if (Code.compLoop e d it acc env).isFrame then (compTurn e d it acc env).onRaise (leaving env) else (compTurn e d it acc env).onRaise (fun x => do noteFrame x env; theTreesLotGoes x)) _ _ s
  rw [hw, hfr]
  simp only [Bool.false_eq_true, if_false]
  refine wpAny_noted ?_
  rw [hT]
  refine wpAny_bind (wpAny_standAt (wpAny_bind (wpAny_mono (turn n s hI _) (fun r s₁ h₁ => ?_) fun _ _ h' => h')))
  cases r with
  | none => exact wpAny_pure h₁
  | some v =>
    refine wpAny_bind (wpAny_mono h₁ (fun _ s₁' h₁' => wpAny_bind (wpAny_mono h₁' (fun _ s₂ h₂ => wpAny_bind (wpAny_mono h₂ (fun ok s₃ h₃ => ?_) fun _ _ h' => h')) fun _ _ h' => h')) fun _ _ h' => h')
    cases ok with
    | false =>
      simp only [Bool.false_eq_true, if_false] at h₃ ⊢
      exact wpAny_pure ⟨rfl, h₃⟩
    | true =>
      simp only [if_true] at h₃ ⊢
      exact wpAny_bind (wpAny_mono h₃ (fun _ s₅ h₅ => wpAny_pure ⟨rfl, h₅⟩) fun _ _ h' => h')
end
end
section -- C9
section
variable {C : Cx} {n : Nat} {A : Around} {s₀ s s' : Shared} {env : Env} {ρ ρf : Names} {pv : List Addr} {oc : List (Str × Addr)}
theorem Fr2.but {m cm h' tk X} (F : Fr2 s₀ env oc m cm s) (hs : ∀ b o, b ≠ X → s.heap.get? b = some o → h'.get? b = some o) (hX : ∀ o, s.heap.get? X = some o → Nf o) : Fr2 s₀ env oc m cm { s with heap := h', toks := tk } := by
  refine ⟨?_, F.new, F.same, fun x c hc => ⟨?_, (F.cell x c hc).2⟩, F.apart⟩
  · obtain ⟨o, es, ep, e, d, r⟩ := F.ns
    exact ⟨o, es, ep, hs _ _ (fun q => (hX o (q ▸ e)).2.1 _ _ d) e, d, r⟩
  · obtain ⟨o, e, d⟩ := (F.cell x c hc).1
    exact ⟨o, hs _ _ (fun q => (hX o (q ▸ e)).2.2 _ d) e, d⟩
theorem RD.more {v d D} (x : RD s.heap pv v d) (hD : s.heap.get? D = Option.none) : RD s.heap (D :: pv) v d := x.sub fun a o ha e => by
  rcases List.mem_cons.mp ha with rfl | ha
  · rw [hD] at e; cases e
  · exact ha
theorem RDs.more {vs ds D} (x : RDs s.heap pv vs ds) (hD : s.heap.get? D = Option.none) : RDs s.heap (D :: pv) vs ds := x.sub fun a o ha e => by
  rcases List.mem_cons.mp ha with rfl | ha
  · rw [hD] at e; cases e
  · exact ha
theorem rdy_in {scope : Scope} {L D : Addr} {s1 σ : Shared} {ρt : Names} {m cm} (nd : (scope.names.map (·.1)).Nodup) (hk : scope.kind = .function) (hf : Frees env ρ scope.names ρf) (r : Rdy C A env ρ pv s1) (k : Kp C s1 σ) (hD : s1.heap.get? D = none)
    (hDσ : ∃ o, σ.heap.get? D = some o) (F : Fr2 s1 (cenvC scope env L) oc m cm σ) (H : Holds (cenvC scope env L) oc m cm σ (D :: pv) ρt) : Rdy C A (cenvC scope env L) (ρt ++ ρf) (D :: pv) σ := by
  refine ⟨cenv_ok r.ok hk, r.base.mono k, r.live.mono k, fun x d i => ?_, fun p hp => ?_⟩
  · rcases List.mem_append.mp i with i | i
    · obtain ⟨v, h1, h2⟩ := H x d i
      exact ⟨v, nameAt_of F h1, h2⟩
    · obtain ⟨v, h1, h2⟩ := r.names x d (hf.mem x d i).2
      exact ⟨v, (free_at nd hf i h1).kp k, (h2.more hD).kp k⟩
  · rcases List.mem_cons.mp hp with rfl | hp
    · exact hDσ
    · obtain ⟨o, e⟩ := r.priv p hp; exact k.there e
structure TurnC (C : Cx) (n : Nat) (scope : Scope) (env : Env) (ρf : Names) (target : Expr) (ifs : List Expr) (elt : Expr) (d : PyData) (out : List PyData) : Prop where
  go : ∃ ρt b d', (∀ L, Tgt (cenvC scope env L) (ocC scope L) target d ρt) ∧ (∀ L, TstL C n (cenvC scope env L) (ρt ++ ρf) ifs b) ∧ (b = true → ∀ L, Ev C n (cenvC scope env L) (ρt ++ ρf) elt d') ∧ out = if b then [d'] else []
theorem append_keep {D : Addr} {vs : Array Value} {x : Value} {Q : Value → Shared → Prop} {E : Value → Shared → Prop} (h : LsAt s.heap D vs) (hsz : vs.size ≤ sizeLine)
    (hQ : ∀ h', LsAt h' D (vs.push x) → Heap.SameBut D s.heap h' → Q .none { s with heap := h' }) : wpAny (model C.prog C.w) A (call (.builtin "list.append") [.ref D, x]) Q E s :=
  wpAny_list_append_plain (hsz := hsz) h hQ
theorem flat_take {α β : Type} {xs : List α} {g : α → List β} {i : Nat} {x : α} (h : xs[i]? = some x) : (xs.take (i + 1)).flatMap g = (xs.take i).flatMap g ++ g x := by
  rw [List.take_add_one, h]
  simp
theorem out_len {α : Type} {xs : List α} {g : α → List PyData} (h : ∀ x ∈ xs, (g x).length ≤ 1) (i : Nat) : ((xs.take i).flatMap g).length ≤ xs.length := by
  induction xs generalizing i with
  | nil => simp
  | cons x r ih =>
    cases i with
    | zero => simp
    | succ i =>
      rw [List.take_succ_cons, List.flatMap_cons, List.length_append, List.length_cons]
      have := ih (fun y hy => h y (List.mem_cons_of_mem _ hy)) i
      have := h x List.mem_cons_self
      omega
end
structure CS (C : Cx) (s1 : Shared) (pv : List Addr) (D : Addr) (cenv : Env) (oc : List (Str × Addr)) (ρo : Names) (acc : List PyData) (σ : Shared) : Prop where
  kp : Kp C s1 σ
  ls : ∃ vs, LsAt σ.heap D vs ∧ RDs σ.heap (D :: pv) vs.toList acc
  fr : ∃ m cm, Fr2 s1 cenv oc m cm σ ∧ Holds cenv oc m cm σ (D :: pv) ρo
noncomputable def KeepN (D : Addr) (σ σ' : Shared) : Prop := ∀ b o, b ≠ D → Nf o → σ.heap.get? b = some o → σ'.heap.get? b = some o
noncomputable def KeepI (D I : Addr) (σ σ' : Shared) : Prop := ∀ b o, b ≠ D → b ≠ I → Nf o → σ.heap.get? b = some o → σ'.heap.get? b = some o
section
variable {C : Cx} {n : Nat} {A : Around} {s s' s₀ s1 σ σ' : Shared} {env : Env} {ρ ρ' ρf ρo : Names} {pv pvc : List Addr} {own o1 o2 : Own} {scope : Scope} {L D : Addr} {oc : List (Str × Addr)} {acc : List PyData}
theorem KeepN.of_kp (k : Kp C σ σ') : KeepN D σ σ' := fun b o _ n e => k.sub b o e n.1
theorem KeepI.trans {I : Addr} {σ'' : Shared} (x : KeepI D I σ σ') (y : KeepI D I σ' σ'') : KeepI D I σ σ'' := fun b o h h' n e => y b o h h' n (x b o h h' n e)
theorem KeepN.i {I : Addr} (x : KeepN D σ σ') : KeepI D I σ σ' := fun b o h _ n e => x b o h n e
theorem CS.rdy (c : CS C s1 pv D (cenvC scope env L) oc ρo acc σ) (nd : (scope.names.map (·.1)).Nodup) (hk : scope.kind = .function) (hf : Frees env ρ scope.names ρf) (r : Rdy C A env ρ pv s1) (hD : s1.heap.get? D = none) :
    Rdy C A (cenvC scope env L) (ρo ++ ρf) (D :: pv) σ := by
  obtain ⟨m, cm, F, H⟩ := c.fr
  obtain ⟨vs, ⟨n', e⟩, _⟩ := c.ls
  exact rdy_in nd hk hf r c.kp hD ⟨_, e⟩ F H
theorem CS.kps (c : CS C s1 pv D (cenvC scope env L) oc ρo acc σ) (k : Kp C σ σ') : CS C s1 pv D (cenvC scope env L) oc ρo acc σ' := by
  obtain ⟨m, cm, F, H⟩ := c.fr
  obtain ⟨vs, l, r⟩ := c.ls
  exact ⟨c.kp.trans k, ⟨vs, kp_ls k l, r.kp k⟩, m, cm, F.kp k, H.kp k⟩
theorem CS.weak (c : CS C s1 pv D (cenvC scope env L) oc ρo acc σ) (h : ∀ y ∈ ρ', y ∈ ρo) : CS C s1 pv D (cenvC scope env L) oc ρ' acc σ := by
  obtain ⟨m, cm, F, H⟩ := c.fr
  exact ⟨c.kp, c.ls, m, cm, F, fun x d i => H x d (h _ i)⟩
theorem emit_body {elt : Expr} {d' : PyData} {E : Value → Shared → Prop} (c : CS C s1 pv D (cenvC scope env L) oc ρo acc σ) (nd : (scope.names.map (·.1)).Nodup) (hk : scope.kind = .function) (hf : Frees env ρ scope.names ρf) (r : Rdy C A env ρ pv s1) (hD : s1.heap.get? D = none)
    (ra : Room n A) (he : Ev C n (cenvC scope env L) (ρo ++ ρf) elt d') (hsz : acc.length ≤ 2 ^ 22) :
    wpAny (model C.prog C.w) A (do let _ ← call (.builtin "list.append") [.ref D, ← eval elt (cenvC scope env L)]) (fun _ σ' => CS C s1 pv D (cenvC scope env L) oc ρo (acc ++ [d']) σ' ∧ KeepN D σ σ') E σ := by
  refine wpAny_bind (he A ra σ (D :: pv) (c.rdy nd hk hf r hD) _ _ fun y σ₄ k hy => wpAny_bind ?_)
  have c4 := c.kps k
  obtain ⟨vs, l₄, r₄⟩ := c4.ls
  obtain ⟨m, cm, F, H⟩ := c4.fr
  have e4 := r₄.length
  refine append_keep l₄ (by rw [sizeLine_eq]; rw [Array.length_toList] at e4; omega) fun h₅ l₅ s₅ => wpAny_pure ?_
  have keepD : ∀ b o, b ≠ D → σ₄.heap.get? b = some o → h₅.get? b = some o := fun b o hb e => (s₅.2 b hb).trans e
  have sq5 : SqK (D :: pv) σ₄.heap h₅ := fun b o ws n hb e _ => keepD b o (fun q => hb (q ▸ List.mem_cons_self)) e
  obtain ⟨n₄, e₄⟩ := l₄
  refine ⟨⟨?_, ⟨vs.push y, l₅, ?_⟩, m, cm, ?_, fun x d i => ?_⟩, fun b o hb hn e => keepD b o hb (k.sub b o e hn.1)⟩
  · exact c4.kp.ext (tk := σ₄.toks) hD (fun o e => by rw [e₄] at e; cases e; exact ⟨(fun q => nomatch q), by show Value.type "list" ≠ .type "code"; decide⟩) keepD
  · simpa using (r₄.mono sq5).append (.one (hy.mono sq5))
  · exact F.but (tk := σ₄.toks) keepD fun o e => by rw [e₄] at e; cases e; exact .seq rfl
  · obtain ⟨v, h1, h2⟩ := H x d i
    exact ⟨v, h1, h2.mono sq5⟩
inductive ClT (C : Cx) (n : Nat) (A : Around) (s1 : Shared) (pv : List Addr) (D : Addr) (cenv : Env) (oc : List (Str × Addr)) (ρo ρf : Names) (target : Expr) (ifs : List Expr) (body : Sem Unit) (acc acc' : List PyData) (d : PyData) (gx : List PyData) : Prop
  | mk (ρt : Names) (b : Bool) (ht : Tgt cenv oc target d ρt) (hd : ∀ y e, (y, e) ∈ ρo → ∀ e', (y, e') ∉ ρt) (tst : TstL C n cenv ((ρt ++ ρo) ++ ρf) ifs b) (hf : b = false → gx = [])
      (hb : b = true → ∀ σ, CS C s1 pv D cenv oc (ρt ++ ρo) acc σ → ∀ E, wpAny (model C.prog C.w) A body (fun _ σ' => CS C s1 pv D cenv oc ρo acc' σ' ∧ KeepN D σ σ') E σ)
inductive ClI {α : Type} (C : Cx) (s1 : Shared) (pv : List Addr) (D I : Addr) (cenv : Env) (oc : List (Str × Addr)) (ρo : Names) (acc0 : List PyData) (xs : List α) (g : α → List PyData) (J : Nat → Heap → Prop) (σ : Shared) (k : Nat) (τ : Shared) : Prop
  | mk (i : Nat) (hi : i ≤ xs.length) (hk : k = xs.length + 1 - i) (j : J i τ.heap) (c : CS C s1 pv D cenv oc ρo (acc0 ++ (xs.take i).flatMap g) τ) (ki : KeepI D I σ τ)
theorem ClI.next {α : Type} {I : Addr} {cenv : Env} {acc0 : List PyData} {xs : List α} {g : α → List PyData} {J : Nat → Heap → Prop} {i : Nat} {τ : Shared} (hi : i < xs.length) (j : J (i + 1) τ.heap) (c : CS C s1 pv D cenv oc ρo (acc0 ++ (xs.take (i + 1)).flatMap g) τ) (ki : KeepI D I σ τ) :
    ∃ m, m < xs.length + 1 - i ∧ ClI C s1 pv D I cenv oc ρo acc0 xs g J σ m τ := ⟨_, Nat.sub_succ_lt_self _ _ (Nat.lt_succ_of_lt hi), i + 1, hi, rfl, j, c, ki⟩
theorem CS.step {I : Addr} {h₁ : Heap} {tk : Nat} (c : CS C s1 pv D (cenvC scope env L) oc ρo acc σ) (hDI : D ≠ I) (newI : s1.heap.get? I = none) (hcI : ∀ o, σ.heap.get? I = some o → o.cls ≠ .none ∧ o.cls ≠ .type "code" ∧ ∃ vs, o.data = .fields vs) (nfI : ∀ o, σ.heap.get? I = some o → Nf o)
    (hk : ∀ b o, b ≠ I → σ.heap.get? b = some o → h₁.get? b = some o) : CS C s1 pv D (cenvC scope env L) oc ρo acc { σ with heap := h₁, toks := tk } := by
  have sq : SqK (D :: pv) σ.heap h₁ := fun b o vs n _ e d => hk b o (fun q => by obtain ⟨_, _, ws, e'⟩ := hcI o (q ▸ e); rw [d] at e'; cases e') e
  obtain ⟨vs, ⟨n', e'⟩, rτ⟩ := c.ls
  obtain ⟨m, cm, F, H⟩ := c.fr
  refine ⟨c.kp.ext newI (fun o e => ⟨(hcI o e).1, (hcI o e).2.1⟩) hk, ⟨vs, ⟨n', hk D _ hDI e'⟩, rτ.mono sq⟩, m, cm, F.but hk nfI, fun x d j => ?_⟩
  obtain ⟨v, h1, h2⟩ := H x d j
  exact ⟨v, h1, h2.mono sq⟩
theorem CS.target {t : Expr} {d : PyData} {ρt : Names} {v : Value} {Q : Unit → Shared → Prop} {E : Value → Shared → Prop} (c : CS C s1 pv D (cenvC scope env L) oc ρo acc σ) (ok : EnvOk (cenvC scope env L)) (hh : A.handled = none) (ht : Tgt (cenvC scope env L) oc t d ρt) (hv : RD σ.heap (D :: pv) v d) (hdis : ∀ y e, (y, e) ∈ ρo → ∀ e', (y, e') ∉ ρt)
    (k : ∀ σ₂, CS C s1 pv D (cenvC scope env L) oc (ρt ++ ρo) acc σ₂ → (∀ b o, Nf o → σ.heap.get? b = some o → σ₂.heap.get? b = some o) → Q () σ₂) : wpAny (model C.prog C.w) A (PySem.assign t (cenvC scope env L) v) Q E σ := by
  obtain ⟨m, cm, F, H⟩ := c.fr
  obtain ⟨vs, l, rr⟩ := c.ls
  refine assign_tgt ok hh ht hv F fun σ₂ m₂ cm₂ f₂ z₂ H₂ o₂ => k σ₂ ⟨z₂.kp c.kp, ⟨vs, z₂.ls l, rr.mono (z₂.sq _)⟩, m₂, cm₂, f₂, fun y d j => ?_⟩ fun b o n e => z₂.nf b o e n
  rcases List.mem_append.mp j with j | j
  · exact H₂ y d j
  · obtain ⟨w, h1, h2⟩ := H y d j
    exact ⟨w, by rw [o₂ y (hdis y d j)]; exact h1, h2.mono (z₂.sq _)⟩
theorem cloop {α : Type} {xs : List α} {enc : α → PyData} {g : α → List PyData} {e : Expr} {dp : Nat} {target : Expr} {ifs : List Expr} {p : Pos} {body : Sem Unit} {I : Addr} {fp wr : List Addr} {P : Nat → Value → Prop} {J : Nat → Heap → Prop} {R : Result → Shared → Prop} {acc0 : List PyData}
    (ra : Room n A) (r : Rdy C A env ρ pv s1) (nd : (scope.names.map (·.1)).Nodup) (hk : scope.kind = .function) (hf : Frees env ρ scope.names ρf) (hD1 : s1.heap.get? D = none)
    (newI : s1.heap.get? I = none) (walk : Walks C.prog C.w A I fp wr xs.length P J) (live : ∀ i h, J i h → ∀ b ∈ fp, ∃ o, h.get? b = some o ∧ Nf o) (wrI : ∀ b ∈ wr, b = I) (memI : I ∈ fp)
    (clsI : ∀ i h, J i h → ∀ o, h.get? I = some o → o.cls ≠ .none ∧ o.cls ≠ .type "code" ∧ ∃ vs, o.data = .fields vs)
    (lets : ∀ i (s : Shared) t v (Q : Unit → Shared → Prop) E, J i s.heap → Q () s → wpAny (model C.prog C.w) A (letOwnedTupleGo t (.ref I) v) Q E s)
    (hDfp : D ∉ fp) (read : ∀ i v d, P i v → (xs.map enc)[i]? = some d → RD σ.heap (D :: pv) v d)
    (hT : compTurn e dp (.ref I) (.ref D) (cenvC scope env L) = (do
      standAt p
      match ← pyNext (.ref I) with
      | none => pure (.done .next)
      | some v =>
        letOwnedTupleGo target (.ref I) v
        assign target (cenvC scope env L) v
        let mut ok := true
        for c in ifs do
          if ok then ok ← isTrue c (cenvC scope env L) (eval c (cenvC scope env L))
        if ok then body
        again (.compLoop e dp (.ref I) (.ref D) (cenvC scope env L))))
    (hfr : (Code.compLoop e dp (.ref I) (.ref D) (cenvC scope env L)).isFrame = false) (hq : (Code.compLoop e dp (.ref I) (.ref D) (cenvC scope env L)).quiet = true) (hw : A.under (Code.compLoop e dp (.ref I) (.ref D) (cenvC scope env L)) = A)
    (turn : ∀ (i : Nat) x, xs[i]? = some x → ClT C n A s1 pv D (cenvC scope env L) oc ρo ρf target ifs body (acc0 ++ (xs.take i).flatMap g) (acc0 ++ (xs.take (i + 1)).flatMap g) (enc x) (g x))
    (c0 : CS C s1 pv D (cenvC scope env L) oc ρo acc0 σ) (j0 : J 0 σ.heap)
    (hR : ∀ σ', CS C s1 pv D (cenvC scope env L) oc ρo (acc0 ++ xs.flatMap g) σ' → KeepI D I σ σ' → R (.ok .next) σ') : codeAny (model C.prog C.w) A (.compLoop e dp (.ref I) (.ref D) (cenvC scope env L)) R σ := by
  have hDI : D ≠ I := fun q => hDfp (q ▸ memI)
  have fr : ∀ {i : Nat} {a b : Heap}, J i a → (∀ c ∈ fp, ∀ o, Nf o → a.get? c = some o → b.get? c = some o) → J i b := fun ja hk => walk.frame _ _ _ ja fun b hb o e => by obtain ⟨o', e', n'⟩ := live _ _ ja b hb; rw [e] at e'; cases e'; exact hk b hb o n' e
  refine compLoop_gen (target := target) (ifs := ifs) (p := p) (body := body) (ClI C s1 pv D I (cenvC scope env L) oc ρo acc0 xs g J σ) hT hfr hq hw ?_ (xs.length + 1) ⟨0, Nat.zero_le _, rfl, j0, by simpa using c0, fun b o _ _ _ e => e⟩
  rintro k τ ⟨i, hi, rfl, jτ, cτ, kτ⟩ E
  have hcI := clsI i _ jτ
  have keepI : ∀ {h' : Heap}, (∀ b o, b ∉ wr → τ.heap.get? b = some o → h'.get? b = some o) → ∀ b o, b ≠ I → τ.heap.get? b = some o → h'.get? b = some o := fun hk b o hb e => hk b o (fun hm => hb (wrI b hm)) e
  have nfI : ∀ o, τ.heap.get? I = some o → Nf o := fun o e => by obtain ⟨o', e', n'⟩ := live i _ jτ I memI; rw [e] at e'; cases e'; exact n'
  by_cases hlt : i < xs.length
  · obtain ⟨x, hx⟩ : ∃ x, xs[i]? = some x := ⟨_, List.getElem?_eq_getElem hlt⟩
    refine walk.item i τ _ _ hlt jτ fun v h₁ tk₁ hPv j₁ hk₁ => ?_
    have c₁ := cτ.step (tk := tk₁) hDI newI hcI nfI (keepI hk₁)
    have k₁ : KeepI D I σ { τ with heap := h₁, toks := tk₁ } := kτ.trans fun b o _ hb _ e => keepI hk₁ b o hb e
    obtain ⟨ρt, b, ht, hdis, htst, hfalse, hbody⟩ := turn i x hx
    have hv : RD h₁ (D :: pv) v (enc x) := (read i v (enc x) hPv (by simp [hx])).mono fun b o vs n hb e d => k₁ b o (fun q => hb (q ▸ List.mem_cons_self)) (fun q => by
      subst q
      obtain ⟨_, _, ws, e2⟩ := clsI _ _ j0 o e
      rw [d] at e2; cases e2) (.seq d) e
    refine lets (i + 1) _ target v _ _ j₁ (c₁.target (cenv_ok r.ok hk) ra.handled ht hv hdis fun σ₂ c₂ z₂ => ?_)
    refine htst.run ra (c₂.rdy nd hk hf r hD1) fun σ₃ k₂₃ => ?_
    have c₃ := c₂.kps k₂₃
    have j₃ : J (i + 1) σ₃.heap := fr j₁ fun b _ o n e => k₂₃.sub b o (z₂ b o n e) n.1
    have k₃ : KeepI D I σ σ₃ := k₁.trans fun b o _ _ hn e => k₂₃.sub b o (z₂ b o hn e) hn.1
    cases b with
    | false =>
      simp only [Bool.false_eq_true, if_false]
      refine ClI.next hlt j₃ ?_ k₃
      rw [flat_take hx, hfalse rfl, List.append_nil]
      exact c₃.weak fun y hy => List.mem_append_right _ hy
    | true =>
      simp only [if_true]
      exact wpAny_mono (hbody rfl σ₃ c₃ E) (fun _ σ₄ q => ClI.next hlt (fr j₃ fun b hb o n e => q.2 b o (fun z => hDfp (z ▸ hb)) n e) q.1 (k₃.trans q.2.i)) fun _ _ e => e
  · have hin : i = xs.length := Nat.le_antisymm hi (Nat.le_of_not_lt hlt)
    refine walk.done τ _ _ (hin ▸ jτ) fun h₁ tk₁ hk₁ => ?_
    have c₁ := cτ.step (tk := tk₁) hDI newI hcI nfI (keepI hk₁)
    refine hR _ ?_ (kτ.trans fun b o _ hb _ e => keepI hk₁ b o hb e)
    rw [hin, List.take_length] at c₁
    exact c₁
theorem comp_setup {e : Expr} {ds : List PyData} {s1 s2 : Shared} {I : Addr} {fp wr : List Addr} {P : Nat → Value → Prop} {J : Nat → Heap → Prop} {RR : Value → Env → Result → Shared → Prop} {E : Value → Shared → Prop}
    (r : Rdy C A env ρ pv s1) (it : Itr C A pv s1 s2 I ds fp wr P J)
    (h : ∀ D L σ, s1.heap.get? D = none → D ∉ pv → D ∉ fp → CS C s1 pv D (cenvC scope env L) (ocC scope L) [] [] σ → J 0 σ.heap → codeAny (model C.prog C.w) A (.compStart e 0 (.ref I) (.ref D) (cenvC scope env L)) (RR (.ref D) (cenvC scope env L)) σ) :
    wpAny (model C.prog C.w) A (newList []) (fun acc s₃ => wpAny (model C.prog C.w) A (newFunctionEnv scope env.globals (clOf env scope.names []) [] env.qual none .none (some env)) (fun cenv s₄ =>
      codeAny (model C.prog C.w) A (.compStart e 0 (.ref I) acc { cenv with scope := relabel scope env }) (RR acc { cenv with scope := relabel scope env }) s₄) E s₃) E s2 := by
  refine wpAny_newObj_type (wp_compEnv ?_)
  generalize hD : s2.heap.objs.size = D
  generalize hH3 : s2.heap.push { cls := .type "list", dict := none, data := .seq ([] : List Value).toArray } = H3
  have hL : H3.objs.size = D + 1 := by rw [← hH3, Heap.size_push, hD]
  dsimp only
  rw [hL]
  have hDn : s2.heap.get? D = none := hD ▸ noObj
  have lt2 : ∀ b o, s2.heap.get? b = some o → b < D := fun b o e => hD ▸ Heap.lt_size e
  have old1 : ∀ b, D ≤ b → s1.heap.get? b = none := fun b hb => by
    cases q : s1.heap.get? b with
    | none => rfl
    | some o => obtain ⟨_, q'⟩ := it.kp.there q; exact absurd (lt2 _ _ q') (Nat.not_lt.mpr hb)
  have hD1 := old1 D (Nat.le_refl _)
  have hDpv : D ∉ pv := fun hm => by obtain ⟨o, e⟩ := r.priv D hm; rw [hD1] at e; cases e
  generalize hH4 : H3.push { cls := .type "dict", data := .dict #[] } = H4
  have ok := cellsFrom_ok scope.names H4 (D + 2) [] ⟨fun _ _ hm => (nomatch hm), List.Pairwise.nil⟩ (by rw [← hH4, Heap.size_push, hL]; exact Nat.le_refl _)
  have hsz4 : H4.objs.size = D + 1 + 1 := by rw [← hH4, Heap.size_push, hL]
  rw [hsz4] at ok
  have k4 : ∀ b o, s2.heap.get? b = some o → (pushCells H4 scope.names).get? b = some o := fun b o e => pushCells_keeps _ _ b o (hH4 ▸ Heap.get?_push_of_some _ (hH3 ▸ Heap.get?_push_of_some _ e))
  have st4 : Kp C s1 { s2 with heap := pushCells H4 scope.names } := it.kp.trans (Kp.keepH k4)
  have ls4 : LsAt (pushCells H4 scope.names) D #[] := ⟨0, pushCells_keeps _ _ _ _ (hH4 ▸ Heap.get?_push_of_some _ (hH3 ▸ hD ▸ Heap.get?_push_size _ rfl))⟩
  have fr4 : Fr2 s1 (cenvC scope env (D + 1)) (ocC scope (D + 1)) (fun _ => none) (fun _ => none) { s2 with heap := pushCells H4 scope.names } := by
    refine ⟨?_, old1 _ (Nat.le_succ _), fun x c hc => ?_, fun x c hc => ⟨?_, old1 _ ?_⟩, ok.apart⟩
    · exact (hL ▸ hH4 ▸ Heap.Ns.new H3 (.type "dict") : H4.Ns (D + 1) fun _ => none).keeps (pushCells_keeps _ _)
    · show (cellsFrom (D + 1 + 1) scope.names (clOf env scope.names [])).lookup x = some c
      rw [cellsFrom_append]; exact lookup_append_left hc
    · exact (ok.empty x c (mem_of_lookup hc)).1
    · have := (ok.empty x c (mem_of_lookup hc)).2; omega
  have j4 : J 0 (pushCells H4 scope.names) := it.walk.frame _ _ _ it.start fun b _ o e => k4 b o e
  have hDfp : D ∉ fp := fun hm => by obtain ⟨o, e, _⟩ := it.live 0 _ it.start D hm; rw [hDn] at e; cases e
  exact h D (D + 1) { s2 with heap := pushCells H4 scope.names } hD1 hDpv hDfp ⟨st4, ⟨#[], ls4, .nil⟩, _, _, fr4, fun _ _ i => nomatch i⟩ j4
end
section
variable {C : Cx} {n : Nat} {A : Around} {s₀ s s' : Shared} {env : Env} {ρ ρf : Names} {pv : List Addr} {oc : List (Str × Addr)}
theorem comp_core {α : Type} {xs : List α} {enc : α → PyData} {g : α → List PyData} {elt target iter : Expr} {ifs : List Expr} {scope : Scope} {pos : Pos} {s1 s2 : Shared} {I : Addr} {fp wr : List Addr} {P : Nat → Value → Prop} {J : Nat → Heap → Prop}
    {RR : Value → Env → Result → Shared → Prop} {E : Value → Shared → Prop}
    (ra : Room n A) (r : Rdy C A env ρ pv s1) (it : Itr C A pv s1 s2 I (xs.map enc) fp wr P J) (nd : (scope.names.map (·.1)).Nodup) (hk : scope.kind = .function) (hf : Frees env ρ scope.names ρf)
    (hsz : xs.length ≤ 2 ^ 20) (turn : ∀ x ∈ xs, TurnC C n scope env ρf target ifs elt (enc x) (g x))
    (hRR : ∀ D L s' m cm vs, s1.heap.get? D = none → D ∉ pv → Kp C s1 s' → LsAt s'.heap D vs → RDs s'.heap (D :: pv) vs.toList (xs.flatMap g) → Fr2 s1 (cenvC scope env L) (ocC scope L) m cm s' → RR (.ref D) (cenvC scope env L) (.ok .next) s') :
    wpAny (model C.prog C.w) A (newList []) (fun acc s₃ => wpAny (model C.prog C.w) A (newFunctionEnv scope env.globals (clOf env scope.names []) [] env.qual none .none (some env)) (fun cenv s₄ =>
      codeAny (model C.prog C.w) A (.compStart (.ListComp elt [⟨target, iter, ifs, 0⟩] scope pos) 0 (.ref I) acc { cenv with scope := relabel scope env }) (RR acc { cenv with scope := relabel scope env }) s₄) E s₃) E s2 := by
  have hg1 : ∀ x ∈ xs, (g x).length ≤ 1 := fun x hx => by
    obtain ⟨_, b, _, _, _, _, e⟩ := (turn x hx).go
    rw [e]; cases b <;> simp
  refine comp_setup (RR := RR) r it fun D L σ0 hD1 hDpv hDfp c0 j0 => ?_
  have loop : codeAny (model C.prog C.w) A (.compLoop (.ListComp elt [⟨target, iter, ifs, 0⟩] scope pos) 0 (.ref I) (.ref D) (cenvC scope env L)) (RR (.ref D) (cenvC scope env L)) σ0 := by
    refine cloop (xs := xs) (enc := enc) (g := g) (target := target) (ifs := ifs) (p := iter.pos) (ρo := []) (acc0 := []) (oc := ocC scope L) (body := (do let _ ← call (.builtin "list.append") [.ref D, ← eval elt (cenvC scope env L)]))
      ra r nd hk hf hD1 it.newI (by have := it.walk; rw [List.length_map] at this; exact this) it.live it.wrI it.memI it.clsI it.let' hDfp (fun i v d hP hd => ((it.read i v d hP hd).more hD1).kp c0.kp) (compTurn_list ..) rfl rfl (Around.under_of_weight rfl) (fun i x hxi => ?_) c0 j0 (fun σ' c _ => ?_)
    · obtain ⟨ρt, b, d', h1, h3, h4, h5⟩ := (turn x (List.mem_of_getElem? hxi)).go
      refine ⟨ρt, b, h1 L, (fun _ _ i => absurd i List.not_mem_nil), by rw [List.append_nil]; exact h3 L, fun q => by rw [h5, q]; rfl, fun q σ2 c2 E => ?_⟩
      have hlen : ([] ++ (xs.take i).flatMap g).length ≤ 2 ^ 22 := Nat.le_trans (out_len hg1 i) (Nat.le_trans hsz (by decide))
      refine wpAny_mono (emit_body c2 nd hk hf r hD1 ra (by rw [List.append_nil]; exact h4 q L) hlen) (fun _ σ3 q3 => ⟨?_, q3.2⟩) fun _ _ e => e
      rw [flat_take hxi, h5, q, ← List.append_assoc]
      exact q3.1.weak fun z hz => nomatch hz
    · obtain ⟨vs, l2, r2⟩ := c.ls
      obtain ⟨m, cm, f2, _⟩ := c.fr
      exact hRR D L σ' m cm vs hD1 hDpv c.kp l2 r2 f2
  exact codeAny_compStart_list loop (it.walk.self 0 _ _ _ j0 loop)
end
end
section -- C10
section
variable {C : Cx} {n : Nat} {A : Around} {s₀ s s' : Shared} {env : Env} {ρ ρ' ρf : Names} {pv pvc : List Addr} {own : Own}
theorem lookup_of_nodup {x : Str} {k : NameKind} : ∀ {names : List (Str × NameKind)}, (names.map (·.1)).Nodup → (x, k) ∈ names → names.lookup x = some k
  | (y, j) :: r, nd, h => by
    have nd' := List.nodup_cons.mp nd
    rw [List.lookup_cons]
    rcases List.mem_cons.mp h with q | q
    · cases q; simp
    · have : (x == y) = false := by
        rw [beq_eq_false_iff_ne]; intro e; exact nd'.1 (List.mem_map.mpr ⟨_, q, e⟩)
      rw [this]; exact lookup_of_nodup nd'.2 q
theorem Ev.comp {α : Type} (xs : List α) (enc : α → PyData) (g : α → List PyData) {elt target iter : Expr} {ifs : List Expr} {scope : Scope} {pos : Pos} (hit : EvIt C n env ρ iter (xs.map enc)) (hf : Frees env ρ scope.names ρf)
    (hsz : xs.length ≤ 2 ^ 20) (turn : ∀ x ∈ xs, TurnC C n scope env ρf target ifs elt (enc x) (g x))
    (nd : (scope.names.map (·.1)).Nodup := by decide +kernel) (hk : autoParam (scope.kind = .function) syR) (hs : autoParam (∀ x, foldedSetIterable iter env x = pure x) syI) :
    Ev C n env ρ (.ListComp elt [⟨target, iter, ifs, 0⟩] scope pos) (.list (xs.flatMap g)) := fun A ra s pv r Q E h => by
  rw [eval_ListComp]
  refine wpAny_comprehension_free (g := ⟨target, iter, ifs, 0⟩) (gs := []) rfl hs (frees_closure r hf) hk (fun x hx hl => lookup_of_nodup nd (by rw [← hl]; exact hx)) ?_
  refine hit A ra s pv r _ _ fun I s1 s2 fp wr P J k1 it => ?_
  refine comp_core (RR := fun acc cenv r s' => compPost (model C.prog C.w) A E none Q acc cenv.locals r s') ra (r.kp k1) it nd hk hf hsz turn fun D L s' m cm vs hD hDp k2 l2 r2 f2 => ?_
  refine ⟨m, f2.ns, fun h' hs' => ?_⟩
  have p := Pl.ns f2.ns
  refine h _ _ (k1.trans (k2.same (tk := s'.toks) f2.new p.nf hs')) (.list (vs := vs) hDp ?_ ?_)
  · obtain ⟨n, e⟩ := l2
    exact ⟨n, (hs'.2 _ fun q => by
      have : s'.heap.get? (cenvC scope env L).locals = some _ := q ▸ e
      exact p.ns' _ this _ _ rfl).trans e⟩
  · exact (r2.sub fun a o ha _ => List.mem_cons_of_mem _ ha).mono (p.sq hs')
theorem Live.away {A : Around} {s1 : Shared} {h' tk L} (x : Live C A s) (x1 : Live C A s1) (hn : s1.heap.get? L = none) (hs : Heap.SameBut L s.heap h') : Live C A { s with heap := h', toks := tk } := by
  obtain ⟨l, a, b⟩ := x
  obtain ⟨l1, a1, b1⟩ := x1
  rw [a] at a1; cases a1
  refine ⟨l, a, fun env he => ?_⟩
  obtain ⟨h1, L', h2, h3, o, es, n, e, d⟩ := b env he
  obtain ⟨_, L2, g2, _, o2, _, _, e2, _⟩ := b1 env he
  rw [h2] at g2; cases g2
  exact ⟨h1, L', h2, h3, o, es, n, (hs.2 _ fun q => by rw [q, hn] at e2; cases e2).trans e, d⟩
theorem St.away {A : Around} {s1 : Shared} {L h' tk} (h : St C A s₀ pvc env ρ own s) (hl : Live C A { s with heap := h', toks := tk }) (hn : s₀.heap.get? L = none) (hs : Heap.SameBut L s.heap h') (p : Pl s.heap L)
    (h1 : s1.heap.get? L = none) (h2 : ∃ o, s1.heap.get? env.locals = some o) (h3 : ∀ x c, env.cells.lookup x = some c → ∃ o, s1.heap.get? c = some o) : St C A s₀ pvc env ρ own { s with heap := h', toks := tk } := by
  obtain ⟨m, cm, F, H, O⟩ := h.fr
  refine ⟨h.ok, h.base, hl, h.kp.same hn p.nf hs, h.priv, ⟨m, cm, ⟨F.ns.sameBut hs fun q => ?_, F.new, F.same, fun x c hc => ⟨(F.cell x c hc).1.sameBut hs fun q => ?_, (F.cell x c hc).2⟩, F.apart⟩, fun x d i => ?_, fun x a ds i => ?_⟩, h.nd⟩
  · obtain ⟨o, e⟩ := h2; rw [q, h1] at e; cases e
  · obtain ⟨o, e⟩ := h3 x c hc; rw [q, h1] at e; cases e
  · obtain ⟨v, e1, e2⟩ := H x d i
    exact ⟨v, e1, e2.mono (p.sq hs)⟩
  · obtain ⟨e1, e2, vs, ⟨n, e3⟩, e4⟩ := O x a ds i
    exact ⟨e1, e2, vs, ⟨n, (hs.2 _ fun q => by rw [q] at e3; exact p.ns' _ e3 _ _ rfl).trans e3⟩, e4.mono (p.sq hs)⟩
theorem St.assignComp {α : Type} (xs : List α) (enc : α → PyData) (g : α → List PyData) {x p q rest} {elt target iter : Expr} {ifs : List Expr} {scope : Scope} {pos : Pos} {Q : Flow → Shared → Prop} {E : Value → Shared → Prop}
    (h : St C A s₀ pvc env ρ own s) (ra : Room n A) (hit : EvIt C n env ρ iter (xs.map enc)) (hf : Frees env ρ scope.names ρf) (hsz : xs.length ≤ 2 ^ 20) (turn : ∀ x ∈ xs, TurnC C n scope env ρf target ifs elt (enc x) (g x))
    (hu : Upd x (.list (xs.flatMap g)) ρ ρ') (ho : ∀ y ∈ own, y.1 ≠ x) (k : ∀ s', St C A s₀ pvc env ρ' own s' → wpAny (model C.prog C.w) A (execs rest env) Q E s')
    (hx : OwnN env env.cells x) (hsw : autoParam (swapsWith (.ListComp elt [⟨target, iter, ifs, 0⟩] scope pos) (some (.Name x p)) q.line env = pure true) syU)
    (nd : (scope.names.map (·.1)).Nodup := by decide +kernel) (hk : autoParam (scope.kind = .function) syR) (hs : autoParam (∀ x, foldedSetIterable iter env x = pure x) syI) :
    wpAny (model C.prog C.w) A (execs (.Assign [.Name x p] (.ListComp elt [⟨target, iter, ifs, 0⟩] scope pos) q :: rest) env) Q E s := by
  refine wpAny_execs_cons ?_
  rw [exec_Assign_Name_used _ _ _ _ hsw]
  refine wpAny_bind (wpAny_standAt (wpAny_bind ?_))
  have r := h.rdy
  show wpAny _ A (do let _ ← comprehension (.ListComp elt [⟨target, iter, ifs, 0⟩] scope pos) scope env _ (newList []) false (eval iter env) (some (PySem.assign (.Name x p) env))) _ _ s
  refine wpAny_bind (wpAny_mono (wpAny_comprehension_free (Q := fun _ s' => wpAny (model C.prog C.w) A (execs rest env) Q E s') (g := ⟨target, iter, ifs, 0⟩) (gs := []) rfl hs (frees_closure r hf) hk (fun x hx hl => lookup_of_nodup nd (by rw [← hl]; exact hx)) ?_)
    (fun _ s' hq => wpAny_pure (wpAny_pure hq)) fun _ _ e => e)
  refine hit A ra s _ r _ _ fun I s1 s2 fp wr P J k1 it => ?_
  refine comp_core (RR := fun acc cenv r s' => compPost (model C.prog C.w) A E (some (PySem.assign (.Name x p) env)) (fun _ s' => wpAny (model C.prog C.w) A (execs rest env) Q E s') acc cenv.locals r s') ra (r.kp k1) it nd hk hf hsz turn fun D L s' m cm vs hD hDp k2 l2 r2 f2 => ?_
  have h1 := h.kps k1
  have h2 := h1.kps k2
  refine PySem.wpAny_assign_Name ?_
  obtain ⟨mo, cmo, Fo, Ho, Oo⟩ := h2.fr
  have hL0 : s₀.heap.get? (cenvC scope env L).locals = none := by
    cases e : s₀.heap.get? (cenvC scope env L).locals with
    | none => rfl
    | some o => obtain ⟨_, e'⟩ := h1.kp.there e; rw [f2.new] at e'; cases e'
  have loc1 : ∃ o, s1.heap.get? env.locals = some o := let ⟨_, _, F, _, _⟩ := h1.fr; let ⟨o, _, _, e, _⟩ := F.ns; ⟨o, e⟩
  have cel1 : ∀ y c, env.cells.lookup y = some c → ∃ o, s1.heap.get? c = some o := fun y c hc => let ⟨_, _, F, _, _⟩ := h1.fr; let ⟨o, e, _⟩ := (F.cell y c hc).1; ⟨o, e⟩
  have hLne : ∀ {X}, (∃ o, s1.heap.get? X = some o) → (cenvC scope env L).locals ≠ X := fun ⟨o, e⟩ q => by rw [← q, f2.new] at e; cases e
  -- the store
  have hv : RD s'.heap (prv own pvc) (.ref D) (.list (xs.flatMap g)) := .list hDp l2 (r2.sub fun a o ha _ => List.mem_cons_of_mem _ ha)
  refine store_at h2.ok Fo hx fun h' tk L' m' cm' F' hn hs' p p' hnv hL' => ?_
  have h3 := h2.stored hv hu ho Ho Oo F' hn hs' p p' hnv
  have hLL' : (cenvC scope env L).locals ≠ L' := hLne (by rcases hL' with rfl | ⟨y, hy⟩; exact loc1; exact cel1 y _ hy)
  have ns' : h'.Ns (cenvC scope env L).locals m := f2.ns.sameBut hs' hLL'
  refine ⟨m, ns', fun h'' hs'' => k _ ?_⟩
  exact h3.away (s1 := s1) (h3.live.away h1.live f2.new hs'') hL0 hs'' (Pl.ns ns') f2.new loc1 cel1
end
end
section -- C11
inductive Upds : Names → Names → Names → Prop
  | nil {ρ : Names} : Upds [] ρ ρ
  | cons {x : Str} {d : PyData} {ρt ρ ρ1 ρ2 : Names} : Upd x d ρ ρ1 → Upds ρt ρ1 ρ2 → Upds ((x, d) :: ρt) ρ ρ2
section
variable {C : Cx} {n : Nat} {A : Around} {s₀ s s' : Shared} {env : Env} {ρ ρ' ρf : Names} {pv pvc : List Addr} {own own' : Own}
theorem Upds.sound {ρt ρ ρ'} (u : Upds ρt ρ ρ') : ∀ y e, (y, e) ∈ ρ' → (y, e) ∈ ρt ∨ ((∀ e', (y, e') ∉ ρt) ∧ (y, e) ∈ ρ) := by
  induction u with
  | nil => intro y e h; exact .inr ⟨fun _ q => absurd q List.not_mem_nil, h⟩
  | cons u _ ih =>
    intro y e h
    rcases ih y e h with q | ⟨q1, q2⟩
    · exact .inl (List.mem_cons_of_mem _ q)
    · rcases u.sound y e q2 with ⟨rfl, rfl⟩ | ⟨h1, h2⟩
      · exact .inl List.mem_cons_self
      · refine .inr ⟨fun e' q => ?_, h2⟩
        rcases List.mem_cons.mp q with q | q
        · cases q; exact h1 rfl
        · exact q1 e' q
theorem St.target {t d ρt v} {Q : Unit → Shared → Prop} {E : Value → Shared → Prop} (h : St C A s₀ pvc env ρ own s) (hh : A.handled = none) (ht : Tgt env env.cells t d ρt) (hv : RD s.heap (prv own pvc) v d) (hu : Upds ρt ρ ρ') (ho : ∀ y ∈ own, ∀ e, (y.1, e) ∉ ρt)
    (k : ∀ s', St C A s₀ pvc env ρ' own s' → Fz C s₀ s s' → Q () s') : wpAny (model C.prog C.w) A (PySem.assign t env v) Q E s := by
  obtain ⟨m, cm, F, H, O⟩ := h.fr
  refine assign_tgt h.ok hh ht hv F fun s' m' cm' F' z' H' o' => k s' ⟨h.ok, h.base, z'.live _ h.live, z'.kp h.kp, h.priv, ⟨m', cm', F', fun y e i => ?_, fun y a ds i => ?_⟩, h.nd⟩ z'
  · rcases hu.sound y e i with q | ⟨q1, q2⟩
    · exact H' y e q
    · obtain ⟨v', e1, e2⟩ := H y e q2
      exact ⟨v', by rw [o' y q1]; exact e1, e2.mono (z'.sq _)⟩
  · obtain ⟨e1, e2, vs, e3, e4⟩ := O y a ds i
    exact ⟨by rw [o' y (ho _ i)]; exact e1, e2, vs, z'.ls e3, e4.mono (z'.sq _)⟩
-- rebasing: the state's private part is hidden
noncomputable def cellAs (env : Env) : List Addr := env.cells.filterMap fun p => env.cells.lookup p.1
theorem cellAs_mem {env : Env} {x : Str} {c : Addr} (h : env.cells.lookup x = some c) : c ∈ cellAs env := List.mem_filterMap.mpr ⟨_, mem_of_lookup h, h⟩
noncomputable def privA (env : Env) (own : Own) : List Addr := env.locals :: (cellAs env ++ own.map (·.2.1))
theorem St.privs (h : St C A s₀ pvc env ρ own s) : ∀ b ∈ privA env own, s₀.heap.get? b = none ∧ ∃ o, s.heap.get? b = some o ∧ ∀ vs, o.data ≠ .fields vs := fun b hb => by
  obtain ⟨m, cm, F, H, O⟩ := h.fr
  rcases List.mem_cons.mp hb with rfl | hb
  · obtain ⟨o, _, _, e, d, _⟩ := F.ns
    exact ⟨F.new, o, e, fun _ q => nomatch d.symm.trans q⟩
  · rcases List.mem_append.mp hb with hb | hb
    · obtain ⟨p, _, hp⟩ := List.mem_filterMap.mp hb
      obtain ⟨⟨o, e, d⟩, n⟩ := F.cell _ _ hp
      exact ⟨n, o, e, fun _ q => nomatch d.symm.trans q⟩
    · obtain ⟨⟨x, a, ds⟩, i, rfl⟩ := List.mem_map.mp hb
      obtain ⟨_, n, _, ⟨_, e⟩, _⟩ := O x a ds i
      exact ⟨n, _, e, fun _ q => nomatch q⟩
inductive RebT (C : Cx) (A : Around) (s₀ : Shared) (pvc : List Addr) (env : Env) (ρ : Names) (own : Own) (s : Shared) : Prop
  | mk (s₁ : Shared) (h : St C A s₁ pvc env ρ own s) (k : Kp C s₀ s₁) (g : ∀ b o, s.heap.get? b = some o → b ∉ privA env own → s₁.heap.get? b = some o)
theorem St.rebase (h : St C A s₀ pvc env ρ own s) :
    RebT C A s₀ pvc env ρ own s := by
  have B := h.base.mono h.kp
  have pr := h.privs
  obtain ⟨m, cm, F, H, O⟩ := h.fr
  have out : ∀ b o, s₀.heap.get? b = some o → b ∉ privA env own := fun b o e hb => by rw [(pr b hb).1] at e; cases e
  have nf : ∀ b o vs, s.heap.get? b = some o → o.data = .fields vs → b ∉ privA env own := fun b o vs e d hb => by
    obtain ⟨_, o', e', n⟩ := pr b hb; rw [e] at e'; cases e'; exact n _ d
  have get : ∀ b o, s.heap.get? b = some o → b ∉ privA env own → (hideAll s.heap (privA env own)).get? b = some o := fun b o e hb => hideAll_get _ e hb
  have kk : Kp C s₀ { s with heap := hideAll s.heap (privA env own) } := by
    refine ⟨fun b o e n => let ⟨sl, e1, q⟩ := h.kp.sub' b o e n; ⟨sl, get _ _ e1 (out b o e), q⟩, fun b ps e t => ?_, fun t => ?_, h.kp.os, h.kp.gens⟩
    · rcases h.kp.tab b ps e t with q | ⟨hm, more, q, t'⟩
      · exact .inl (get _ _ q (out b _ e))
      · exact .inr ⟨hm, more, get _ _ q (out b _ e), t'⟩
    · intro x hx
      obtain ⟨ps, h1, h2, h3⟩ := h.kp.tabs t x hx
      refine ⟨ps, get _ _ h1 (nf _ _ _ h1 rfl), h2, fun pos v e => ?_⟩
      obtain ⟨c', rfl, o, vs, tk, e2, e3, e4, e5⟩ := h3 pos v e
      exact ⟨c', rfl, o, vs, tk, get _ _ e2 (nf _ _ _ e2 e4), e3, e4, e5⟩
  refine ⟨{ s with heap := hideAll s.heap (privA env own) }, ⟨h.ok, h.base.mono kk, h.live, ?_, fun p hp => let ⟨_, e⟩ := h.priv p hp; kk.there e, ⟨m, cm, ⟨F.ns, hideAll_none _ List.mem_cons_self, F.same, fun x c hx => ⟨(F.cell x c hx).1, hideAll_none _ ?_⟩, F.apart⟩, H, fun x a ds i => ?_⟩, h.nd⟩, kk, get⟩
  · exact ⟨fun b o e _ => kx (of_hideAll _ e), fun b ps e _ => .inl (of_hideAll _ e), fun _ => B.tabs, rfl, .refl _⟩
  · exact List.mem_cons_of_mem _ (List.mem_append_left _ (cellAs_mem hx))
  · obtain ⟨e1, e2, r⟩ := O x a ds i
    exact ⟨e1, hideAll_none _ (List.mem_cons_of_mem _ (List.mem_append_right _ (List.mem_map.mpr ⟨_, i, rfl⟩))), r⟩
theorem St.unbase {s₁ : Shared} (h : St C A s₁ pvc env ρ own s) (B : Base C s₀) (P : ∀ p ∈ pvc, ∃ o, s₀.heap.get? p = some o) (k : Kp C s₀ s₁) : St C A s₀ pvc env ρ own s := by
  obtain ⟨m, cm, F, H, O⟩ := h.fr
  have new : ∀ b, s₁.heap.get? b = none → s₀.heap.get? b = none := fun b e => by
    cases q : s₀.heap.get? b with
    | none => rfl
    | some o => obtain ⟨_, q'⟩ := k.there q; rw [e] at q'; cases q'
  exact ⟨h.ok, B, h.live, k.trans h.kp, P, ⟨m, cm, ⟨F.ns, new _ F.new, F.same, fun x c hx => ⟨(F.cell x c hx).1, new _ (F.cell x c hx).2⟩, F.apart⟩, H, fun x a ds i => let ⟨e1, e2, r⟩ := O x a ds i; ⟨e1, new _ e2, r⟩⟩, h.nd⟩
theorem forLoop_gen {target it body orelse} {R : Result → Shared → Prop} (I : Nat → Shared → Prop)
    (turn : ∀ n s, I n s → ∀ E, wpAny (model C.prog C.w) A (pyNext it) (fun r s₁ => match r with
      | none => ∀ E, wpAny (model C.prog C.w) A (execs orelse env) (fun f s₃ => R (.ok f) s₃) E s₁
      | some v => wpAny (model C.prog C.w) A (letOwnedTupleGo target it v) (fun _ s₁' => wpAny (model C.prog C.w) A (PySem.assign target env v) (fun _ s₂ => wpAny (model C.prog C.w) A (execs body env) (fun f s₃ => match f with
          | .next | .cont => ∃ m, m < n ∧ I m s₃
          | .brk => R (.ok .next) s₃
          | .ret v => R (.ok (.ret v)) s₃) E s₂) E s₁') E s₁) E s)
    (n : Nat) (h : I n s) : codeAny (model C.prog C.w) A (.forLoop target it body orelse env) R s := by
  refine codeAny_loop' rfl I (fun n s hI => ?_) n h
  show wpAny _ _ ((forTurn target it body orelse env).onRaise (fun x => do noteFrame x env; theTreesLotGoes x)) _ _ s
  refine wpAny_noted ?_
  simp only [forTurn]
  refine wpAny_bind (wpAny_standAt (wpAny_bind (wpAny_onRaise (wpAny_mono (turn n s hI _) (fun r s₁ h₁ => ?_) fun _ _ h' => wpAny_standAt h'))))
  cases r with
  | none => exact wpAny_pure (.inr ⟨rfl, codeAny_block (h₁ _)⟩)
  | some v =>
    refine wpAny_bind (wpAny_mono h₁ (fun _ s₁' h₁' => wpAny_bind (wpAny_mono h₁' (fun _ s₂ h₂ => wpAny_bind (wpAny_mono h₂ (fun f s₃ h₃ => ?_) fun _ _ h' => h')) fun _ _ h' => h')) fun _ _ h' => h')
    cases f with
    | next => exact wpAny_pure (.inl ⟨rfl, h₃⟩)
    | cont => exact wpAny_pure (.inl ⟨rfl, h₃⟩)
    | brk => exact wpAny_pure h₃
    | ret v => exact wpAny_pure h₃
theorem St.but {X h' tk} (h : St C A s₀ pvc env ρ own s) (hn : s₀.heap.get? X = none) (hs : ∀ b o, b ≠ X → s.heap.get? b = some o → h'.get? b = some o)
    (hX : ∀ o, s.heap.get? X = some o → o.cls ≠ .none ∧ o.cls ≠ .type "code" ∧ ∃ vs, o.data = .fields vs) : St C A s₀ pvc env ρ own { s with heap := h', toks := tk } := by
  obtain ⟨m, cm, F, H, O⟩ := h.fr
  have nfX : ∀ o, s.heap.get? X = some o → Nf o := fun o e => let ⟨h1, _, vs, d⟩ := hX o e; ⟨⟨nt_cls h1, fun _ _ q => (nomatch d.symm.trans q)⟩, fun _ _ q => (nomatch d.symm.trans q), fun _ q => (nomatch d.symm.trans q)⟩
  have sq : ∀ pv, SqK pv s.heap h' := fun pv b o vs n _ e d => hs b o (fun q => by obtain ⟨_, _, ws, d'⟩ := hX o (q ▸ e); exact nomatch d.symm.trans d') e
  refine ⟨h.ok, h.base, ?_, h.kp.ext hn (fun o e => ⟨(hX o e).1, (hX o e).2.1⟩) hs, h.priv, ⟨m, cm, F.but hs nfX, fun x d i => let ⟨v, a, b⟩ := H x d i; ⟨v, a, b.mono (sq _)⟩, fun x a ds i => ?_⟩, h.nd⟩
  · obtain ⟨l, a, b⟩ := h.live
    exact ⟨l, a, b.mono fun L _ ⟨o, es, n, e, d⟩ => ⟨o, es, n, hs L o (fun q => by obtain ⟨_, _, ws, d'⟩ := hX o (q ▸ e); exact nomatch d.symm.trans d') e, d⟩⟩
  · obtain ⟨e1, e2, vs, ⟨n, e3⟩, e4⟩ := O x a ds i
    exact ⟨e1, e2, vs, ⟨n, hs _ _ (fun q => by obtain ⟨_, _, ws, d'⟩ := hX _ (q ▸ e3); cases d') e3⟩, e4.mono (sq _)⟩
noncomputable abbrev forQ (C : Cx) (A : Around) (s₁ : Shared) (pvc : List Addr) (env : Env) (own : Own) (Iv : Nat → Names → Own → Prop) (Bk : Names → Own → Prop) (i : Nat) : Flow → Shared → Prop := fun f s' => match f with
  | .next | .cont => ∃ ρ3 own3, Iv (i + 1) ρ3 own3 ∧ own3.map (·.2.1) = own.map (·.2.1) ∧ St C A s₁ pvc env ρ3 own3 s'
  | .brk => ∃ ρ3 own3, Bk ρ3 own3 ∧ St C A s₁ pvc env ρ3 own3 s'
  | .ret _ => False
noncomputable abbrev finQ (C : Cx) (A : Around) (s₀ : Shared) (pvc : List Addr) (env : Env) (Bk : Names → Own → Prop) : Flow → Shared → Prop := fun f s' => match f with | .next => ∃ ρ3 own3, Bk ρ3 own3 ∧ St C A s₀ pvc env ρ3 own3 s' | _ => False
noncomputable abbrev whileQ (C : Cx) (A : Around) (s₀ : Shared) (pvc : List Addr) (env : Env) (Iv : Nat → Names → Own → Prop) (k : Nat) : Flow → Shared → Prop := fun f s'' => match f with
  | .next | .cont => ∃ k' ρ3 own3, k' < k ∧ Iv k' ρ3 own3 ∧ St C A s₀ pvc env ρ3 own3 s''
  | _ => False
inductive ForT (C : Cx) (A : Around) (pvc : List Addr) (env : Env) (own own1 : Own) (ρ1 : Names) (target : Expr) (body : List Stmt) (d : PyData) (Iv : Nat → Names → Own → Prop) (Bk : Names → Own → Prop) (i : Nat) : Prop
  | mk (ρt ρ2 : Names) (h1 : Tgt env env.cells target d ρt) (h2 : Upds ρt ρ1 ρ2) (h3 : ∀ y ∈ own1, ∀ e, (y.1, e) ∉ ρt) (h4 : own1.map (·.2.1) = own.map (·.2.1))
      (h5 : ∀ s₁ σ, St C A s₁ pvc env ρ2 own1 σ → ∀ E, wpAny (model C.prog C.w) A (execs body env) (forQ C A s₁ pvc env own Iv Bk i) E σ)
inductive WhileT (C : Cx) (n : Nat) (A : Around) (s₀ : Shared) (pvc : List Addr) (env : Env) (own1 : Own) (ρ1 : Names) (test : Expr) (body rest : List Stmt) (Iv : Nat → Names → Own → Prop) (k : Nat) (Q : Flow → Shared → Prop) (E : Value → Shared → Prop) : Prop
  | mk (b : Bool) (h1 : Tst C n env (ρ1 ++ seen own1) test b) (h2 : b = true → ∀ s', St C A s₀ pvc env ρ1 own1 s' → ∀ E, wpAny (model C.prog C.w) A (execs body env) (whileQ C A s₀ pvc env Iv k) E s')
      (h3 : b = false → ∀ s', St C A s₀ pvc env ρ1 own1 s' → wpAny (model C.prog C.w) A (execs rest env) Q E s')
theorem St.notPriv (h : St C A s₀ pvc env ρ own s) {b : Addr} {o : Obj} (e : s.heap.get? b = some o) (nf : Nf o) (hb : b ∉ own.map (·.2.1)) : b ∉ privA env own := fun hp => by
  obtain ⟨_, _, F, _⟩ := h.fr
  rcases List.mem_cons.mp hp with rfl | hp
  · obtain ⟨o', _, _, e', d', _⟩ := F.ns
    rw [e] at e'; cases e'; exact nf.2.1 _ _ d'
  · rcases List.mem_append.mp hp with hp | hp
    · obtain ⟨p, _, hp⟩ := List.mem_filterMap.mp hp
      obtain ⟨⟨o', e', d'⟩, _⟩ := F.cell _ _ hp
      rw [e] at e'; cases e'; exact nf.2.2 _ d'
    · exact hb hp
theorem St.stays {s₁ σ s' : Shared} {ρ2 ρ3 : Names} {own1 own3 : Own} (st : St C A s₀ pvc env ρ2 own1 σ) (g : ∀ b o, σ.heap.get? b = some o → b ∉ privA env own1 → s₁.heap.get? b = some o) (st3 : St C A s₁ pvc env ρ3 own3 s') {b : Addr} {o : Obj} (e : σ.heap.get? b = some o) (nf : Nf o) (hb : b ∉ own1.map (·.2.1)) : s'.heap.get? b = some o :=
  st3.kp.sub b o (g b o e (st.notPriv e nf hb)) nf.1
inductive FinR (C : Cx) (A : Around) (s₀ : Shared) (pvc : List Addr) (env : Env) (Bk : Names → Own → Prop) : Result → Shared → Prop
  | mk {s' : Shared} (ρ3 : Names) (own3 : Own) (h : Bk ρ3 own3) (st : St C A s₀ pvc env ρ3 own3 s') : FinR C A s₀ pvc env Bk (.ok .next) s'
inductive ForI (C : Cx) (A : Around) (s₀ : Shared) (pvc : List Addr) (env : Env) (L : Own → Prop) (n : Nat) (Iv : Nat → Names → Own → Prop) (J : Nat → Heap → Prop) (X : Heap → Prop) (k : Nat) (σ : Shared) : Prop
  | mk (i : Nat) (ρ1 : Names) (own1 : Own) (hi : i ≤ n) (hk : k = n + 1 - i) (hIv : Iv i ρ1 own1) (hL : L own1) (st : St C A s₀ pvc env ρ1 own1 σ) (hj : J i σ.heap) (hx : X σ.heap)
theorem ForI.next {L : Own → Prop} {n i : Nat} {Iv : Nat → Names → Own → Prop} {J : Nat → Heap → Prop} {X : Heap → Prop} {σ : Shared} {ρ1 : Names} {own1 : Own} (hi : i < n) (hIv : Iv (i + 1) ρ1 own1) (hL : L own1) (st : St C A s₀ pvc env ρ1 own1 σ) (hj : J (i + 1) σ.heap) (hx : X σ.heap) :
    ∃ m, m < n + 1 - i ∧ ForI C A s₀ pvc env L n Iv J X m σ := ⟨_, Nat.sub_succ_lt_self _ _ (Nat.lt_succ_of_lt hi), i + 1, ρ1, own1, hi, rfl, hIv, hL, st, hj, hx⟩
theorem SqK.step {pv : List Addr} {h1 h2 h3 : Heap} (a : SqK pv h1 h2) (b : SqK pv h2 h3) : SqK pv h1 h3 := fun x o vs n hx e d => b x o vs n hx (a x o vs n hx e d) d
theorem SqK.but {X : Addr} {pv : List Addr} {h1 h2 : Heap} (hX : ∀ o, h1.get? X = some o → o.cls ≠ .none ∧ o.cls ≠ .type "code" ∧ ∃ vs, o.data = .fields vs) (hk : ∀ b o, b ≠ X → h1.get? b = some o → h2.get? b = some o) : SqK pv h1 h2 := fun b o vs n _ e d =>
  hk b o (fun q => by obtain ⟨_, _, ws, d'⟩ := hX o (q ▸ e); exact nomatch d.symm.trans d') e
theorem St.for {target iter body orelse pos rest} {ds : List PyData} {Q : Flow → Shared → Prop} {E : Value → Shared → Prop} (Iv : Nat → Names → Own → Prop) (Bk : Names → Own → Prop)
    (h : St C A s₀ pvc env ρ own s) (ra : Room n A) (hit : EvIt C n env ρ iter ds) (h0 : Iv 0 ρ own)
    (turn : ∀ (i : Nat) d, ds[i]? = some d → ∀ ρ1 own1, Iv i ρ1 own1 → ForT C A pvc env own own1 ρ1 target body d Iv Bk i)
    (fin : ∀ ρ1 own1 s', Iv ds.length ρ1 own1 → St C A s₀ pvc env ρ1 own1 s' → ∀ E, wpAny (model C.prog C.w) A (execs orelse env) (finQ C A s₀ pvc env Bk) E s')
    (k : ∀ ρ1 own1 s', Bk ρ1 own1 → St C A s₀ pvc env ρ1 own1 s' → wpAny (model C.prog C.w) A (execs rest env) Q E s')
    (hs : autoParam (∀ x, foldedSetIterable iter env x = pure x) syI) :
    wpAny (model C.prog C.w) A (execs (.For target iter body orelse pos :: rest) env) Q E s := by
  refine wpAny_execs_cons (wpAny_For (hit A ra s _ h.rdy _ _ fun I s1 s2 fp wr P J k1 it => ?_) hs)
  have h1 := h.kps k1
  have hI0 : s₀.heap.get? I = none := by
    cases q : s₀.heap.get? I with
    | none => rfl
    | some o => obtain ⟨_, q'⟩ := h1.kp.there q; rw [it.newI] at q'; cases q'
  refine codeAny_mono (forLoop_gen (R := FinR C A s₀ pvc env Bk) (ForI C A s₀ pvc env (fun own1 => own1.map (·.2.1) = own.map (·.2.1)) ds.length Iv J (SqK (prv own pvc) s1.heap)) ?_ (ds.length + 1)
    ⟨0, ρ, own, Nat.zero_le _, rfl, h0, rfl, h1.kps it.kp, it.start, .of_kp it.kp _⟩) fun r s' hr => by obtain ⟨ρ3, own3, h3, h4⟩ := hr; exact k ρ3 own3 s' h3 h4
  rintro m σ ⟨i, ρ1, own1, hi, rfl, hIv, hown, hst, hj, hsq⟩ E
  have hcI := it.clsI i _ hj
  have keepI : ∀ {h' : Heap}, (∀ b o, b ∉ wr → σ.heap.get? b = some o → h'.get? b = some o) → ∀ b o, b ≠ I → σ.heap.get? b = some o → h'.get? b = some o := fun hk b o hb e => hk b o (fun hm => hb (it.wrI b hm)) e
  by_cases hlt : i < ds.length
  · obtain ⟨d, hd⟩ : ∃ d, ds[i]? = some d := ⟨_, List.getElem?_eq_getElem hlt⟩
    refine it.walk.item i σ _ _ hlt hj fun v h₁ tk₁ hPv j₁ hk₁ => ?_
    have st₁ := hst.but (tk := tk₁) hI0 (keepI hk₁) hcI
    have hsq₁ := hsq.step (SqK.but hcI (keepI hk₁))
    obtain ⟨ρt, ρ2, ht, hu, ho, _, hbody⟩ := turn i d hd ρ1 own1 hIv
    have hv : RD h₁ (prv own1 pvc) v d := by
      have := (it.read i v d hPv hd).mono hsq₁
      unfold prv at this ⊢
      rw [hown]; exact this
    refine it.let' (i + 1) _ target v _ _ j₁ (st₁.target ra.handled ht hv hu ho fun σ₂ st₂ z₂ => ?_)
    have j₂ : J (i + 1) σ₂.heap := it.walk.frame _ _ _ j₁ fun b hb o e => by obtain ⟨o', e', n'⟩ := it.live _ _ j₁ b hb; rw [e] at e'; cases e'; exact z₂.nf b o e n'
    have hsq₂ := hsq₁.step (z₂.sq (prv own pvc))
    obtain ⟨s₁, st₂', kr, hget⟩ := st₂.rebase
    have go : ∀ {ρ3 own3 s'}, Iv (i + 1) ρ3 own3 → own3.map (·.2.1) = own.map (·.2.1) → St C A s₁ pvc env ρ3 own3 s' → ∃ m, m < ds.length + 1 - i ∧ ForI C A s₀ pvc env (fun own1 => own1.map (·.2.1) = own.map (·.2.1)) ds.length Iv J (SqK (prv own pvc) s1.heap) m s' := fun h3 h4 h5 =>
      ForI.next hlt h3 h4 (h5.unbase h.base h.priv kr) (it.walk.frame _ _ _ j₂ fun b hb o e => by
        obtain ⟨o', e', n'⟩ := it.live _ _ j₂ b hb
        rw [e] at e'; cases e'
        exact st₂.stays hget h5 e n' fun q => it.out b hb (List.mem_append_left _ (hown ▸ q)))
        (hsq₂.step fun b o vs n hb e d => st₂.stays hget h5 e (.seq d) fun q => hb (List.mem_append_left _ (hown ▸ q)))
    refine wpAny_mono (hbody s₁ σ₂ st₂' E) (fun f s' hf => ?_) fun _ _ e => e
    cases f with
    | next => obtain ⟨ρ3, own3, h3, h4, h5⟩ := hf; exact go h3 h4 h5
    | cont => obtain ⟨ρ3, own3, h3, h4, h5⟩ := hf; exact go h3 h4 h5
    | brk => obtain ⟨ρ3, own3, h3, h5⟩ := hf; exact ⟨ρ3, own3, h3, h5.unbase h.base h.priv kr⟩
    | ret _ => exact hf.elim
  · have hin : i = ds.length := Nat.le_antisymm hi (Nat.le_of_not_lt hlt)
    refine it.walk.done σ _ _ (hin ▸ hj) fun h₁ tk₁ hk₁ E' => ?_
    refine wpAny_mono (fin ρ1 own1 _ (hin ▸ hIv) (hst.but (tk := tk₁) hI0 (keepI hk₁) hcI) E') (fun f s' hf => ?_) fun _ _ e => e
    cases f with
    | next => obtain ⟨ρ3, own3, h3, h5⟩ := hf; exact ⟨ρ3, own3, h3, h5⟩
    | cont => exact hf.elim
    | brk => exact hf.elim
    | ret _ => exact hf.elim
theorem St.while {test body pos rest} {Q : Flow → Shared → Prop} {E : Value → Shared → Prop} (Iv : Nat → Names → Own → Prop) (k₀ : Nat) (h : St C A s₀ pvc env ρ own s) (ra : Room n A) (h0 : Iv k₀ ρ own)
    (turn : ∀ k ρ1 own1, Iv k ρ1 own1 → WhileT C n A s₀ pvc env own1 ρ1 test body rest Iv k Q E) :
    wpAny (model C.prog C.w) A (execs (.While test body [] pos :: rest) env) Q E s := by
  refine wpAny_execs_cons (wpAny_While (codeAny_mono (R := fun r s' => match r with | .ok .next => wpAny (model C.prog C.w) A (execs rest env) Q E s' | _ => False)
    (codeAny_whileLoop (fun k σ => ∃ ρ1 own1, Iv k ρ1 own1 ∧ St C A s₀ pvc env ρ1 own1 σ) ?_ k₀ ⟨ρ, own, h0, h⟩) fun r s' hr => ?_))
  · rintro k σ ⟨ρ1, own1, h1, hst⟩
    obtain ⟨b, ht, hb1, hb2⟩ := turn k ρ1 own1 h1
    refine ht A ra σ _ hst.rdyF _ _ fun s' ks => ?_
    cases b with
    | true =>
      refine wpAny_mono (hb1 rfl s' (hst.kps ks) _) (fun f s'' hf => ?_) fun _ _ e => e
      cases f with
      | next => obtain ⟨k', ρ3, own3, h3, h4, h5⟩ := hf; exact ⟨k', h3, ρ3, own3, h4, h5⟩
      | cont => obtain ⟨k', ρ3, own3, h3, h4, h5⟩ := hf; exact ⟨k', h3, ρ3, own3, h4, h5⟩
      | brk => exact hf.elim
      | ret _ => exact hf.elim
    | false => exact wpAny_execs_nil (hb2 rfl s' (hst.kps ks))
  · cases r with
    | error e => exact hr.elim
    | ok f => cases f <;> first | exact hr | exact hr.elim
end
end
section -- C12
inductive Stores (C : Cx) (A : Around) (env : Env) : List (Value → Sem Unit) → List Str → Prop
  | nil : Stores C A env [] []
  | cons {f : Value → Sem Unit} {x : Str} {fs xs} : (∀ v s (Q : Unit → Shared → Prop) E, wpAny (model C.prog C.w) A (storeName env x v) Q E s → wpAny (model C.prog C.w) A (f v) Q E s) → Stores C A env fs xs → Stores C A env (f :: fs) (x :: xs)
section
variable {C : Cx} {n : Nat} {A : Around} {s₀ s s' : Shared} {env : Env} {ρ ρ' ρf : Names} {pv pvc : List Addr} {own own' o1 o2 : Own} {oc : List (Str × Addr)}
theorem store_seq (ok : EnvOk env) {fs xs} (hst : Stores C A env fs xs) : ∀ {vs : List Value} {s : Shared} {m cm} {Q : Unit → Shared → Prop} {E : Value → Shared → Prop}, vs.length = xs.length → xs.Nodup → (∀ x ∈ xs, OwnN env oc x) → Fr2 s₀ env oc m cm s →
    (∀ s' m' cm', Fr2 s₀ env oc m' cm' s' → Fz C s₀ s s' → (∀ x v, (x, v) ∈ xs.zip vs → nv env oc m' cm' x = some v) → (∀ y, y ∉ xs → nv env oc m' cm' y = nv env oc m cm y) → Q () s') →
    wpAny (model C.prog C.w) A (assignInOrder fs vs) Q E s := by
  induction hst with
  | nil =>
    intro vs s m cm Q E hl _ _ F h
    have : vs = [] := List.length_eq_zero_iff.mp hl
    subst this
    exact wpAny_pure (h s m cm F .refl (fun _ _ i => nomatch i) fun _ _ => rfl)
  | @cons f x fs xs hf hr ih =>
    intro vs s m cm Q E hl nd hx F h
    cases vs with
    | nil => cases hl
    | cons v vs =>
      have nd' := List.nodup_cons.mp nd
      show wpAny _ A (do holding vs (f v); assignInOrder fs vs) Q E s
      refine wpAny_bind (wpAny_holding (hf v s _ _ (fz_store ok F (hx x List.mem_cons_self) fun s1 m1 cm1 F1 z1 e1 => ?_)))
      refine ih (by simpa using hl) nd'.2 (fun y hy => hx y (List.mem_cons_of_mem _ hy)) F1 fun s2 m2 cm2 F2 z2 H2 o2 => h s2 m2 cm2 F2 (z1.trans z2) (fun y w i => ?_) fun y hy => ?_
      · rcases List.mem_cons.mp i with q | q
        · cases q; rw [o2 x nd'.1, e1]; simp
        · exact H2 y w q
      · rw [o2 y fun q => hy (List.mem_cons_of_mem _ q), e1, if_neg fun q : y = x => hy (by rw [q]; exact List.mem_cons_self)]
theorem zip_rev {α β : Type} : ∀ {xs : List α} {ys : List β}, xs.length = ys.length → xs.reverse.zip ys.reverse = (xs.zip ys).reverse
  | [], [], _ => rfl
  | x :: xs, y :: ys, h => by
    have h' : xs.length = ys.length := by simpa using h
    rw [List.reverse_cons, List.reverse_cons, List.zip_append (by simp [h']), zip_rev h']
    simp
theorem St.assignTup {es k tp e q rest ds ρt} {Q : Flow → Shared → Prop} {E : Value → Shared → Prop} (h : St C A s₀ pvc env ρ own s) (ra : Room n A) (he : Ev C n env ρ e (.tuple ds)) (ht : Tgts env env.cells es ds ρt) (hu : Upds ρt ρ ρ')
    (ho : ∀ y ∈ own, ∀ e, (y.1, e) ∉ ρt) (k' : ∀ s', St C A s₀ pvc env ρ' own s' → wpAny (model C.prog C.w) A (execs rest env) Q E s')
    (hs : autoParam (swapsWithSole [.Tuple es k tp] e q.line env = pure false) syU) (hw : autoParam (swappedStores [.Tuple es k tp] e env = pure none) syU) :
    wpAny (model C.prog C.w) A (execs (.Assign [.Tuple es k tp] e q :: rest) env) Q E s :=
  wpAny_execs_cons (Assign_Tuple (he A ra s _ h.rdy _ _ fun v s1 k1 hv => (h.kps k1).target ra.handled (.tup ht) hv hu ho fun s' st _ => k' s' st) hs hw)
theorem St.assignSwap {es k tp e q rest ds} {xs : List Str} {Q : Flow → Shared → Prop} {E : Value → Shared → Prop} (h : St C A s₀ pvc env ρ own s) (ra : Room n A) (he : Ev C n env ρ e (.tuple ds)) (hl : ds.length = xs.length) (nd : xs.Nodup) (hx : ∀ x ∈ xs, OwnN env env.cells x)
    (hu : Upds (xs.zip ds) ρ ρ') (ho : ∀ y ∈ own, y.1 ∉ xs) (k' : ∀ s', St C A s₀ pvc env ρ' own s' → wpAny (model C.prog C.w) A (execs rest env) Q E s')
    (hs : autoParam (swapsWithSole [.Tuple es k tp] e q.line env = pure false) syU) (hw : autoParam (swappedStores [.Tuple es k tp] e env = pure (some xs)) syU) :
    wpAny (model C.prog C.w) A (execs (.Assign [.Tuple es k tp] e q :: rest) env) Q E s := by
  refine wpAny_execs_cons ?_
  show wpAny _ A (do
    standAt q
    if ← swapsWithSole [.Tuple es k tp] e q.line env then do
      evalThenUse e env fun v => assignAll v ((assignEach [.Tuple es k tp] env).map (·.2))
      pure .next
    else do
      let v ← eval e env
      assignStores env v (← swappedStores [.Tuple es k tp] e env) ((assignEach [.Tuple es k tp] env).map (·.2))) _ _ s
  rw [hs, hw]
  refine wpAny_bind (wpAny_standAt ?_)
  show wpAny _ A (do
      let v ← eval e env
      assignStores env v (some xs) ((assignEach [.Tuple es k tp] env).map (·.2))) _ _ s
  refine wpAny_bind (he A ra s _ h.rdy _ _ fun v s1 k1 hv => ?_)
  obtain ⟨a, vs, rfl, h1, h2, h3⟩ := hv.tuple_inv
  have hvl : vs.size = xs.length := by rw [← hl, ← h3.length]; simp
  show wpAny _ A (do
    rule "assign.swapped-stores"
    let items ← unpackItems (.ref a) xs.length none
    assignInOrder (xs.reverse.map fun n => bindName env n) items.reverse
    pure Flow.next) _ _ s1
  refine wpAny_bind (wpAny_rule (wpAny_bind ?_))
  rw [← hvl]
  refine wpAny_unpackItems_tuple ra.handled h2 fun h' hx' => wpAny_bind ?_
  have kk : Kp C s1 { s1 with heap := h' } := Kp.keepH fun b o e => hx' b o (Nat.ne_of_lt (Heap.lt_size e)) e
  have st := (h.kps k1).kps kk
  obtain ⟨m, cm, F, H, O⟩ := st.fr
  have stores : ∀ ys : List Str, Stores C A env (ys.map fun n => bindName env n) ys := fun ys => by
    induction ys with
    | nil => exact .nil
    | cons y ys ih => exact .cons (fun v s Q E h => wpAny_bindName h) ih
  refine store_seq (oc := env.cells) st.ok (stores _) (by simp [hvl]) (List.pairwise_reverse.mpr (nd.imp Ne.symm)) (fun x hx'' => hx x (by simpa using hx'')) F fun s' m' cm' F' z' H' o' => wpAny_pure (k' s' ?_)
  have h3' := (h3.kp kk).mono (z'.sq (prv own pvc))
  refine ⟨st.ok, st.base, z'.live _ st.live, z'.kp st.kp, st.priv, ⟨m', cm', F', fun y e i => ?_, fun y a ds i => ?_⟩, st.nd⟩
  · rcases hu.sound y e i with q | ⟨q1, q2⟩
    · obtain ⟨j, hj, ej⟩ := List.mem_iff_getElem.mp q
      have hj' : j < xs.length ∧ j < ds.length := by simp at hj; omega
      rw [List.getElem_zip] at ej
      cases ej
      obtain ⟨v, e1, e2⟩ := h3'.get (i := j) (List.getElem?_eq_getElem hj'.2)
      refine ⟨v, H' _ _ ?_, e2⟩
      have : (xs.reverse.zip vs.toList.reverse) = (xs.zip vs.toList).reverse := by
        exact zip_rev (by simp [hvl])
      rw [this]
      refine List.mem_reverse.mpr (List.mem_iff_getElem.mpr ⟨j, by simp; omega, ?_⟩)
      rw [List.getElem_zip]
      obtain ⟨_, e1⟩ := List.getElem?_eq_some_iff.mp e1
      rw [e1]
    · obtain ⟨v', e1, e2⟩ := H y e q2
      refine ⟨v', ?_, e2.mono (z'.sq _)⟩
      rw [o' y fun hy => ?_]
      · exact e1
      · have hy : y ∈ xs := by simpa using hy
        obtain ⟨j, hj, ej⟩ := List.mem_iff_getElem.mp hy
        refine q1 (ds[j]'(by omega)) (List.mem_iff_getElem.mpr ⟨j, by simp; omega, ?_⟩)
        rw [List.getElem_zip, ej]
  · obtain ⟨e1, e2, vs', e3, e4⟩ := O y a ds i
    exact ⟨by rw [o' y fun hy => ho _ i (by simpa using hy)]; exact e1, e2, vs', z'.ls e3, e4.mono (z'.sq _)⟩
theorem St.freeze {x a ds} (h : St C A s₀ pvc env ρ ((x, a, ds) :: own) s) : St C A s₀ pvc env ((x, .list ds) :: ρ) own s := by
  obtain ⟨m, cm, F, H, O⟩ := h.fr
  have sub : ∀ b o, b ∈ prv own pvc → s.heap.get? b = some o → b ∈ prv ((x, a, ds) :: own) pvc := fun b _ hb _ => List.mem_cons_of_mem _ hb
  obtain ⟨e1, e2, vs, e3, e4⟩ := O x a ds List.mem_cons_self
  have nd := List.nodup_cons.mp h.nd
  refine ⟨h.ok, h.base, h.live, h.kp, h.priv, ⟨m, cm, F, fun y e i => ?_, fun y b es i => ?_⟩, nd.2⟩
  · rcases List.mem_cons.mp i with q | q
    · cases q
      refine ⟨_, e1, .list (fun hm => ?_) e3 (e4.sub sub)⟩
      rcases List.mem_append.mp hm with hm | hm
      · exact nd.1 hm
      · obtain ⟨_, q⟩ := h.priv a hm; rw [e2] at q; cases q
    · obtain ⟨v, p1, p2⟩ := H y e q
      exact ⟨v, p1, p2.sub sub⟩
  · obtain ⟨p1, p2, ws, p3, p4⟩ := O y b es (List.mem_cons_of_mem _ i)
    exact ⟨p1, p2, ws, p3, p4.sub sub⟩
theorem St.drop {o} (h : St C A s₀ pvc env ρ (o :: own) s) : St C A s₀ pvc env ρ own s := by
  obtain ⟨x, a, ds⟩ := o
  exact h.freeze.weak fun _ => List.mem_cons_of_mem _
theorem St.upd {x a ds ds' h' tk} {vs' : Array Value} (h : St C A s₀ pvc env ρ (o1 ++ (x, a, ds) :: o2) s) (hs : Heap.SameBut a s.heap h') (hl : LsAt h' a vs') (hr : RDs s.heap (prv (o1 ++ (x, a, ds) :: o2) pvc) vs'.toList ds') :
    St C A s₀ pvc env ρ (o1 ++ (x, a, ds') :: o2) { s with heap := h', toks := tk } := by
  obtain ⟨m, cm, F, H, O⟩ := h.fr
  have hpv : prv (o1 ++ (x, a, ds') :: o2) pvc = prv (o1 ++ (x, a, ds) :: o2) pvc := by simp [prv]
  have mem : (x, a, ds) ∈ o1 ++ (x, a, ds) :: o2 := by simp
  obtain ⟨e1, e2, vs, ⟨n0, e3⟩, e4⟩ := O x a ds mem
  have hap : a ∈ prv (o1 ++ (x, a, ds) :: o2) pvc := by simp [prv]
  have sq : SqK (prv (o1 ++ (x, a, ds) :: o2) pvc) s.heap h' := fun b o ws n hb e _ => (hs.2 b fun q => hb (q ▸ hap)).trans e
  have clsa : ∀ o, s.heap.get? a = some o → o.cls ≠ .none ∧ o.cls ≠ .type "code" := fun o e => by rw [e3] at e; cases e; exact ⟨(fun q => nomatch q), by show Value.type "list" ≠ .type "code"; decide⟩
  have keep : ∀ b o, b ≠ a → s.heap.get? b = some o → h'.get? b = some o := fun b o hb e => (hs.2 b hb).trans e
  refine ⟨h.ok, h.base, ?_, h.kp.ext e2 clsa keep, h.priv, ⟨m, cm, F.but keep fun o e => by rw [e3] at e; cases e; exact .seq rfl, fun y e i => ?_, fun y b es i => ?_⟩, by simpa using h.nd⟩
  · obtain ⟨l, p, q⟩ := h.live
    exact ⟨l, p, q.mono fun L _ d => let ⟨o, es, n, e, dd⟩ := d; ⟨o, es, n, keep _ _ (d.ne e3 fun _ _ q => nomatch q) e, dd⟩⟩
  · obtain ⟨v, p1, p2⟩ := H y e i
    rw [hpv]; exact ⟨v, p1, p2.mono sq⟩
  · rw [hpv]
    by_cases hb : b = a
    · subst hb
      have : (y, b, es) = (x, b, ds') := by
        have nd : ((o1 ++ (x, b, ds') :: o2).map (·.2.1)).Nodup := by simpa using h.nd
        have inj : ∀ {l : Own} {p q : Str × Addr × List PyData}, (l.map (·.2.1)).Nodup → p ∈ l → q ∈ l → p.2.1 = q.2.1 → p = q := by
          intro l
          induction l with
          | nil => intro p q _ hp; cases hp
          | cons z r ih =>
            intro p q nd hp hq e
            have nd' := List.nodup_cons.mp nd
            rcases List.mem_cons.mp hp with hp1 | hp <;> rcases List.mem_cons.mp hq with hq1 | hq
            · rw [hp1, hq1]
            · exact absurd (List.mem_map.mpr ⟨q, hq, by rw [← e, hp1]⟩) nd'.1
            · exact absurd (List.mem_map.mpr ⟨p, hp, by rw [e, hq1]⟩) nd'.1
            · exact ih nd'.2 hp hq e
        exact inj nd i (by simp) rfl
      cases this
      exact ⟨e1, e2, vs', hl, hr.mono sq⟩
    · have i' : (y, b, es) ∈ o1 ++ (x, a, ds) :: o2 := by
        rcases List.mem_append.mp i with q | q
        · exact List.mem_append_left _ q
        · rcases List.mem_cons.mp q with q | q
          · cases q; exact absurd rfl hb
          · exact List.mem_append_right _ (List.mem_cons_of_mem _ q)
      obtain ⟨p1, p2, ws, ⟨n1, p3⟩, p4⟩ := O y b es i'
      exact ⟨p1, p2, ws, ⟨n1, keep _ _ hb p3⟩, p4.mono sq⟩
end
end
section -- C13
-- known objects
noncomputable abbrev Cx.know (C : Cx) (x : Addr × Obj) : Cx := { C with kn := x :: C.kn }
theorem Base.unknow {C : Cx} {x s} (B : Base (C.know x) s) : Base C s := ⟨B.sub', B.there, B.tabs, fun y hy => B.known y (List.mem_cons_of_mem _ hy)⟩
theorem Base.know {C : Cx} {x : Addr × Obj} {s} (B : Base C s) (h : s.heap.get? x.1 = some x.2) (n : Nd x.2) : Base (C.know x) s :=
  ⟨B.sub', B.there, B.tabs, fun y hy => by
    rcases List.mem_cons.mp hy with rfl | hy
    · exact ⟨h, n⟩
    · exact B.known y hy⟩
theorem Kp.unknow {C : Cx} {x s s'} (k : Kp (C.know x) s s') : Kp C s s' := ⟨k.sub', k.tab, k.tabs, k.os, k.gens⟩
structure Mkr (C : Cx) (env : Env) (c P : Addr) (qual : Str) : Prop where
  code : env.code = .ref c
  hd : ∀ s, Base C s → CodeHd s.heap c P
  mem : (c, P, qual) ∈ C.mkr
  one : ∀ x ∈ C.mkr, x.2.1 = P → x.2.2 = qual
  gP : mainGlobals ≠ P
  bu : ∀ s, Base C s → s.heap.BuiltinsAt C.mg P
section
variable {C : Cx} {n : Nat} {A : Around} {s s' : Shared} {env : Env} {ρ : Names} {pv : List Addr}
theorem codeAmong_back {pos : Pos} {a b : Int} {c u : Value} : ∀ {l : List Value}, TriplesOk l → codeAmong pos (l ++ [rawInt a, rawInt b, c]) = some u → codeAmong pos l = some u ∨ u = c := by
  intro l
  fun_induction TriplesOk l with
  | case1 => intro _ e; simp only [List.nil_append, rawInt, codeAmong] at e; split at e <;> simp_all
  | case2 a' t b' v x rest ih =>
    intro h e
    simp only [List.cons_append, codeAmong] at e ⊢
    split at e
    · rename_i q; rw [if_pos q]; exact .inl e
    · rename_i q; rw [if_neg q]; exact ih h e
  | case3 l h1 h2 => intro h; exact h.elim
theorem codeR_of {h : Heap} {c : Addr} {q : Str} (x : h.CodeRec (.ref c) q) {P ps} (y : h.TableAt c P ps) : CodeR h c q := by
  obtain ⟨c', o, vs, t, e, g, d, r⟩ := x
  cases e
  obtain ⟨⟨o', vs', g', cl, d', r'⟩, _⟩ := y
  rw [g] at g'; cases g'
  exact ⟨o, vs, t, g, cl, d, r⟩
noncomputable abbrev lamO (C : Cx) (qual : Str) (params : Arguments) (body : Expr) (scope : Scope) (clos : List (Str × Addr)) (c' : Addr) (ctv : Value) : Obj :=
  { cls := .type "function", data := .func (kla_fn (Str.ofString "<lambda>") qual params body scope clos ((C.mg "__name__").getD .none) (.ref c') ctv) }
theorem tab_miss {c P : Addr} {qual : Str} {ps : Array Value} {h' : Heap} {tk : Nat} (M : Mkr C env c P qual) (B : Base C s) (hP : s.heap.get? P = some (tabObj ps)) {c' : Addr} {pos : Pos} (hnf : codeAmong pos ps.toList = none)
    (ht : TriplesOk ps.toList)
    (hx : Heap.ExtBut P s.heap h') (hr : CodeR h' c' qual) (htb : h'.get? P = some (tabObj (ps ++ #[rawInt pos.line, rawInt pos.col, .ref c']))) : Kp C s { s with heap := h', toks := tk } := by
  have htl : (ps ++ #[rawInt pos.line, rawInt pos.col, Value.ref c']).toList = ps.toList ++ [rawInt pos.line, rawInt pos.col, .ref c'] := by simp
  have ht' : TriplesOk (ps ++ #[rawInt pos.line, rawInt pos.col, Value.ref c']).toList := by rw [htl]; exact TriplesOk_snoc _ _ _ _ ht
  refine ⟨fun b o e nt => kx (hx b o (fun q => ?_) e), fun b qs e t => ?_, fun T y hy => ?_, rfl, .refl _⟩
  · subst q; rw [hP] at e; cases e; exact nt ⟨ps, rfl, ht⟩
  · by_cases q : b = P
    · subst q
      rw [hP] at e
      have : ps = qs := by cases e; rfl
      subst this
      exact .inr ⟨⟨_, M.mem, rfl⟩, _, htb, ht'⟩
    · exact .inl (hx b _ q e)
  · obtain ⟨qs, h1, h2, h3⟩ := T y hy
    have cr : ∀ {d q}, CodeR s.heap d q → CodeR h' d q := fun {d q} x => by
      obtain ⟨o, vs, t, g, cl, dd, r⟩ := x
      refine ⟨o, vs, t, hx _ _ (fun q' => ?_) g, cl, dd, r⟩
      subst q'; rw [hP] at g; cases g; cases cl
    by_cases q : y.2.1 = P
    · rw [q, hP] at h1
      have : ps = qs := by cases h1; rfl
      subst this
      refine ⟨_, by rw [q]; exact htb, ht', fun pos' v e => ?_⟩
      rw [htl] at e
      have hq := M.one y hy q
      rcases codeAmong_back ht e with e0 | rfl
      · obtain ⟨c2, rfl, r⟩ := h3 _ _ e0
        exact ⟨c2, rfl, cr r⟩
      · exact ⟨c', rfl, by rw [hq]; exact hr⟩
    · exact ⟨qs, hx _ _ q h1, h2, fun pos' v e => let ⟨c2, e2, r⟩ := h3 pos' v e; ⟨c2, e2, cr r⟩⟩
theorem ev_lambda {c P : Addr} {qual : Str} {params : Arguments} {body : Expr} {scope : Scope} {clos : List (Str × Addr)} {pos : Pos} {Q : Value → Shared → Prop} {E : Value → Shared → Prop} (M : Mkr C env c P qual) (r : Rdy C A env ρ pv s)
    (hd : defaultsOf params env = ([], [])) (hcl : closureFor scope env = pure clos) (hq : env.qual ++ "<lambda>" = qual)
    (h : ∀ f c' ctv s', Kp C s s' → s.heap.get? f = none → s'.heap.get? f = some (lamO C qual params body scope clos c' ctv) → CodeR s'.heap c' qual → Q (.ref f) s') :
    wpAny (model C.prog C.w) A (eval (.Lambda params body scope pos) env) Q E s := by
  refine kla_eval hd ?_
  rw [hq, makeFunction_eq]
  simp only [List.zip_nil_right, List.filterMap_nil, List.isEmpty_nil, if_true, pure_bind]
  obtain ⟨ps, hP, ht, hh⟩ := r.base.tabs _ M.mem
  have hg := base_ns r.base C.g
  obtain ⟨bm, ob, hbm, hne0, _, hneP, hbo, hcls, hdict, hdata⟩ := M.bu s r.base
  have CH := M.hd s r.base
  have nn : ∀ {h' : Heap}, s.heap.objs.size ≤ h'.objs.size → s.heap.get? h'.objs.size = none := fun {h'} q => Heap.get?_none_of_le q
  unfold makeTail
  rw [hcl, r.ok.gl]
  refine wpAny_bind (wpAny_pure ?_)
  cases hm : codeAmong pos ps.toList with
  | none =>
    cases clos with
    | nil =>
      simp only [List.isEmpty_nil, if_true]
      refine wpAny_bind (wpAny_pure ?_)
      refine wpAny_bind (wpAny_functionCodeX M.code (CH.code hP ht) (CH.tab hP) hm fun c' h' tk hx hge hlt _ hrec htb ⟨P', _, _, hT⟩ => ?_)
      have hg' := hg.extBut hx M.gP
      refine wpAny_bind (wpAny_builtinsFor hg' hbm hne0 (hx _ _ hneP hbo) hcls hdict hdata ?_)
      refine wpAny_bind (wpAny_nsGet hg' ?_)
      have cr := codeR_of hrec hT
      have k := tab_miss (tk := tk) M r.base hP hm ht hx cr htb.2
      refine wpAny_bind (wpAny_pure (wpAny_newObj_type (h _ c' .none _ (k.trans Kp.push) (nn (Nat.le_trans hge (Nat.le_of_lt hlt))) (Heap.get?_push_size _ rfl) (cr.keeps fun b o e => Heap.get?_push_of_some _ e)) (by size_fits)))
    | cons q t =>
      simp only [List.isEmpty_cons, Bool.false_eq_true, if_false]
      refine wpAny_bind (wpAny_newTextTuple ?_)
      have k0 : ∀ o, Kp C s { s with heap := s.heap.push o } := fun o => Kp.push
      refine wpAny_bind (wpAny_functionCodeX M.code ((CH.keeps fun b o e => Heap.get?_push_of_some _ e).code (Heap.get?_push_of_some _ hP) ht) ((CH.keeps fun b o e => Heap.get?_push_of_some _ e).tab (Heap.get?_push_of_some _ hP)) hm fun c' h' tk hx hge hlt _ hrec htb ⟨P', _, _, hT⟩ => ?_)
      have hg' := (hg.push _).extBut hx M.gP
      have hbo' := hx _ _ hneP (Heap.get?_push_of_some _ hbo)
      refine wpAny_bind (wpAny_builtinsFor hg' hbm hne0 hbo' hcls hdict hdata ?_)
      refine wpAny_bind (wpAny_nsGet hg' ?_)
      have cr := codeR_of hrec hT
      have k := tab_miss (tk := tk) M (r.base.mono (k0 _)) (Heap.get?_push_of_some _ hP) hm ht hx cr htb.2
      have hge' : s.heap.objs.size ≤ h'.objs.size := Nat.le_trans (Nat.le_trans (by rw [Heap.size_push]; omega) hge) (Nat.le_of_lt hlt)
      exact wpAny_bind (wpAny_pure (wpAny_newObj_type (h _ c' _ _ (((k0 _).trans k).trans Kp.push) (nn hge') (Heap.get?_push_size _ rfl) (cr.keeps fun b o e => Heap.get?_push_of_some _ e)) (by size_fits)))
  | some cv =>
    obtain ⟨c', rfl, cr⟩ := hh pos cv hm
    cases clos with
    | nil =>
      simp only [List.isEmpty_nil, if_true]
      refine wpAny_bind (wpAny_pure ?_)
      refine wpAny_bind (wpAny_functionCode_hit M.code (CH.code hP ht) hm ?_)
      refine wpAny_bind (wpAny_builtinsFor hg hbm hne0 hbo hcls hdict hdata ?_)
      refine wpAny_bind (wpAny_nsGet hg ?_)
      exact wpAny_bind (wpAny_pure (wpAny_newObj_type (h _ c' .none _ Kp.push (nn (Nat.le_refl _)) (Heap.get?_push_size _ rfl) (cr.keeps fun b o e => Heap.get?_push_of_some _ e)) (by size_fits)))
    | cons q t =>
      simp only [List.isEmpty_cons, Bool.false_eq_true, if_false]
      refine wpAny_bind (wpAny_newTextTuple ?_)
      have k0 : ∀ o, Kp C s { s with heap := s.heap.push o } := fun o => Kp.push
      refine wpAny_bind (wpAny_functionCode_hit M.code ((CH.keeps fun b o e => Heap.get?_push_of_some _ e).code (Heap.get?_push_of_some _ hP) ht) hm ?_)
      refine wpAny_bind (wpAny_builtinsFor (hg.push _) hbm hne0 (Heap.get?_push_of_some _ hbo) hcls hdict hdata ?_)
      refine wpAny_bind (wpAny_nsGet (hg.push _) ?_)
      have hsz : ∀ oT : Obj, s.heap.objs.size ≤ (s.heap.push oT).objs.size := fun oT => by rw [Heap.size_push]; omega
      exact wpAny_bind (wpAny_pure (wpAny_newObj_type (h _ c' _ _ ((k0 _).trans Kp.push) (nn (hsz _)) (Heap.get?_push_size _ rfl) (cr.keeps fun b o e => Heap.get?_push_of_some _ (Heap.get?_push_of_some _ e))) (by size_fits)))
end
end
section -- C14
section
variable {C : Cx} {n : Nat} {A : Around} {s s' s₀ : Shared} {env : Env} {ρ ρ' : Names} {pv pvc : List Addr} {own o1 o2 : Own}
noncomputable def KindOk (fd : FuncData) (L : Addr) (x : Str) : Prop := fd.scope.names.lookup x = some .local ∨ (fd.scope.names.lookup x = some .cell ∧ ((cellsFrom (L + 1) fd.scope.names []).lookup x).isSome = true)
theorem call_start {a : Addr} {fd : FuncData} {body : List Stmt} {args : Args} {binds : List (Str × Value)} {R : Result → Shared → Prop} (D : DefAt C a fd) (hbody : fd.body = .stmts body) (hgen : fd.scope.isGenerator = false) (B : Base C s)
    (Lv : Live C A s) (P : ∀ p ∈ pvc, ∃ o, s.heap.get? p = some o) (ra : Room (n + 1) A) (hbind : BindsTo s fd args binds) (nd : (binds.map (·.1)).Nodup) (hkind : ∀ L, ∀ x ∈ binds.map (·.1), KindOk fd L x)
    (hr : ∀ y d, (y, d) ∈ ρ → ∃ v, (y, v) ∈ binds ∧ RD s.heap pvc v d)
    (h : ∀ L s₁ env, env = callEnvC fd L a → Room n (A.deeper env) → St C (A.deeper env) s pvc env ρ [] s₁ →
      wpAny (model C.prog C.w) (A.deeper env) (execs body env) (fun f s' => R (.ok (.ret (match f with | .ret v => v | _ => .none))) s')
        (fun e s' => wpAny (model C.prog C.w) (A.deeper env) (leaving env e) (fun _ s'' => R (.error e) s'') (fun e' s'' => R (.error e') s'') s') s₁) :
    codeAny (model C.prog C.w) A (.call (.ref a) args) R s := by
  refine call_def D hbody hgen B (by have := ra.depth; omega) hbind (fun x hx => hkind _ _ (List.mem_map.mpr ⟨x, hx, rfl⟩)) fun s₁ env he x => ?_
  refine h _ s₁ env he (ra.deeper env) (St.start (he ▸ envOk_of D) B Lv P x nd (by rw [he]; rfl) fun y d i => ?_)
  obtain ⟨v, h1, h2⟩ := hr y d i
  exact ⟨v, h1, h2, by rw [he]; exact hkind _ _ (List.mem_map.mpr ⟨_, h1, rfl⟩)⟩
theorem call_lam {a : Addr} {fd : FuncData} {body : Expr} {args : Args} {binds : List (Str × Value)} {R : Result → Shared → Prop} (D : DefAt C a fd) (hbody : fd.body = .expr body) (hgen : fd.scope.isGenerator = false) (B : Base C s)
    (Lv : Live C A s) (P : ∀ p ∈ pvc, ∃ o, s.heap.get? p = some o) (ra : Room (n + 1) A) (hbind : BindsTo s fd args binds) (nd : (binds.map (·.1)).Nodup) (hkind : ∀ L, ∀ x ∈ binds.map (·.1), KindOk fd L x)
    (hr : ∀ y d, (y, d) ∈ ρ → ∃ v, (y, v) ∈ binds ∧ RD s.heap pvc v d)
    (h : ∀ L s₁ env, env = callEnvC fd L a → Room n (A.deeper env) → St C (A.deeper env) s pvc env ρ [] s₁ →
      wpAny (model C.prog C.w) (A.deeper env) (eval body env) (fun v s' => R (.ok (.ret v)) s')
        (fun e s' => wpAny (model C.prog C.w) (A.deeper env) (leaving env e) (fun _ s'' => R (.error e) s'') (fun e' s'' => R (.error e') s'') s') s₁) :
    codeAny (model C.prog C.w) A (.call (.ref a) args) R s := by
  obtain ⟨o, ho, hd⟩ := D.at' s B
  refine kla_callFunE (by have := ra.depth; omega) ho hd D.co hgen hbody (D.code s B) ?_
  refine hbind _ _ _ _ ?_
  rw [D.clo]
  refine wpAny_newFunctionEnv_cells D.kind (fun x hx => hkind _ _ (List.mem_map.mpr ⟨x, hx, rfl⟩)) fun env he s' x => ?_
  subst he
  refine ⟨(base_nolimit B C.nolimit).keeps x.toInCall.keep, kla_codeExpr (h _ s' _ rfl (ra.deeper _) (St.start (envOk_of D) B Lv P x nd rfl fun y d i => ?_))⟩
  obtain ⟨v, h1, h2⟩ := hr y d i
  exact ⟨v, h1, h2, hkind _ _ (List.mem_map.mpr ⟨_, h1, rfl⟩)⟩
theorem PFn.of_lam {a : Addr} {fd : FuncData} {body : Expr} {x : Str} {d0 d : PyData} (D : DefAt C a fd) (hbody : fd.body = .expr body) (hgen : fd.scope.isGenerator = false) (hbind : ∀ v : Value, bindArgs fd ⟨[v], []⟩ = pure [(x, v)])
    (hkind : ∀ L, KindOk fd L x) (he : ∀ L, Ev C n (callEnvC fd L a) [(x, d0)] body d) : PFn C (n + 1) (.ref a) [d0] d := fun A ra s pv vs B L P hv Q E hq => by
  obtain ⟨v, rfl, r⟩ := hv.inv1
  refine wpAny_call (call_lam (ρ := [(x, d0)]) D hbody hgen B L P ra (.of_eq (hbind v)) (by simp) (fun L y hy => by simp at hy; subst hy; exact hkind L) (fun y d i => ?_) fun L s₁ env he' ra' st => ?_)
  · simp at i; obtain ⟨rfl, rfl⟩ := i; exact ⟨v, List.mem_cons_self, r⟩
  · subst he'
    refine he L _ ra' s₁ pv (by have := st.rdy; simpa [prv] using this) _ _ fun v s' k r => hq v s' (st.kp.trans k) r
noncomputable def PFnK (C : Cx) (n : Nat) (f : Value) (args : List PyData) (k : Str) (dk : PyData) (d : PyData) : Prop := ∀ A, Room n A → ∀ s pv vs w, Base C s → Live C A s → (∀ p ∈ pv, ∃ o, s.heap.get? p = some o) → RDs s.heap pv vs args → RD s.heap pv w dk →
  ∀ Q E, (∀ v s', Kp C s s' → RD s'.heap pv v d → Q v s') → wpAny (model C.prog C.w) A (call f vs [(k, w)]) Q E s
theorem Ev.callK {x p pos e es ds k ke kp dk d a} (hes : Evs C n env ρ (e :: es) ds) (hke : Ev C n env ρ ke dk) (hf : PFnK C n (.ref a) ds k dk d) (hg : C.mg x = some (.ref a)) (ho : FnAt C a)
    (hk : autoParam (env.kindOf x = some .globalImplicit) syR) (hst : autoParam (starEach (e :: es) env = (false, eval e env) :: starEach es env) syR)
    (hd : autoParam ((x == ("__debug__" : Str)) = false) syD) : Ev C n env ρ (.Call (.Name x p) (e :: es) [⟨some k, ke, kp⟩] pos) d := fun A ra s pv r Q E h => by
  refine wpAny_Call_Name_kw (ev_glob r hk hg ?_ hd)
  obtain ⟨o, fd, ho, hfd⟩ := ho s r.base
  refine callWith_function_kw (o := o) (fd := fd) (evalArgs_kw2 (by rfl) ?_ hst)
  refine hes A ra s pv pos r _ _ fun vs s1 k1 h1 => ?_
  refine kwAll_cons (hke A ra s1 pv (r.kp k1) _ _ fun w s2 k2 h2 => kwAll_nil ⟨⟨(k1.trans k2).sub _ _ ho (nt_func hfd), hfd⟩, ?_⟩)
  have k12 := k1.trans k2
  exact hf A ra s2 pv vs w (r.base.mono k12) (r.live.mono k12) (r.kp k12).priv (h1.kp k2) h2 _ _ fun v s' k3 h3 => h v s' (k12.trans k3) h3
theorem Ev.callN {x p pos e es ds d} {f : Addr} (m : (x, .dict [(.int f, .none)]) ∈ ρ) (hes : Evs C n env ρ (e :: es) ds) (hf : PFn C n (.ref f) ds d) (ho : FnAt C f) (hst : autoParam (starEach (e :: es) env = (false, eval e env) :: starEach es env) syR)
    (hd : autoParam ((x == ("__debug__" : Str)) = false) syD) (hx : autoParam ((x == ("__classdict__" : Str)) = false) syD) : Ev C n env ρ (.Call (.Name x p) (e :: es) [] pos) d := fun A ra s pv r Q E h => by
  refine wpAny_Call_NameR (Ev.nam m hd hx A ra s pv r _ _ fun v s0 k0 h0 => ?_)
  have := h0.opq_inv
  subst this
  have r := r.kp k0
  obtain ⟨o, fd, ho, hfd⟩ := ho s0 r.base
  refine callWith_function (o := o) (fd := fd) (evalArgs_ev ra r hes hst fun vs s1 k1 h1 => ⟨⟨k1.sub _ _ ho (nt_func hfd), hfd⟩, ?_⟩)
  exact hf A ra s1 pv vs (r.base.mono k1) (r.live.mono k1) (r.kp k1).priv h1 _ _ fun v s' k2 h2 => h v s' ((k0.trans k1).trans k2) h2
-- a list is given away and comes back changed
noncomputable def _root_.PySem.Shared.sans (s : Shared) (a : Addr) : Shared := { s with heap := hideAll s.heap [a] }
theorem sans_get {a b : Addr} {o : Obj} (e : s.heap.get? b = some o) (h : b ≠ a) : (s.sans a).heap.get? b = some o := hideAll_get _ e (by simpa using h)
theorem sans_none {a : Addr} : (s.sans a).heap.get? a = none := hideAll_none _ List.mem_cons_self
theorem of_sans {a b : Addr} {o : Obj} (e : (s.sans a).heap.get? b = some o) : s.heap.get? b = some o := of_hideAll _ e
structure Mut (C : Cx) (s : Shared) (pv : List Addr) (a : Addr) (ds : List PyData) (s' : Shared) : Prop where
  kp : Kp C (s.sans a) s'
  ls : ∃ vs, LsAt s'.heap a vs ∧ RDs s'.heap (a :: pv) vs.toList ds
theorem LsAt.nf {h : Heap} {a vs} (x : LsAt h a vs) : ∀ o, h.get? a = some o → ∀ vs, o.data ≠ .fields vs := fun o e us q => by
  obtain ⟨n, e'⟩ := x; have e2 := e.symm.trans e'; cases e2; cases q
theorem kp_sans {a : Addr} (h0 : s.heap.get? a = none) (k : Kp C s s') (hL : ∀ o, s'.heap.get? a = some o → ∀ vs, o.data ≠ .fields vs) : Kp C s (s'.sans a) := by
  have ne : ∀ {b o}, s.heap.get? b = some o → b ≠ a := fun e q => by rw [q, h0] at e; cases e
  have nf : ∀ {b o vs}, s'.heap.get? b = some o → o.data = .fields vs → b ≠ a := fun e d q => hL _ (q ▸ e) _ d
  refine ⟨fun b o e n => let ⟨sl, e1, q⟩ := k.sub' b o e n; ⟨sl, sans_get e1 (ne e), q⟩, fun b ps e t => ?_, fun T y hy => ?_, k.os, k.gens⟩
  · rcases k.tab b ps e t with q | ⟨hm, more, q, t'⟩
    · exact .inl (sans_get q (ne e))
    · exact .inr ⟨hm, more, sans_get q (ne e), t'⟩
  · obtain ⟨ps, h1, h2, h3⟩ := k.tabs T y hy
    refine ⟨ps, sans_get h1 (nf h1 rfl), h2, fun pos v e => ?_⟩
    obtain ⟨c', rfl, o, vs, tk, e2, e3, e4, e5⟩ := h3 pos v e
    exact ⟨c', rfl, o, vs, tk, sans_get e2 (nf e2 e4), e3, e4, e5⟩
theorem of_kp_sans {a : Addr} {o : Obj} (h0 : s.heap.get? a = some o) : Kp C (s.sans a) s := 
  ⟨fun b o e _ => kx (of_sans e), fun b ps e _ => .inl (of_sans e), fun t => t.keep fun b o e => of_sans e, rfl, .refl _⟩
theorem St.adopt {x : Str} {a : Addr} {ds} {vs : Array Value} (h : St C A s₀ (a :: pvc) env ((x, .dict [(.int a, .none)]) :: ρ) [] s) (hB : Base C (s₀.sans a)) (hl : LsAt s.heap a vs) (hr : RDs s.heap (a :: pvc) vs.toList ds) (ha : ∃ o, s₀.heap.get? a = some o)
    (hp : a ∉ pvc) : St C A (s₀.sans a) pvc env ρ [(x, a, ds)] s := by
  obtain ⟨m, cm, F, H, O⟩ := h.fr
  obtain ⟨o, ho⟩ := ha
  have nn : ∀ {b}, s₀.heap.get? b = none → (s₀.sans a).heap.get? b = none := fun {b} e => by
    cases q : (s₀.sans a).heap.get? b with
    | none => rfl
    | some o => rw [of_sans q] at e; cases e
  refine ⟨h.ok, hB, h.live, (of_kp_sans ho).trans h.kp, fun p hp' => ?_, ⟨m, cm, ⟨F.ns, nn F.new, F.same, fun y c hy => ⟨(F.cell y c hy).1, nn (F.cell y c hy).2⟩, F.apart⟩, fun y d i => H y d (List.mem_cons_of_mem _ i), fun y b es i => ?_⟩, by simp⟩
  · obtain ⟨o', e⟩ := h.priv p (List.mem_cons_of_mem _ hp')
    exact ⟨o', sans_get e fun q => hp (q ▸ hp')⟩
  · simp at i
    obtain ⟨rfl, rfl, rfl⟩ := i
    obtain ⟨v, e1, e2⟩ := H _ _ List.mem_cons_self
    rw [e2.opq_inv] at e1
    exact ⟨e1, sans_none, vs, hl, hr⟩
theorem St.mutd {x a ds ds' s1} (h : St C A s₀ pvc env ρ (o1 ++ (x, a, ds) :: o2) s) (hm : Mut C s (prv (o1 ++ o2) pvc) a ds' s1) : St C A s₀ pvc env ρ (o1 ++ (x, a, ds') :: o2) s1 := by
  obtain ⟨m, cm, F, H, O⟩ := h.fr
  obtain ⟨k, vs', l', r'⟩ := hm
  have hx : (x, a, ds) ∈ o1 ++ (x, a, ds) :: o2 := List.mem_append_right _ List.mem_cons_self
  obtain ⟨e1, e2, vs, l, r⟩ := O x a ds hx
  have ne : ∀ {b o}, s₀.heap.get? b = some o → b ≠ a := fun e q => by rw [q, e2] at e; cases e
  have k0 : Kp C s₀ s1 := (kp_sans e2 h.kp l.nf).trans k
  have hpv : prv (o1 ++ (x, a, ds') :: o2) pvc = prv (o1 ++ (x, a, ds) :: o2) pvc := by simp [prv]
  have ain : a ∈ prv (o1 ++ (x, a, ds) :: o2) pvc := List.mem_append_left _ (List.mem_map.mpr ⟨_, hx, rfl⟩)
  have sq : SqK (prv (o1 ++ (x, a, ds) :: o2) pvc) s.heap s1.heap := fun b o us q hb e d => k.sub b o (sans_get e fun q' => hb (q' ▸ ain)) (nt_seq d)
  have cellne : ∀ {c v}, s.heap.IsCell c v → c ≠ a := fun ⟨o, e, d⟩ q => by obtain ⟨n, e'⟩ := l; rw [q, e'] at e; cases e; cases d
  have iscell : ∀ {c v}, s.heap.IsCell c v → s1.heap.IsCell c v := fun x => let ⟨o, e, d⟩ := x; ⟨o, k.sub _ _ (sans_get e (cellne x)) (nt_cell d), d⟩
  have nsne : ∀ {c v}, s.heap.Ns c v → s1.heap.Ns c v := fun ⟨o, es, ep, e, d, r⟩ => let ⟨sl, e1, _⟩ := k.sub' _ _ (sans_get e fun q => by obtain ⟨n, e'⟩ := l; rw [q, e'] at e; cases e; cases d) (nt_dict d); ⟨{ o with slots := sl }, es, ep, e1, d, r⟩
  have hsub : ∀ b o, b ∈ prv (o1 ++ (x, a, ds) :: o2) pvc → s1.heap.get? b = some o → b ∈ a :: prv (o1 ++ o2) pvc := fun b o hb _ => by
    simp only [prv, List.map_append, List.map_cons, List.mem_append, List.mem_cons] at hb ⊢
    rcases hb with (hb | hb | hb) | hb <;> simp [hb]
  refine ⟨h.ok, h.base, ?_, k0, h.priv, ⟨m, cm, ⟨nsne F.ns, F.new, F.same, fun y c hy => ⟨iscell (F.cell y c hy).1, (F.cell y c hy).2⟩, F.apart⟩, fun y d i => ?_, fun y b es i => ?_⟩, by have := h.nd; simpa using this⟩
  · obtain ⟨fl, f1, f2⟩ := h.live
    obtain ⟨nl, el⟩ := l
    exact ⟨fl, f1, f2.mono fun L _ d => let ⟨o, es, n, e, dd⟩ := d; let ⟨sl, e1, _⟩ := k.sub' _ _ (sans_get e (d.ne el fun _ _ q => nomatch q)) (nt_dict dd); ⟨{ o with slots := sl }, es, n, e1, dd⟩⟩
  · obtain ⟨v, v1, v2⟩ := H y d i
    exact ⟨v, v1, by rw [hpv]; exact v2.mono sq⟩
  · rw [hpv]
    have hmem : (y, b, es) = (x, a, ds') ∨ (y, b, es) ∈ o1 ++ o2 := by
      simp only [List.mem_append, List.mem_cons] at i ⊢
      rcases i with i | i | i <;> simp [i]
    rcases hmem with q | q
    · cases q
      exact ⟨e1, e2, vs', l', r'.sub hsub⟩
    · have hin : (y, b, es) ∈ o1 ++ (x, a, ds) :: o2 := by
        simp only [List.mem_append, List.mem_cons] at q ⊢
        rcases q with q | q <;> simp [q]
      obtain ⟨f1, f2, us, l3, r3⟩ := O y b es hin
      have nba : b ≠ a := fun q' => by
        subst q'
        have nd := h.nd
        simp only [List.map_append, List.map_cons] at nd
        have := List.perm_middle.nodup_iff.mp nd
        have := (List.nodup_cons.mp this).1
        exact this (by rw [← List.map_append]; exact List.mem_map.mpr ⟨_, q, rfl⟩)
      obtain ⟨n', en⟩ := l3
      exact ⟨f1, f2, us, ⟨n', k.sub _ _ (sans_get en nba) (nt_seq rfl)⟩, r3.mono sq⟩
end
end
section -- C15
section
variable {C : Cx} {n : Nat} {A : Around} {s s' s₀ : Shared} {env : Env} {ρ ρ' : Names} {pv pvc : List Addr} {own o1 o2 : Own}
-- expressions that give a fresh list
noncomputable def EvF (C : Cx) (n : Nat) (env : Env) (ρ : Names) (e : Expr) (ds : List PyData) : Prop := ∀ A, Room n A → ∀ s pv, Rdy C A env ρ pv s → ∀ (Q : Value → Shared → Prop) E,
  (∀ a s' vs, Kp C s s' → s.heap.get? a = none → LsAt s'.heap a vs → RDs s'.heap (a :: pv) vs.toList ds → Q (.ref a) s') → wpAny (model C.prog C.w) A (eval e env) Q E s
theorem EvF.lst {es ds pos} (he : Evs C n env ρ es ds) (hsz : autoParam (ds.length ≤ sizeLine) syD) : EvF C n env ρ (.List es pos) ds := fun A ra s pv r Q E h => by
  refine wpAny_List (he A ra s pv pos r _ _ fun vs s1 k1 h1 => ⟨by rw [h1.length]; exact hsz, ?_⟩)
  have nn : s.heap.get? s1.heap.objs.size = none := by
    cases q : s.heap.get? s1.heap.objs.size with
    | none => rfl
    | some o => obtain ⟨_, e⟩ := k1.there q; rw [noObj] at e; cases e
  exact h _ _ _ (k1.trans Kp.push) nn ⟨0, IsL.new _ _⟩ ((h1.more noObj).kp (Kp.push (C := C)))
theorem EvF.cat {l r pos x y} (hl : Ev C n env ρ l (.list x)) (hr : Ev C n env ρ r (.list y)) (hsz : x.length + y.length ≤ sizeLine) : EvF C n env ρ (.BinOp l .Add r pos) (x ++ y) := fun A ra s pv rd Q E h => by
  refine wpAny_BinOp (hl A ra s pv rd _ _ fun a s1 k1 h1 => hr A ra s1 pv (rd.kp k1) _ _ fun b s2 k2 h2 => ?_)
  have h1 := h1.kp k2
  have k12 := k1.trans k2
  obtain ⟨a, vs, rfl, ha1, ⟨n1, ha2⟩, ha3⟩ := h1.list_inv
  obtain ⟨b, ws, rfl, hb1, ⟨n2, hb2⟩, hb3⟩ := h2.list_inv
  have l1 := ha3.length
  have l2 := hb3.length
  simp only [Array.length_toList] at l1 l2
  have nn : s.heap.get? s2.heap.objs.size = none := by
    cases q : s.heap.get? s2.heap.objs.size with
    | none => rfl
    | some o => obtain ⟨_, e⟩ := k12.there q; rw [noObj] at e; cases e
  refine PySem.P.add_list ha2 hb2 (h _ _ _ (k12.trans Kp.push) nn ⟨0, IsL.new _ _⟩ ?_) (by omega)
  rw [Array.toList_append]
  exact ((ha3.append hb3).more noObj).kp (Kp.push (C := C))
theorem EvF.copy {p e pos ds} (he : Ev C n env ρ e (.list ds)) (hsz : ds.length ≤ sizeLine) (hm : C.mg "list" = none) (hv : C.mb "list" = some (.type "list")) (hk : autoParam (env.kindOf "list" = some .globalImplicit) syR)
    (hst : autoParam (starEach [e] env = (false, eval e env) :: starEach [] env) syR) (hpl : autoParam ((starEach [e] env).all (fun x => !x.1) = true) syR) : EvF C n env ρ (.Call (.Name "list" p) [e] [] pos) ds := fun A ra s pv r Q E h => by
  refine wpAny_Call_NameR (ev_built r hk hm hv ?_)
  refine PySem.callWith_type (star_plain hpl pos) (evalArgs_ev ra r (.cons he .nil hst) hst fun vs s1 k1 h1 => ?_)
  obtain ⟨v, rfl, h1'⟩ := h1.inv1
  obtain ⟨a, ws, rfl, ha1, ⟨n1, ha2⟩, ha3⟩ := h1'.list_inv
  have l1 := ha3.length
  simp only [Array.length_toList] at l1
  have nn : s.heap.get? s1.heap.objs.size = none := by
    cases q : s.heap.get? s1.heap.objs.size with
    | none => rfl
    | some o => obtain ⟨_, e⟩ := k1.there q; rw [noObj] at e; cases e
  refine call_list_seq a (.inl rfl) ha2 rfl rfl (fun h' c' hk he => h _ _ ws (k1.trans (Kp.keepH hk)) nn ⟨c', he⟩ ?_) (by omega)
  exact (ha3.more noObj).kp (Kp.keepH (C := C) hk)
theorem RDs.more2 {vs ds} : ∀ {as : List Addr}, RDs s.heap pv vs ds → (∀ a ∈ as, s.heap.get? a = none) → RDs s.heap (as ++ pv) vs ds
  | [], x, _ => x
  | a :: as, x, h => (x.more2 fun b hb => h b (List.mem_cons_of_mem _ hb)).more (h a List.mem_cons_self)
theorem RD.more2 {v d} : ∀ {as : List Addr}, RD s.heap pv v d → (∀ a ∈ as, s.heap.get? a = Option.none) → RD s.heap (as ++ pv) v d
  | [], x, _ => x
  | a :: as, x, h => (x.more2 fun b hb => h b (List.mem_cons_of_mem _ hb)).more (h a List.mem_cons_self)
theorem new_of_kp {a : Addr} (k : Kp C s s') (hn : s'.heap.get? a = none) : s.heap.get? a = none := by
  cases q : s.heap.get? a with
  | none => rfl
  | some o => obtain ⟨_, e⟩ := k.there q; rw [hn] at e; cases e
theorem St.owned {s1 : Shared} {m cm m' cm' : Str → Option Value} (h : St C A s₀ pvc env ρ own s) (H : Holds env env.cells m cm s (prv own pvc) ρ) (O : Owns s₀ env m cm s (prv own pvc) own) (k1 : Kp C s s1) (news : Own)
    (hn : ∀ y ∈ news, s.heap.get? y.2.1 = none) (hl : ∀ y ∈ news, ∃ vs, LsAt s1.heap y.2.1 vs ∧ RDs s1.heap (prv (news ++ own) pvc) vs.toList y.2.2) (hnd : (news.map (·.2.1)).Nodup)
    (z : Fz C s₀ s1 s') (F' : Fr2 s₀ env env.cells m' cm' s') (hv : ∀ y ∈ news, nv env env.cells m' cm' y.1 = some (.ref y.2.1))
    (hρ : ∀ y d, (y, d) ∈ ρ' → (∃ v, nv env env.cells m' cm' y = some v ∧ RD s1.heap (prv (news ++ own) pvc) v d) ∨ ((y, d) ∈ ρ ∧ nv env env.cells m' cm' y = nv env env.cells m cm y))
    (hoo : ∀ y ∈ own, nv env env.cells m' cm' y.1 = nv env env.cells m cm y.1) : St C A s₀ pvc env ρ' (news ++ own) s' := by
  have e : prv (news ++ own) pvc = news.map (·.2.1) ++ prv own pvc := by simp [prv]
  have hn' : ∀ a ∈ news.map (·.2.1), s.heap.get? a = none := fun a ha => by
    obtain ⟨y, hy, rfl⟩ := List.mem_map.mp ha
    exact hn y hy
  have h1 := h.kps k1
  refine ⟨h.ok, h.base, z.live _ h1.live, z.kp h1.kp, h.priv, ⟨m', cm', F', fun y d i => ?_, fun y b es i => ?_⟩, ?_⟩
  · rcases hρ y d i with ⟨v, e1, e2⟩ | ⟨e1, e2⟩
    · exact ⟨v, e1, e2.mono (z.sq _)⟩
    · obtain ⟨v, f1, f2⟩ := H y d e1
      refine ⟨v, by rw [e2]; exact f1, ?_⟩
      rw [e]
      exact ((f2.more2 hn').kp k1).mono (z.sq _)
  · rcases List.mem_append.mp i with i | i
    · obtain ⟨vs, l, r⟩ := hl _ i
      exact ⟨hv _ i, new_of_kp h.kp (hn _ i), vs, z.ls l, r.mono (z.sq _)⟩
    · obtain ⟨f1, f2, vs, l, r⟩ := O y b es i
      refine ⟨by rw [hoo _ i]; exact f1, f2, vs, z.ls (kp_ls k1 l), ?_⟩
      rw [e]
      exact ((r.more2 hn').kp k1).mono (z.sq _)
  · rw [List.map_append]
    refine List.nodup_append.mpr ⟨hnd, h.nd, fun a ha b hb q => ?_⟩
    subst q
    obtain ⟨y, hy, e1⟩ := List.mem_map.mp hb
    obtain ⟨_, _, us, ⟨n0, e0⟩, _⟩ := O y.1 y.2.1 y.2.2 hy
    have e2 := hn' a ha
    have e3 : s.heap.get? y.2.1 = some _ := e0
    rw [e1, e2] at e3; cases e3
theorem St.assignOwn {x p e q rest ds} {Q : Flow → Shared → Prop} {E : Value → Shared → Prop} (h : St C A s₀ pvc env ρ own s) (ra : Room n A) (he : EvF C n env ρ e ds) (hsub : ∀ y ∈ ρ', y ∈ ρ) (hno : ∀ d, (x, d) ∉ ρ') (ho : ∀ y ∈ own, y.1 ≠ x)
    (k : ∀ a s', St C A s₀ pvc env ρ' ((x, a, ds) :: own) s' → wpAny (model C.prog C.w) A (execs rest env) Q E s')
    (hx : OwnN env env.cells x) (hsw : autoParam (swapsWith e (some (.Name x p)) q.line env = pure false) syU) :
    wpAny (model C.prog C.w) A (execs (.Assign [.Name x p] e q :: rest) env) Q E s := by
  refine wpAny_execs_cons (wpAny_Assign_Name (he A ra s _ h.rdy _ _ fun a s1 vs k1 hn hl hr => ?_) hsw)
  obtain ⟨m, cm, F, H, O⟩ := h.fr
  refine fz_store h.ok (F.kp k1) hx fun s' m' cm' F' z hnv => k a _ ?_
  refine h.owned H O k1 [(x, a, ds)] (fun y hy => ?_) (fun y hy => ?_) (by simp) z F' (fun y hy => ?_) (fun y d i => .inr ⟨hsub _ i, ?_⟩) fun y hy => ?_
  · simp at hy; subst hy; exact hn
  · simp at hy; subst hy; exact ⟨vs, hl, hr⟩
  · simp at hy; subst hy; rw [hnv]; simp
  · rw [hnv, if_neg (fun (q : _ = x) => hno d (q ▸ i))]
  · rw [hnv, if_neg (ho y hy)]
theorem St.ownName {x a ds p} {Q : Value → Shared → Prop} {E : Value → Shared → Prop} (h : St C A s₀ pvc env ρ own s) (m : (x, a, ds) ∈ own) (k : Q (.ref a) s) (hd : autoParam ((x == ("__debug__" : Str)) = false) syD) (hx : autoParam ((x == ("__classdict__" : Str)) = false) syD) :
    wpAny (model C.prog C.w) A (eval (.Name x p) env) Q E s := by
  obtain ⟨m', cm, F, H, O⟩ := h.fr
  obtain ⟨e1, e2, _⟩ := O x a ds m
  exact wpAny_Name (ev_loadName h.ok (nameAt_of F e1) hx k) hd
noncomputable def EvO (C : Cx) (n : Nat) (env : Env) (ρ : Names) (own : Own) (e : Expr) (d : PyData) : Prop := Ev C n env ρ e d ∨ (flat d = true ∧ Ev C n env (ρ ++ seen own) e d)
theorem St.evo {e d} {Q : Value → Shared → Prop} {E : Value → Shared → Prop} (h : St C A s₀ pvc env ρ own s) (ra : Room n A) (he : EvO C n env ρ own e d) (k : ∀ v s', Kp C s s' → St C A s₀ pvc env ρ own s' → RD s'.heap (prv own pvc) v d → Q v s') :
    wpAny (model C.prog C.w) A (eval e env) Q E s := by
  rcases he with he | ⟨hf, he⟩
  · exact he A ra s _ h.rdy _ _ fun v s1 k1 hv => k v s1 k1 (h.kps k1) hv
  · exact he A ra s _ h.rdyF _ _ fun v s1 k1 hv => k v s1 k1 (h.kps k1) (hv.flat hf _ _)
theorem St.skip {e q rest d} {Q : Flow → Shared → Prop} {E : Value → Shared → Prop} (h : St C A s₀ pvc env ρ own s) (ra : Room n A) (he : Ev C n env (ρ ++ seen own) e d)
    (k : ∀ s', St C A s₀ pvc env ρ own s' → wpAny (model C.prog C.w) A (execs rest env) Q E s')
    (hi : autoParam (interactive env = false) syR) (hsw : autoParam (swapsWith e none q.line env = pure false) syU) : wpAny (model C.prog C.w) A (execs (.Expr e q :: rest) env) Q E s :=
  wpAny_execs_cons (wpAny_Expr_any (he A ra s _ h.rdyF _ _ fun v s1 k1 _ => k s1 (h.kps k1)) hi hsw)
end
end
section -- C16
section
variable {C : Cx} {n : Nat} {A : Around} {s s' s₀ : Shared} {env : Env} {ρ ρ' : Names} {pv pvc : List Addr} {own o1 o2 : Own}
theorem RDs.set {h pv} {d : PyData} {v : Value} : ∀ {vs ds} (i : Nat), RDs h pv vs ds → RD h pv v d → RDs h pv (vs.set i v) (ds.set i d)
  | _, _, _, .nil, _ => .nil
  | _, _, 0, .cons _ r, y => .cons y r
  | _, _, i + 1, .cons x r, y => .cons x (r.set i y)
theorem RDs.erase {h pv} : ∀ {vs ds} (i : Nat), RDs h pv vs ds → RDs h pv (vs.eraseIdx i) (ds.eraseIdx i)
  | _, _, _, .nil => .nil
  | _, _, 0, .cons _ r => r
  | _, _, i + 1, .cons x r => .cons x (r.erase i)
inductive OwnT (s : Shared) (pv : List Addr) (a : Addr) (ds : List PyData) : Prop
  | mk (vs : Array Value) (m : _) (l : IsL s.heap a vs m) (r : RDs s.heap pv vs.toList ds) (e : vs.size = ds.length)
theorem St.ownAt {x a ds} (h : St C A s₀ pvc env ρ (o1 ++ (x, a, ds) :: o2) s) : OwnT s (prv (o1 ++ (x, a, ds) :: o2) pvc) a ds := by
  obtain ⟨m', cm, F, H, O⟩ := h.fr
  obtain ⟨e1, e2, vs, ⟨m, l⟩, r⟩ := O x a ds (List.mem_append_right _ List.mem_cons_self)
  exact ⟨vs, m, l, r, by rw [← r.length]; simp⟩
theorem St.append {x a ds e apos pos p q rest d} {Q : Flow → Shared → Prop} {E : Value → Shared → Prop} (h : St C A s₀ pvc env ρ (o1 ++ (x, a, ds) :: o2) s) (ra : Room n A) (he : EvO C n env ρ (o1 ++ (x, a, ds) :: o2) e d) (hsz : ds.length ≤ sizeLine)
    (k : ∀ s', St C A s₀ pvc env ρ (o1 ++ (x, a, ds ++ [d]) :: o2) s' → wpAny (model C.prog C.w) A (execs rest env) Q E s')
    (hbase : autoParam (attributeBase (.Name x p) "append" env (eval (.Name x p) env) = eval (.Name x p) env) syU)
    (hfew : autoParam (((backTo pos (starEach [e] env)).all (fun x => !x.1) && (backToKw pos (keywordEach [] env)).all (fun x => x.1.isSome) && decide ([e].length + ([] : List Keyword).length + (if ([] : List Keyword).isEmpty then 0 else 1) < 30)) = true) syR)
    (hline : autoParam ((apos.endLine == pos.line) = true) syR)
    (hst : autoParam (starEach [e] env = (false, eval e env) :: starEach [] env) syR)
    (hd : autoParam ((x == ("__debug__" : Str)) = false) syD) (hx : autoParam ((x == ("__classdict__" : Str)) = false) syD)
    (hi : autoParam (interactive env = false) syR) (hsw : autoParam (swapsWith (.Call (.Attribute (.Name x p) "append" apos) [e] [] pos) none q.line env = pure false) syU) :
    wpAny (model C.prog C.w) A (execs (.Expr (.Call (.Attribute (.Name x p) "append" apos) [e] [] pos) q :: rest) env) Q E s := by
  have hmem : (x, a, ds) ∈ o1 ++ (x, a, ds) :: o2 := List.mem_append_right _ List.mem_cons_self
  obtain ⟨vs, m, l, r, hl⟩ := h.ownAt
  refine wpAny_execs_cons (wpAny_Expr_any (wpAny_Call_method hbase hfew hline PySem.F.plainAttrs_list PySem.F.slot_list_append PySem.F.type_list_append (h.ownName hmem ⟨⟨_, l, rfl⟩, fun b e => by cases e; exact ⟨_, l, rfl⟩, ?_⟩ hd hx)) hi hsw)
  refine callWith_method1 ?_ hst
  refine wpAny_items_cons (h.evo ra he fun v s1 k1 h1 hv => wpAny_items_nil ?_) hst
  obtain ⟨vs1, m1, l1, r1, hl1⟩ := h1.ownAt
  refine append_keep ⟨m1, l1⟩ (by omega) fun h' hl' hs => ?_
  refine k _ (h1.upd (tk := s1.toks) hs hl' ?_)
  rw [Array.toList_push]
  exact r1.append (.one hv)
noncomputable def insD {α : Type} (ds : List α) (k : Nat) (d : α) : List α := ds.take k ++ d :: ds.drop k
theorem fits_index {i : Int} (h0 : 0 ≤ i) (h1 : i < 2 ^ 62) : Builtin.List.listFitsIndex i = true := by
  unfold Builtin.List.listFitsIndex
  simp
  omega
theorem insert_keep {a : Addr} {vs : Array Value} {m : Nat} {i : Nat} {u : Tok} {y : Value} {Q : Value → Shared → Prop} {E : Value → Shared → Prop} (l : IsL s.heap a vs m) (hi : i ≤ vs.size) (hsz : vs.size ≤ sizeLine)
    (hQ : ∀ h' vs', LsAt h' a vs' → vs'.toList = insD vs.toList i y → Heap.SameBut a s.heap h' → Q .none { s with heap := h' }) : wpAny (model C.prog C.w) A (call (.builtin "list.insert") [.ref a, .int i u, y]) Q E s := by
  have hss : sizeLine = 16777216 := rfl
  have hf : Builtin.List.listFitsIndex (i : Int) = true := fits_index (by omega) (by omega)
  obtain ⟨x, hx⟩ : ∃ x : Int, x = (i : Int) := ⟨_, rfl⟩
  rw [← hx] at hf ⊢
  have hf' : ¬(!Builtin.List.listFitsIndex x) = true := by rw [hf]; decide
  have g := PySem.AutoSeq1.list_insert_list_int_val_1 a vs m x u y hf' hsz
  refine call_meets PySem.F.slot_list_insert ⟨_, l, rfl⟩ PySem.F.entry_list_insert (PySem.F.args_list_insert_3 _ _ _) g ⟨l, ?_⟩
  refine hQ _ _ ⟨_, l.update _⟩ ?_ (Heap.SameBut.update ..)
  have h1 : ¬ (x < 0) := by omega
  have h2 : min x.toNat vs.size = i := by omega
  simp only [h1, if_false, h2]
  simp [insD]
  rw [List.take_of_length_le (by simp)]
theorem St.insert {x a ds e1 e2 apos pos p q rest d} {i : Nat} {Q : Flow → Shared → Prop} {E : Value → Shared → Prop} (h : St C A s₀ pvc env ρ (o1 ++ (x, a, ds) :: o2) s) (ra : Room n A) (he1 : EvO C n env ρ (o1 ++ (x, a, ds) :: o2) e1 (.int i)) (he : EvO C n env ρ (o1 ++ (x, a, ds) :: o2) e2 d) (hi' : i ≤ ds.length)
    (hsz : ds.length ≤ sizeLine)
    (k : ∀ s', St C A s₀ pvc env ρ (o1 ++ (x, a, insD ds i d) :: o2) s' → wpAny (model C.prog C.w) A (execs rest env) Q E s')
    (hbase : autoParam (attributeBase (.Name x p) "insert" env (eval (.Name x p) env) = eval (.Name x p) env) syU)
    (hfew : autoParam (((backTo pos (starEach [e1, e2] env)).all (fun x => !x.1) && (backToKw pos (keywordEach [] env)).all (fun x => x.1.isSome) && decide ([e1, e2].length + ([] : List Keyword).length + (if ([] : List Keyword).isEmpty then 0 else 1) < 30)) = true) syR)
    (hline : autoParam ((apos.endLine == pos.line) = true) syR)
    (hst : autoParam (starEach [e1, e2] env = (false, eval e1 env) :: starEach [e2] env) syR) (hst2 : autoParam (starEach [e2] env = (false, eval e2 env) :: starEach [] env) syR)
    (hpl : autoParam ((backTo pos (starEach [e2] env)).any (·.1) = false) syR)
    (hd : autoParam ((x == ("__debug__" : Str)) = false) syD) (hx : autoParam ((x == ("__classdict__" : Str)) = false) syD)
    (hi : autoParam (interactive env = false) syR) (hsw : autoParam (swapsWith (.Call (.Attribute (.Name x p) "insert" apos) [e1, e2] [] pos) none q.line env = pure false) syU) :
    wpAny (model C.prog C.w) A (execs (.Expr (.Call (.Attribute (.Name x p) "insert" apos) [e1, e2] [] pos) q :: rest) env) Q E s := by
  have hmem : (x, a, ds) ∈ o1 ++ (x, a, ds) :: o2 := List.mem_append_right _ List.mem_cons_self
  obtain ⟨vs, m, l, r, hl⟩ := h.ownAt
  refine wpAny_execs_cons (wpAny_Expr_any (wpAny_Call_method hbase hfew hline PySem.F.plainAttrs_list PySem.F.slot_list_insert PySem.F.type_list_insert (h.ownName hmem ⟨⟨_, l, rfl⟩, fun b e => by cases e; exact ⟨_, l, rfl⟩, ?_⟩ hd hx)) hi hsw)
  refine callWith_method1 ?_ hst hpl
  refine wpAny_items_cons (h.evo ra he1 fun v s1 k1 h1 hv => wpAny_items_cons (h1.evo ra he fun w s2 k2 h2 hw => wpAny_items_nil ?_) hst2) hst
  obtain ⟨t, rfl⟩ := hv.int_inv
  obtain ⟨vs1, m1, l1, r1, hl1⟩ := h2.ownAt
  refine insert_keep l1 (by omega) (by omega) fun h' vs' hl' hvs' hs => ?_
  refine k _ (h2.upd (tk := s2.toks) hs hl' ?_)
  rw [hvs']
  exact (r1.take i).append (.cons hw (r1.drop i))
theorem St.popAt {x a ds e apos pos p q rest d y py} {i : Nat} {Q : Flow → Shared → Prop} {E : Value → Shared → Prop} (h : St C A s₀ pvc env ρ (o1 ++ (x, a, ds) :: o2) s) (ra : Room n A) (he : EvO C n env ρ (o1 ++ (x, a, ds) :: o2) e (.int i)) (hd' : ds[i]? = some d) (hf : flat d = true) (hsz : ds.length ≤ sizeLine)
    (hu : Upd y d ρ ρ') (ho : ∀ z ∈ o1 ++ (x, a, ds.eraseIdx i) :: o2, z.1 ≠ y)
    (k : ∀ s', St C A s₀ pvc env ρ' (o1 ++ (x, a, ds.eraseIdx i) :: o2) s' → wpAny (model C.prog C.w) A (execs rest env) Q E s') (hy : OwnN env env.cells y)
    (hbase : autoParam (attributeBase (.Name x p) "pop" env (eval (.Name x p) env) = eval (.Name x p) env) syU)
    (hfew : autoParam (((backTo pos (starEach [e] env)).all (fun x => !x.1) && (backToKw pos (keywordEach [] env)).all (fun x => x.1.isSome) && decide ([e].length + ([] : List Keyword).length + (if ([] : List Keyword).isEmpty then 0 else 1) < 30)) = true) syR)
    (hline : autoParam ((apos.endLine == pos.line) = true) syR)
    (hst : autoParam (backTo pos (starEach [e] env) = [(false, eval e env)]) syR)
    (hd : autoParam ((x == ("__debug__" : Str)) = false) syD) (hx : autoParam ((x == ("__classdict__" : Str)) = false) syD)
    (hsw : autoParam (swapsWith (.Call (.Attribute (.Name x p) "pop" apos) [e] [] pos) (some (.Name y py)) q.line env = pure false) syU) :
    wpAny (model C.prog C.w) A (execs (.Assign [.Name y py] (.Call (.Attribute (.Name x p) "pop" apos) [e] [] pos) q :: rest) env) Q E s := by
  have hmem : (x, a, ds) ∈ o1 ++ (x, a, ds) :: o2 := List.mem_append_right _ List.mem_cons_self
  have hss : sizeLine = 16777216 := rfl
  obtain ⟨vs, m, l, r, hl⟩ := h.ownAt
  refine wpAny_execs_cons (wpAny_Assign_Name (wpAny_Call_method hbase hfew hline PySem.F.plainAttrs_list PySem.F.slot_list_pop PySem.F.type_list_pop (h.ownName hmem ⟨⟨_, l, rfl⟩, fun b e => by cases e; exact ⟨_, l, rfl⟩, ?_⟩ hd hx)) hsw)
  rw [hst]
  refine PySem.P.pop_at_list (h.evo ra he fun v s1 k1 h1 hv => ?_)
  obtain ⟨t, rfl⟩ := hv.int_inv
  obtain ⟨vs1, m1, l1, r1, hl1⟩ := h1.ownAt
  obtain ⟨w, w1, w2⟩ := r1.get hd'
  have hil : i < ds.length := (List.getElem?_eq_some_iff.mp hd').1
  refine ⟨vs1, m1, i, t, i, w, by omega, rfl, l1, fits_index (by omega) (by omega), ?_, by simpa using w1, ?_⟩
  · have := seqIndex_of (k := (i : Int)) (n := vs1.size) (by omega) (by omega); simpa using this
  have h2 := h1.upd (ds' := ds.eraseIdx i) (tk := s1.toks) (Heap.SameBut.update _ _ (Obj.mapSeq fun xs => xs.eraseIdxIfInBounds i)) ⟨_, l1.update _⟩ (by
    have : (vs1.eraseIdxIfInBounds i).toList = vs1.toList.eraseIdx i := by
      rw [Array.eraseIdxIfInBounds_eq, dif_pos (by omega)]; simp
    rw [this]; exact r1.erase i)
  exact h2.store hy (w2.flat hf _ _) hu ho k
theorem St.setAt {x a ds e1 e2 p q rest d sp} {i : Nat} {Q : Flow → Shared → Prop} {E : Value → Shared → Prop} (h : St C A s₀ pvc env ρ (o1 ++ (x, a, ds) :: o2) s) (ra : Room n A) (he1 : EvO C n env ρ (o1 ++ (x, a, ds) :: o2) e1 (.int i)) (he : EvO C n env ρ (o1 ++ (x, a, ds) :: o2) e2 d) (hi' : i < ds.length)
    (hsz : ds.length ≤ sizeLine)
    (k : ∀ s', St C A s₀ pvc env ρ (o1 ++ (x, a, ds.set i d) :: o2) s' → wpAny (model C.prog C.w) A (execs rest env) Q E s')
    (hd : autoParam ((x == ("__debug__" : Str)) = false) syD) (hx : autoParam ((x == ("__classdict__" : Str)) = false) syD)
    (hsw : autoParam (swapsWith e2 (some (.Subscript (.Name x p) e1 sp)) q.line env = pure false) syU) :
    wpAny (model C.prog C.w) A (execs (.Assign [.Subscript (.Name x p) e1 sp] e2 q :: rest) env) Q E s := by
  have hmem : (x, a, ds) ∈ o1 ++ (x, a, ds) :: o2 := List.mem_append_right _ List.mem_cons_self
  have hss : sizeLine = 16777216 := rfl
  refine wpAny_execs_cons (wpAny_Assign_Subscript ?_ hsw)
  refine h.evo ra he fun v s1 k1 h1 hv => h1.ownName hmem ?_ hd hx
  refine h1.evo ra he1 fun w s2 k2 h2 hw => ?_
  obtain ⟨t, rfl⟩ := hw.int_inv
  obtain ⟨vs1, m1, l1, r1, hl1⟩ := h2.ownAt
  have h0 : (0 : Int) ≤ (i : Int) := by omega
  refine ki_setAt l1 h0 (by omega) (by omega) ?_
  have h2' := h2.upd (ds' := ds.set i d) (tk := s2.toks) (Heap.SameBut.update _ _ (Obj.mapSeq fun xs => xs.setIfInBounds i v)) ⟨_, l1.update _⟩ (by
    rw [Array.toList_setIfInBounds]; exact r1.set i ((hv.kp k2)))
  exact k _ h2'
end
end
section -- C17
section
variable {C : Cx} {n : Nat} {A : Around} {s s' s₀ : Shared} {env : Env} {ρ ρ' : Names} {pv pvc : List Addr} {own o1 o2 : Own}
theorem seen_mem {x : Str} {a : Addr} {ds : List PyData} (h : (x, a, ds) ∈ own) : (x, PyData.list ds) ∈ seen own := List.mem_map.mpr ⟨_, h, rfl⟩
theorem slicePick_upto' (items : Array Value) (b : Nat) : slicePick items none (some b) none = (items.toList.take b).toArray := by
  by_cases h : b ≤ items.size
  · exact slicePick_upto items b h
  · have e : slicePick items none (some b) none = slicePick items none (some (items.size : Int)) none := by
      unfold slicePick
      rw [sliceBounds_plain, sliceBounds_plain]
      have e : clipAt items.size (b : Int) = clipAt items.size (items.size : Int) := by
        unfold clipAt
        rw [if_neg (Int.not_lt.mpr (Int.natCast_nonneg _)), if_neg (Int.not_lt.mpr (Int.natCast_nonneg _)), Int.min_eq_right (Int.ofNat_le.mpr (Nat.le_of_not_le h)), Int.min_self]
      simp only [Option.elim, e]
    rw [e, slicePick_upto items items.size (Nat.le_refl _), List.take_of_length_le (by simp), List.take_of_length_le (by simp; omega)]
theorem ev_slice_end {vs : Array Value} {es : List PyData} (hr : RDs s.heap pv vs.toList es) (hn : s.heap.objs.size + 1 ∉ pv) (x : Obj) : RD (((s.heap.push x).push { cls := .type "list", data := .seq vs })) pv (.ref (s.heap.objs.size + 1)) (.list es) := by
  have e : s.heap.objs.size + 1 = (s.heap.push x).objs.size := by rw [Heap.size_push]
  rw [e] at hn ⊢
  refine .list hn ⟨0, IsL.new _ _⟩ (hr.mono fun b o us m hb e d => Heap.get?_push_of_some _ (Heap.get?_push_of_some _ e))
theorem Rdy.new1 (x : Rdy C A env ρ pv s) : s.heap.objs.size + 1 ∉ pv := fun h => by
  obtain ⟨o, e⟩ := x.priv _ h
  exact absurd (Heap.lt_size e) (Nat.not_lt.mpr (Nat.le_succ _))
theorem Ev.sliceTo {value u p pos ds} {b : Nat} (hv : Ev C n env ρ value (.list ds)) (hu : Ev C n env ρ u (.int b)) (hsz : ds.length ≤ sizeLine) (ht : autoParam (∀ o r, letTemporaryGo value o r = pure ()) syJ) :
    Ev C n env ρ (.Subscript value (.Slice none (some u) none p) pos) (.list (ds.take b)) := fun A ra s pv r Q E h => by
  refine wpAny_Subscript_list_slice (hv A ra s pv r _ _ fun a s1 k1 h1 => evalPart_none_step (evalPart_some_step (hu A ra s1 pv (r.kp k1) _ _ fun w s2 k2 h2 => ?_))) ht
  obtain ⟨l, vs, rfl, ha1, ha2, ha3⟩ := (h1.kp k2).list_inv
  obtain ⟨t, rfl⟩ := h2.int_inv
  have l1 := ha3.length
  simp only [Array.length_toList] at l1
  refine ⟨l, vs, none, some b, rfl, ha2.isList, by omega, .none, .int _ _, h _ _ (((k1.trans k2).trans Kp.push).trans Kp.push) (ev_slice_end ?_ ((r.kp k1).kp k2).new1 _)⟩
  rw [slicePick_upto']
  exact ha3.take b
theorem Ev.sliceFrom {value u p pos ds} {a : Nat} (hv : Ev C n env ρ value (.list ds)) (hu : Ev C n env ρ u (.int a)) (ha : a ≤ ds.length) (hsz : ds.length ≤ sizeLine) (ht : autoParam (∀ o r, letTemporaryGo value o r = pure ()) syJ) :
    Ev C n env ρ (.Subscript value (.Slice (some u) none none p) pos) (.list (ds.drop a)) := fun A ra s pv r Q E h => by
  refine wpAny_Subscript_list_slice (hv A ra s pv r _ _ fun v s1 k1 h1 => evalPart_some_step (hu A ra s1 pv (r.kp k1) _ _ fun w s2 k2 h2 => evalPart_none_step ?_)) ht
  obtain ⟨l, vs, rfl, ha1, ha2, ha3⟩ := (h1.kp k2).list_inv
  obtain ⟨t, rfl⟩ := h2.int_inv
  have l1 := ha3.length
  simp only [Array.length_toList] at l1
  refine ⟨l, vs, some a, none, rfl, ha2.isList, by omega, .int _ _, .none, h _ _ (((k1.trans k2).trans Kp.push).trans Kp.push) (ev_slice_end ?_ ((r.kp k1).kp k2).new1 _)⟩
  rw [slicePick_from _ _ (by omega)]
  exact ha3.drop a
theorem Ev.sliceRun {value u u' p pos ds} {a b : Nat} (hv : Ev C n env ρ value (.list ds)) (hu : Ev C n env ρ u (.int a)) (hu' : Ev C n env ρ u' (.int b)) (hab : a ≤ b) (hb : b ≤ ds.length) (hsz : ds.length ≤ sizeLine) (ht : autoParam (∀ o r, letTemporaryGo value o r = pure ()) syJ) :
    Ev C n env ρ (.Subscript value (.Slice (some u) (some u') none p) pos) (.list ((ds.drop a).take (b - a))) := fun A ra s pv r Q E h => by
  refine wpAny_Subscript_list_slice (hv A ra s pv r _ _ fun v s1 k1 h1 => evalPart_some_step (hu A ra s1 pv (r.kp k1) _ _ fun w s2 k2 h2 => evalPart_some_step (hu' A ra s2 pv ((r.kp k1).kp k2) _ _ fun w' s3 k3 h3 => ?_))) ht
  obtain ⟨l, vs, rfl, ha1, ha2, ha3⟩ := ((h1.kp k2).kp k3).list_inv
  obtain ⟨t, rfl⟩ := h2.int_inv
  obtain ⟨t', rfl⟩ := h3.int_inv
  have l1 := ha3.length
  simp only [Array.length_toList] at l1
  refine ⟨l, vs, some a, some b, rfl, ha2.isList, by omega, .int _ _, .int _ _, h _ _ ((((k1.trans k2).trans k3).trans Kp.push).trans Kp.push) (ev_slice_end ?_ (((r.kp k1).kp k2).kp k3).new1 _)⟩
  rw [slicePick_run _ _ _ (by omega) hab]
  exact (ha3.drop a).take (b - a)
theorem ItemOk.listN {ds : List PyData} {k : Nat} {d} (h : ds[k]? = some d) (hl : ds.length < 2 ^ 62) : ItemOk (.list ds) (k : Int) d := by
  have hk : k < ds.length := (List.getElem?_eq_some_iff.mp h).1
  refine .list (k := k) ?_ h (by omega) (by omega)
  have := seqIndex_of (k := (k : Int)) (n := ds.length) (by omega) (by omega)
  rw [this, Int.toNat_natCast]
theorem itm_ints {ks : List Int} {k : Nat} (h : k < ks.length) (hl : ks.length < 2 ^ 30) : ItemOk (.list (ks.map .int)) (k : Int) (.int (ks.getD k 0)) := by
  refine .listN ?_ (by rw [List.length_map]; omega)
  rw [List.getElem?_map, List.getD_eq_getElem?_getD]
  simp [List.getElem?_eq_getElem h]
end
end
section -- C18
inductive ItemX
  | own (ds : List PyData)
  | dat (d : PyData)
inductive ItX (h : Heap) (pv : List Addr) : List Addr → List Value → List ItemX → Prop
  | nil : ItX h pv [] [] []
  | own {a us ds as vs its} : LsAt h a us → RDs h pv us.toList ds → ItX h pv as vs its → ItX h pv (a :: as) (.ref a :: vs) (.own ds :: its)
  | dat {v d as vs its} : RD h pv v d → ItX h pv as vs its → ItX h pv as (v :: vs) (.dat d :: its)
section
variable {C : Cx} {n : Nat} {A : Around} {s s' s₀ : Shared} {env : Env} {ρ ρ' : Names} {pv pv' pvc : List Addr} {own o1 o2 : Own}
theorem ItX.sub {h : Heap} (k : ∀ a o, a ∈ pv' → h.get? a = some o → a ∈ pv) : ∀ {as vs its}, ItX h pv as vs its → ItX h pv' as vs its := by
  intro as vs its x
  induction x with
  | nil => exact .nil
  | own l r _ ih => exact .own l (r.sub k) ih
  | dat r _ ih => exact .dat (r.sub k) ih
theorem ItX.kp (k : Kp C s s') : ∀ {as vs its}, ItX s.heap pv as vs its → ItX s'.heap pv as vs its := by
  intro as vs its x
  induction x with
  | nil => exact .nil
  | own l r _ ih => exact .own (kp_ls k l) (r.kp k) ih
  | dat r _ ih => exact .dat (r.kp k) ih
theorem ItX.len {h : Heap} : ∀ {as vs its}, ItX h pv as vs its → vs.length = its.length := by
  intro as vs its x
  induction x with
  | nil => rfl
  | own _ _ _ ih => exact congrArg (· + 1) ih
  | dat _ _ ih => exact congrArg (· + 1) ih
noncomputable def EvsX (C : Cx) (n : Nat) (env : Env) (ρ : Names) (es : List Expr) (its : List ItemX) : Prop := ∀ A, Room n A → ∀ s pv pos, Rdy C A env ρ pv s → ∀ (Q : List Value → Shared → Prop) E,
  (∀ as vs s', Kp C s s' → (∀ a ∈ as, s.heap.get? a = none) → as.Nodup → ItX s'.heap (as ++ pv) as vs its → Q vs s') → wpAny (model C.prog C.w) A (spliced (backTo pos (starEach es env))) Q E s
theorem EvsX.nil : EvsX C n env ρ [] [] := fun _ _ s _ _ _ _ _ h => wpAny_items_nil (h [] _ s (.refl _ _) (fun _ i => nomatch i) List.nodup_nil .nil)
theorem EvsX.dat {e es d its} (he : Ev C n env ρ e d) (hs : EvsX C n env ρ es its) (hst : autoParam (starEach (e :: es) env = (false, eval e env) :: starEach es env) syR) : EvsX C n env ρ (e :: es) (.dat d :: its) := fun A ra s pv pos r Q E h => by
  refine wpAny_items_cons (he A ra s pv r _ _ fun v s1 k1 h1 => hs A ra s1 pv pos (r.kp k1) _ _ fun as vs s2 k2 hn nd h2 => ?_) hst
  refine h as _ _ (k1.trans k2) (fun a ha => new_of_kp k1 (hn a ha)) nd (.dat ?_ h2)
  exact (h1.more2 hn).kp k2
theorem EvsX.fresh {e es ds its} (he : EvF C n env ρ e ds) (hs : EvsX C n env ρ es its) (hst : autoParam (starEach (e :: es) env = (false, eval e env) :: starEach es env) syR) : EvsX C n env ρ (e :: es) (.own ds :: its) := fun A ra s pv pos r Q E h => by
  refine wpAny_items_cons (he A ra s pv r _ _ fun a s1 us k1 hna hl hr => ?_) hst
  have r1 : Rdy C A env ρ (a :: pv) s1 := by
    have r' := r.kp k1
    refine ⟨r'.ok, r'.base, r'.live, fun x d m => ?_, fun p hp => ?_⟩
    · obtain ⟨v, h1, h2⟩ := r.names x d m
      exact ⟨v, h1.kp k1, (h2.more hna).kp k1⟩
    · rcases List.mem_cons.mp hp with rfl | hp
      · obtain ⟨_, e⟩ := hl; exact ⟨_, e⟩
      · exact r'.priv p hp
  refine hs A ra s1 (a :: pv) pos r1 _ _ fun as vs s2 k2 hn nd h2 => ?_
  have hperm : ∀ b o, b ∈ (a :: as) ++ pv → s2.heap.get? b = some o → b ∈ as ++ a :: pv := fun b o hb _ => by
    simp only [List.cons_append, List.mem_cons, List.mem_append] at hb ⊢
    rcases hb with hb | hb | hb <;> simp [hb]
  refine h (a :: as) _ _ (k1.trans k2) (fun b hb => ?_) (List.nodup_cons.mpr ⟨fun hm => ?_, nd⟩) (.own (kp_ls k2 hl) ?_ (h2.sub hperm))
  · rcases List.mem_cons.mp hb with rfl | hb
    · exact hna
    · exact new_of_kp k1 (hn b hb)
  · obtain ⟨_, e⟩ := hl
    have e' : s1.heap.get? a = some _ := e
    rw [hn a hm] at e'; cases e'
  · exact ((hr.more2 hn).kp k2).sub hperm
noncomputable def newsOf : List Str → List ItemX → List Addr → Own
  | x :: xs, .own ds :: its, a :: as => (x, a, ds) :: newsOf xs its as
  | _ :: xs, .dat _ :: its, as => newsOf xs its as
  | _, _, _ => []
noncomputable def datsOf : List Str → List ItemX → Names
  | _ :: xs, .own _ :: its => datsOf xs its
  | x :: xs, .dat d :: its => (x, d) :: datsOf xs its
  | _, _ => []
noncomputable def ownsN : List ItemX → Nat
  | .own _ :: its => ownsN its + 1
  | .dat _ :: its => ownsN its
  | [] => 0
theorem newsOf_as {h : Heap} : ∀ {as vs its} {xs : List Str}, ItX h pv as vs its → xs.length = its.length → (newsOf xs its as).map (·.2.1) = as
  := by
  intro as vs its xs x
  induction x generalizing xs with
  | nil => intro e; cases xs with | nil => rfl | cons _ _ => cases e
  | own _ _ _ ih => intro e; cases xs with | nil => cases e | cons a r => exact congrArg (List.cons _) (ih (Nat.succ.inj e))
  | dat _ _ ih => intro e; cases xs with | nil => cases e | cons a r => exact ih (xs := r) (Nat.succ.inj e)
theorem ItX.asLen {h : Heap} : ∀ {as vs its}, ItX h pv as vs its → as.length = ownsN its := by
  intro as vs its x
  induction x with
  | nil => rfl
  | own _ _ _ ih => exact congrArg (· + 1) ih
  | dat _ _ ih => exact ih
theorem newsOf_mem {h : Heap} : ∀ {as vs its} {xs : List Str}, ItX h pv as vs its → xs.length = its.length → ∀ y ∈ newsOf xs its as, (∃ us, LsAt h y.2.1 us ∧ RDs h pv us.toList y.2.2) ∧ (y.1, Value.ref y.2.1) ∈ xs.zip vs ∧ y.2.1 ∈ as
  := by
  intro as vs its xs x
  induction x generalizing xs with
  | nil => intro e y hy; cases xs with | nil => exact absurd hy List.not_mem_nil | cons _ _ => cases e
  | own l r _ ih =>
    intro e y hy
    cases xs with
    | nil => cases e
    | cons a q =>
      rcases List.mem_cons.mp hy with rfl | hy
      · exact ⟨⟨_, l, r⟩, List.mem_cons_self, List.mem_cons_self⟩
      · obtain ⟨h1, h2, h3⟩ := ih (xs := q) (Nat.succ.inj e) y hy
        exact ⟨h1, List.mem_cons_of_mem _ h2, List.mem_cons_of_mem _ h3⟩
  | dat r _ ih =>
    intro e y hy
    cases xs with
    | nil => cases e
    | cons a q =>
      obtain ⟨h1, h2, h3⟩ := ih (xs := q) (Nat.succ.inj e) y hy
      exact ⟨h1, List.mem_cons_of_mem _ h2, h3⟩
theorem datsOf_self {x : Str} {d : PyData} {xs : List Str} {its : List ItemX} : (x, d) ∈ datsOf (x :: xs) (.dat d :: its) := List.mem_cons_self
theorem datsOf_own {x y xs its ds} (h : y ∈ datsOf xs its) : y ∈ datsOf (x :: xs) (.own ds :: its) := h
theorem datsOf_next {x y xs its d} (h : y ∈ datsOf xs its) : y ∈ datsOf (x :: xs) (.dat d :: its) := List.mem_cons_of_mem _ h
theorem datsOf_mem {h : Heap} : ∀ {as vs its} {xs : List Str}, ItX h pv as vs its → xs.length = its.length → ∀ x d, (x, d) ∈ datsOf xs its → ∃ v, (x, v) ∈ xs.zip vs ∧ RD h pv v d
  := by
  intro as vs its xs x
  induction x generalizing xs with
  | nil => intro e y d hy; cases xs with | nil => exact absurd hy List.not_mem_nil | cons _ _ => cases e
  | own l r _ ih =>
    intro e y d hy
    cases xs with
    | nil => cases e
    | cons a q =>
      obtain ⟨v, h1, h2⟩ := ih (xs := q) (Nat.succ.inj e) y d hy
      exact ⟨v, List.mem_cons_of_mem _ h1, h2⟩
  | dat r _ ih =>
    intro e y d hy
    cases xs with
    | nil => cases e
    | cons a q =>
      rcases List.mem_cons.mp hy with q1 | hy
      · cases q1; exact ⟨_, List.mem_cons_self, r⟩
      · obtain ⟨v, h1, h2⟩ := ih (xs := q) (Nat.succ.inj e) y d hy
        exact ⟨v, List.mem_cons_of_mem _ h1, h2⟩
theorem St.ownedX {its as vs} {xs : List Str} {s1 : Shared} {m cm m' cm' : Str → Option Value} (h : St C A s₀ pvc env ρ own s) (H : Holds env env.cells m cm s (prv own pvc) ρ) (O : Owns s₀ env m cm s (prv own pvc) own) (k1 : Kp C s s1)
    (hn : ∀ a ∈ as, s.heap.get? a = none) (nd : as.Nodup) (hx : ItX s1.heap (as ++ prv own pvc) as vs its) (hl : xs.length = its.length) (z : Fz C s₀ s1 s') (F' : Fr2 s₀ env env.cells m' cm' s')
    (hv : ∀ x v, (x, v) ∈ xs.zip vs → nv env env.cells m' cm' x = some v) (ho : ∀ y, y ∉ xs → nv env env.cells m' cm' y = nv env env.cells m cm y)
    (hρ : ∀ y ∈ ρ', y ∈ datsOf xs its ∨ (y ∈ ρ ∧ y.1 ∉ xs)) (hoo : ∀ y ∈ own, y.1 ∉ xs) : St C A s₀ pvc env ρ' (newsOf xs its as ++ own) s' := by
  have e : prv (newsOf xs its as ++ own) pvc = as ++ prv own pvc := by
    simp only [prv, List.map_append, newsOf_as hx hl, List.append_assoc]
  refine h.owned H O k1 (newsOf xs its as) (fun y hy => hn _ (newsOf_mem hx hl y hy).2.2) (fun y hy => by rw [e]; exact (newsOf_mem hx hl y hy).1) (by rw [newsOf_as hx hl]; exact nd) z F' (fun y hy => hv _ _ (newsOf_mem hx hl y hy).2.1)
    (fun y d i => ?_) fun y hy => ho _ (hoo y hy)
  rcases hρ _ i with q | ⟨q1, q2⟩
  · obtain ⟨v, h1, h2⟩ := datsOf_mem hx hl y d q
    exact .inl ⟨v, hv _ _ h1, by rw [e]; exact h2⟩
  · exact .inr ⟨q1, ho _ q2⟩
inductive NmT : List Expr → List Str → Prop
  | nil : NmT [] []
  | cons {x p es xs} : NmT es xs → NmT (.Name x p :: es) (x :: xs)
theorem NmT.len (C : Cx) (A : Around) (env : Env) : ∀ {es xs}, NmT es xs → (assignEach es env).length = xs.length ∧ (assignEach es env).findIdx? (·.1) = none ∧ Stores C A env ((assignEach es env).map (·.2)) xs
  | _, _, .nil => ⟨rfl, rfl, .nil⟩
  | _, _, @NmT.cons x p es xs t => by
    have ⟨h1, h2, h3⟩ := NmT.len C A env t
    have e : assignEach (.Name x p :: es) env = (false, assign (.Name x p) env) :: assignEach es env := rfl
    rw [e]
    refine ⟨by simp [h1], by rw [List.findIdx?_cons, h2]; rfl, .cons (fun v s Q E h => PySem.wpAny_assign_Name h) h3⟩
theorem St.assignTupX {es tk tp ees ek ep q rest its} {xs : List Str} {Q : Flow → Shared → Prop} {E : Value → Shared → Prop} (h : St C A s₀ pvc env ρ own s) (ra : Room n A) (he : EvsX C n env ρ ees its) (ht : NmT es xs) (hl : xs.length = its.length) (hsz : its.length ≤ sizeLine)
    (nd : xs.Nodup) (hx : ∀ x ∈ xs, OwnN env env.cells x) (hρ : ∀ y ∈ ρ', y ∈ datsOf xs its ∨ (y ∈ ρ ∧ y.1 ∉ xs)) (hoo : ∀ y ∈ own, y.1 ∉ xs)
    (k' : ∀ as s', as.length = ownsN its → St C A s₀ pvc env ρ' (newsOf xs its as ++ own) s' → wpAny (model C.prog C.w) A (execs rest env) Q E s')
    (hs : autoParam (swapsWithSole [.Tuple es tk tp] (.Tuple ees ek ep) q.line env = pure false) syU) (hw : autoParam (swappedStores [.Tuple es tk tp] (.Tuple ees ek ep) env = pure none) syU) :
    wpAny (model C.prog C.w) A (execs (.Assign [.Tuple es tk tp] (.Tuple ees ek ep) q :: rest) env) Q E s := by
  refine wpAny_execs_cons (Assign_Tuple ?_ hs hw)
  refine wpAny_Tuple (he A ra s _ ep h.rdy _ _ fun as vs s1 k1 hn nda hit => ⟨by rw [hit.len]; exact hsz, ?_⟩)
  obtain ⟨h1, h2, h3⟩ := NmT.len C A env ht
  have k2 : Kp C s1 { s1 with heap := s1.heap.push { cls := .type "tuple", data := .seq vs.toArray } } := Kp.push
  refine wpAny_assign_Tuple ra.handled (items := vs.toArray) ⟨_, Heap.get?_push_size _ rfl, rfl, 0, rfl⟩ (by rw [h1, hl, ← hit.len]; simp) h2 fun h' hx' => ?_
  have k3 : Kp C { s1 with heap := s1.heap.push { cls := .type "tuple", data := .seq vs.toArray } } { s1 with heap := h' } := Kp.keepH fun b o e => hx' b o (Nat.ne_of_lt (Heap.lt_size e)) e
  have k13 := (k1.trans k2).trans k3
  obtain ⟨m, cm, F, H, O⟩ := h.fr
  refine store_seq (oc := env.cells) h.ok h3 (by rw [hl, ← hit.len]) nd hx (F.kp k13) fun s' m' cm' F' z hv ho => k' as s' hit.asLen ?_
  exact h.ownedX H O k13 hn nda ((hit.kp k2).kp k3) hl z F' (fun x v i => hv x v (by simpa using i)) ho hρ hoo
end
end
section -- C20
section
variable {C : Cx} {n : Nat} {A : Around} {s s' s₀ s1 σ σ' : Shared} {env : Env} {ρ ρ' ρf ρo : Names} {pv pvc : List Addr} {own o1 o2 : Own} {scope : Scope} {L D : Addr} {oc : List (Str × Addr)} {acc : List PyData}
theorem compStart1 {elt : Expr} {g1 : Comprehension} {target iter : Expr} {ifs : List Expr} {scope : Scope} {pos : Pos} {it acc : Value} {env : Env} {R : Result → Shared → Prop}
    (h0 : codeAny (model C.prog C.w) A (.compLoop (.ListComp elt [g1, ⟨target, iter, ifs, 0⟩] scope pos) 1 it acc env) R s)
    (h : ∀ E, wpAny (model C.prog C.w) A (pyIter it) (fun it' s' => codeAny (model C.prog C.w) A (.compLoop (.ListComp elt [g1, ⟨target, iter, ifs, 0⟩] scope pos) 1 it' acc env) R s') E s) :
    codeAny (model C.prog C.w) A (.compStart (.ListComp elt [g1, ⟨target, iter, ifs, 0⟩] scope pos) 1 it acc env) R s := by
  refine codeAny_of_tree ?_
  show wpAny _ _ ((compStart (.ListComp elt [g1, ⟨target, iter, ifs, 0⟩] scope pos) 1 it acc env).onRaise (fun x => do noteFrame x env; standAt theWindowsPlace)) _ _ s
  refine wpAny_notedAt ?_
  unfold compStart
  show wpAny _ _ (ask >>= _) _ _ s
  refine wpAny_bind (wpAny_askSetting (wpAny_ite ?_))
  split
  · first
      | exact wpAny_bind (wpAny_pure (wpAny_pure (And.intro rfl h0)))
      | exact wpAny_pure (And.intro rfl h0)
  · refine wpAny_bind (wpAny_rule ?_)
    show wpAny _ _ (standAt iter.pos >>= _) _ _ s
    exact wpAny_bind (wpAny_standAt (wpAny_bind (wpAny_mono (h _) (fun it' s' h' => wpAny_pure (And.intro rfl h')) fun _ _ x => x)))
theorem two_len {α β : Type} {xs : List α} {f : α → List β} (hx : xs.length ≤ 1000) (h : ∀ x ∈ xs, (f x).length ≤ 1000) (i : Nat) : ((xs.take i).flatMap f).length ≤ 1000 * 1000 := by
  have : ∀ l : List α, (∀ x ∈ l, x ∈ xs) → (l.flatMap f).length ≤ l.length * 1000 := by
    intro l
    induction l with
    | nil => intro _; exact Nat.zero_le _
    | cons x l ih =>
      intro hm
      rw [List.flatMap_cons, List.length_append, List.length_cons, Nat.succ_mul, Nat.add_comm]
      exact Nat.add_le_add (ih fun z hz => hm z (List.mem_cons_of_mem _ hz)) (h x (hm x List.mem_cons_self))
  exact Nat.le_trans (this _ fun x hx => List.mem_of_mem_take hx) (Nat.mul_le_mul_right _ (Nat.le_trans (List.length_take ▸ Nat.min_le_right _ _) hx))
inductive C2U (C : Cx) (n : Nat) (scope : Scope) (env : Env) (ρf : Names) (t2 : Expr) (ifs : List Expr) (elt : Expr) (ρt1 : Names) (d : PyData) (out : List PyData) : Prop
  | mk (ρt2 : Names) (b : Bool) (d' : PyData) (h1 : ∀ L, Tgt (cenvC scope env L) (ocC scope L) t2 d ρt2) (h2 : ∀ z e, (z, e) ∈ ρt1 → ∀ e', (z, e') ∉ ρt2) (h3 : ∀ L, TstL C n (cenvC scope env L) ((ρt2 ++ ρt1) ++ ρf) ifs b) (h4 : b = true → ∀ L, Ev C n (cenvC scope env L) ((ρt2 ++ ρt1) ++ ρf) elt d') (h5 : out = if b then [d'] else [])
inductive C2T {β : Type} (C : Cx) (n : Nat) (scope : Scope) (env : Env) (ρf : Names) (t1 i2 t2 : Expr) (ifs : List Expr) (elt : Expr) (d : PyData) (ys : List β) (enc2 : β → PyData) (gx : β → List PyData) : Prop
  | mk (ρt1 : Names) (h1 : ∀ L, Tgt (cenvC scope env L) (ocC scope L) t1 d ρt1) (h2 : ∀ L, EvIt C n (cenvC scope env L) (ρt1 ++ ρf) i2 (ys.map enc2)) (h3 : ∀ y ∈ ys, C2U C n scope env ρf t2 ifs elt ρt1 (enc2 y) (gx y))
theorem comp2_core {α β : Type} {xs : List α} {enc : α → PyData} {ys : List β} {enc2 : β → PyData} {g : α → β → List PyData} {elt t1 i1 t2 i2 : Expr} {ifs : List Expr} {scope : Scope} {pos : Pos} {s1 s2 : Shared} {I : Addr} {fp wr : List Addr} {P : Nat → Value → Prop} {J : Nat → Heap → Prop}
    {RR : Value → Env → Result → Shared → Prop} {E : Value → Shared → Prop}
    (ra : Room n A) (r1 : Rdy C A env ρ pv s1) (it : Itr C A pv s1 s2 I (xs.map enc) fp wr P J) (nd : (scope.names.map (·.1)).Nodup) (hk : scope.kind = .function) (hf : Frees env ρ scope.names ρf)
    (hx : xs.length ≤ 1000) (hy : ys.length ≤ 1000)
    (turn : ∀ x ∈ xs, C2T C n scope env ρf t1 i2 t2 ifs elt (enc x) ys enc2 (g x))
    (hs2 : ∀ L x, foldedSetIterable i2 (cenvC scope env L) x = pure x)
    (hRR : ∀ D L s' m cm vs, s1.heap.get? D = none → D ∉ pv → Kp C s1 s' → LsAt s'.heap D vs → RDs s'.heap (D :: pv) vs.toList (xs.flatMap fun x => ys.flatMap (g x)) → Fr2 s1 (cenvC scope env L) (ocC scope L) m cm s' → RR (.ref D) (cenvC scope env L) (.ok .next) s') :
    wpAny (model C.prog C.w) A (newList []) (fun acc s₃ => wpAny (model C.prog C.w) A (newFunctionEnv scope env.globals (clOf env scope.names []) [] env.qual none .none (some env)) (fun cenv s₄ =>
      codeAny (model C.prog C.w) A (.compStart (.ListComp elt [⟨t1, i1, [], 0⟩, ⟨t2, i2, ifs, 0⟩] scope pos) 0 (.ref I) acc { cenv with scope := relabel scope env }) (RR acc { cenv with scope := relabel scope env }) s₄) E s₃) E s2 := by
  have hg1 : ∀ x ∈ xs, ∀ y ∈ ys, (g x y).length ≤ 1 := fun x hx y hy => by
    obtain ⟨_, _, _, ht⟩ := turn x hx
    obtain ⟨_, b, _, _, _, _, _, e⟩ := ht y hy
    rw [e]; cases b <;> simp
  have hb1 : ∀ i, ((xs.take i).flatMap fun x => ys.flatMap (g x)).length ≤ 1000 * 1000 := fun i => two_len hx (fun x hxm => Nat.le_trans (by have := out_len (xs := ys) (g := g x) (fun y hy => hg1 x hxm y hy) ys.length; rwa [List.take_length] at this) hy) i
  refine comp_setup (RR := RR) r1 it fun D L σ0 hD1 hDpv hDfp c0 j0 => ?_
  have fin : ∀ σ', CS C s1 pv D (cenvC scope env L) (ocC scope L) [] (xs.flatMap fun x => ys.flatMap (g x)) σ' → RR (.ref D) (cenvC scope env L) (.ok .next) σ' := fun σ' c => by
    obtain ⟨vs, l2, r2⟩ := c.ls
    obtain ⟨m, cm, f2, _⟩ := c.fr
    exact hRR D L σ' m cm vs hD1 hDpv c.kp l2 r2 f2
  -- the outer loop
  have outer : codeAny (model C.prog C.w) A (.compLoop (.ListComp elt [⟨t1, i1, [], 0⟩, ⟨t2, i2, ifs, 0⟩] scope pos) 0 (.ref I) (.ref D) (cenvC scope env L)) (RR (.ref D) (cenvC scope env L)) σ0 := by
    refine cloop (xs := xs) (enc := enc) (g := fun x => ys.flatMap (g x)) (target := t1) (ifs := []) (p := i1.pos) (ρo := []) (acc0 := []) (oc := ocC scope L)
      (body := (do let x ← eval i2 (cenvC scope env L); standAt i2.pos; let x ← foldedSetIterable i2 (cenvC scope env L) x; let _ ← runOwn (.compStart (.ListComp elt [⟨t1, i1, [], 0⟩, ⟨t2, i2, ifs, 0⟩] scope pos) 1 (← holding [x] (pyIter x)) (.ref D) (cenvC scope env L)) (cenvC scope env L)))
      ra r1 nd hk hf hD1 it.newI (by have := it.walk; rw [List.length_map] at this; exact this) it.live it.wrI it.memI it.clsI it.let' hDfp (fun i v d hP hd => ((it.read i v d hP hd).more hD1).kp c0.kp) (by simp only [bind_assoc]; rfl) rfl rfl (Around.under_of_weight rfl) (fun i x hxi => ?_) c0 j0 (fun σ' c _ => fin σ' (by simpa using c))
    have hxm := List.mem_of_getElem? hxi
    obtain ⟨ρt1, ht1, hi2, ht2⟩ := turn x hxm
    refine ⟨ρt1, true, ht1 L, (fun _ _ i => absurd i List.not_mem_nil), rfl, (fun q => absurd q (by decide)), fun _ σ1 c1 E => ?_⟩
    have c1 : CS C s1 pv D (cenvC scope env L) (ocC scope L) ρt1 ([] ++ (xs.take i).flatMap fun x => ys.flatMap (g x)) σ1 := by simpa using c1
    have rd1 := c1.rdy nd hk hf r1 hD1
    refine wpAny_bind (wpAny_mono (hi2 L A ra σ1 (D :: pv) rd1 (fun v s' => wpAny (model C.prog C.w) A (runOwn (.compStart (.ListComp elt [⟨t1, i1, [], 0⟩, ⟨t2, i2, ifs, 0⟩] scope pos) 1 v (.ref D) (cenvC scope env L)) (cenvC scope env L)) (fun _ σ' => CS C s1 pv D (cenvC scope env L) (ocC scope L) [] ([] ++ (xs.take (i + 1)).flatMap fun x => ys.flatMap (g x)) σ' ∧ KeepN D σ1 σ') E s') E fun I' s3 s4 fp' wr' P' J' k3 it' => ?_)
      (fun v s' hv => wpAny_bind (wpAny_standAt ?_)) fun _ _ e => e)
    · -- the inner loop
      have c3 := c1.kps k3
      have k34 : Kp C s3 s4 := it'.kp
      have c4 := c3.kps k34
      have hDfp' : D ∉ fp' := fun hm => it'.out D hm List.mem_cons_self
      have newI' : s1.heap.get? I' = none := new_of_kp c3.kp it'.newI
      have inner : codeAny (model C.prog C.w) (A.mark none) (.compLoop (.ListComp elt [⟨t1, i1, [], 0⟩, ⟨t2, i2, ifs, 0⟩] scope pos) 1 (.ref I') (.ref D) (cenvC scope env L))
          (fun r s' => match r with | .ok f => (CS C s1 pv D (cenvC scope env L) (ocC scope L) [] ([] ++ (xs.take (i + 1)).flatMap fun x => ys.flatMap (g x)) s' ∧ KeepN D σ1 s') | .error e => cameBackBy (model C.prog C.w) A (cenvC scope env L) E e s') s4 := by
        refine cloop (xs := ys) (enc := enc2) (g := g x) (target := t2) (ifs := ifs) (p := i2.pos) (ρo := ρt1) (acc0 := [] ++ (xs.take i).flatMap fun x => ys.flatMap (g x)) (oc := ocC scope L)
          (body := (do let _ ← call (.builtin "list.append") [.ref D, ← eval elt (cenvC scope env L)]))
          ra r1 nd hk hf hD1 newI' (by have := it'.walk; rw [List.length_map] at this; exact this) it'.live it'.wrI it'.memI it'.clsI it'.let' hDfp' (fun j v d hP hd => (it'.read j v d hP hd).kp k34) (by rfl) rfl rfl (Around.under_of_weight rfl) (fun j y hyj => ?_) c4 it'.start (fun σ' c kI => ⟨?_, fun b o hb hn e => kI b o hb (fun q => ?_) hn ((KeepN.of_kp (D := D) (k3.trans k34)) b o hb hn e)⟩)
        · have hym := List.mem_of_getElem? hyj
          obtain ⟨ρt2, b, d', h1, h2, h3, h4, h5⟩ := ht2 y hym
          refine ⟨ρt2, b, h1 L, h2, h3 L, fun q => by rw [h5, q]; rfl, fun q σ2 c2 E => ?_⟩
          have hlen : ([] ++ ((xs.take i).flatMap fun x => ys.flatMap (g x)) ++ (ys.take j).flatMap (g x)).length ≤ 2 ^ 22 := by
            have a1 := hb1 i
            have a2 := out_len (xs := ys) (g := g x) (fun y hy => hg1 x hxm y hy) j
            rw [List.nil_append, List.length_append]; exact Nat.le_trans (Nat.add_le_add a1 (Nat.le_trans a2 hy)) (by decide)
          refine wpAny_mono (emit_body c2 nd hk hf r1 hD1 ra (h4 q L) hlen) (fun _ σ3 ⟨c3, k3⟩ => ⟨?_, k3⟩) fun _ _ e => e
          have c3 := c3.weak (ρ' := ρt1) fun z hz => List.mem_append_right _ hz
          rw [flat_take hyj, h5, q]
          simpa [List.append_assoc] using c3
        · rw [flat_take hxi]
          exact (by simpa [List.append_assoc] using c : CS C s1 pv D (cenvC scope env L) (ocC scope L) ρt1 ([] ++ (((xs.take i).flatMap fun x => ys.flatMap (g x)) ++ ys.flatMap (g x))) σ').weak fun z hz => nomatch hz
        · subst q
          have : s3.heap.get? b = none := it'.newI
          obtain ⟨o', e'⟩ := k3.there e
          rw [this] at e'; cases e'
      refine wpAny_runOwn ?_
      exact compStart1 inner fun E => it'.walk.self 0 _ _ _ it'.start inner
    · rw [hs2]
      refine wpAny_bind (wpAny_pure (wpAny_bind (wpAny_holding (wpAny_mono hv (fun it s'' h'' => wpAny_bind (wpAny_mono h'' (fun _ _ q => wpAny_pure q) fun _ _ e => e)) fun _ _ e => e))))
  exact codeAny_compStart_list outer (it.walk.self 0 _ _ _ j0 outer)
theorem St.assignComp2 {α β : Type} (xs : List α) (enc : α → PyData) (ys : List β) (enc2 : β → PyData) (g : α → β → List PyData) {x p q rest} {elt t1 i1 t2 i2 : Expr} {ifs : List Expr} {scope : Scope} {pos : Pos} {Q : Flow → Shared → Prop} {E : Value → Shared → Prop} (h : St C A s₀ pvc env ρ own s) (ra : Room n A)
    (hit : EvIt C n env ρ i1 (xs.map enc)) (hf : Frees env ρ scope.names ρf) (hx' : xs.length ≤ 1000) (hy' : ys.length ≤ 1000)
    (turn : ∀ x ∈ xs, C2T C n scope env ρf t1 i2 t2 ifs elt (enc x) ys enc2 (g x))
    (hu : Upd x (.list (xs.flatMap fun x => ys.flatMap (g x))) ρ ρ') (ho : ∀ y ∈ own, y.1 ≠ x)
    (k : ∀ s', St C A s₀ pvc env ρ' own s' → wpAny (model C.prog C.w) A (execs rest env) Q E s')
    (hx : OwnN env env.cells x) (hsw : autoParam (swapsWith (.ListComp elt [⟨t1, i1, [], 0⟩, ⟨t2, i2, ifs, 0⟩] scope pos) (some (.Name x p)) q.line env = pure true) syU)
    (nd : (scope.names.map (·.1)).Nodup := by decide +kernel) (hk : autoParam (scope.kind = .function) syR) (hs : autoParam (∀ x, foldedSetIterable i1 env x = pure x) syI) (hs2 : autoParam (∀ L x, foldedSetIterable i2 (cenvC scope env L) x = pure x) syJ) :
    wpAny (model C.prog C.w) A (execs (.Assign [.Name x p] (.ListComp elt [⟨t1, i1, [], 0⟩, ⟨t2, i2, ifs, 0⟩] scope pos) q :: rest) env) Q E s := by
  refine wpAny_execs_cons ?_
  rw [exec_Assign_Name_used _ _ _ _ hsw]
  refine wpAny_bind (wpAny_standAt (wpAny_bind ?_))
  have r := h.rdy
  show wpAny _ A (do let _ ← comprehension (.ListComp elt [⟨t1, i1, [], 0⟩, ⟨t2, i2, ifs, 0⟩] scope pos) scope env _ (newList []) false (eval i1 env) (some (PySem.assign (.Name x p) env))) _ _ s
  refine wpAny_bind (wpAny_mono (wpAny_comprehension_free (Q := fun _ s' => wpAny (model C.prog C.w) A (execs rest env) Q E s') (g := ⟨t1, i1, [], 0⟩) (gs := [⟨t2, i2, ifs, 0⟩]) rfl hs (frees_closure r hf) hk (fun x hx hl => lookup_of_nodup nd (by rw [← hl]; exact hx)) ?_)
    (fun _ s' hq => wpAny_pure (wpAny_pure hq)) fun _ _ e => e)
  refine hit A ra s _ r _ _ fun I s1 s2 fp wr P J k1 it => ?_
  refine comp2_core (RR := fun acc cenv r s' => compPost (model C.prog C.w) A E (some (PySem.assign (.Name x p) env)) (fun _ s' => wpAny (model C.prog C.w) A (execs rest env) Q E s') acc cenv.locals r s') ra (r.kp k1) it nd hk hf hx' hy' turn hs2 fun D L s' m cm vs hD hDp k2 l2 r2 f2 => ?_
  have h1 := h.kps k1
  have h2 := h1.kps k2
  refine PySem.wpAny_assign_Name ?_
  obtain ⟨mo, cmo, Fo, Ho, Oo⟩ := h2.fr
  have hL0 : s₀.heap.get? (cenvC scope env L).locals = none := by
    cases e : s₀.heap.get? (cenvC scope env L).locals with
    | none => rfl
    | some o => obtain ⟨_, e'⟩ := h1.kp.there e; rw [f2.new] at e'; cases e'
  have loc1 : ∃ o, s1.heap.get? env.locals = some o := let ⟨_, _, F, _, _⟩ := h1.fr; let ⟨o, _, _, e, _⟩ := F.ns; ⟨o, e⟩
  have cel1 : ∀ y c, env.cells.lookup y = some c → ∃ o, s1.heap.get? c = some o := fun y c hc => let ⟨_, _, F, _, _⟩ := h1.fr; let ⟨o, e, _⟩ := (F.cell y c hc).1; ⟨o, e⟩
  have hLne : ∀ {X}, (∃ o, s1.heap.get? X = some o) → (cenvC scope env L).locals ≠ X := fun ⟨o, e⟩ q => by rw [← q, f2.new] at e; cases e
  -- the store
  have hv : RD s'.heap (prv own pvc) (.ref D) (.list (xs.flatMap fun x => ys.flatMap (g x))) := .list hDp l2 (r2.sub fun a o ha _ => List.mem_cons_of_mem _ ha)
  refine store_at h2.ok Fo hx fun h' tk L' m' cm' F' hn hs' p p' hnv hL' => ?_
  have h3 := h2.stored hv hu ho Ho Oo F' hn hs' p p' hnv
  have hLL' : (cenvC scope env L).locals ≠ L' := hLne (by rcases hL' with rfl | ⟨y, hy⟩; exact loc1; exact cel1 y _ hy)
  have ns' : h'.Ns (cenvC scope env L).locals m := f2.ns.sameBut hs' hLL'
  refine ⟨m, ns', fun h'' hs'' => k _ ?_⟩
  exact h3.away (s1 := s1) (h3.live.away h1.live f2.new hs'') hL0 hs'' (Pl.ns ns') f2.new loc1 cel1
end
end
section -- C21
section
variable {C : Cx} {n : Nat} {A : Around} {s s' s₀ : Shared} {env : Env} {ρ ρ' : Names} {pv pvc : List Addr} {own o1 o2 : Own} {X : Addr → Prop} {oc : List (Str × Addr)}
theorem Kp.extP {h' : Heap} {tk : Nat} (k : Kp C s₀ s) (hn : ∀ b, X b → s₀.heap.get? b = none) (hL : ∀ b, X b → ∀ o, s.heap.get? b = some o → o.cls ≠ .none ∧ o.cls ≠ .type "code")
    (hs : ∀ b o, ¬ X b → s.heap.get? b = some o → h'.get? b = some o) : Kp C s₀ { s with heap := h', toks := tk } := by
  have ne : ∀ b o, s₀.heap.get? b = some o → ¬ X b := fun b o e q => by rw [hn b q] at e; cases e
  refine ⟨fun b o e n => let ⟨sl, e1, q⟩ := k.sub' b o e n; ⟨sl, hs b _ (ne b o e) e1, q⟩, fun b ps e t => ?_, fun t y hy => ?_, k.os, k.gens⟩
  · rcases k.tab b ps e t with h | ⟨hm, more, h, t'⟩
    · exact .inl (hs b _ (ne b _ e) h)
    · exact .inr ⟨hm, more, hs b _ (ne b _ e) h, t'⟩
  · obtain ⟨ps, h1, h2, h3⟩ := k.tabs t y hy
    refine ⟨ps, hs _ _ (fun e => (hL _ e _ h1).1 rfl) h1, h2, fun pos v e => ?_⟩
    obtain ⟨c', rfl, o, vs, t, e2, e2', e3, e4⟩ := h3 pos v e
    exact ⟨_, rfl, o, vs, t, hs _ _ (fun q => (hL _ q _ e2).2 e2') e2, e2', e3, e4⟩
theorem St.butP {h' tk} (h : St C A s₀ pvc env ρ own s) (hn : ∀ b, X b → s₀.heap.get? b = none) (hs : ∀ b o, ¬ X b → s.heap.get? b = some o → h'.get? b = some o)
    (hX : ∀ b, X b → ∀ o, s.heap.get? b = some o → o.cls ≠ .none ∧ o.cls ≠ .type "code" ∧ ∃ vs, o.data = .fields vs) : St C A s₀ pvc env ρ own { s with heap := h', toks := tk } := by
  obtain ⟨m, cm, F, H, O⟩ := h.fr
  have nd : ∀ b o, s.heap.get? b = some o → (∀ vs, o.data ≠ .fields vs) → ¬ X b := fun b o e n q => let ⟨_, _, vs, d⟩ := hX b q o e; n vs d
  have sq : ∀ pv, SqK pv s.heap h' := fun pv b o vs n _ e d => hs b o (nd b o e fun vs q => nomatch d.symm.trans q) e
  refine ⟨h.ok, h.base, ?_, h.kp.extP hn (fun b q o e => ⟨(hX b q o e).1, (hX b q o e).2.1⟩) hs, h.priv, ⟨m, cm, ⟨?_, F.new, F.same, fun x c hc => ⟨?_, (F.cell x c hc).2⟩, F.apart⟩, fun x d i => let ⟨v, a, b⟩ := H x d i; ⟨v, a, b.mono (sq _)⟩, fun x a ds i => ?_⟩, h.nd⟩
  · obtain ⟨l, a, b⟩ := h.live
    exact ⟨l, a, b.mono fun L _ ⟨o, es, n, e, d⟩ => ⟨o, es, n, hs L o (nd L o e fun vs q => nomatch d.symm.trans q) e, d⟩⟩
  · obtain ⟨o, es, ep, e, d, r⟩ := F.ns
    exact ⟨o, es, ep, hs _ _ (nd _ _ e fun vs q => nomatch d.symm.trans q) e, d, r⟩
  · obtain ⟨o, e, d⟩ := (F.cell x c hc).1
    exact ⟨o, hs _ _ (nd _ _ e fun vs q => nomatch d.symm.trans q) e, d⟩
  · obtain ⟨e1, e2, vs, ⟨n, e3⟩, e4⟩ := O x a ds i
    exact ⟨e1, e2, vs, ⟨n, hs _ _ (nd _ _ e3 fun vs q => nomatch q) e3⟩, e4.mono (sq _)⟩
theorem St.targets {es : List Expr} {ts : List PyData} {vs : List Value} {ρt ρ2 : Names} {Q : Unit → Shared → Prop} {E : Value → Shared → Prop} (h : St C A s₀ pvc env ρ own s) (ht : Tgts env env.cells es ts ρt) (hv : RDs s.heap (prv own pvc) vs ts) (hu : Upds ρt ρ ρ2) (ho : ∀ y ∈ own, ∀ e, (y.1, e) ∉ ρt)
    (k : ∀ σ₂, St C A s₀ pvc env ρ2 own σ₂ → Fz C s₀ s σ₂ → Q () σ₂) : wpAny (model C.prog C.w) A (assignInOrder ((assignEach es env).map (·.2)) vs) Q E s := by
  obtain ⟨m₃, cm₃, F₃, H₃, O₃⟩ := h.fr
  refine assign_tgts h.ok ht hv F₃ fun σ₂ m' cm' F' z' H' o' => k σ₂ ⟨h.ok, h.base, z'.live _ h.live, z'.kp h.kp, h.priv, ⟨m', cm', F', fun y e i => ?_, fun y a ds i => ?_⟩, h.nd⟩ z'
  · rcases hu.sound y e i with q | ⟨q1, q2⟩
    · exact H' y e q
    · obtain ⟨v', e1, e2⟩ := H₃ y e q2
      exact ⟨v', by rw [o' y q1]; exact e1, e2.mono (z'.sq _)⟩
  · obtain ⟨e1, e2, vs, e3, e4⟩ := O₃ y a ds i
    exact ⟨by rw [o' y (ho _ i)]; exact e1, e2, vs, z'.ls e3, e4.mono (z'.sq _)⟩
inductive EnumT (C : Cx) (A : Around) (pvc : List Addr) (env : Env) (own own1 : Own) (ρ1 : Names) (es : List Expr) (body : List Stmt) (d : PyData) (Iv : Nat → Names → Own → Prop) (i : Nat) : Prop
  | mk (ρt ρ2 : Names) (h1 : Tgts env env.cells es [.int i, d] ρt) (h2 : Upds ρt ρ1 ρ2) (h3 : ∀ y ∈ own1, ∀ e, (y.1, e) ∉ ρt) (h4 : own1.map (·.2.1) = own.map (·.2.1))
      (h5 : ∀ s₁ σ, St C A s₁ pvc env ρ2 own1 σ → ∀ E, wpAny (model C.prog C.w) A (execs body env) (forQ C A s₁ pvc env own Iv (fun _ _ => False) i) E σ)
inductive EnumW (C : Cx) (A : Around) (I J l : Addr) (items : Array Value) (h0 : Heap) : Prop
  | mk (Pt : Nat → Array Value → Prop) (Ji : Nat → Heap → Prop) (Mi : Nat → Addr → Heap → Prop) (w : WalksT C.prog C.w A I [I, J, l] [I, J] items.size Pt Ji Mi)
      (hP : ∀ i vals, Pt i vals → ∃ t x, items[i]? = some x ∧ vals = #[.int i t, x])
      (live : ∀ i h, Ji i h → ∀ b ∈ [I, J, l], ∃ o, h.get? b = some o ∧ Nf o)
      (fld : ∀ i h, Ji i h → ∀ b, b = I ∨ b = J → ∀ o, h.get? b = some o → o.cls ≠ .none ∧ o.cls ≠ .type "code" ∧ ∃ vs, o.data = .fields vs)
      (start : Ji 0 h0)
theorem enumW {I J l : Addr} {items : Array Value} {h : Heap} {old : Value} (hh : A.handled = none) (hei : I ≠ J) (hle : l ≠ I) (hli : l ≠ J) (hen : IsEnum h I J 0 old) (hit : h.IsListIter J l 0) (hl : h.IsList l items) : EnumW C A I J l items h := by
  refine ⟨_, _, _, WalksT.enumerate hh I J l hei hle hli items, fun i vals q => q, ?_, ?_, ⟨⟨old, hen⟩, hit, hl⟩⟩
  · rintro i h ⟨⟨old, q1⟩, ⟨o', q2, c2, d2⟩, ⟨o3, q3, _, n3, d3⟩⟩ b hb
    simp only [List.mem_cons, List.not_mem_nil, or_false] at hb
    rcases hb with rfl | rfl | rfl
    · exact ⟨_, q1, Nf.fields (T := "enumerate") rfl rfl⟩
    · exact ⟨o', q2, Nf.fields d2 c2⟩
    · exact ⟨o3, q3, Nf.seq d3⟩
  · rintro i h ⟨⟨old, q1⟩, ⟨o', q2, c2, d2⟩, _⟩ b hb o e
    rcases hb with rfl | rfl
    · have q1 : h.get? b = some _ := q1
      rw [e] at q1; cases q1; exact ⟨(fun q => nomatch q), by show Value.type "enumerate" ≠ .type "code"; decide, _, rfl⟩
    · rw [e] at q2; cases q2; rw [c2]; exact ⟨(fun q => nomatch q), by show Value.type "list_iterator" ≠ .type "code"; decide, _, d2⟩
theorem St.forEnum {es tk tp p pos rest body} {e : Expr} {cpos : Pos} {ds : List PyData} {Q : Flow → Shared → Prop} {E : Value → Shared → Prop} (Iv : Nat → Names → Own → Prop)
    (h : St C A s₀ pvc env ρ own s) (ra : Room n A) (he : Ev C n env ρ e (.list ds)) (h0 : Iv 0 ρ own)
    (turn : ∀ (i : Nat) d, ds[i]? = some d → ∀ ρ1 own1, Iv i ρ1 own1 → EnumT C A pvc env own own1 ρ1 es body d Iv i)
    (k : ∀ ρ1 own1 s', Iv ds.length ρ1 own1 → St C A s₀ pvc env ρ1 own1 s' → wpAny (model C.prog C.w) A (execs rest env) Q E s')
    (hm : C.mg "enumerate" = none) (hv : C.mb "enumerate" = some (.type "enumerate")) (hk : autoParam (env.kindOf "enumerate" = some .globalImplicit) syR)
    (hst : autoParam (starEach [e] env = (false, eval e env) :: starEach [] env) syR) (hpl : autoParam ((starEach [e] env).all (fun x => !x.1) = true) syR)
    (hs : autoParam (∀ x, foldedSetIterable (.Call (.Name "enumerate" p) [e] [] cpos) env x = pure x) syI) :
    wpAny (model C.prog C.w) A (execs (.For (.Tuple es tk tp) (.Call (.Name "enumerate" p) [e] [] cpos) body [] pos :: rest) env) Q E s := by
  refine wpAny_execs_cons (wpAny_For ?_ hs)
  refine wpAny_Call_NameR (ev_built h.rdy hk hm hv ?_)
  refine PySem.callWith_type (star_plain hpl cpos) (evalArgs_ev ra h.rdy (.cons he .nil hst) hst fun vs s1 k1 h1 => ?_)
  obtain ⟨v, rfl, h1v⟩ := h1.inv1
  obtain ⟨l, items, rfl, ha1, ha2, ha3⟩ := h1v.list_inv
  have hlen := ha3.length
  simp only [Array.length_toList] at hlen
  refine call_enumerate_list ha2.isList fun h2 hen hit hsz hkp => ?_
  have hst1 := h.kps k1
  have k2 : Kp C s1 { s1 with heap := h2 } := Kp.keepH hkp
  refine wpAny_pyIter_enum hen ?_
  have lt1 : l < s1.heap.objs.size := let ⟨_, e⟩ := ha2; Heap.lt_size e
  have new1 : ∀ b, s1.heap.objs.size ≤ b → s1.heap.get? b = none := fun b hb => Heap.get?_none_of_le hb
  have new0 : ∀ b, s1.heap.objs.size ≤ b → s₀.heap.get? b = none := fun b hb => new_of_kp hst1.kp (new1 b hb)
  obtain ⟨J, hJ⟩ : ∃ J, s1.heap.objs.size = J := ⟨_, rfl⟩
  obtain ⟨I, hI⟩ : ∃ I, s1.heap.objs.size + 1 = I := ⟨_, rfl⟩
  rw [hI, hJ] at hen
  rw [hJ] at hit lt1 new1 new0
  rw [hI]
  have hIJ : I = J + 1 := by rw [← hI, hJ]
  obtain ⟨Pt, Ji, Mi, w, hPt, live, fld, start⟩ : EnumW C A I J l items h2 := enumW ra.handled (by rw [hIJ]; exact Nat.succ_ne_self J) (by rw [hIJ]; exact Nat.ne_of_lt (Nat.lt_succ_of_lt lt1)) (Nat.ne_of_lt lt1) hen hit (kp_list k2 ha2.isList)
  have nX : ∀ b, b = I ∨ b = J → s₀.heap.get? b = none := fun b hb => new0 b (by rcases hb with rfl | rfl; rw [hIJ]; exact Nat.le_succ J; exact Nat.le_refl _)
  have notIn : ∀ b ∈ [I, J, l], b ∉ prv own pvc := fun b hb hp => by
    simp only [List.mem_cons, List.not_mem_nil, or_false] at hb
    rcases hb with rfl | rfl | rfl
    · obtain ⟨o, e⟩ := prv_there hst1 _ hp; rw [new1 _ (by rw [hIJ]; exact Nat.le_succ J)] at e; cases e
    · obtain ⟨o, e⟩ := prv_there hst1 _ hp; rw [new1 _ (Nat.le_refl _)] at e; cases e
    · exact ha1 hp
  refine codeAny_mono (forLoop_gen (R := FinR C A s₀ pvc env (Iv ds.length)) (ForI C A s₀ pvc env (fun own1 => own1.map (·.2.1) = own.map (·.2.1)) ds.length Iv Ji (SqK (prv own pvc) s1.heap)) ?_ (ds.length + 1)
    ⟨0, ρ, own, Nat.zero_le _, rfl, h0, rfl, hst1.kps k2, start, .of_kp k2 _⟩) fun r s' hr => by obtain ⟨ρ3, own3, h3, h4⟩ := hr; exact k ρ3 own3 s' h3 h4
  rintro m σ ⟨i, ρ1, own1, hi, rfl, hIv, hown, hst, hj, hsq⟩ E
  have hX := fld i _ hj
  have keep : ∀ {h' : Heap}, (∀ b o, b ∉ [I, J] → σ.heap.get? b = some o → h'.get? b = some o) → ∀ b o, ¬ (b = I ∨ b = J) → σ.heap.get? b = some o → h'.get? b = some o := fun hk b o hb e => hk b o (by simpa using hb) e
  by_cases hlt : i < ds.length
  · obtain ⟨d, hd⟩ : ∃ d, ds[i]? = some d := ⟨_, List.getElem?_eq_getElem hlt⟩
    obtain ⟨ρt, ρ2, ht, hu, ho, _, hbody⟩ := turn i d hd ρ1 own1 hIv
    refine w.item i σ _ _ (hlen.symm ▸ hlt) hj fun T vals h₁ tk₁ hP hTn hT hmid hk₁ => ?_
    refine w.go es tk tp i T _ _ _ hmid fun h₂ j₂ hk₂ => ?_
    have hk12 : ∀ b o, b ∉ [I, J] → σ.heap.get? b = some o → h₂.get? b = some o := fun b o hb e => hk₂ b o hb (hk₁ b o hb e)
    have st₁ := hst.butP (X := fun b => b = I ∨ b = J) (tk := tk₁) nX (keep hk12) hX
    have hsq₁ : SqK (prv own pvc) s1.heap h₂ := hsq.step fun b o vs n _ e d => keep hk12 b o (fun q => by obtain ⟨_, _, ws, d'⟩ := hX b q o e; exact nomatch d.symm.trans d') e
    have hT2 : h₂.IsTuple T vals := hT.at fun o e => hk₂ T o (w.apart _ _ _ hmid) e
    obtain ⟨t, x, hx, rfl⟩ := hPt _ _ hP
    have hv : RDs h₂ (prv own1 pvc) [.int i t, x] [.int i, d] := by
      obtain ⟨v, e1, e2⟩ := ha3.get hd
      have : items.toList[i]? = some x := by simpa using hx
      rw [this] at e1; cases e1
      have e2 := e2.mono hsq₁
      unfold prv at e2 ⊢
      rw [hown]
      exact .cons (.int _ _) (.one e2)
    obtain ⟨e1, e2⟩ := tgts_len ht
    refine wpAny_assign_Tuple ra.handled hT2 (by rw [e1]; rfl) e2 fun h₃ hx₃ => ?_
    have k₃ : Kp C { σ with heap := h₂, toks := tk₁ } { σ with heap := h₃, toks := tk₁ } := Kp.keep (tk := tk₁) (s := { σ with heap := h₂, toks := tk₁ }) fun b o e => hx₃ b o (Nat.ne_of_lt (Heap.lt_size e)) e
    have st₃ := st₁.kps k₃
    refine st₃.targets ht (hv.kp k₃) hu ho fun σ₂ st₂ z' => ?_
    have fr : ∀ {a b : Heap}, Ji (i + 1) a → (∀ c ∈ [I, J, l], ∀ o, a.get? c = some o → Nf o → b.get? c = some o) → Ji (i + 1) b := fun {a b} ja hk =>
      w.frame (i + 1) a b ja fun c hc o e => by obtain ⟨o', e', n'⟩ := live _ _ ja c hc; rw [e] at e'; cases e'; exact hk c hc o e n'
    have j₄ := fr (b := σ₂.heap) (fr (b := h₃) j₂ fun c hc o e _ => hx₃ c o (Nat.ne_of_lt (Heap.lt_size e)) e) fun c hc o e n => z'.nf c o e n
    have hsq₂ := (hsq₁.step (SqK.of_kp k₃ (prv own pvc))).step (z'.sq (prv own pvc))
    obtain ⟨s₁, st₂', kr, hget⟩ := st₂.rebase
    have go : ∀ {ρ3 own3 s'}, Iv (i + 1) ρ3 own3 → own3.map (·.2.1) = own.map (·.2.1) → St C A s₁ pvc env ρ3 own3 s' → ∃ m, m < ds.length + 1 - i ∧ ForI C A s₀ pvc env (fun own1 => own1.map (·.2.1) = own.map (·.2.1)) ds.length Iv Ji (SqK (prv own pvc) s1.heap) m s' := fun h3 h4 h5 =>
      ForI.next hlt h3 h4 (h5.unbase h.base h.priv kr) (fr j₄ fun b hb o e n => st₂.stays hget h5 e n fun q => notIn b hb (List.mem_append_left _ (hown ▸ q)))
        (hsq₂.step fun b o vs n hb e d => st₂.stays hget h5 e (.seq d) fun q => hb (List.mem_append_left _ (hown ▸ q)))
    refine wpAny_mono (hbody s₁ σ₂ st₂' E) (fun f s' hf => ?_) fun _ _ e => e
    cases f with
    | next => obtain ⟨ρ3, own3, h3, h4, h5⟩ := hf; exact go h3 h4 h5
    | cont => obtain ⟨ρ3, own3, h3, h4, h5⟩ := hf; exact go h3 h4 h5
    | brk => obtain ⟨_, _, q, _⟩ := hf; exact q.elim
    | ret _ => exact hf.elim
  · have hin : i = ds.length := Nat.le_antisymm hi (Nat.le_of_not_lt hlt)
    refine w.done σ _ _ (by rw [hlen, ← hin]; exact hj) fun h₁ tk₁ hk₁ E' => ?_
    exact wpAny_execs_nil ⟨ρ1, own1, hin ▸ hIv, hst.butP (X := fun b => b = I ∨ b = J) (tk := tk₁) nX (keep hk₁) hX⟩
end
end
section -- C22
section
variable {C : Cx} {n : Nat} {A : Around} {s s' s₀ : Shared} {env : Env} {ρ ρ' : Names} {pv pvc : List Addr} {own o1 o2 : Own}
inductive InOk : Operator → Int → Int → Int → Prop
  | xor (i j) : InOk .BitXor i j (Builtin.bitXor i j)
  | or (i j) : InOk .BitOr i j (Builtin.bitOr i j)
  | shl (i j) : 0 ≤ j → (Builtin.Int.intBits i : Int) + j ≤ 2 ^ 27 → InOk .LShift i j (i * 2 ^ j.toNat)
theorem InOk.run {op i j r t u} (k : InOk op i j r) {Q : Value → Shared → Prop} {E : Value → Shared → Prop} (h : ∀ t' s', Kp C s s' → Q (.int r t') s') : wpAny (model C.prog C.w) A (inplaceOp op (.int i t) (.int j u)) Q E s := by
  induction k with
  | xor => exact PyProof.Rows.ixor_int (h _ _ Kp.tok)
  | or => exact PyProof.Rows.ior_int (h _ _ Kp.tok)
  | shl _ _ h0 hj => exact PyProof.Rows.ilshift_int h0 hj (h _ _ Kp.tok)
theorem St.aug {x p op e q rest i j r} {Q : Flow → Shared → Prop} {E : Value → Shared → Prop} (h : St C A s₀ pvc env ρ own s) (ra : Room n A) (m : (x, PyData.int i) ∈ ρ) (he : EvO C n env ρ own e (.int j)) (ki : InOk op i j r) (hu : Upd x (.int r) ρ ρ') (ho : ∀ y ∈ own, y.1 ≠ x)
    (k : ∀ s', St C A s₀ pvc env ρ' own s' → wpAny (model C.prog C.w) A (execs rest env) Q E s') (hx' : OwnN env env.cells x) (hx : autoParam ((x == ("__classdict__" : Str)) = false) syD) :
    wpAny (model C.prog C.w) A (execs (.AugAssign (.Name x p) op e q :: rest) env) Q E s := by
  obtain ⟨v, h1, h2⟩ := h.rdy.names _ _ m
  obtain ⟨t, rfl⟩ := h2.int_inv
  refine wpAny_execs_cons (wpAny_AugAssign_Name (ev_loadName h.ok h1 hx (h.evo ra he fun w s1 k1 st hw => ?_)))
  obtain ⟨u, rfl⟩ := hw.int_inv
  exact ki.run fun t' s2 k2 => (st.kps k2).store hx' (.int _ _) hu ho k
noncomputable def repS (x : Str) (k : Nat) : Str := if k = 0 then Str.empty else if k = 1 then x else ⟨(List.replicate k x.cps).foldl (· ++ ·) #[]⟩
theorem Ev.rep {l r pos x} {k : Nat} (hl : Ev C n env ρ l (.str x)) (hr : Ev C n env ρ r (.int k)) (hx : x.length = 1) (hk : k ≤ 100) (hlen : (repS x k).length ≤ sizeLine) : Ev C n env ρ (.BinOp l .Mult r pos) (.str (repS x k)) := fun A ra s pv rd Q E h => by
  refine wpAny_BinOp (hl A ra s pv rd _ _ fun a s1 k1 h1 => hr A ra s1 pv (rd.kp k1) _ _ fun b s2 k2 h2 => ?_)
  obtain ⟨t, rfl⟩ := (h1.kp k2).str_inv
  obtain ⟨u, rfl⟩ := h2.int_inv
  refine PySem.P.mul_str ?_ ?_ ?_ ?_
  · simp; omega
  · intro h1 h2; rw [hx]
    have : (1 : Int) ≤ (2 ^ 63 - 1) / (k : Int) := by
      rw [Int.le_ediv_iff_mul_le (by omega)]; omega
    omega
  · intro h1 h2
    rw [hx]
    have hss : sizeLine = 16777216 := sizeLine_eq
    simp [Builtin.Str.tooLong]
    omega
  · by_cases k0 : k = 0
    · subst k0
      rw [if_pos (by decide)]
      exact ⟨hlen, h _ _ ((k1.trans k2).trans Kp.tok) (.str _ _)⟩
    · rw [if_neg (by omega)]
      by_cases k1' : k = 1
      · subst k1'
        rw [if_pos (by simp)]
        exact h _ _ (k1.trans k2) (.str _ _)
      · have e : ((k : Int) == 1 || x.length == 0) = false := by rw [hx]; simp; omega
        rw [if_neg (by rw [e]; decide)]
        have e2 : repS x k = ⟨(List.replicate ((k : Int)).toNat x.cps).foldl (· ++ ·) #[]⟩ := by rw [repS, if_neg k0, if_neg k1', Int.toNat_natCast]
        rw [← e2]
        exact ⟨hlen, h _ _ ((k1.trans k2).trans Kp.tok) (.str _ _)⟩
theorem pf_hex {i : Int} (hl : (baseText "0x" 16 i).length ≤ sizeLine) : PFn C n (.builtin "hex") [.int i] (.str (baseText "0x" 16 i)) := fun A ra s pv vs B L P h Q E hq => by
  obtain ⟨v, rfl, h1⟩ := h.inv1
  obtain ⟨t, rfl⟩ := h1.int_inv
  exact PySem.P.hex_of_int (hq _ _ Kp.tok (.str _ _)) hl
theorem RDs.strs {h pv} {ys : List Str} {vs} (x : RDs h pv vs (ys.map PyData.str)) : StrsAre vs ys := by
  induction ys generalizing vs with
  | nil => rw [x.inv0]; exact .nil
  | cons n ns ih => obtain ⟨v, ws, rfl, a, r⟩ := x.inv; obtain ⟨t, rfl⟩ := a.str_inv; exact .cons _ _ (ih r)
theorem Ev.joinS {sep : Str} {kp apos pos e} {ys : List Str} (he : Ev C n env ρ e (.list (ys.map .str))) (hok : (ys.map (·.length)).sum + ys.length * sep.length ≤ 16777216)
    (hbase : autoParam (attributeBase (.Constant (.str sep) kc kp) "join" env (eval (.Constant (.str sep) kc kp) env) = eval (.Constant (.str sep) kc kp) env) syU)
    (hfew : autoParam (((backTo pos (starEach [e] env)).all (fun x => !x.1) && (backToKw pos (keywordEach [] env)).all (fun x => x.1.isSome) && decide ([e].length + ([] : List Keyword).length + (if ([] : List Keyword).isEmpty then 0 else 1) < 30)) = true) syR)
    (hline : autoParam ((apos.endLine == pos.line) = true) syR) (hst : autoParam (starEach [e] env = (false, eval e env) :: starEach [] env) syR) :
    Ev C n env ρ (.Call (.Attribute (.Constant (.str sep) kc kp) "join" apos) [e] [] pos) (.str (Txt.join sep ys)) := fun A ra s pv r Q E h => by
  refine wpAny_Call_method hbase hfew hline PySem.F.plainAttrs_str PySem.F.slot_str_join PySem.F.type_str_join (Ev.cstr A ra s pv r _ _ fun v s1 k1 h1 => ?_)
  obtain ⟨t, rfl⟩ := h1.str_inv
  refine ⟨by rfl, (fun a q => by cases q), ?_⟩
  refine callWith_method1 (wpAny_items_cons (he A ra s1 pv (r.kp k1) _ _ fun w s2 k2 h2 => wpAny_items_nil ?_) hst) hst
  obtain ⟨a, vs, rfl, _, l, rr⟩ := h2.list_inv
  exact PyProof.Rows.join_list l.isList rr.strs hok fun t' k => h _ _ ((k1.trans k2).trans Kp.tok) (.str _ _)
end
end
section -- C23
section
variable {C : Cx} {n : Nat} {A : Around} {s s' s₀ : Shared} {env : Env} {ρ ρ' : Names} {pv pvc : List Addr} {own o1 o2 : Own}
noncomputable def DGet (C : Cx) (d : Addr) (F : Int → Option Str) : Prop := ∀ s, Base C s → ∃ f, s.heap.MapOf (intKind C.prog C.w) d f ∧ ∀ k, match F k with | some nm => ∃ t, f k = some (.str nm t) | none => f k = none
theorem Ev.dget {x : Str} {p apos pos : Pos} {e1 e2 : Expr} {d : Addr} {F : Int → Option Str} {i : Int} {y : Str} (hg : C.mg x = some (.ref d)) (hD : DGet C d F) (hd : (d == sysModules) = false) (he1 : Ev C n env ρ e1 (.int i)) (he2 : Ev C n env ρ e2 (.str y))
    (hk : autoParam (env.kindOf x = some .globalImplicit) syR)
    (hbase : autoParam (attributeBase (.Name x p) "get" env (eval (.Name x p) env) = eval (.Name x p) env) syU)
    (hfew : autoParam (((backTo pos (starEach [e1, e2] env)).all (fun x => !x.1) && (backToKw pos (keywordEach [] env)).all (fun x => x.1.isSome) && decide ([e1, e2].length + ([] : List Keyword).length + (if ([] : List Keyword).isEmpty then 0 else 1) < 30)) = true) syR)
    (hline : autoParam ((apos.endLine == pos.line) = true) syR) (hst : autoParam (backTo pos (starEach [e1, e2] env) = [(false, eval e1 env), (false, eval e2 env)]) syR)
    (hx : autoParam ((x == ("__debug__" : Str)) = false) syD) :
    Ev C n env ρ (.Call (.Attribute (.Name x p) "get" apos) [e1, e2] [] pos) (.str ((F i).getD y)) := fun A ra s pv r Q E h => by
  obtain ⟨f, hm, hf⟩ := hD s r.base
  obtain ⟨o, es, ep, ho, hex, hdt, hks, hfd⟩ := id hm
  refine wpAny_Call_method hbase hfew hline PySem.F.plainAttrs_dict PySem.F.slot_dict_get PySem.F.type_dict_get (ev_glob r hk hg ?_ hx)
  refine ⟨⟨o, ho, hex.1⟩, (fun a q => by cases q; exact ⟨o, ho, hex.2.1⟩), ?_⟩
  rw [hst]
  refine wpAny_dict_get2 (knd := intKind C.prog C.w) hd (he1 A ra s pv r _ _ fun v s1 k1 h1 => he2 A ra s1 pv (r.kp k1) _ _ fun w s2 k2 h2 => ?_)
  obtain ⟨t, rfl⟩ := h1.int_inv
  obtain ⟨u, rfl⟩ := h2.str_inv
  have k12 := k1.trans k2
  obtain ⟨f2, hm2, hf2⟩ := hD s2 (r.base.mono k12)
  refine ⟨i, f2, by simp [intKind, Value.isInt], hm2, ?_⟩
  have hfi := hf2 i
  cases hF : F i with
  | none => rw [hF] at hfi; simp only at hfi; rw [hfi]; rw [hF] at h; exact h _ _ (k12.trans Kp.tok) (.str _ _)
  | some nm => rw [hF] at hfi; obtain ⟨t', e⟩ := hfi; rw [e]; rw [hF] at h; exact h _ _ (k12.trans Kp.tok) (.str _ _)
end
end
section -- C24
open Sem (wp)
section
variable {M : Model} {A : Around} {R : GenEnd} {Y : Protocol} {n : Nat} {s₀ : Shared} {c : Code} {fs : List Frame} {s : Shared} {env : Env}
  {K : Flow → Sem Fin} {H : Value → Sem Fin} {gd : Bool → Bool} {lv : List Value → List Value}
theorem seg_For {target iter : Expr} {body orelse : List Stmt} {pos : Pos} (hs : ∀ x, foldedSetIterable iter env x = pure x)
    (h : ∀ E, wpAny M (A.over c fs) (eval iter env) (fun x s₁ => wpAny M (A.over c fs) (pyIter x) (fun it s₂ => ∀ p l, Seg M A R Y n s₀ (.forLoop target it body orelse env) (M.den (.forLoop target it body orelse env))
      (.ret (fun r => ((match r with | .ok f => (.pure f : Sem Flow) | .error e => .raise e).onRaise fun (x : Value) => do
        if (← field x 1) == Value.none then unsupported "frame.own-activation:exception-without-traceback"
        setFlight x env.frame).wrap K H gd lv) none (gd false) l c p [] :: fs) s₂) E s₁) E s) :
    Seg M A R Y n s₀ c ((exec (.For target iter body orelse pos) env).wrap K H gd lv) fs s := by
  rw [exec_For]
  refine seg_at ?_
  show Seg M A R Y n s₀ c ((eval iter env >>= fun v => (foldedSetIterable iter env v >>= fun x => standAt iter.pos >>= fun _ => (holding [x] (pyIter x)) >>= fun it => runOwn (.forLoop target it body orelse env) env)).wrap K H gd lv) fs s
  rw [Sem.bind_eq_wrap', Sem.wrap_wrap]
  refine seg_wrap (wpAny_mono (h _) (fun x s₁ h₁ => ?_) fun _ _ e => e)
  rw [hs]
  refine seg_at ?_
  show Seg M A R Y n s₀ c (((holding [x] (pyIter x)) >>= fun it => runOwn (.forLoop target it body orelse env) env).wrap K H gd lv) fs s₁
  rw [Sem.bind_eq_wrap', Sem.wrap_wrap]
  refine seg_wrap (wpAny_holding (wpAny_mono h₁ (fun it s₂ h₂ => ?_) fun _ _ e => e))
  exact seg_call fun p => h₂ p _
end
section
variable {prog : Program} {w : World} {A : Around} {R : GenEnd} {Y : Protocol} {n : Nat} {s₀ : Shared} {fs : List Frame} {s : Shared} {env : Env}
theorem seg_forLoop {target : Expr} {it : Value} {body orelse : List Stmt}
    (h : ∀ E, wpAny (model prog w) (A.over (.forLoop target it body orelse env) fs) (pyNext it) (fun r s₁ => match r with
      | none => Seg (model prog w) A R Y n s₀ (.block orelse env) ((execs orelse env).wrap (fun f => .pure (.done f)) (fun e => (do noteFrame e env; theTreesLotGoes e : Sem Unit).wrap (fun _ => .raise e) .raise id id) id id) fs s₁
      | some v => wpAny (model prog w) (A.over (.forLoop target it body orelse env) fs) (letOwnedTupleGo target it v) (fun _ s₂ => wpAny (model prog w) (A.over (.forLoop target it body orelse env) fs) (assign target env v) (fun _ s₃ =>
          Seg (model prog w) A R Y n s₀ (.forLoop target it body orelse env) ((execs body env).wrap (fun f => match f with
            | .next | .cont => .pure (.again (.forLoop target it body orelse env))
            | .brk => .pure (.done .next)
            | .ret v => .pure (.done (.ret v))) (fun e => (do noteFrame e env; theTreesLotGoes e : Sem Unit).wrap (fun _ => .raise e) .raise id id) id id) fs s₃) E s₂) E s₁) E s) :
    Seg (model prog w) A R Y n s₀ (.forLoop target it body orelse env) ((model prog w).den (.forLoop target it body orelse env)) fs s := by
  have eH : ∀ e, (fun e => (do noteFrame e env; theTreesLotGoes e : Sem Unit).bind fun _ => (.raise e : Sem PySem.Fin)) e = (fun e => (do noteFrame e env; theTreesLotGoes e : Sem Unit).wrap (fun _ => .raise e) .raise id id) e := fun e => Sem.bind_eq_wrap _ _
  show Seg _ A R Y n s₀ _ ((forTurn target it body orelse env).onRaise (fun x => do noteFrame x env; theTreesLotGoes x)) fs s
  unfold forTurn
  rw [Sem.onRaise_eq_wrap]
  refine seg_at ?_
  show Seg _ A R Y n s₀ _ (((pyNext it).onRaise (fun _ => standAt { target.pos with line := 0 }) >>= fun r => match r with
    | none => again (.block orelse env)
    | some v => letOwnedTupleGo target it v >>= fun _ => assign target env v >>= fun _ => execs body env >>= fun f => match f with
      | .next | .cont => again (.forLoop target it body orelse env)
      | .brk => pure (.done .next)
      | .ret v => pure (.done (.ret v))).wrap .pure (fun e => (do noteFrame e env; theTreesLotGoes e : Sem Unit).bind fun _ => .raise e) id id) fs s
  rw [Sem.bind_eq_wrap', Sem.wrap_wrap]
  refine seg_wrap (wpAny_onRaise (wpAny_mono (h _) (fun r s₁ h₁ => ?_) fun e s' he => wpAny_standAt he))
  cases r with
  | none =>
    refine seg_again rfl ?_
    show Seg _ A R Y n s₀ _ (((execs orelse env).onRaise (fun x => do noteFrame x env; theTreesLotGoes x)) >>= fun f => pure (.done f)) fs s₁
    rw [Sem.onRaise_eq_wrap, Sem.bind_eq_wrap', Sem.wrap_wrap]
    rw [Sem.wrap_congr (execs orelse env) _ _ (K' := fun f => (.pure (.done f) : Sem PySem.Fin)) (H' := (fun e => (do noteFrame e env; theTreesLotGoes e : Sem Unit).wrap (fun _ => .raise e) .raise id id)) (fun f => by rfl) (fun e => by
      rw [Sem.bind_eq_wrap, Sem.wrap_wrap]; rfl)]
    exact h₁
  | some v =>
    show Seg _ A R Y n s₀ _ ((letOwnedTupleGo target it v >>= fun _ => assign target env v >>= fun _ => execs body env >>= fun f => match f with
      | .next | .cont => again (.forLoop target it body orelse env)
      | .brk => pure (.done .next)
      | .ret v => pure (.done (.ret v))).wrap .pure (fun e => (do noteFrame e env; theTreesLotGoes e : Sem Unit).bind fun _ => .raise e) id id) fs s₁
    rw [Sem.bind_eq_wrap', Sem.wrap_wrap]
    refine seg_wrap (wpAny_mono h₁ (fun _ s₂ h₂ => ?_) fun _ _ e => e)
    rw [Sem.bind_eq_wrap', Sem.wrap_wrap]
    refine seg_wrap (wpAny_mono h₂ (fun _ s₃ h₃ => ?_) fun _ _ e => e)
    rw [Sem.bind_eq_wrap', Sem.wrap_wrap]
    rw [Sem.wrap_congr (execs body env) _ _ (K' := fun f => match f with
            | .next | .cont => .pure (.again (.forLoop target it body orelse env))
            | .brk => .pure (.done .next)
            | .ret v => .pure (.done (.ret v))) (H' := (fun e => (do noteFrame e env; theTreesLotGoes e : Sem Unit).wrap (fun _ => .raise e) .raise id id)) (fun f => by cases f <;> rfl) (fun e => by show (do noteFrame e env; theTreesLotGoes e : Sem Unit).bind (fun _ => .raise e) = _; rw [Sem.bind_eq_wrap])]
    exact h₃
end
end
section -- C25
noncomputable def _root_.PySem.Shared.sansL (s : Shared) (X : List Addr) : Shared := { s with heap := hideAll s.heap X }
section
variable {C : Cx} {n : Nat} {A : Around} {s s' s₀ : Shared} {env : Env} {ρ ρ' : Names} {pv pvc : List Addr} {own o1 o2 : Own}
theorem sansL_get {X : List Addr} {b : Addr} {o : Obj} (e : s.heap.get? b = some o) (h : b ∉ X) : (s.sansL X).heap.get? b = some o := hideAll_get _ e h
theorem sansL_none {X : List Addr} {b : Addr} (h : b ∈ X) : (s.sansL X).heap.get? b = none := hideAll_none _ h
theorem of_sansL {X : List Addr} {b : Addr} {o : Obj} (e : (s.sansL X).heap.get? b = some o) : s.heap.get? b = some o := of_hideAll _ e
theorem sansL_out {X : List Addr} {b : Addr} {o : Obj} (e : (s.sansL X).heap.get? b = some o) : b ∉ X := fun h => by rw [sansL_none h] at e; cases e
theorem kp_sansL {X : List Addr} (h0 : ∀ b ∈ X, s.heap.get? b = none) (k : Kp C s s') (hL : ∀ b ∈ X, ∀ o, s'.heap.get? b = some o → o.cls ≠ .none ∧ o.cls ≠ .type "code") : Kp C s (s'.sansL X) := by
  have ne : ∀ {b o}, s.heap.get? b = some o → b ∉ X := fun e q => by rw [h0 _ q] at e; cases e
  refine ⟨fun b o e n => let ⟨sl, e1, q⟩ := k.sub' b o e n; ⟨sl, sansL_get e1 (ne e), q⟩, fun b ps e t => ?_, fun T y hy => ?_, k.os, k.gens⟩
  · rcases k.tab b ps e t with q | ⟨hm, more, q, t'⟩
    · exact .inl (sansL_get q (ne e))
    · exact .inr ⟨hm, more, sansL_get q (ne e), t'⟩
  · obtain ⟨ps, h1, h2, h3⟩ := k.tabs T y hy
    refine ⟨ps, sansL_get h1 (fun q => (hL _ q _ h1).1 rfl), h2, fun pos v e => ?_⟩
    obtain ⟨c', rfl, o, vs, tk, e2, e3, e4, e5⟩ := h3 pos v e
    exact ⟨c', rfl, o, vs, tk, sansL_get e2 (fun q => (hL _ q _ e2).2 e3), e3, e4, e5⟩
theorem kp_chg {X : List Addr} {h' : Heap} {tk : Nat} (hk : ∀ b o, b ∉ X → s.heap.get? b = some o → ∃ sl, h'.get? b = some { o with slots := sl } ∧ (sl = o.slots ∨ FrO C b o)) : Kp C (s.sansL X) { s with heap := h', toks := tk } := by
  have ex : ∀ b o vs, (s.sansL X).heap.get? b = some o → o.data = .fields vs → h'.get? b = some o := fun b o vs e d => by
    obtain ⟨sl, e1, rfl | ⟨_, es, m, d'⟩⟩ := hk b o (sansL_out e) (of_sansL e)
    · exact e1
    · exact nomatch d.symm.trans d'
  refine ⟨fun b o e n => hk b o (sansL_out e) (of_sansL e), fun b ps e t => .inl (ex b _ _ e rfl), fun T y hy => ?_, rfl, .refl _⟩
  obtain ⟨ps, h1, h2, h3⟩ := T y hy
  refine ⟨ps, ex _ _ _ h1 rfl, h2, fun pos v e => ?_⟩
  obtain ⟨c', rfl, o, vs, tk, e2, e3, e4, e5⟩ := h3 pos v e
  exact ⟨c', rfl, o, vs, tk, ex _ _ _ e2 e4, e3, e4, e5⟩
theorem St.chg {X : List Addr} (h : St C A s₀ pvc env ρ own s) (hX : ∀ b ∈ X, s₀.heap.get? b = none ∧ b ∉ privA env own ∧ ∀ o, s.heap.get? b = some o → (∀ vs n, o.data ≠ .seq vs n) ∧ o.cls ≠ .none ∧ o.cls ≠ .type "code")
    (k : Kp C (s.sansL X) s') (hl : Live C A s') : St C A s₀ pvc env ρ own s' := by
  obtain ⟨m, cm, F, H, O⟩ := h.fr
  have k0 : Kp C s₀ s' := (kp_sansL (fun b hb => (hX b hb).1) h.kp fun b hb o e => ((hX b hb).2.2 o e).2).trans k
  have sq : SqK (prv own pvc) s.heap s'.heap := fun b o vs n hb e d => k.sub b o (sansL_get e fun q => ((hX b q).2.2 o e).1 _ _ d) (nt_seq d)
  have nL : env.locals ∉ X := fun q => (hX _ q).2.1 List.mem_cons_self
  have nC : ∀ x c, env.cells.lookup x = some c → c ∉ X := fun x c hc q => (hX _ q).2.1 (List.mem_cons_of_mem _ (List.mem_append_left _ (cellAs_mem hc)))
  refine ⟨h.ok, h.base, hl, k0, h.priv, ⟨m, cm, ⟨?_, F.new, F.same, fun x c hc => ⟨?_, (F.cell x c hc).2⟩, F.apart⟩, fun x d i => ?_, fun x a ds i => ?_⟩, h.nd⟩
  · obtain ⟨o, es, ep, e, d, r⟩ := F.ns
    exact kp_ns k ⟨o, es, ep, sansL_get e nL, d, r⟩
  · obtain ⟨o, e, d⟩ := (F.cell x c hc).1
    exact kp_cell k ⟨o, sansL_get e (nC x c hc), d⟩
  · obtain ⟨v, e1, e2⟩ := H x d i
    exact ⟨v, e1, e2.mono sq⟩
  · obtain ⟨e1, e2, vs, ⟨n, e3⟩, e4⟩ := O x a ds i
    exact ⟨e1, e2, vs, kp_ls k ⟨n, sansL_get e3 fun q => ((hX _ q).2.2 _ e3).1 _ _ rfl⟩, e4.mono sq⟩
noncomputable def Tw (C : Cx) (s₀ s s' : Shared) : Prop := ∃ X : List Addr, (∀ b ∈ X, s₀.heap.get? b = none ∧ ∀ o, s.heap.get? b = some o → (∃ vs, o.data = .fields vs) ∧ o.cls ≠ .none ∧ o.cls ≠ .type "code") ∧ Kp C (s.sansL X) s'
theorem Tw.of_kp (k : Kp C s s') : Tw C s₀ s s' := ⟨[], (fun _ h => nomatch h), by
  have e : s.sansL [] = s := rfl
  rw [e]; exact k⟩
theorem Tw.kp (t : Tw C s₀ s s') (k : Kp C s₀ s) : Kp C s₀ s' := let ⟨X, hX, k'⟩ := t; (kp_sansL (fun b hb => (hX b hb).1) k fun b hb o e => ((hX b hb).2 o e).2).trans k'
theorem Tw.live (t : Tw C s₀ s s') (h : Live C A s) : Live C A s' := by
  obtain ⟨X, hX, k'⟩ := t
  obtain ⟨l, a, b⟩ := h
  exact Live.mono (s := s.sansL X) ⟨l, a, b.mono fun L _ ⟨o, es, n, e, d⟩ => ⟨o, es, n, sansL_get e (fun q => by obtain ⟨⟨vs, d'⟩, _⟩ := (hX L q).2 o e; exact nomatch d.symm.trans d'), d⟩⟩ k'
theorem Tw.st (t : Tw C s₀ s s') (h : St C A s₀ pvc env ρ own s) : St C A s₀ pvc env ρ own s' := by
  have hl := t.live h.live
  obtain ⟨X, hX, k⟩ := t
  refine h.chg (fun b hb => ⟨(hX b hb).1, fun q => ?_, fun o e => ?_⟩) k hl
  · obtain ⟨_, o, e, n⟩ := h.privs b q
    obtain ⟨⟨vs, d⟩, _⟩ := (hX b hb).2 o e
    exact n vs d
  · obtain ⟨⟨vs, d⟩, h1, h2⟩ := (hX b hb).2 o e
    exact ⟨fun _ _ q => (nomatch d.symm.trans q), h1, h2⟩
noncomputable def Fly (s₀ s : Shared) (e : Addr) (X : String) (a0 : Value) (fl : Option Value) : Prop :=
  s₀.heap.get? e = none ∧ ∃ oe vs, s.heap.get? e = some oe ∧ oe.cls = .type X ∧ oe.data = .fields vs ∧ vs[0]? = some a0 ∧
    match fl with
    | none => vs[1]? = some .none
    | some x => ∃ T oT ts, vs[1]? = some (.ref T) ∧ T ≠ e ∧ s₀.heap.get? T = none ∧ s.heap.get? T = some oT ∧ oT.cls = .type "traceback" ∧ oT.data = .fields ts ∧ ts[3]? = some x
theorem nd_rec {o : Obj} {vs T} (d : o.data = .fields vs) (c : o.cls = .type T) : Nd o := ⟨nt_cls (by rw [c]; exact fun q => nomatch q), fun _ _ q => nomatch d.symm.trans q⟩
theorem Fly.down {s1 : Shared} {e X a0 fl} (x : Fly s1 s e X a0 fl) (k : Kp C s₀ s1) : Fly s₀ s e X a0 fl := by
  obtain ⟨h0, oe, vs, h1, h2, h3, h4, h5⟩ := x
  refine ⟨new_of_kp k h0, oe, vs, h1, h2, h3, h4, ?_⟩
  cases fl with
  | none => exact h5
  | some x =>
    obtain ⟨T, oT, ts, g1, g2, g3, g4, g5, g6, g7⟩ := h5
    exact ⟨T, oT, ts, g1, g2, new_of_kp k g3, g4, g5, g6, g7⟩
theorem Fly.typeIs {e X a0 fl} (x : Fly s₀ s e X a0 fl) : s.TypeIs (.ref e) X := let ⟨_, oe, vs, h1, h2, _⟩ := x; ⟨oe, h1, h2⟩
section
variable {M : Model}
theorem type_ne_none {T : String} {o : Obj} (c : o.cls = .type T) : o.cls ≠ .none := by rw [c]; exact fun q => nomatch q
theorem wp_newEntry {E : Value → Shared → Prop} {outer : List Env} {L e : Addr} {oe : Obj} {vs : Array Value} {head : Value} {hadNext : Bool} {Q : Unit → Shared → Prop}
    (hfr : A.frames = some (env :: outer)) (hl : DFr C.h₁ s.heap (env :: outer)) (hf : env.frame = some L) (he : s.heap.get? e = some oe) (hd : oe.data = .fields vs) (hsz : 1 < vs.size)
    (h : ∀ h' T ts, s.heap.get? T = none → T ≠ e → (∀ b o, b ≠ e → s.heap.get? b = some o → ∃ sl, h'.get? b = some { o with slots := sl } ∧ (sl = o.slots ∨ FrO C b o)) → h'.get? e = some (oe.mapFields (·.setIfInBounds 1 (.ref T))) →
      h'.get? T = some { cls := .type "traceback", data := .fields ts } → ts[3]? = some (rawInt L) → Q () { s with heap := h' }) :
    wpAny M A (do let a ← frameOf env; let pl ← entryPlaceOf L hadNext; let b ← EntryCells.newEntry head a .none (rawInt L) .none pl; setField (.ref e) 1 b) Q E s := by
  have hlf := hl.fun
  have hdict : ∀ b, b ∈ (env :: outer).filterMap (·.frame) → ∀ o, s.heap.get? b = some o → FrO C b o := fun b hb o eo => by
    obtain ⟨env', he', hf'⟩ := List.mem_filterMap.mp hb
    obtain ⟨_, L', g1, g2, o', es, n, g3, g4⟩ := hl env' he'
    rw [hf'] at g1; cases g1
    rw [eo] at g3; cases g3
    exact ⟨g2, es, n, g4⟩
  have hene : e ∉ (env :: outer).filterMap (·.frame) := fun hm => by
    obtain ⟨_, o, ho, hnf⟩ := hlf.mem hm
    rw [he] at ho; injection ho with ho; subst ho; exact hnf vs hd
  refine wpAny_bind (wpAny_frameOf_fun hfr hlf hf fun h₁ hs₁ => ?_)
  refine wpAny_bind (wpAny_entryPlaceOf fun pl hpl => ?_)
  unfold EntryCells.newEntry newFields
  refine wpAny_bind (wpAny_newObj_type ?_ (hpl.sizeOk5 _ _ _ _ _))
  have he₁ : h₁.get? e = some oe := (hs₁.2.1 e hene).trans he
  have he₂ := Heap.get?_push_of_some (h := h₁) { cls := .type "traceback", dict := none, data := .fields ([head, .ref L, .none, rawInt L, .none] ++ (if pl.isEmpty then List.replicate 6 Value.none else pl)).toArray } he₁
  have hTe : h₁.objs.size ≠ e := Nat.ne_of_gt (Heap.lt_size he₁)
  have hd₃ := Obj.data_mapFields hd (·.setIfInBounds 1 (Value.ref h₁.objs.size))
  have he₃ := Heap.get?_update_self (Obj.mapFields (·.setIfInBounds 1 (Value.ref h₁.objs.size))) he₂ (Obj.isFreed_of_fields hd₃)
  have hT₃ := (Heap.get?_update_other (h₁.push { cls := .type "traceback", dict := none, data := .fields ([head, .ref L, .none, rawInt L, .none] ++ (if pl.isEmpty then List.replicate 6 Value.none else pl)).toArray })
    (Obj.mapFields (·.setIfInBounds 1 (Value.ref h₁.objs.size))) (Ne.symm hTe)).trans (Heap.get?_push_size h₁ rfl)
  refine wpAny_setField he₂ hd hsz (h _ h₁.objs.size _ ?_ hTe (fun b o hbe hb => ?_) he₃ hT₃ ?_)
  · cases q : s.heap.get? h₁.objs.size with
    | none => rfl
    | some o => exact absurd (Heap.lt_size q) (by rw [hs₁.1]; exact Nat.lt_irrefl _)
  · have up : ∀ o', h₁.get? b = some o' → (((h₁.push { cls := .type "traceback", dict := none, data := .fields ([head, .ref L, .none, rawInt L, .none] ++ (if pl.isEmpty then List.replicate 6 Value.none else pl)).toArray }).update e (Obj.mapFields (·.setIfInBounds 1 (Value.ref h₁.objs.size)))).get? b = some o') := fun o' e' => by
      rw [Heap.get?_update_other _ _ (Ne.symm hbe)]
      exact Heap.get?_push_of_some _ e'
    by_cases hm : b ∈ (env :: outer).filterMap (·.frame)
    · obtain ⟨sl, e1⟩ := hs₁.2.2 b o hb
      exact ⟨sl, up _ e1, .inr (hdict b hm o hb)⟩
    · exact ⟨o.slots, up _ ((hs₁.2.1 b hm).trans hb), .inl rfl⟩
  · first | (simp; done) | (rcases hpl with rfl | ⟨_, _, _, _, _, _, _, rfl⟩ <;> simp)
theorem wp_setFlight {E : Value → Shared → Prop} {e X a0 fl fr} {Q : Unit → Shared → Prop} (x : Fly s₀ s e X a0 fl)
    (h : ∀ s', Tw C s₀ s s' → Fly s₀ s' e X a0 (fl.map fun _ => (fr : Option Addr).elim .none fun f => rawInt f) → Q () s') : wpAny M A (setFlight (.ref e) fr) Q E s := by
  obtain ⟨h0, oe, vs, h1, h2, h3, h4, h5⟩ := x
  unfold setFlight
  cases fl with
  | none =>
    refine wpAny_bind (wpAny_field h1 h3 h5 ?_)
    rw [if_neg (by decide)]
    exact wpAny_pure (h s (.of_kp (.refl _ _)) ⟨h0, oe, vs, h1, h2, h3, h4, h5⟩)
  | some x =>
    obtain ⟨T, oT, ts, g1, g2, g3, g4, g5, g6, g7⟩ := h5
    refine wpAny_bind (wpAny_field h1 h3 g1 ?_)
    rw [if_pos (show (Value.ref T != Value.none) = true from by simp)]
    have hd₃ := Obj.data_mapFields g6 (·.setIfInBounds 3 ((fr : Option Addr).elim .none fun f => rawInt f))
    have hsz := (Array.getElem?_eq_some_iff.mp g7).1
    refine wpAny_setField g4 g6 hsz (h _ ⟨[T], fun b hb => ?_, kp_chg (tk := s.toks) fun b o hb e => kx ?_⟩ ⟨h0, oe, vs, ?_, h2, h3, h4, T, _, _, g1, g2, g3, Heap.get?_update_self _ g4 (Obj.isFreed_of_fields hd₃), ?_, hd₃, ?_⟩)
    · rw [List.mem_singleton.mp hb]
      exact ⟨g3, fun o e => by rw [g4] at e; cases e; exact ⟨⟨_, g6⟩, type_ne_none g5, by rw [g5]; decide⟩⟩
    · rw [Heap.get?_update_other _ _ fun q => hb (by simp [q])]; exact e
    · rw [Heap.get?_update_other _ _ g2]; exact h1
    · rw [Obj.cls_mapFields]; exact g5
    · simp [hsz]
theorem rec_cls {X : String} {oe : Obj} {vs : Array Value} (h2 : oe.cls = .type X) (h3 : oe.data = .fields vs) (hX : X ≠ "code") : (∃ vs, oe.data = .fields vs) ∧ oe.cls ≠ .none ∧ oe.cls ≠ .type "code" :=
  ⟨⟨_, h3⟩, type_ne_none h2, by rw [h2]; intro q; injection q with q; exact hX q⟩
theorem fly_entry {e X a0} {oe : Obj} {vs : Array Value} {L : Addr} {h' : Heap} {T : Addr} {ts : Array Value} (h0 : s₀.heap.get? e = none) (k : Kp C s₀ s) (h2 : oe.cls = .type X) (h3 : oe.data = .fields vs) (h4 : vs[0]? = some a0) (hsz : 1 < vs.size)
    (hT : s.heap.get? T = none) (hTe : T ≠ e) (ge : h'.get? e = some (oe.mapFields (·.setIfInBounds 1 (.ref T)))) (gT : h'.get? T = some { cls := .type "traceback", data := .fields ts }) (g3 : ts[3]? = some (rawInt L)) (tk : Nat) :
    Fly s₀ { s with heap := h', toks := tk } e X a0 (some (rawInt L)) := by
  have hd₃ := Obj.data_mapFields h3 (·.setIfInBounds 1 (Value.ref T))
  refine ⟨h0, _, _, ge, by rw [Obj.cls_mapFields]; exact h2, hd₃, ?_, T, _, ts, ?_, hTe, new_of_kp k hT, gT, rfl, rfl, g3⟩
  · rw [Array.getElem?_setIfInBounds_ne (by decide)]; exact h4
  · simp [hsz]
theorem wp_noteFrame {E : Value → Shared → Prop} {outer : List Env} {L e : Addr} {X : String} {a0 fl} {Q : Unit → Shared → Prop} (k : Kp C s₀ s) (hfr : A.frames = some (env :: outer)) (hl : DFr C.h₁ s.heap (env :: outer)) (hf : env.frame = some L)
    (x : Fly s₀ s e X a0 fl) (hX : X ≠ "code") (h : ∀ s', Tw C s₀ s s' → Fly s₀ s' e X a0 (some (rawInt L)) → Q () s') : wpAny M A (noteFrame (.ref e) env) Q E s := by
  obtain ⟨h0, oe, vs, h1, h2, h3, h4, h5⟩ := x
  unfold noteFrame
  simp only [hf]
  cases fl with
  | none =>
    refine wpAny_bind (wpAny_field h1 h3 h5 ?_)
    rw [if_neg (by decide)]
    have hsz := (Array.getElem?_eq_some_iff.mp h5).1
    refine wp_newEntry hfr hl hf h1 h3 hsz fun h' T ts hT hTe hk ge gT g3 => h _ ⟨[e], fun b hb => ?_, kp_chg (tk := s.toks) fun b o hb eo => hk b o (fun q => hb (by simp [q])) eo⟩ (fly_entry h0 k h2 h3 h4 hsz hT hTe ge gT g3 s.toks)
    rw [List.mem_singleton.mp hb]
    exact ⟨h0, fun o eo => by rw [h1] at eo; cases eo; exact rec_cls h2 h3 hX⟩
  | some x =>
    obtain ⟨T, oT, ts, g1, g2, g3, g4, g5, g6, g7⟩ := h5
    refine wpAny_bind (wpAny_field h1 h3 g1 ?_)
    rw [if_pos (show (Value.ref T != Value.none) = true from by simp)]
    refine wpAny_bind (wpAny_field g4 g6 g7 ?_)
    by_cases hx : (x == rawInt L) = true
    · rw [if_pos hx]
      have := eq_of_beq hx
      subst this
      exact wpAny_pure (h s (.of_kp (.refl _ _)) ⟨h0, oe, vs, h1, h2, h3, h4, T, oT, ts, g1, g2, g3, g4, g5, g6, g7⟩)
    · rw [if_neg hx]
      have hsz := (Array.getElem?_eq_some_iff.mp g1).1
      have hsz7 := (Array.getElem?_eq_some_iff.mp g7).1
      have hd₃ := Obj.data_mapFields g6 (·.setIfInBounds 3 Value.none)
      have fT := rec_cls g5 g6 (by decide)
      refine wpAny_bind (wpAny_setField g4 g6 hsz7 ?_)
      have other : ∀ b, b ≠ T → (s.heap.update T (Obj.mapFields (·.setIfInBounds 3 Value.none))).get? b = s.heap.get? b := fun b hb => Heap.get?_update_other _ _ (Ne.symm hb)
      have kU : Kp C s₀ { s with heap := s.heap.update T (Obj.mapFields (·.setIfInBounds 3 Value.none)) } := k.ext (tk := s.toks) g3 (fun o eo => by rw [g4] at eo; cases eo; exact fT.2) fun b o hb eo => (other b hb).trans eo
      refine wp_newEntry (C := C) (s := { s with heap := s.heap.update T (Obj.mapFields (·.setIfInBounds 3 Value.none)) }) hfr (hl.mono fun L' _ ⟨o, es, n, eo, d⟩ => ⟨o, es, n, (other L' fun q => by rw [q, g4] at eo; cases eo; exact nomatch d.symm.trans g6).trans eo, d⟩) hf ((other e (Ne.symm g2)).trans h1) h3 hsz
        fun h' T' ts' hT' hTe' hk ge gT g3' => h _ ⟨[e, T], fun b hb => ?_, kp_chg (tk := s.toks) fun b o hb eo => hk b o (fun q => hb (by simp [q])) ((other b fun q => hb (by simp [q])).trans eo)⟩ (fly_entry h0 kU h2 h3 h4 hsz hT' hTe' ge gT g3' s.toks)
      rcases List.mem_cons.mp hb with rfl | hb
      · exact ⟨h0, fun o eo => by rw [h1] at eo; cases eo; exact rec_cls h2 h3 hX⟩
      · rw [List.mem_singleton.mp hb]
        exact ⟨g3, fun o eo => by rw [g4] at eo; cases eo; exact fT⟩
end
end
end
section -- C26
section
variable {C : Cx} {n : Nat} {A A0 : Around} {s s' s₀ : Shared} {env : Env} {ρ ρ' : Names} {pv pvc : List Addr} {own o1 o2 : Own} {om : Option Str} {X : String} {e : Addr} {fl : Option Value} {E : Value → Shared → Prop} {M : Model}
noncomputable def MsgIs (om : Option Str) (h : Heap) (a0 : Value) : Prop := match om with | none => True | some m => ∃ t0 tk, a0 = .ref t0 ∧ h.TupAt t0 [.str m tk]
theorem MsgIs.tw {a0} (x : MsgIs om s.heap a0) (t : Tw C s₀ s s') : MsgIs om s'.heap a0 := by
  obtain ⟨Y, hY, k⟩ := t
  cases om with
  | none => trivial
  | some m =>
    obtain ⟨t0, tk, e1, o, n, h1, h2, h3⟩ := x
    exact ⟨t0, tk, e1, o, n, k.sub _ _ (sansL_get h1 fun q => by obtain ⟨⟨vs, d⟩, _⟩ := (hY _ q).2 o h1; exact nomatch d.symm.trans h3) (nt_seq h3), h2, h3⟩
noncomputable def Exn (om : Option Str) (s₀ s : Shared) (e : Addr) (X : String) (fl : Option Value) : Prop := ∃ a0, Fly s₀ s e X a0 fl ∧ MsgIs om s.heap a0
theorem Exn.down {s1 : Shared} (x : Exn om s1 s e X fl) (k : Kp C s₀ s1) : Exn om s₀ s e X fl := let ⟨a, h1, h2⟩ := x; ⟨a, h1.down k, h2⟩
theorem Exn.typeIs (x : Exn om s₀ s e X fl) : s.TypeIs (.ref e) X := let ⟨_, h, _⟩ := x; h.typeIs
theorem Exn.setf {fr : Option Addr} {Q : Unit → Shared → Prop} (x : Exn om s₀ s e X fl) (h : ∀ s', Tw C s₀ s s' → Exn om s₀ s' e X (fl.map fun _ => fr.elim .none fun f => rawInt f) → Q () s') : wpAny M A (setFlight (.ref e) fr) Q E s :=
  let ⟨a, h1, h2⟩ := x; wp_setFlight h1 fun s' t f => h s' t ⟨a, f, h2.tw t⟩
theorem live_top (h : Live C (A0.deeper env) s) : ∃ outer, (A0.deeper env).frames = some (env :: outer) ∧ DFr C.h₁ s.heap (env :: outer) := by
  obtain ⟨l, a, b⟩ := h
  have a' : A0.frames.map (env :: ·) = some l := a
  cases q : A0.frames with
  | none => rw [q] at a'; cases a'
  | some l0 =>
    rw [q] at a'
    cases a'
    exact ⟨l0, a, b⟩
theorem Exn.note {Q : Unit → Shared → Prop} (x : Exn om s₀ s e X fl) (k : Kp C s₀ s) (L : Live C (A0.deeper env) s) (hf : env.frame = some env.locals) (hX : X ≠ "code")
    (h : ∀ s', Tw C s₀ s s' → Exn om s₀ s' e X (some (rawInt env.locals)) → Q () s') : wpAny M (A0.deeper env) (noteFrame (.ref e) env) Q E s := by
  obtain ⟨a, h1, h2⟩ := x
  obtain ⟨outer, f1, f2⟩ := live_top L
  exact wp_noteFrame k f1 f2 hf h1 hX fun s' t f => h s' t ⟨a, f, h2.tw t⟩
theorem Exn.loop {fl : Option Value} (st : St C (A0.deeper env) s₀ pvc env ρ own s) (hf : env.frame = some env.locals) (hX : X ≠ "code") (x : Exn om s₀ s e X fl) (h : ∀ s' fl', St C (A0.deeper env) s₀ pvc env ρ own s' → Exn om s₀ s' e X fl' → E (.ref e) s') :
    notedBy (model C.prog C.w) (A0.deeper env) env (cameBackBy (model C.prog C.w) (A0.deeper env) env E) (.ref e) s := by
  refine x.note st.kp st.live hf hX fun s1 t1 x1 => ?_
  have st1 := t1.st st
  unfold cameBackBy
  have x1' := x1
  obtain ⟨a, ⟨g0, oe, vs, g1, g2, g3, g4, T, oT, ts, g5, _⟩, _⟩ := x1
  refine wpAny_bind (wpAny_field g1 g3 g5 ?_)
  rw [if_neg (show ¬ ((Value.ref T == Value.none) = true) from Bool.false_ne_true)]
  exact x1'.setf fun s2 t2 x2 => h s2 _ (t2.st st1) x2
theorem Exn.leave {R : Shared → Prop} (x : Exn om s₀ s e X fl) (k : Kp C s₀ s) (L : Live C (A0.deeper env) s) (hf : env.frame = some env.locals) (hX : X ≠ "code") (h : ∀ s', Kp C s₀ s' → Exn om s₀ s' e X (some .none) → R s') :
    wpAny M (A0.deeper env) (leaving env (.ref e)) (fun _ s' => R s') E s := by
  unfold leaving
  refine wpAny_bind (x.note k L hf hX fun s1 t1 x1 => ?_)
  have k1 := t1.kp k
  exact x1.setf fun s2 t2 x2 => h s2 (t2.kp k1) x2
noncomputable def PFnX (C : Cx) (n : Nat) (f : Value) (args : List PyData) (om : Option Str) (X : String) : Prop :=
  ∀ A, Room n A → ∀ s pv vs, Base C s → Live C A s → (∀ p ∈ pv, ∃ o, s.heap.get? p = some o) → RDs s.heap pv vs args → ∀ Q E,
    (∀ x fl s', Kp C s s' → Exn om s s' x X fl → E (.ref x) s') → wpAny (model C.prog C.w) A (call f vs) Q E s
theorem PFnX.le {f args m} (h : PFnX C n f args om X) (hm : n ≤ m) : PFnX C m f args om X := fun A ra => h A (ra.le hm)
noncomputable def EvX (C : Cx) (n : Nat) (env : Env) (ρ : Names) (e : Expr) (om : Option Str) (X : String) : Prop :=
  ∀ A, Room n A → ∀ s pv, Rdy C A env ρ pv s → ∀ Q E, (∀ x fl s', Kp C s s' → Exn om s s' x X fl → E (.ref x) s') → wpAny (model C.prog C.w) A (eval e env) Q E s
theorem EvX.callF {x p pos e es ds a} (hes : Evs C n env ρ (e :: es) ds) (hf : PFnX C n (.ref a) ds om X) (hg : C.mg x = some (.ref a)) (ho : FnAt C a)
    (hk : autoParam (env.kindOf x = some .globalImplicit) syR) (hst : autoParam (starEach (e :: es) env = (false, eval e env) :: starEach es env) syR)
    (hd : autoParam ((x == ("__debug__" : Str)) = false) syD) : EvX C n env ρ (.Call (.Name x p) (e :: es) [] pos) om X := fun A ra s pv r Q E h => by
  refine wpAny_Call_NameR (ev_glob r hk hg ?_ hd)
  obtain ⟨o, fd, ho, hfd⟩ := ho s r.base
  refine callWith_function (o := o) (fd := fd) (evalArgs_ev ra r hes hst fun vs s1 k1 h1 => ⟨⟨?_, hfd⟩, ?_⟩)
  · exact k1.sub _ _ ho (nt_func hfd)
  · exact hf A ra s1 pv vs (r.base.mono k1) (r.live.mono k1) (r.kp k1).priv h1 _ _ fun x fl s' k2 h2 => h x fl s' (k1.trans k2) (h2.down k1)
theorem callX_def {a : Addr} {fd : FuncData} {body : List Stmt} {args : Args} {binds : List (Str × Value)} {E : Value → Shared → Prop} {Q : Value → Shared → Prop} (D : DefAt C a fd) (hbody : fd.body = .stmts body) (hgen : fd.scope.isGenerator = false) (B : Base C s)
    (Lv : Live C A s) (P : ∀ p ∈ pvc, ∃ o, s.heap.get? p = some o) (ra : Room (n + 1) A) (hX : X ≠ "code") (hbind : BindsTo s fd args binds) (nd : (binds.map (·.1)).Nodup) (hkind : ∀ L, ∀ x ∈ binds.map (·.1), KindOk fd L x)
    (hr : ∀ y d, (y, d) ∈ ρ → ∃ v, (y, v) ∈ binds ∧ RD s.heap pvc v d)
    (h : ∀ L s₁ env, env = callEnvC fd L a → Room n (A.deeper env) → St C (A.deeper env) s pvc env ρ [] s₁ → ∀ Q E, (∀ x fl s', Kp C s s' → Live C (A.deeper env) s' → Exn om s s' x X fl → E (.ref x) s') →
      wpAny (model C.prog C.w) (A.deeper env) (execs body env) Q E s₁)
    (hE : ∀ x fl s', Kp C s s' → Exn om s s' x X fl → E (.ref x) s') : codeAny (model C.prog C.w) A (.call (.ref a) args) (fun r s' => match r with | .ok (.ret v) => Q v s' | .ok _ => False | .error e => E e s') s := by
  refine call_start D hbody hgen B Lv P ra hbind nd hkind hr fun L s₁ env he ra' st => ?_
  refine h L s₁ env he ra' st _ _ fun x fl s' k l f => ?_
  exact f.leave k l (by rw [he]; rfl) hX fun s2 k2 f2 => hE x _ s2 k2 f2
theorem PFnX.of_def {a : Addr} {fd : FuncData} {body : List Stmt} {xs : List Str} {args : List PyData} (D : DefAt C a fd) (hbody : fd.body = .stmts body) (hgen : fd.scope.isGenerator = false) (hX : X ≠ "code")
    (hlen : xs.length = args.length) (hbind : ∀ vs : List Value, vs.length = xs.length → bindArgs fd ⟨vs, []⟩ = pure (xs.zip vs)) (nd : xs.Nodup) (hkind : ∀ L, ∀ x ∈ xs, KindOk fd L x)
    (h : ∀ (A : Around) s₀ pvc L s env, env = callEnvC fd L a → Room n (A.deeper env) → St C (A.deeper env) s₀ pvc env (xs.zip args) [] s → ∀ Q E, (∀ x fl s', Kp C s₀ s' → Live C (A.deeper env) s' → Exn om s₀ s' x X fl → E (.ref x) s') →
      wpAny (model C.prog C.w) (A.deeper env) (execs body env) Q E s) :
    PFnX C (n + 1) (.ref a) args om X := fun A ra s pv vs B L P hv Q E hq => by
  have hl : vs.length = xs.length := by rw [hv.length, hlen]
  have fst : (xs.zip vs).map (·.1) = xs := by rw [List.map_fst_zip (by omega)]
  refine wpAny_call (callX_def (ρ := xs.zip args) D hbody hgen B L P ra hX (.of_eq (hbind vs hl)) (by rw [fst]; exact nd) (fun L x hx => hkind L x (by rw [fst] at hx; exact hx)) (fun y d i => ?_) (fun L s₁ env he ra' st Q E hE => h A s pv L s₁ env he ra' st Q E hE) hq)
  obtain ⟨j, hj, e⟩ := List.mem_iff_getElem.mp i
  have hj' : j < xs.length ∧ j < args.length := by simp at hj; omega
  rw [List.getElem_zip] at e
  cases e
  obtain ⟨v, e1, e2⟩ := hv.get (i := j) (List.getElem?_eq_getElem hj'.2)
  refine ⟨v, ?_, e2⟩
  refine List.mem_iff_getElem.mpr ⟨j, by simp; omega, ?_⟩
  rw [List.getElem_zip]
  obtain ⟨_, e1⟩ := List.getElem?_eq_some_iff.mp e1
  rw [e1]
theorem St.raiseV {m : Str} {k np p cpos pos rest} {Q : Flow → Shared → Prop} {E : Value → Shared → Prop} (h : St C A s₀ pvc env ρ own s) (ra : Room n A) (hm : C.mg (Str.ofString "ValueError") = none) (hb : C.mb (Str.ofString "ValueError") = some (.type "ValueError"))
    (hE : ∀ x s', St C A s₀ pvc env ρ own s' → Exn (some m) s₀ s' x "ValueError" none → E (.ref x) s')
    (hk : autoParam (env.kindOf (Str.ofString "ValueError") = some .globalImplicit) syR) : wpAny (model C.prog C.w) A (execs (.Raise (some (.Call (.Name (Str.ofString "ValueError") np) [.Constant (.str m) k p] [] cpos)) none pos :: rest) env) Q E s := by
  refine wpAny_execs_cons (wpAny_Raise_call PySem.F.excCall_ValueError PySem.F.excRaise_ValueError ra.handled (by rfl) ?_)
  refine ev_built h.rdy hk hm hb ⟨rfl, ?_⟩
  refine evalArgs_ev ra h.rdy (.cons .cstr .nil) (by rfl) fun vs s1 k1 h1 => ?_
  obtain ⟨v, rfl, r1⟩ := h1.inv1
  obtain ⟨tk, rfl⟩ := r1.str_inv
  refine ⟨rfl, by simp [sizeLine_eq], fun h' e he => ?_⟩
  obtain ⟨hk', hn, t, ht, htn, htt⟩ := he
  have k2 : Kp C s1 { s1 with heap := h' } := Kp.keepH hk'
  have st := (h.kps k1).kps k2
  refine hE e _ st ⟨_, ⟨new_of_kp (h.kps k1).kp hn, _, _, ht, rfl, rfl, rfl, rfl⟩, t, tk, rfl, _, _, htt, rfl, rfl⟩
-- a bytes iterator
theorem next_args (a : Value) : argsOk "next" ⟨[a], []⟩ := by unfold argsOk; kernel_rfl
theorem wp_next_item {it : Addr} {b : Array UInt8} {t : Tok} {i : Nat} {c : UInt8} {Q : Value → Shared → Prop} (hit : KBw.IsBytesIter s.heap it b t i) (hx : b[i]? = some c)
    (hQ : ∀ h' tk, KBw.IsBytesIter h' it b t (i + 1) → Heap.SameBut it s.heap h' → Q (.int (c.toNat : Int) tk) { s with heap := h', toks := s.toks + 1 }) : wpAny (model C.prog C.w) A (call (.builtin "next") [.ref it]) Q E s := by
  obtain ⟨o, ho, hc, hd⟩ := id hit
  refine call_function_entry (by decide +kernel) (by decide +kernel) kdk_entry_next (next_args _) ?_
  unfold Builtin.«next»
  refine wpAny_bind (m := someArgs "next" 1 2 _) (PySem.wpAny_of_eq (a := [Value.ref it]) (by first | rfl | kernel_rfl!) ?_)
  dsimp only
  refine wpAny_bind (wpAny_specialOf (name := Str.ofString "__next__") (KBw.iter_typeIs hit) KBw.slot_next.lookup ?_)
  refine wpAny_ite_split (fun hab => absurd hab (by decide)) (fun _ => ?_)
  refine wpAny_bind (wpAny_callSpecial?_slot (name := PySem.Str.ofString "__next__") (KBw.iter_typeIs hit) KBw.slot_next
    (wpAny_call_entry KBw.slot_next (KBw.iter_typeIs hit) KBw.entry_next ?_ (KBw.args_next _)))
  show wpAny _ _ (field (.ref it) 0 >>= _) _ _ s
  refine wpAny_bind (wpAny_field ho hd (x := .bytes b t) rfl ?_)
  show wpAny _ _ (if (Value.bytes b t == Value.none) = true then _ else _) _ _ s
  rw [if_neg (show ¬ ((Value.bytes b t == Value.none) = true) from Bool.false_ne_true)]
  show wpAny _ _ (field (.ref it) 1 >>= _) _ _ s
  refine wpAny_bind (wpAny_field ho hd (x := .int i 0) rfl ?_)
  refine wpAny_bind (PySem.wpAny_of_eq (a := b) rfl ?_)
  simp only [Int.toNat_natCast, hx]
  refine wpAny_bind (wpAny_setField ho hd (by simp) (wpAny_bind (wpAny_mkInt (wpAny_pure ⟨_, rfl, wpAny_pure ⟨_, rfl, hQ _ _ ?_ (Heap.SameBut.update ..)⟩⟩))))
  exact ⟨_, Heap.get?_update_self _ ho (Obj.isFreed_of_fields (Obj.data_mapFields hd _)), (Obj.cls_mapFields ..).trans hc, by
    rw [Obj.data_mapFields hd]; simp [rawInt]⟩
theorem wp_next_end {it : Addr} {b : Array UInt8} {t : Tok} {i : Nat} {Q : Value → Shared → Prop} (hh : A.handled = none) (hit : KBw.IsBytesIter s.heap it b t i) (hx : b[i]? = none) (hit0 : s₀.heap.get? it = none) (k : Kp C s₀ s)
    (hE : ∀ h' x, Kp C (s.sansL [it]) { s with heap := h' } → Exn none s₀ { s with heap := h' } x "StopIteration" none → E (.ref x) { s with heap := h' }) : wpAny (model C.prog C.w) A (call (.builtin "next") [.ref it]) Q E s := by
  obtain ⟨o, ho, hc, hd⟩ := id hit
  refine call_function_entry (by decide +kernel) (by decide +kernel) kdk_entry_next (next_args _) ?_
  unfold Builtin.«next»
  refine wpAny_bind (m := someArgs "next" 1 2 _) (PySem.wpAny_of_eq (a := [Value.ref it]) (by first | rfl | kernel_rfl!) ?_)
  dsimp only
  refine wpAny_bind (wpAny_specialOf (name := Str.ofString "__next__") (KBw.iter_typeIs hit) KBw.slot_next.lookup ?_)
  refine wpAny_ite_split (fun hab => absurd hab (by decide)) (fun _ => ?_)
  refine wpAny_bind (wpAny_callSpecial?_slot (name := PySem.Str.ofString "__next__") (KBw.iter_typeIs hit) KBw.slot_next
    (wpAny_call_entry KBw.slot_next (KBw.iter_typeIs hit) KBw.entry_next ?_ (KBw.args_next _)))
  show wpAny _ _ (field (.ref it) 0 >>= _) _ _ s
  refine wpAny_bind (wpAny_field ho hd (x := .bytes b t) rfl ?_)
  show wpAny _ _ (if (Value.bytes b t == Value.none) = true then _ else _) _ _ s
  rw [if_neg (show ¬ ((Value.bytes b t == Value.none) = true) from Bool.false_ne_true)]
  show wpAny _ _ (field (.ref it) 1 >>= _) _ _ s
  refine wpAny_bind (wpAny_field ho hd (x := .int i 0) rfl ?_)
  refine wpAny_bind (PySem.wpAny_of_eq (a := b) rfl ?_)
  simp only [Int.toNat_natCast, hx]
  refine wpAny_bind (wpAny_rule (wpAny_bind (wpAny_setField ho hd (by simp) ?_)))
  show wpAny _ _ (newExc (.type "StopIteration") [] >>= _) _ _ _
  refine wpAny_bind ?_
  simp only [newExc, newTuple]
  refine wpAny_bind (wpAny_newObj_type ?_ (by size_fits))
  refine wpAny_bind (m := firstArgMember _ _) (PySem.wpAny_of_eq (a := Value.none) (by first | rfl | (simp only [firstArgMember]; rfl)) ?_)
  refine wpAny_newObj_type ?_ (by size_fits)
  simp only [raiseNew]
  refine wpAny_bind (wpAny_handled ?_)
  rw [show A.in1.in1.handled = none from hh]
  refine wpAny_bind (wpAny_pure (wpAny_throw ?_))
  refine hE _ _ (kp_chg (tk := s.toks) fun b o hb e => kx ?_) ⟨_, ⟨?_, _, _, Heap.get?_push_size _ rfl, rfl, rfl, rfl, rfl⟩, trivial⟩
  · refine Heap.get?_push_of_some _ (Heap.get?_push_of_some _ ?_)
    rw [Heap.get?_update_other _ _ fun q => hb (by simp [q])]; exact e
  · refine new_of_kp k ?_
    refine Heap.get?_none_of_le ?_
    rw [Heap.size_push]
    have := Heap.size_after_update s.heap it (Obj.mapFields (·.setIfInBounds 0 Value.none))
    omega
end
end
section -- C27
section
variable {C : Cx} {n : Nat} {A : Around} {s s' s₀ : Shared} {env : Env} {ρ ρ' : Names} {pv pvc : List Addr} {own o1 o2 : Own}
noncomputable def NewAd (C : Cx) (A : Around) (s₁ : Shared) (pvc : List Addr) (env : Env) (own1 own3 : Own) : Prop :=
  ∀ y ∈ own3, y.2.1 ∈ own1.map (·.2.1) ∨ ∃ ρx ownx sx, St C A s₁ pvc env ρx ownx sx ∧ sx.heap.get? y.2.1 = none
noncomputable abbrev forWQ (C : Cx) (A : Around) (s₁ : Shared) (pvc : List Addr) (env : Env) (own1 : Own) (Iv : Nat → Names → Own → Prop) (i : Nat) : Flow → Shared → Prop := fun f s' => match f with
  | .next | .cont => ∃ ρ3 own3, Iv (i + 1) ρ3 own3 ∧ NewAd C A s₁ pvc env own1 own3 ∧ St C A s₁ pvc env ρ3 own3 s'
  | _ => False
inductive ForWT (C : Cx) (A : Around) (pvc : List Addr) (env : Env) (own1 : Own) (ρ1 : Names) (target : Expr) (body : List Stmt) (d : PyData) (Iv : Nat → Names → Own → Prop) (i : Nat) : Prop
  | mk (ρt ρ2 : Names) (h1 : Tgt env env.cells target d ρt) (h2 : Upds ρt ρ1 ρ2) (h3 : ∀ y ∈ own1, ∀ e, (y.1, e) ∉ ρt)
      (h5 : ∀ s₁ σ, St C A s₁ pvc env ρ2 own1 σ → ∀ E, wpAny (model C.prog C.w) A (execs body env) (forWQ C A s₁ pvc env own1 Iv i) E σ)
noncomputable def WL (own : Own) (s2 : Shared) (own1 : Own) : Prop := ∀ y ∈ own1, y.2.1 ∈ own.map (·.2.1) ∨ s2.heap.get? y.2.1 = none
noncomputable def WBk (own : Own) (s2 : Shared) (Iv : Names → Own → Prop) (ρ : Names) (own3 : Own) : Prop := Iv ρ own3 ∧ WL own s2 own3
noncomputable def WX (own : Own) (pvc : List Addr) (s1 s2 : Shared) (h : Heap) : Prop := SqK (prv own pvc) s1.heap h ∧ ∀ b o, b ∉ own.map (·.2.1) → s2.heap.get? b = some o → ∃ o', h.get? b = some o'
theorem WL.old {s2 : Shared} {own1 : Own} (hown : WL own s2 own1) {a : Addr} {o : Obj} (ha : a ∈ own1.map (·.2.1)) (e : s2.heap.get? a = some o) : a ∈ own.map (·.2.1) := by
  obtain ⟨y, hy, rfl⟩ := List.mem_map.mp ha
  exact (hown y hy).resolve_right fun q => by rw [q] at e; cases e
theorem WL.read {s1 s2 : Shared} {own1 : Own} {h₁ : Heap} {v : Value} {d : PyData} (hown : WL own s2 own1) (kp : Kp C s1 s2) (r1 : RD s1.heap (prv own pvc) v d) (hsq₁ : SqK (prv own pvc) s1.heap h₁) : RD h₁ (prv own1 pvc) v d := by
  have r2 : RD s1.heap (prv own pvc ++ own1.map (·.2.1)) v d := r1.sub fun a o ha e => by
    rcases List.mem_append.mp ha with ha | ha
    · exact ha
    · obtain ⟨o', e'⟩ := kp.there e
      exact List.mem_append_left _ (hown.old ha e')
  have r3 : RD h₁ (prv own pvc ++ own1.map (·.2.1)) v d := r2.mono fun b o vs n hb e d => hsq₁ b o vs n (fun q => hb (List.mem_append_left _ q)) e d
  exact r3.sub fun a o ha _ => (List.mem_append.mp ha).elim (List.mem_append_right _) fun ha => List.mem_append_left _ (List.mem_append_right _ ha)
theorem WL.there {s₁ s2 σ₂ sx : Shared} {own1 ownx : Own} {ρx : Names} (hown : WL own s2 own1) (hth₂ : ∀ b o, b ∉ own.map (·.2.1) → s2.heap.get? b = some o → ∃ o', σ₂.heap.get? b = some o') (hget : ∀ b o, σ₂.heap.get? b = some o → b ∉ privA env own1 → s₁.heap.get? b = some o)
    (stx : St C A s₁ pvc env ρx ownx sx) : ∀ b o, b ∉ own.map (·.2.1) → s2.heap.get? b = some o → ∃ o', sx.heap.get? b = some o' := fun b o hb e => by
  obtain ⟨o', e'⟩ := hth₂ b o hb e
  by_cases hp : b ∈ privA env own1
  · obtain ⟨_, _, F, _⟩ := stx.fr
    rcases List.mem_cons.mp hp with rfl | hp
    · obtain ⟨o2, _, _, e2, _⟩ := F.ns; exact ⟨o2, e2⟩
    · rcases List.mem_append.mp hp with hp | hp
      · obtain ⟨p, _, hp⟩ := List.mem_filterMap.mp hp
        obtain ⟨⟨o2, e2, _⟩, _⟩ := F.cell _ _ hp; exact ⟨o2, e2⟩
      · exact absurd (hown.old hp e) hb
  · exact stx.kp.there (hget b o' e' hp)
theorem WL.next {s₁ s2 σ₂ : Shared} {own1 own3 : Own} (hown : WL own s2 own1) (hth₂ : ∀ b o, b ∉ own.map (·.2.1) → s2.heap.get? b = some o → ∃ o', σ₂.heap.get? b = some o') (hget : ∀ b o, σ₂.heap.get? b = some o → b ∉ privA env own1 → s₁.heap.get? b = some o)
    (hna : NewAd C A s₁ pvc env own1 own3) : WL own s2 own3 := fun y hy => by
  rcases hna y hy with q | ⟨ρx, ownx, sx, stx, ex⟩
  · obtain ⟨z, hz, e⟩ := List.mem_map.mp q
    rw [← e]; exact hown z hz
  · by_cases hb : y.2.1 ∈ own.map (·.2.1)
    · exact .inl hb
    · refine .inr ?_
      cases q : s2.heap.get? y.2.1 with
      | none => rfl
      | some o => obtain ⟨o', e'⟩ := hown.there hth₂ hget stx _ o hb q; rw [ex] at e'; cases e'
theorem St.forW {target iter body orelse pos rest} {ds : List PyData} {Q : Flow → Shared → Prop} {E : Value → Shared → Prop} (Iv : Nat → Names → Own → Prop)
    (h : St C A s₀ pvc env ρ own s) (ra : Room n A) (hit : EvIt C n env ρ iter ds) (h0 : Iv 0 ρ own)
    (turn : ∀ (i : Nat) d, ds[i]? = some d → ∀ ρ1 own1, Iv i ρ1 own1 → ForWT C A pvc env own1 ρ1 target body d Iv i)
    (k : ∀ ρ1 own1 s', Iv ds.length ρ1 own1 → (∀ y ∈ own1, y.2.1 ∈ own.map (·.2.1) ∨ s.heap.get? y.2.1 = none) → St C A s₀ pvc env ρ1 own1 s' → wpAny (model C.prog C.w) A (execs rest env) Q E s')
    (horelse : autoParam (orelse = []) syR) (hs : autoParam (∀ x, foldedSetIterable iter env x = pure x) syI) :
    wpAny (model C.prog C.w) A (execs (.For target iter body orelse pos :: rest) env) Q E s := by
  subst horelse
  refine wpAny_execs_cons (wpAny_For (hit A ra s _ h.rdy _ _ fun I s1 s2 fp wr P J k1 it => ?_) hs)
  have h1 := h.kps k1
  have hI0 : s₀.heap.get? I = none := by
    cases q : s₀.heap.get? I with
    | none => rfl
    | some o => obtain ⟨_, q'⟩ := h1.kp.there q; rw [it.newI] at q'; cases q'
  refine codeAny_mono (forLoop_gen (R := FinR C A s₀ pvc env (WBk own s2 (Iv ds.length))) (ForI C A s₀ pvc env (WL own s2) ds.length Iv J (WX own pvc s1 s2)) ?_ (ds.length + 1)
    ⟨0, ρ, own, Nat.zero_le _, rfl, h0, fun y hy => .inl (List.mem_map.mpr ⟨y, hy, rfl⟩), h1.kps it.kp, it.start, .of_kp it.kp _, fun b o _ e => ⟨o, e⟩⟩) fun r s' hr => by
      obtain ⟨ρ3, own3, ⟨h3, h4⟩, h5⟩ := hr
      exact k ρ3 own3 s' h3 (fun y hy => (h4 y hy).imp_right fun q => new_of_kp k1 (new_of_kp it.kp q)) h5
  rintro m σ ⟨i, ρ1, own1, hi, rfl, hIv, hown, hst, hj, hsq, hth⟩ E
  have hcI := it.clsI i _ hj
  have keepI : ∀ {h' : Heap}, (∀ b o, b ∉ wr → σ.heap.get? b = some o → h'.get? b = some o) → ∀ b o, b ≠ I → σ.heap.get? b = some o → h'.get? b = some o := fun hk b o hb e => hk b o (fun hm => hb (it.wrI b hm)) e
  by_cases hlt : i < ds.length
  · obtain ⟨d, hd⟩ : ∃ d, ds[i]? = some d := ⟨_, List.getElem?_eq_getElem hlt⟩
    refine it.walk.item i σ _ _ hlt hj fun v h₁ tk₁ hPv j₁ hk₁ => ?_
    have hk₁' := keepI hk₁
    have st₁ := hst.but (tk := tk₁) hI0 hk₁' hcI
    have hsq₁ := hsq.step (SqK.but hcI hk₁')
    obtain ⟨ρt, ρ2, ht, hu, ho, hbody⟩ := turn i d hd ρ1 own1 hIv
    have hv : RD h₁ (prv own1 pvc) v d := WL.read hown it.kp (it.read i v d hPv hd) hsq₁
    refine it.let' (i + 1) _ target v _ _ j₁ (st₁.target ra.handled ht hv hu ho fun σ₂ st₂ z₂ => ?_)
    have j₂ : J (i + 1) σ₂.heap := it.walk.frame _ _ _ j₁ fun b hb o e => by obtain ⟨o', e', n'⟩ := it.live _ _ j₁ b hb; rw [e] at e'; cases e'; exact z₂.nf b o e n'
    have hsq₂ := hsq₁.step (z₂.sq (prv own pvc))
    have hth₂ : ∀ b o, b ∉ own.map (·.2.1) → s2.heap.get? b = some o → ∃ o', σ₂.heap.get? b = some o' := fun b o hb e => by
      obtain ⟨o', e'⟩ := hth b o hb e
      by_cases q : b = I
      · obtain ⟨o2, e2, _⟩ := it.live _ _ j₂ I it.memI
        exact ⟨o2, q ▸ e2⟩
      · exact z₂.there b o' (hk₁' b o' q e')
    obtain ⟨s₁, st₂', kr, hget⟩ := st₂.rebase
    have go : ∀ {ρ3 own3 s'}, Iv (i + 1) ρ3 own3 → NewAd C A s₁ pvc env own1 own3 → St C A s₁ pvc env ρ3 own3 s' → ∃ m, m < ds.length + 1 - i ∧ ForI C A s₀ pvc env (WL own s2) ds.length Iv J (WX own pvc s1 s2) m s' := fun h3 h4 h5 =>
      ForI.next hlt h3 (WL.next hown hth₂ hget h4) (h5.unbase h.base h.priv kr) (it.walk.frame _ _ _ j₂ fun b hb o e => by
        obtain ⟨o', e', n'⟩ := it.live _ _ j₂ b hb
        rw [e] at e'; cases e'
        refine st₂.stays hget h5 e n' fun q => ?_
        obtain ⟨o0, e0, _⟩ := it.live 0 _ it.start b hb
        exact it.out b hb (List.mem_append_left _ (WL.old hown q e0)))
        ⟨fun b o vs n hb e d => st₂.stays hget h5 (hsq₂ b o vs n hb e d) (.seq d) fun q => by obtain ⟨o0, e0⟩ := it.kp.there e; exact hb (List.mem_append_left _ (WL.old hown q e0)), WL.there hown hth₂ hget h5⟩
    refine wpAny_mono (hbody s₁ σ₂ st₂' E) (fun f s' hf => ?_) fun _ _ e => e
    cases f with
    | next => obtain ⟨ρ3, own3, h3, h4, h5⟩ := hf; exact go h3 h4 h5
    | cont => obtain ⟨ρ3, own3, h3, h4, h5⟩ := hf; exact go h3 h4 h5
    | brk => exact hf.elim
    | ret _ => exact hf.elim
  · have hin : i = ds.length := Nat.le_antisymm hi (Nat.le_of_not_lt hlt)
    refine it.walk.done σ _ _ (hin ▸ hj) fun h₁ tk₁ hk₁ E' => ?_
    exact wpAny_execs_nil ⟨ρ1, own1, ⟨hin ▸ hIv, hown⟩, hst.but (tk := tk₁) hI0 (keepI hk₁) hcI⟩
theorem St.reown {x : Str} {a : Addr} {ds ds' : List PyData} {p q : Pos} {e : Expr} {rest : List Stmt} {Q : Flow → Shared → Prop} {E : Value → Shared → Prop} (h : St C A s₀ pvc env ρ ((x, a, ds) :: own) s) (ra : Room n A) (he : EvF C n env (ρ ++ seen ((x, a, ds) :: own)) e ds') (hf : ds'.all flat = true)
    (hno : ∀ d, (x, d) ∉ ρ) (ho : ∀ y ∈ own, y.1 ≠ x)
    (k : ∀ a' s', s.heap.get? a' = none → St C A s₀ pvc env ρ ((x, a', ds') :: own) s' → wpAny (model C.prog C.w) A (execs rest env) Q E s')
    (hx : OwnN env env.cells x) (hsw : autoParam (swapsWith e (some (.Name x p)) q.line env = pure false) syU) :
    wpAny (model C.prog C.w) A (execs (.Assign [.Name x p] e q :: rest) env) Q E s := by
  refine wpAny_execs_cons (wpAny_Assign_Name (he A ra s _ h.rdyF _ _ fun a' s1 vs k1 hn hl hr => ?_) hsw)
  have h' := h.drop
  obtain ⟨m, cm, F, H, O⟩ := h'.fr
  have hr' : ∀ {vs : List Value} {ds : List PyData} {pv'}, RDs s1.heap (a' :: pvc) vs ds → ds.all flat = true → RDs s1.heap pv' vs ds := by
    intro vs ds pv'
    induction ds generalizing vs with
    | nil => intro x _; rw [x.inv0]; exact .nil
    | cons d ds ih =>
      intro x hf
      obtain ⟨v, ws, rfl, a, b⟩ := x.inv
      simp only [List.all_cons, Bool.and_eq_true] at hf
      exact .cons (a.flat hf.1 _ _) (ih b hf.2)
  refine fz_store h.ok (F.kp k1) hx fun s' m' cm' F' z hnv => k a' _ hn ?_
  refine h'.owned H O k1 [(x, a', ds')] (fun y hy => ?_) (fun y hy => ?_) (by simp) z F' (fun y hy => ?_) (fun y d i => .inr ⟨i, ?_⟩) fun y hy => ?_
  · simp at hy; subst hy; exact hn
  · simp at hy; subst hy; exact ⟨vs, hl, hr' hr hf⟩
  · simp at hy; subst hy; rw [hnv]; simp
  · rw [hnv, if_neg (fun (q : _ = x) => hno d (q ▸ i))]
  · rw [hnv, if_neg (ho y hy)]
end
end
section -- C28
open Sem (wp)
section
variable {M : Model} {A : Around} {R : GenEnd} {Y : Protocol} {n : Nat} {s₀ : Shared} {c : Code} {fs : List Frame} {s : Shared} {env : Env}
  {K : Flow → Sem Fin} {H : Value → Sem Fin} {gd : Bool → Bool} {lv : List Value → List Value} {E : Value → Shared → Prop}
theorem over_func (A : Around) (body : List Stmt) (env : Env) : A.over (.func body env) [] = A.deeper env := by
  unfold Around.over Around.deeper
  rfl
theorem over_for (A : Around) (body b o : List Stmt) (t : Expr) (it : Value) (env env' : Env) (k g l p) : A.over (.forLoop t it b o env') [.ret k none g l (.func body env) p []] = A.deeper env := by
  unfold Around.over Around.deeper
  rfl
theorem over_while (A : Around) (body b o b' o' : List Stmt) (t t' : Expr) (it : Value) (env env' env'' : Env) (k g l p k' g' l' p') : A.over (.whileLoop t' b' o' env'') [.ret k' none g' l' (.forLoop t it b o env') p' [], .ret k none g l (.func body env) p []] = A.deeper env := by
  unfold Around.over Around.deeper
  rfl
theorem wpAny_exec1 {st : Stmt} {Q : Flow → Shared → Prop} (h : wpAny M A (execs [st] env) Q E s) : wpAny M A (exec st env) Q E s := by
  have e : execs [st] env = exec st env := by
    rw [execs_cons]
    refine Eq.trans ?_ (Sem.bind_pure (exec st env))
    show (exec st env).bind _ = _
    congr 1
    funext f
    cases f <;> rfl
  rw [e] at h; exact h
theorem seg_stmt {st : Stmt} {rest : List Stmt}
    (h : wpAny M (A.over c fs) (execs [st] env) (fun f s' => match f with | .next => Seg M A R Y n s₀ c ((execs rest env).wrap K H gd lv) fs s' | f => Seg M A R Y n s₀ c (K f) fs s') (fun x s' => Seg M A R Y n s₀ c (H x) fs s') s) :
    Seg M A R Y n s₀ c ((execs (st :: rest) env).wrap K H gd lv) fs s :=
  seg_execs_cons (seg_wrap (wpAny_mono (wpAny_exec1 h) (fun f s' hf => by cases f <;> exact hf) fun _ _ e => e))
theorem seg_raised {h : Value → Sem Unit} {e : Value} (hh : wpAny M (A.over c fs) (h e) (fun _ s' => Seg M A R Y n s₀ c (H e) fs s') (fun x s' => Seg M A R Y n s₀ c (H x) fs s') s) :
    Seg M A R Y n s₀ c (((Sem.raise e : Sem Flow).onRaise h).wrap K H gd lv) fs s := by
  show Seg M A R Y n s₀ c (((h e).bind fun _ => .raise e).wrap K H gd lv) fs s
  rw [Sem.bind_eq_wrap, Sem.wrap_wrap]
  exact seg_wrap hh
theorem seg_If {test : Expr} {body orelse : List Stmt} {pos : Pos}
    (h : wpAny M (A.over c fs) (isTrue test env (eval test env)) (fun b s' => if b then Seg M A R Y n s₀ c ((execs body env).wrap K H gd lv) fs s' else Seg M A R Y n s₀ c ((execs orelse env).wrap K H gd lv) fs s') (fun x s' => Seg M A R Y n s₀ c (H x) fs s') s) :
    Seg M A R Y n s₀ c ((exec (.If test body orelse pos) env).wrap K H gd lv) fs s := by
  rw [exec_If]
  refine seg_at ?_
  show Seg M A R Y n s₀ c ((isTrue test env (eval test env) >>= fun b => if b then execs body env else execs orelse env).wrap K H gd lv) fs s
  rw [Sem.bind_eq_wrap', Sem.wrap_wrap]
  refine seg_wrap (wpAny_mono h (fun b s' hb => ?_) fun _ _ e => e)
  cases b <;> exact hb
end
section
variable {C : Cx} {A : Around} {s s' s₀ : Shared}
theorem Kp.gens_to {a a' b b' : Shared} (k : Kp C a b) (h1 : a'.heap = a.heap) (h2 : a'.os = a.os) (h3 : b'.heap = b.heap) (h4 : b'.os = b.os) (g : GK a'.gens b'.gens) : Kp C a' b' :=
  ⟨by rw [h1, h3]; exact k.sub', by rw [h1, h3]; exact k.tab, by rw [h1, h3]; exact k.tabs, by rw [h2, h4]; exact k.os, g⟩
end
section
variable {prog : Program} {w : World} {A : Around} {E : Value → Shared → Prop} {s : Shared}
theorem genLeft_any {a e : Addr} {g : Nat} {T : String} {Q : Fin → Shared → Prop} (hg : s.heap.IsGen a g) (he : s.TypeIs (.ref e) T) (hs : isSubtype (.type T) (.type "StopIteration") = pure false) (h : E (.ref e) s) :
    wpAny (model prog w) A (Builtin.Generator.genLeft (.ref a) (.ref e)) Q E s := by
  obtain ⟨o, nm, qn, ho, hc, hd, hsl⟩ := hg
  unfold Builtin.Generator.genLeft Builtin.Generator.madeByALambda
  refine wpAny_bind (wpAny_bind (wpAny_bind (wpAny_load ho (wpAny_pure ?_))))
  rw [hd, hc]
  refine wpAny_pure ?_
  refine wpAny_bind (wpAny_isInstance (T := T) (b := false) he hs ?_)
  rw [Bool.and_false, if_neg Bool.false_ne_true]
  unfold Builtin.Generator.genEscaped
  refine wpAny_bind (wpAny_isInstance (T := T) (b := false) he hs ?_)
  exact wpAny_throw h
theorem pyNext_genR {a : Addr} {g n : Nat} {gs : GenState} {P : Nat → Shared → Shared → Prop} {X : Nat → Shared → Addr → Shared → Prop} {Y : Protocol} {Q : Option Value → Shared → Prop} (hh : A.handled = none)
    (hl : s.heap.NoLimit) (hroom : A.depth < recursionLimit)
    (hg : s.heap.IsGen a g) (hgs : s.gens[g]? = some gs)
    (hgo : gs.Goes (model prog w) A.in1 (fun n s₀ r s₁ => (r = .ok (.ret .none) ∧ P n s₀ s₁) ∨ ∃ e, r = .error (.ref e) ∧ X n s₀ e s₁) Y n (.send .none) (s.setGen g .running))
    (hY : ∀ v s₁ gs', gs'.bare = true → Y (n - 1) (s.setGen g .running) v s₁ (fun r' s'' => match n with
        | 0 => False
        | m + 1 => gs'.Goes (model prog w) A.in1 (fun n s₀ r s₁ => (r = .ok (.ret .none) ∧ P n s₀ s₁) ∨ ∃ e, r = .error (.ref e) ∧ X n s₀ e s₁) Y m r' s'') → Q (some v) (s₁.setGen g gs'))
    (hP : ∀ s₁, P n (s.setGen g .running) s₁ → ∀ h', (∀ b o, s₁.heap.get? b = some o → h'.get? b = some o) → Q none { s₁.setGen g .finished with heap := h' })
    (hX : ∀ e s₁, X n (s.setGen g .running) e s₁ → s₁.heap.IsGen a g ∧ (∃ T, s₁.TypeIs (.ref e) T ∧ isSubtype (.type T) (.type "StopIteration") = pure false) ∧ E (.ref e) (s₁.setGen g .finished)) :
    wpAny (model prog w) A (pyNext (.ref a)) Q E s := by
  unfold pyNext
  refine wpAny_bind (wpAny_attempt (wpAny_callSpecial?_slot (name := Str.ofString "__next__") hg.typeIs slot_gen_next
    (wpAny_call_entry slot_gen_next hg.typeIs entry_gen_next ?_ (args_gen_next _))))
  show wpAny _ A.in1 (Builtin.Generator.genWake (.ref a) (.send .none)) _ _ s
  unfold Builtin.Generator.genWake
  refine wpAny_bind (wpAny_holding (wpAny_genNumber hg (wpAny_bind (wpAny_genState hgs ?_))))
  cases gs with
  | running => exact hgo.elim
  | finished => exact hgo.elim
  | _ =>
    refine wpAny_bind (wpAny_roomToWake hl hroom ?_)
    show wpAny _ A.in1 (.resume g (.send .none) [] _) _ _ s
    refine wpAny_resumeQ hgs hgo (fun x s₁ hx => ?_) (fun v s₁ gs' hb hv => ?_)
    · rcases hx with ⟨rfl, hp⟩ | ⟨e, rfl, hx⟩
      · show wpAny _ A.in1 (newExc (.type "StopIteration") [] >>= _) _ _ _
        refine wpAny_bind ?_
        simp only [newExc, newTuple]
        refine wpAny_bind (wpAny_newObj_type ?_ (by size_fits))
        refine wpAny_bind (m := firstArgMember _ _) (PySem.wpAny_of_eq (a := Value.none) (by first | rfl | (simp only [firstArgMember]; rfl)) ?_)
        refine wpAny_newObj_type ?_ (by size_fits)
        simp only [raiseNew]
        refine wpAny_bind (wpAny_bind (wpAny_handled ?_))
        first | rw [show A.in1.handled = none from hh] | rw [hh]
        refine wpAny_throw ?_
        refine wpAny_bind (wpAny_isInstance (T := "StopIteration") (b := true) ⟨_, Heap.get?_push_size _ rfl, rfl⟩ isSubtype_stop ?_)
        exact wpAny_pure (hP s₁ hp _ fun b o hb => Heap.get?_push_of_some _ (Heap.get?_push_of_some _ hb))
      · obtain ⟨h1, ⟨T, h2, h3⟩, h4⟩ := hX e s₁ hx
        show wpAny _ A.in1 (Builtin.Generator.genLeft (.ref a) (.ref e)) _ _ (s₁.setGen g .finished)
        refine genLeft_any (T := T) (s := s₁.setGen g .finished) h1 h2 h3 ?_
        refine wpAny_bind (wpAny_isInstance (T := T) (b := false) h2 h3 ?_)
        exact wpAny_throw h4
    · exact wpAny_pure ⟨v, rfl, wpAny_pure (hY v s₁ gs' hb hv)⟩
end
end
section -- P0
noncomputable def stI (i : Nat) : Stmt := (PySem.Challenge.pw_kl0448_01.main.body).getD i (.Pass default)
noncomputable def nmI (i : Nat) : Str := match stI i with | .FunctionDef n .. => n | _ => Str.ofString ""
noncomputable def psI (i : Nat) : Arguments := match stI i with | .FunctionDef _ p .. => p | _ => ⟨[], [], none, [], [], none, []⟩
noncomputable def bdI (i : Nat) : List Stmt := match stI i with | .FunctionDef _ _ b .. => b | _ => []
noncomputable def scI (i : Nat) : Scope := match stI i with | .FunctionDef _ _ _ _ _ _ s .. => s | _ => { kind := .function, names := [], isGenerator := false, isCoroutine := false, more := [] }
noncomputable def fdI (i : Nat) (dV kV doc pm : Value) (cd : Addr) : FuncData :=
  { name := nmI i, qualname := nmI i, params := psI i, body := .stmts (bdI i), scope := scI i, globals := mainGlobals, closure := [], defaults := dV, kwdefaults := kV, doc := doc, pyModule := pm, annotations := none, code := .ref cd, closureTuple := .none, builtins := builtinsNs }
theorem weak_of {α : Type} {l l2 : List α} (h : l.Sublist l2) : ∀ y ∈ l, y ∈ l2 := fun _ hy => h.subset hy
end
section -- E1
noncomputable abbrev cd198 : ClassData := { name := Str.ofString "_ExceptionTableEntry", bases := [.ref 185], mro := [.ref 198, .ref 185, .type "tuple", .type "object"], ns := 197, qualname := Str.ofString "_ExceptionTableEntry" }
noncomputable abbrev cd185 : ClassData := { name := Str.ofString "_ExceptionTableEntryBase", bases := [.type "tuple"], mro := [.ref 185, .type "tuple", .type "object"], ns := 184, qualname := Str.ofString "_ExceptionTableEntryBase", hasDict := false, subclasses := [.ref 198] }
structure EntK (K : Frag) : Prop where
  o198 : ∃ sl, K.lookup 198 = some ⟨.type "type", none, .cls cd198, sl⟩ ∧ (sl[4]?).join = some .none
  o185 : ∃ sl, K.lookup 185 = some ⟨.type "type", none, .cls cd185, sl⟩ ∧ (sl[4]?).join = some .none
  reads : readsIn K 198 (.type "type") = true
  newD : findCls K (.ref 198) (.type "type") "__new__" = some (.get (.builtin "staticmethod.__get__") (.ref 186) .none (.ref 198))
  sm : recIn K 186 "staticmethod" = some [.ref 126]
  callD : specialIn K (.ref 198) "__call__" = some (some (.builtin "type.__call__"))
  typ : instIn K (.ref 198) (.type "type") = some true
  init : findIn K (.ref 198) "__init__" = some (some (.builtin "object.__init__"))
  keep : keepIn K (.ref 198) = true
  item : findIn K (.ref 198) "__getitem__" = some (some (.builtin "tuple.__getitem__"))
section
variable {prog : Program} {w : World} {A : Around} {E : Value → Shared → Prop} {s : Shared} {K : Frag} {M : Model}
noncomputable def mroE : List Value := [.ref 198, .ref 185, .type "tuple", .type "object"]
theorem EntK.cls (F : EntK K) {h : Heap} (X : K.In h) : Looks M h (classData 198) cd198 := by
  obtain ⟨sl, h1, h6⟩ := F.o198
  exact looks_clsIn X (by unfold clsIn; rw [h1])
theorem EntK.cls2 (F : EntK K) {h : Heap} (X : K.In h) : Looks M h (classData 185) cd185 := by
  obtain ⟨sl, h1, h6⟩ := F.o185
  exact looks_clsIn X (by unfold clsIn; rw [h1])
theorem EntK.mro (F : EntK K) {h : Heap} (X : K.In h) : Looks M h (mroOf (.ref 198)) mroE := (F.cls X).andThen .now
theorem EntK.mro2 (F : EntK K) {h : Heap} (X : K.In h) : Looks M h (mroOf (.ref 185)) [.ref 185, .type "tuple", .type "object"] := (F.cls2 X).andThen .now
theorem EntK.slot (F : EntK K) {h : Heap} (X : K.In h) : Looks M h (slotAt 198 4) (some .none) := by
  obtain ⟨sl, h1, h6⟩ := F.o198
  exact (Looks.ld (X _ _ h1)).andThen (by dsimp only; rw [h6]; exact .now)
theorem EntK.slot2 (F : EntK K) {h : Heap} (X : K.In h) : Looks M h (slotAt 185 4) (some .none) := by
  obtain ⟨sl, h1, h6⟩ := F.o185
  exact (Looks.ld (X _ _ h1)).andThen (by dsimp only; rw [h6]; exact .now)
theorem looks_keep {α : Type} {h : Heap} {t : Sem α} {a : α} (x : ∀ hp, (∀ b o, h.get? b = some o → hp.get? b = some o) → ∀ A (Q : α → Shared → Prop) E g d tk os, Q a ⟨hp, g, d, tk, os⟩ → wpAny M A t Q E ⟨hp, g, d, tk, os⟩) : Looks M h t a :=
  fun A Q E s k q => by obtain ⟨hp, g, d, tk, os⟩ := s; exact x hp k A Q E g d tk os q
theorem EntK.made (F : EntK K) {h : Heap} (X : K.In h) : Looks M h (Bind.madeBy (.ref 198)) none := looks_keep fun hp k A Q E g d tk os q => by
  have X := X.keeps k
  have L1 := F.mro (M := M) X
  have L2 := F.slot (M := M) X
  unfold Bind.madeBy mroE at *
  repeat lk
  exact q
theorem EntK.made2 (F : EntK K) {h : Heap} (X : K.In h) : Looks M h (Bind.madeBy (.ref 185)) none := looks_keep fun hp k A Q E g d tk os q => by
  have X := X.keeps k
  have L1 := F.mro2 (M := M) X
  have L2 := F.slot2 (M := M) X
  unfold Bind.madeBy
  repeat lk
  exact q
theorem solid_tuple : Builtin.Slots.solid (.type "tuple") = pure (.type "tuple") := by kernel_rfl!
noncomputable def snT : List Str := (pureOf (Builtin.Slots.slotNamesOf (.type "tuple"))).getD []
theorem slotNames_tuple : Builtin.Slots.slotNamesOf (.type "tuple") = pure snT := by kernel_rfl!
theorem best_one {h : Heap} {b v : Value} (x : Looks M h (Builtin.Slots.solid b) v) : Looks M h (Builtin.Slots.bestBase [b]) b := looks_keep fun hp k A Q E g d tk os q => by
  have x := x.keeps k
  unfold Builtin.Slots.bestBase
  repeat lk
  exact q
theorem EntK.adds2 (F : EntK K) {h : Heap} (X : K.In h) : Looks M h (Builtin.Slots.addsLayout (.ref 185)) false := looks_keep fun hp k A Q E g d tk os q => by
  have X := X.keeps k
  have L1 := F.cls2 (M := M) X
  have L2 : Looks M hp (Builtin.Slots.slotNamesOf (.type "tuple")) snT := Looks.of_pure slotNames_tuple
  unfold Builtin.Slots.addsLayout
  repeat lk
  have e : decide (cd185.slotNames.length > max 0 snT.length) = false := by simp
  have q : Q (decide (cd185.slotNames.length > max 0 snT.length)) ⟨hp, g, d, tk, os⟩ := by rw [e]; exact q
  exact q
theorem EntK.solid (F : EntK K) {h : Heap} (X : K.In h) : Looks M h (Builtin.Slots.solid (.ref 185)) (.type "tuple") := looks_keep fun hp k A Q E g d tk os q => by
  have X := X.keeps k
  have L1 := F.mro2 (M := M) X
  have L2 := F.adds2 (M := M) X
  unfold Builtin.Slots.solid
  repeat lk
  exact q
theorem EntK.base (F : EntK K) {h : Heap} (X : K.In h) : Looks M h (Bind.staticBase (.ref 198)) (.type "tuple") := looks_keep fun hp k A Q E g d tk os q => by
  have X := X.keeps k
  have L1 := F.mro (M := M) X
  have L2 := F.made (M := M) X
  have L3 := F.made2 (M := M) X
  have L4 : Looks M hp (Bind.madeBy (.type "tuple")) (some "tuple.__new__") := Looks.of_pure PySem.F.called_tuple.made
  have L5 := F.cls (M := M) X
  have L6 := F.cls2 (M := M) X
  have L7 : Looks M hp (Builtin.Slots.bestBase [.ref 185]) (.ref 185) := best_one (F.solid X)
  have L8 : Looks M hp (Builtin.Slots.bestBase [.type "tuple"]) (.type "tuple") := best_one (Looks.of_pure solid_tuple)
  unfold Bind.staticBase mroE at *
  repeat lk
  exact q
theorem EntK.sub (F : EntK K) {h : Heap} (X : K.In h) (base : Value) (hb : mroE.contains base = true) : Looks M h (isSubtype (.ref 198) base) true := by
  obtain ⟨sl, h1, h6⟩ := F.o198
  exact looks_mroIn X (by unfold mroIn clsIn; rw [h1]; show (if cd198.mro.isEmpty = true then none else some (mroE.contains base)) = some true; rw [hb]; rfl)
theorem args_tnew (a b : Value) : argsOk "tuple.__new__" ⟨[a, b], []⟩ := by unfold argsOk; kernel_rfl
theorem EntK.here (F : EntK K) {h : Heap} (X : K.In h) : Looks M h (Bind.madeHere "tuple.__new__" (.ref 198)) () := looks_keep fun hp k A Q E g d tk os q => by
  have X := X.keeps k
  have L1 := F.base (M := M) X
  have L2 : Looks M hp (Bind.madeBy (.type "tuple")) (some "tuple.__new__") := Looks.of_pure PySem.F.called_tuple.made
  unfold Bind.madeHere
  refine wpAny_bind (L1.at (wpAny_bind (L2.at ?_)))
  rw [if_neg (by simp)]
  exact wpAny_pure q
theorem EntK.subF (F : EntK K) {h : Heap} (X : K.In h) (base : Value) : Looks M h (isSubtype (.ref 198) base) (mroE.contains base) := by
  obtain ⟨sl, h1, h6⟩ := F.o198
  exact looks_mroIn X (by unfold mroIn clsIn; rw [h1]; rfl)
theorem EntK.isT (F : EntK K) {h : Heap} (X : K.In h) : Looks M h (isType (.ref 198)) true := by
  obtain ⟨sl, h1, h6⟩ := F.o198
  exact (Looks.ld (X _ _ h1)).andThen .now
theorem wp_tnew {t : Addr} {items : Array Value} {Q : Value → Shared → Prop} (F : EntK K) (X : K.In s.heap) (ht : s.heap.IsTuple t items) (hsz : items.size ≤ 100)
    (hQ : ∀ h' x, (∀ b o, s.heap.get? b = some o → h'.get? b = some o) → s.heap.get? x = none → (∃ dx, h'.get? x = some { cls := .ref 198, dict := some dx, data := .seq items }) → Q (.ref x) { s with heap := h' }) :
    wpAny (model prog w) A (call (.builtin "tuple.__new__") [.ref 198, .ref t]) Q E s := by
  refine wpAny_call (codeAny_call_builtin_code (Code.quiet_builtin _ (by decide +kernel)) ?_)
  have hk : builtinKind "tuple.__new__" = some .builtinFn := by decide +kernel
  have hs : splitId "tuple.__new__" = some ("tuple", "__new__") := by decide +kernel
  have hin := F.isT (M := model prog w) X
  have hsub := F.sub (M := model prog w) X (.type "tuple") (by decide)
  have hbase := F.base (M := model prog w) X
  have hmade : Looks (model prog w) s.heap (Bind.madeBy (.type "tuple")) (some "tuple.__new__") := Looks.of_pure PySem.F.called_tuple.made
  have hhere := F.here (M := model prog w) X
  have hinit := looks_findIn (M := model prog w) X F.init
  obtain ⟨ot, ho, hc, n, hd⟩ := ht
  obtain ⟨hp, g, d, tk, os⟩ := s
  dsimp only at ho hin hsub hbase hmade hhere hinit hQ
  have chk : ∀ {A : Around} {Q : Unit → Shared → Prop} {E : Value → Shared → Prop}, Q () ⟨hp, g, d, tk, os⟩ → wpAny (model prog w) A (checkBuiltinCall "tuple.__new__" ⟨[.ref 198, .ref t], []⟩) Q E ⟨hp, g, d, tk, os⟩ := by
    intro A Q E q
    have ha := args_tnew (.ref 198) (.ref t)
    simp only [checkBuiltinCall, hk, hs]
    repeat lk
    exact q
  refine chk ?_
  refine codeAny_builtin PySem.F.entry_tuple_new ?_
  unfold Builtin.«tuple.__new__»
  obtain ⟨sl, h198, _⟩ := F.o198
  repeat (first | with_reducible refine wpAny_collect_seq t (.inr rfl) ho hc hd (fun h' hk => ?_) (by have : sizeLine = 16777216 := rfl; omega) | lk)
  have hC := Heap.get?_push_of_some (h := h'.push { cls := .type "dict", data := .dict #[] }) { cls := .ref 198, dict := some h'.objs.size, data := .seq items.toList.toArray } (Heap.get?_push_of_some { cls := .type "dict", data := .dict #[] } (hk _ _ (X _ _ h198)))
  rw [if_neg (by rw [sizeLine_eq]; simp; omega)]
  unfold newObjAsIs classHasDel
  refine wpAny_bind (wpAny_alloc (wpAny_bind (wpAny_bind (wpAny_load hC (wpAny_pure ?_)))))
  simp only [Bool.false_eq_true, if_false]
  refine wpAny_pure (wpAny_pure ?_)
  refine hQ _ _ (fun b o e => Heap.get?_push_of_some _ (Heap.get?_push_of_some _ (hk _ _ e))) ?_ ⟨h'.objs.size, ?_⟩
  · cases q : hp.get? (h'.push { cls := .type "dict", data := .dict #[] }).objs.size with
    | none => rfl
    | some o => exfalso; have h1 := Heap.lt_size (hk _ _ q); rw [Heap.size_push] at h1; exact absurd h1 (Nat.not_lt.mpr (Nat.le_succ _))
  · have e := Heap.get?_push_size (h'.push { cls := .type "dict", data := .dict #[] }) (o := { cls := .ref 198, dict := some h'.objs.size, data := .seq items.toList.toArray }) rfl
    simpa using e
noncomputable abbrev creC (rest : List Value) : Code := .builtin "type.__call__" ⟨.ref 198 :: rest, []⟩
theorem creC_weight (rest : List Value) : (creC rest).weight = 1 := by
  have h1 : (creC rest).frames = 0 := by kernel_rfl!
  have h2 : (creC rest).isCreation = true := by kernel_rfl!
  have h3 : (creC rest).isGuard = false := (show guardIds.contains "type.__call__" = false from by decide +kernel)
  have h4 : (creC rest).isCaller = false := by kernel_rfl!
  unfold Code.weight
  rw [h1, h2, h3, h4]
  rfl
theorem creC_units (rest : List Value) : (creC rest).cUnits = 1 := by
  have h1 : (creC rest).frames = 0 := by kernel_rfl!
  show 1 + 3 * (creC rest).frames = 1
  rw [h1]
theorem Room.cre {n : Nat} {rest : List Value} (ra : Room (n + 1) A) : Room n (A.under (creC rest)) := by
  have h1 := creC_weight rest
  have h2 := creC_units rest
  have d := ra.depth
  have u := ra.units
  refine ⟨ra.handled, ?_, ?_⟩
  · show A.depth + (creC rest).weight + n < _; omega
  · show A.units + (creC rest).cUnits + 8 * n + 100 < _; omega
theorem Live.cre {C : Cx} {rest : List Value} (l : Live C A s) : Live C (A.under (creC rest)) s := l
theorem args_oi2 (a b : Value) (r : List Value) : argsOk "object.__init__" ⟨a :: b :: r, []⟩ := by unfold argsOk; kernel_rfl
theorem wp_entcall {v1 : Value} {rest : List Value} {Q : Value → Shared → Prop} (F : EntK K) (X : K.In s.heap)
    (h : codeAny (model prog w) (A.under (.builtin "type.__call__" ⟨.ref 198 :: v1 :: rest, []⟩)) (.call (.ref 126) ⟨.ref 198 :: v1 :: rest, []⟩) (fun r s' => match r with | .ok (.ret v) => ∃ x o, v = .ref x ∧ K.In s'.heap ∧ s'.heap.get? x = some o ∧ o.cls = .ref 198 ∧ Q v s' | .ok _ => False | .error e => E e s') { s with toks := s.toks + 1 }) :
    wpAny (model prog w) A (call (.ref 198) (v1 :: rest)) Q E s := by
  obtain ⟨sl, h198, _⟩ := F.o198
  refine wpAny_call (codeAny_of_tree ?_)
  have hcall := looks_specialIn (M := model prog w) X F.callD
  have htyp := looks_instIn (M := model prog w) X F.typ
  have hmade := F.made (M := model prog w) X
  have hm := F.mro (M := model prog w) X
  obtain ⟨hp, g, d, tk, os⟩ := s
  dsimp only at hcall htyp hmade hm X h
  show wpAny _ _ (callAny (.ref 198) _) _ _ _
  refine nd_load (X _ _ h198) ?_
  show wpAny _ _ (callAny.viaDunder (.ref 198) _) _ _ _
  unfold callAny.viaDunder
  refine wpAny_bind (hcall.at ?_)
  dsimp only
  rw [tc_bind]
  refine wpAny_bind (wpAny_pure (wpAny_bind (wpAny_pure ?_)))
  refine wpAny_pure (a := Fin.again (.call (.builtin "type.__call__") ⟨.ref 198 :: v1 :: rest, []⟩)) (And.intro rfl ?_)
  refine codeAny_call_builtin_at (Code.quiet_builtin _ (by decide +kernel)) entry_typeCall (check_slot tc_kind tc_split htyp (tc_args _ _ _) ?_)
  unfold Builtin.«type.__call__»
  unfold mroE at hm
  repeat (first | with_reducible refine cls_bind X F.reads F.newD (wpAny_call (sm_get (s := { heap := _, gens := _, drawn := _, toks := _ + 1, os := _ }) X F.sm (W.handed_on rfl ?_))) | with_reducible refine wpAny_call ?_ | lk)
  refine codeAny_mono h fun r s' h' => ?_
  rcases r with e | (v | _ | _ | _) <;> first | exact h' | exact h'.elim | skip
  obtain ⟨x, o, rfl, X', hx, hcx, hQ⟩ := h'
  have ht : Looks (model prog w) s'.heap (typeOf (.ref x)) (.ref 198) := (Looks.ld hx).andThen (by rw [hcx]; exact .now)
  have hsub := F.sub (M := model prog w) X' (.ref 198) (by decide)
  have hsubo := F.sub (M := model prog w) X' (.type "object") (by decide)
  have hinit := looks_findIn (M := model prog w) X' F.init
  have hmade' := F.made (M := model prog w) X'
  obtain ⟨hp', g', d', tk', os'⟩ := s'
  dsimp only at ht hsub hsubo hinit hmade' hx hQ X'
  unfold isInstance callSpecial? specialOf
  repeat (first | with_reducible refine wpAny_call ?_ | lk)
  refine codeAny_call_builtin oi_plain entry_oi (@check_slot (model prog w) _ _ _ "object.__init__" "object" "__init__" (.ref x) (v1 :: rest) [] _ oi_kind oi_split (ht.andThen hsubo) ?_ ?_)
  · exact args_oi2 _ _ _
  unfold Builtin.«object.__init__»
  repeat lk
  exact hQ
end
end
section -- G0
structure Wish where
  b : Int
  e : Int
  d : Int
  l : Bool
  t : Int
  deriving DecidableEq
noncomputable def wishD (w : Wish) : PyData := .tuple [.int w.b, .int w.e, .int w.d, .bool w.l, .int w.t]
noncomputable abbrev intsD (ns : List Int) : PyData := .list (ns.map .int)
noncomputable abbrev wishesD (ws : List Wish) : PyData := .list (ws.map wishD)
noncomputable abbrev opq (a : Addr) : PyData := .dict [(.int a, .none)]
noncomputable abbrev biList : List (Str × Value) := [("len", .builtin "len"), ("range", .type "range"), ("list", .type "list"), ("sum", .builtin "sum"), ("min", .builtin "min"), ("sorted", .builtin "sorted"), ("hex", .builtin "hex"), ("iter", .builtin "iter"), ("next", .builtin "next"),
  ("bool", .type "bool"), ("bytes", .type "bytes"), ("str", .type "str"), ("enumerate", .type "enumerate"), ("isinstance", .builtin "isinstance"), ("ValueError", .type "ValueError"), ("StopIteration", .type "StopIteration"), ("tuple", .type "tuple")]
noncomputable abbrev defList : List (Nat × Addr × Value × Value) := [(2, 30, .ref 22, .ref 23), (3, 39, .ref 31, .ref 32), (4, 48, .ref 40, .ref 41), (5, 57, .ref 49, .ref 50), (9, 108, .none, .none), (12, 208, .none, .none), (13, 215, .none, .none), (16, 222, .none, .none), (18, 229, .none, .none),
  (19, 234, .none, .none), (20, 239, .none, .none), (21, 244, .none, .none), (22, 251, .none, .none), (23, 258, .none, .none), (24, 263, .none, .none), (25, 268, .none, .none), (26, 275, .none, .none), (27, 280, .none, .none)]
noncomputable abbrev mkrList : List (Addr × Addr × Str) := [(243, 241, Str.ofString "_law_table.<locals>.<lambda>"), (250, 246, Str.ofString "_law_line.<locals>.<lambda>"), (257, 253, Str.ofString "_law_kept.<locals>.<lambda>"), (279, 277, Str.ofString "law.<locals>.<lambda>")]
noncomputable def flagT : List (Int × Str) := [(1, Str.ofString "OPTIMIZED"), (2, Str.ofString "NEWLOCALS"), (4, Str.ofString "VARARGS"), (8, Str.ofString "VARKEYWORDS"), (16, Str.ofString "NESTED"), (32, Str.ofString "GENERATOR"), (64, Str.ofString "NOFREE"), (128, Str.ofString "COROUTINE"), (256, Str.ofString "ITERABLE_COROUTINE"), (512, Str.ofString "ASYNC_GENERATOR")]
noncomputable def flagF (k : Int) : Option Str := flagT.lookup k
noncomputable def stNew : Stmt := match stI 10 with | .ClassDef _ _ _ b .. => b.getD 4 (.Pass default) | _ => .Pass default
noncomputable def psNew : Arguments := match stNew with | .FunctionDef _ p .. => p | _ => ⟨[], [], none, [], [], none, []⟩
noncomputable def bdNew : List Stmt := match stNew with | .FunctionDef _ _ b .. => b | _ => []
noncomputable def scNew : Scope := match stNew with | .FunctionDef _ _ _ _ _ _ s .. => s | _ => { kind := .function, names := [], isGenerator := false, isCoroutine := false, more := [] }
noncomputable def fdNew (doc pm : Value) : FuncData :=
  { name := Str.ofString "__new__", qualname := Str.ofString "_ExceptionTableEntryBase.__new__", params := psNew, body := .stmts bdNew, scope := scNew, globals := mainGlobals, closure := [], defaults := .none, kwdefaults := .none, doc := doc, pyModule := pm, annotations := none, code := .ref 125, closureTuple := .none, builtins := builtinsNs }
inductive FnB (C : Cx) (i : Nat) (a : Addr) (dV kV : Value) : Prop
  | mk (h : C.mg (nmI i) = some (.ref a)) (doc pm : Value) (D : DefAt C a (fdI i dV kV doc pm (a - 1)))
structure Glb (C : Cx) : Prop where
  ent : ∃ K : Frag, (∀ s, Base C s → K.In s.heap) ∧ EntK K
  entC : C.mg (Str.ofString "_ExceptionTableEntry") = some (.ref 198)
  entF : ∃ doc pm, DefAt C 126 (fdNew doc pm)
  chm : ∃ t, C.mg (Str.ofString "CHAR_MAX") = some (.int 127 t)
  cfn : C.mg (Str.ofString "COMPILER_FLAG_NAMES") = some (.ref 101) ∧ DGet C 101 flagF
  mkr : C.mkr = mkrList
  mhd : ∀ x ∈ mkrList, ∀ s, Base C s → CodeHd s.heap x.1 x.2.1
  mbu : ∀ x ∈ mkrList, ∀ s, Base C s → s.heap.BuiltinsAt C.mg x.2.1
  bi : ∀ x v, (x, v) ∈ biList → C.mg x = none ∧ C.mb x = some v
  fn : ∀ i a dV kV, (i, a, dV, kV) ∈ defList → FnB C i a dV kV
  dflt : ∀ T ∈ [22, 31, 40, 49], ∀ s, Base C s → ∃ o n t, s.heap.get? T = some o ∧ o.data = .seq #[.int 0 t, .none] n
  kdflt : ∀ T ∈ [23, 32, 41, 50], ∀ s, Base C s → ∃ m, s.heap.Ns T m ∧ m "key" = some .none
theorem Glb.range {C : Cx} (G : Glb C) : RangeIs C := G.bi "range" (.type "range") (by repeat (first | exact List.mem_cons_self | apply List.mem_cons_of_mem))
theorem Glb.maker {C : Cx} (G : Glb C) {env : Env} (c P : Addr) (qual : Str) (h : (c, P, qual) ∈ mkrList) (hc : env.code = .ref c) (h1 : mainGlobals ≠ P) (h2 : ∀ x ∈ mkrList, x.2.1 = P → x.2.2 = qual) : Mkr C env c P qual :=
  ⟨hc, fun s B => G.mhd _ h s B, by rw [G.mkr]; exact h, by rw [G.mkr]; exact h2, h1, fun s B => G.mbu _ h s B⟩
theorem Glb.at {C : Cx} (G : Glb C) (i : Nat) (a : Addr) (dV kV : Value) (h : (i, a, dV, kV) ∈ defList) : C.mg (nmI i) = some (.ref a) ∧ FnAt C a := let ⟨h1, _, _, D⟩ := G.fn i a dV kV h; ⟨h1, D.fn⟩
theorem wpAny_of_eq {M : Model} {A : Around} {α : Type} {m m' : Sem α} {Q : α → Shared → Prop} {E : Value → Shared → Prop} {s : Shared} (e : m = m') (h : wpAny M A m' Q E s) : wpAny M A m Q E s := e ▸ h
noncomputable abbrev keyF (slots : List (Str × Value)) : Sem (List (Str × Value) × List Str) :=
  (nsGet 50 "key" >>= fun dflt => match dflt with
    | some v => pure (ForInStep.yield (slots ++ [(Str.ofString "key", v)], [])) | none => pure (ForInStep.yield (slots, [] ++ [Str.ofString "key"]))) >>= fun r => match r with | .done b => pure b | .yield b => pure b
theorem binds_left4 {s : Shared} {doc pm : Value} {cd : Addr} {o : Obj} {n : Nat} {t : Tok} {m : Str → Option Value} {v1 v2 v3 v4 : Value} (ho : s.heap.get? 49 = some o) (hs : o.data = .seq #[.int 0 t, .none] n) (hn : s.heap.Ns 50 m) (hm : m "key" = some .none) :
    BindsTo s (fdI 5 (.ref 49) (.ref 50) doc pm cd) ⟨[v1,v2,v3,v4], []⟩ [("a", v1), ("x", v2), ("lo", v3), ("hi", v4), ("key", .none)] := fun M A E Q h => by
  refine (show wpAny M A (seqItems? (.ref 49) >>= _) Q E s from ?_)
  refine wpAny_bind (wpAny_seqItems ho hs ?_)
  refine wpAny_bind ?_
  refine wpAny_of_eq (m' := (pure [("a", v1), ("x", v2), ("lo", v3), ("hi", v4)] : Sem (List (Str × Value)))) ?_ ?_
  · kernel_rfl!
  refine wpAny_pure ?_
  refine wpAny_bind ?_
  refine wpAny_of_eq (m' := keyF [("a", v1), ("x", v2), ("lo", v3), ("hi", v4)]) ?_ ?_
  · kernel_rfl!
  refine wpAny_bind (wpAny_bind (wpAny_nsGet hn ?_))
  rw [hm]
  refine wpAny_of_eq (m' := pure _) rfl (wpAny_pure (wpAny_pure ?_))
  exact wpAny_of_eq (m' := (pure [("a", v1), ("x", v2), ("lo", v3), ("hi", v4), ("key", .none)] : Sem (List (Str × Value)))) (by kernel_rfl!) (wpAny_pure h)
theorem binds_left3 {s : Shared} {doc pm : Value} {cd : Addr} {o : Obj} {n : Nat} {t : Tok} {m : Str → Option Value} {v1 v2 v3 : Value} (ho : s.heap.get? 49 = some o) (hs : o.data = .seq #[.int 0 t, .none] n) (hn : s.heap.Ns 50 m) (hm : m "key" = some .none) :
    BindsTo s (fdI 5 (.ref 49) (.ref 50) doc pm cd) ⟨[v1,v2,v3], []⟩ [("a", v1), ("x", v2), ("lo", v3), ("hi", .none), ("key", .none)] := fun M A E Q h => by
  refine (show wpAny M A (seqItems? (.ref 49) >>= _) Q E s from ?_)
  refine wpAny_bind (wpAny_seqItems ho hs ?_)
  refine wpAny_bind ?_
  refine wpAny_of_eq (m' := (pure [("a", v1), ("x", v2), ("lo", v3), ("hi", .none)] : Sem (List (Str × Value)))) ?_ ?_
  · kernel_rfl!
  refine wpAny_pure ?_
  refine wpAny_bind ?_
  refine wpAny_of_eq (m' := keyF [("a", v1), ("x", v2), ("lo", v3), ("hi", .none)]) ?_ ?_
  · kernel_rfl!
  refine wpAny_bind (wpAny_bind (wpAny_nsGet hn ?_))
  rw [hm]
  refine wpAny_of_eq (m' := pure _) rfl (wpAny_pure (wpAny_pure ?_))
  exact wpAny_of_eq (m' := (pure [("a", v1), ("x", v2), ("lo", v3), ("hi", .none), ("key", .none)] : Sem (List (Str × Value)))) (by kernel_rfl!) (wpAny_pure h)
end
section -- D0
mutual
theorem eqv_self : ∀ (d : PyData), d.canLay0 = true → PyData.eqv d d = true
  | .none, _ => rfl
  | .bool a, _ => by simp [PyData.eqv]
  | .int a, _ => by simp [PyData.eqv]
  | .str a, _ => by simp [PyData.eqv]
  | .list xs, h => by rw [PyData.eqv]; exact eqvAll_self xs h
  | .tuple xs, h => by rw [PyData.eqv]; exact eqvAll_self xs h
  | .dict _, h => nomatch h
theorem eqvAll_self : ∀ (ds : List PyData), PyData.canLayAll0 ds = true → PyData.eqvAll ds ds = true
  | [], _ => rfl
  | x :: r, h => by
    have h := Bool.and_eq_true_iff.mp h
    rw [PyData.eqvAll, eqv_self x h.1, eqvAll_self r h.2]; rfl
end
theorem eqv_shaped {d : PyData} (h : SeqAt.shaped d = true) : PyData.eqv d d = true := eqv_self d (SeqAt.canLay_of_shaped h)
theorem lay_map {α : Type} (f : α → PyData) (h : ∀ x, (f x).canLay0 = true) : ∀ l : List α, PyData.canLayAll0 (l.map f) = true
  | [] => rfl
  | x :: r => by rw [List.map_cons, PyData.canLayAll0, h x, lay_map f h r]; rfl
theorem depth_map {α : Type} (f : α → PyData) (k : Nat) (h : ∀ x, (f x).depth ≤ k) : ∀ l : List α, PyData.depthAll (l.map f) ≤ k
  | [] => Nat.zero_le _
  | x :: r => by rw [List.map_cons, PyData.depthAll]; exact Nat.max_le.mpr ⟨h x, depth_map f k h r⟩
theorem shaped_map {α : Type} (f : α → PyData) (h : ∀ x, (f x).canLay0 = true) (hd : ∀ x, (f x).depth ≤ 60) (l : List α) : SeqAt.shaped (.list (l.map f)) = true := by
  unfold SeqAt.shaped
  rw [Bool.and_eq_true_iff]
  refine ⟨lay_map f h l, decide_eq_true ?_⟩
  have := depth_map f 60 hd l
  unfold PyData.depth
  omega
theorem shaped_ints (ns : List Int) : SeqAt.shaped (intsD ns) = true := shaped_map _ (fun _ => rfl) (fun _ => Nat.zero_le _) ns
theorem shaped_wishes (ws : List Wish) : SeqAt.shaped (wishesD ws) = true := shaped_map _ (fun _ => rfl) (fun w => by simp [wishD, PyData.depth, PyData.depthAll]) ws
theorem flat_len {α : Type} (xs : List α) (p : α → Bool) (d : PyData) : (xs.flatMap fun x => if p x = true then [d] else []).length = (xs.filter p).length := by
  induction xs with
  | nil => rfl
  | cons x r ih => rw [List.flatMap_cons, List.length_append, ih, List.filter_cons]; cases p x <;> simp <;> omega
theorem eqv_nil (ns : List Int) : PyData.eqv (intsD ns) (.list []) = ns.isEmpty := by cases ns <;> rfl
theorem flat_if {α β : Type} (xs : List α) (p : α → Bool) (f : α → β) : (xs.flatMap fun x => if p x = true then [f x] else []) = (xs.filter p).map f := by
  induction xs with
  | nil => rfl
  | cons x r ih =>
    rw [List.flatMap_cons, ih, List.filter_cons]
    cases p x <;> simp
theorem map_flat {α β γ : Type} (xs : List α) (g : α → List β) (f : β → γ) : (xs.flatMap g).map f = xs.flatMap fun x => (g x).map f := by
  induction xs with
  | nil => rfl
  | cons x r ih => simp [ih]
end
section -- D1
theorem bitAnd_nat (a b : Nat) : Builtin.bitAnd (a : Int) (b : Int) = ((a &&& b : Nat) : Int) := by rw [bitAnd_pp (by omega) (by omega)]; rfl
theorem bitXor_nat (a b : Nat) : Builtin.bitXor (a : Int) (b : Int) = ((a ^^^ b : Nat) : Int) := by
  unfold Builtin.bitXor
  rw [bitOr_and, bitAnd_nat]
  have h1 := nat_or_add_and (a ^^^ b) (a &&& b)
  have e1 : (a ^^^ b) ||| (a &&& b) = a ||| b := Nat.eq_of_testBit_eq fun i => by
    simp only [Nat.testBit_or, Nat.testBit_xor, Nat.testBit_and]; cases a.testBit i <;> cases b.testBit i <;> rfl
  have e2 : (a ^^^ b) &&& (a &&& b) = 0 := Nat.eq_of_testBit_eq fun i => by
    simp only [Nat.testBit_xor, Nat.testBit_and, Nat.zero_testBit]; cases a.testBit i <;> cases b.testBit i <;> rfl
  have h2 := nat_or_add_and a b
  rw [e1, e2] at h1
  omega
noncomputable def clr (f i : Nat) : Nat := f >>> i <<< i
theorem clr_bit (f i j : Nat) : (clr f i).testBit j = (decide (i ≤ j) && f.testBit j) := by
  unfold clr
  rw [Nat.testBit_shiftLeft, Nat.testBit_shiftRight]
  by_cases h : i ≤ j
  · simp [h]
  · simp [h]
theorem clr_zero (f : Nat) : clr f 0 = f := by simp [clr]
theorem clr_top {f : Nat} (h : f < 2 ^ 32) : clr f 32 = 0 := by
  apply Nat.eq_of_testBit_eq
  intro j
  rw [clr_bit, Nat.zero_testBit]
  by_cases hj : 32 ≤ j
  · rw [Nat.testBit_lt_two_pow (Nat.lt_of_lt_of_le h (Nat.pow_le_pow_right (by decide) hj))]; simp
  · simp [hj]
theorem clr_and (f i : Nat) : (clr f i &&& 2 ^ i ≠ 0) ↔ f.testBit i = true := by
  constructor
  · intro h
    apply Classical.byContradiction
    intro hn
    apply h
    apply Nat.eq_of_testBit_eq
    intro j
    rw [Nat.testBit_and, clr_bit, Nat.testBit_two_pow, Nat.zero_testBit]
    by_cases e : i = j
    · subst e; simp at hn; simp [hn]
    · simp [e]
  · intro h h0
    have := congrArg (Nat.testBit · i) h0
    simp only [Nat.testBit_and, clr_bit, Nat.testBit_two_pow, Nat.zero_testBit] at this
    simp [h] at this
theorem clr_xor {f i : Nat} (h : f.testBit i = true) : clr f i ^^^ 2 ^ i = clr f (i + 1) := by
  apply Nat.eq_of_testBit_eq
  intro j
  rw [Nat.testBit_xor, clr_bit, clr_bit, Nat.testBit_two_pow]
  by_cases e : i = j
  · subst e; simp [h]
  · by_cases h1 : i ≤ j
    · have : i + 1 ≤ j := by omega
      simp [e, h1, this]
    · have : ¬ i + 1 ≤ j := by omega
      simp [e, h1, this]
theorem clr_same {f i : Nat} (h : f.testBit i = false) : clr f i = clr f (i + 1) := by
  apply Nat.eq_of_testBit_eq
  intro j
  rw [clr_bit, clr_bit]
  by_cases e : i = j
  · subst e; simp [h]
  · by_cases h1 : i ≤ j
    · have : i + 1 ≤ j := by omega
      simp [h1, this]
    · have : ¬ i + 1 ≤ j := by omega
      simp [h1, this]
noncomputable def bitsLt (f i : Nat) : List Nat := (List.range i).filter (f.testBit ·)
theorem bitsLt_succ (f i : Nat) : bitsLt f (i + 1) = bitsLt f i ++ (if f.testBit i = true then [i] else []) := by
  unfold bitsLt
  rw [List.range_succ, List.filter_append, List.filter_cons]
  split <;> simp
theorem bitsLt_end {f i : Nat} (h : clr f i = 0) : ∀ {j}, i ≤ j → bitsLt f j = bitsLt f i := by
  intro j hij
  induction hij with
  | refl => rfl
  | @step k hk ih =>
    rw [bitsLt_succ, ih]
    have : f.testBit k = false := by
      have h1 := clr_bit f i k
      rw [h, Nat.zero_testBit] at h1
      have hk' : i ≤ k := hk
      simpa [hk'] using h1.symm
    simp [this]
end
section -- E2
section
variable {C : Cx} {n : Nat} {A A0 : Around} {s s' s₀ : Shared} {env : Env} {ρ ρ' : Names} {pv pvc : List Addr} {own o1 o2 : Own} {E : Value → Shared → Prop}
noncomputable abbrev entD (ds : List PyData) : PyData := .dict [(.int (198 : Nat), .tuple ds)]
theorem RD.ent_inv {h v ds} (x : RD h pv v (entD ds)) : ∃ a o vs m, v = .ref a ∧ a ∉ pv ∧ h.get? a = some o ∧ o.cls = .ref 198 ∧ o.data = .seq vs m ∧ RDs h pv vs.toList ds := by
  rcases (show InvD h pv v (entD ds) from x.all) with ⟨b, e, q⟩ | ⟨a, o, vs, m, ds', k, e, h1, h2, h3, h4, h5, h6⟩
  · have e := (Prod.mk.inj (List.cons.inj e).1).2
    exact nomatch e
  · have e1 := (Prod.mk.inj (List.cons.inj e).1)
    have e2 := Int.ofNat.inj (PyData.int.inj e1.1)
    have e3 := PyData.tuple.inj e1.2
    subst e2 e3
    exact ⟨_, _, _, _, h1, h2, h3, h4, h5, h6⟩
theorem getm_tuple {pl : Sem Bool} {Q : Value × List Value → Shared → Prop} (h : Q (.builtin "tuple.__new__", []) { s with toks := s.toks + 1 }) : wpAny (model C.prog C.w) A (getMethod (.type "tuple") (Str.ofString "__new__") pl) Q E s := by
  have X : Frag.In [] s.heap := fun a o e => nomatch e
  have hstub : opaqueClassAbove (.type "tuple") = pure none := by unfold opaqueClassAbove; dsimp only; rw [show Manifest.isStub "tuple" = false by decide +kernel]; rfl
  have ht : typeOf (.type "tuple") = pure (.type "type") := by first | rfl | kernel_rfl
  have L0 : Looks (model C.prog C.w) s.heap (typeOf (.type "tuple")) (.type "type") := Looks.of_pure ht
  have hg : findIn [] (.type "type") "__getattribute__" = some (some (.builtin "type.__getattribute__")) := type_tga
  have e : findCls [] (.type "tuple") (.type "type") (Str.ofString "__new__") = some (.val (.builtin "tuple.__new__")) := by kernel_rfl!
  unfold getMethod specialOf
  refine wpAny_bind (wpAny_bind (L0.here ((looks_findIn X hg).here ?_)))
  dsimp only
  rw [if_pos canon_tga]
  refine wpAny_bind (wpAny_mono (Q := fun v => Q (v, [])) (E := E) ?_ (fun _ _ z => wpAny_pure z) fun _ _ z => z)
  have LO : Looks (model C.prog C.w) s.heap (opaqueClassAbove (.type "tuple")) none := Looks.of_pure hstub
  refine cls_open X LO L0 hg (looks_hook X (r := none) (by rfl)) (by show subIn [] _ _ = _; rfl) e
    (wpAny_pure (by show wpAny _ _ (handedOut _) _ _ _; rw [handedOut_of (by decide)]; exact wpAny_pure h))
theorem len5 {α : Type} (l : List α) (h : l.length = 5) : ∃ a b c d e, l = [a, b, c, d, e] := by
  rcases l with _ | ⟨a, _ | ⟨b, _ | ⟨c, _ | ⟨d, _ | ⟨e, _ | ⟨f, l⟩⟩⟩⟩⟩⟩
  all_goals first | exact ⟨_, _, _, _, _, rfl⟩ | (exfalso; simp at h)
theorem RDs.inv5 {h : Heap} {pv : List Addr} {vs : List Value} {d1 d2 d3 d4 d5 : PyData} (x : RDs h pv vs [d1, d2, d3, d4, d5]) : ∃ v1 v2 v3 v4 v5, vs = [v1, v2, v3, v4, v5] ∧ RD h pv v1 d1 ∧ RD h pv v2 d2 ∧ RD h pv v3 d3 ∧ RD h pv v4 d4 ∧ RD h pv v5 d5 := by
  obtain ⟨v1, ws, rfl, a, x⟩ := x.inv
  obtain ⟨v2, us, rfl, b, x⟩ := x.inv
  obtain ⟨v3, v4, v5, rfl, c, d, e⟩ := x.inv3
  exact ⟨v1, v2, v3, v4, v5, rfl, a, b, c, d, e⟩
theorem code_new (G : Glb C) {K : Frag} (hK : ∀ s, Base C s → K.In s.heap) (FK : EntK K) (ra : Room (n + 2) A) {pv : List Addr} {vs : List Value} {ds : List PyData} {R : Result → Shared → Prop} (B : Base C s) (L : Live C A s) (P : ∀ p ∈ pv, ∃ o, s.heap.get? p = some o)
    (hl : vs.length = 5) (hv : RDs s.heap pv vs ds)
    (h : ∀ x o m ws s', Kp C s s' → s.heap.get? x = none → s'.heap.get? x = some o → o.cls = .ref 198 → o.data = .seq ws m → RDs s'.heap pv ws.toList ds → R (.ok (.ret (.ref x))) s') :
    codeAny (model C.prog C.w) A (.call (.ref 126) ⟨.ref 198 :: vs, []⟩) R s := by
  obtain ⟨doc, pm, D⟩ := G.entF
  have ht := G.bi (Str.ofString "tuple") (.type "tuple") (by walk_at "has")
  obtain ⟨d1, d2, d3, d4, d5, rfl⟩ := len5 ds (by rw [← hv.length]; exact hl)
  obtain ⟨v1, v2, v3, v4, v5, rfl, r1, r2, r3, r4, r5⟩ := hv.inv5
  refine call_start (n := n + 1) (pvc := pv) (ρ := [("_cls", opq 198), ("start", d1), ("end", d2), ("target", d3), ("depth", d4), ("lasti", d5)]) (binds := [("_cls", .ref 198), ("start", v1), ("end", v2), ("target", v3), ("depth", v4), ("lasti", v5)]) D rfl rfl B L P ra (.of_eq (by kernel_rfl!)) (by simp only [List.map_cons, List.map_nil]; decide +kernel) (fun L x hx => ?_) (fun y d i => ?_) fun L s₁ env he ra' st => ?_
  · simp only [List.map_cons, List.map_nil, List.mem_cons, List.not_mem_nil, or_false] at hx
    rcases hx with rfl | rfl | rfl | rfl | rfl | rfl <;> exact .inl rfl
  · simp only [List.mem_cons, List.not_mem_nil, or_false] at i
    rcases i with i | i | i | i | i | i <;> cases i
    · exact ⟨_, by simp, .opq 198⟩
    · exact ⟨_, by simp, r1⟩
    · exact ⟨_, by simp, r2⟩
    · exact ⟨_, by simp, r3⟩
    · exact ⟨_, by simp, r4⟩
    · exact ⟨_, by simp, r5⟩
  subst he
  conv in bdNew => whnf
  refine st.skip ra' .cstr (fun s1 st => ?_)
  refine wpAny_execs_cons (wpAny_Return_some (methodCall_KW ?_))
  refine ev_built st.rdy rfl ht.1 ht.2 (getm_tuple ?_)
  have r0 := st.rdy.kp (Kp.tok (C := C) (tk := s1.toks + 1))
  refine callWith_builtin (star_plain (by rfl) _) (evalArgs_ev ra' r0 (.cons (d := opq 198) (by walk_at "ev") (.cons (d := .tuple [d1, d2, d3, d4, d5]) (by walk_at "ev") .nil)) (by rfl) fun us s2 k2 h2 => ?_)
  obtain ⟨u, v, rfl, g1, g2⟩ := h2.inv2
  have := g1.opq_inv
  subst this
  obtain ⟨t, items, rfl, q1, q2, q3⟩ := g2.tuple_inv
  have k02 := (st.kp.trans (Kp.tok (C := C) (tk := s1.toks + 1))).trans k2
  have B2 := B.mono k02
  have hl5 : items.size = 5 := by have := q3.length; simpa using this
  refine wp_tnew FK (hK _ B2) q2 (by omega) fun h' x hk hx hob => ?_
  obtain ⟨dx, hob⟩ := hob
  have k3 : Kp C s2 { s2 with heap := h' } := Kp.keepH hk
  refine h x _ _ items _ (k02.trans k3) ?_ hob rfl rfl ?_
  · exact new_of_kp k02 hx
  · exact (q3.kp k3).sub fun a o ha _ => by simpa [prv] using ha
theorem Ev.entry (G : Glb C) {p : Pos} {es : List Expr} {e : Expr} {ds : List PyData} {pos : Pos} (hes : Evs C (n + 3) env ρ (e :: es) ds) (hl : ds.length = 5) (hk : autoParam (env.kindOf (Str.ofString "_ExceptionTableEntry") = some .globalImplicit) syR)
    (hst : autoParam (starEach (e :: es) env = (false, eval e env) :: starEach es env) syR) (hpl : autoParam ((backTo pos (starEach es env)).any (·.1) = false) syR) :
    Ev C (n + 3) env ρ (.Call (.Name (Str.ofString "_ExceptionTableEntry") p) (e :: es) [] pos) (entD ds) := fun A ra s pv r Q E h => by
  obtain ⟨K, hK, FK⟩ := G.ent
  refine wpAny_Call_NameR (ev_glob r hk G.entC ?_ (by decide +kernel))
  refine callWith_K (K := K) (h₀ := s.heap) (hK s r.base) FK.keep (hes A ra s pv pos r _ _ fun vs s1 k1 h1 => ⟨hK _ (r.base.mono k1), ?_⟩) hst hpl
  have hl' : vs.length = 5 := by rw [h1.length, hl]
  obtain ⟨v1, vr, rfl⟩ : ∃ v1 vr, vs = v1 :: vr := by
    cases vs with
    | nil => cases hl'
    | cons a b => exact ⟨a, b, rfl⟩
  have kt : Kp C s1 { s1 with toks := s1.toks + 1 } := Kp.tok
  refine wp_entcall FK (hK _ (r.base.mono k1)) (code_new G hK FK (Room.cre (n := n + 2) ra) ((r.base.mono k1).mono kt) (Live.cre ((r.live.mono k1).mono kt)) ((r.kp k1).kp kt).priv hl' (h1.kp kt) fun x o m ws s' k2 hx ho hc hd hr => ?_)
  have k12 := (k1.trans kt).trans k2
  refine ⟨x, o, rfl, hK _ (r.base.mono k12), ho, hc, ?_⟩
  refine h _ s' k12 (.ent (fun hm => ?_) ho hc hd hr)
  obtain ⟨o', e'⟩ := ((r.kp k1).kp kt).priv x hm
  rw [hx] at e'; cases e'
theorem Ev.itmE (G : Glb C) {y : Str} {yp : Pos} {slice pos ds i k d'} (hv : Ev C n env ρ (.Name y yp) (entD ds)) (hi : Ev C n env ρ slice (.int i)) (hk : seqIndex? i ds.length = some k) (hd : ds[k]? = some d') (h0 : -(2 ^ 63) ≤ i) (h1 : i < 2 ^ 63)
    (hs : autoParam (∀ o i, subscripted slice false o i = operate [o, i] (getItem o i)) syV) : Ev C n env ρ (.Subscript (.Name y yp) slice pos) d' := fun A ra s pv r Q E h => by
  obtain ⟨K, hK, FK⟩ := G.ent
  refine Subscript_ (hv A ra s pv r _ _ fun a s1 k1 h1 => hi A ra s1 pv (r.kp k1) _ _ fun b s2 k2 h2 => ?_)
  obtain ⟨t, rfl⟩ := h2.int_inv
  obtain ⟨x, o, vs, m, rfl, -, ho, hc, hod, hr⟩ := (h1.kp k2).ent_inv
  obtain ⟨v, e1, e2⟩ := hr.get hd
  have X := hK _ (r.base.mono (k1.trans k2))
  have hitem := looks_findIn (M := model C.prog C.w) X FK.item
  have hty : Looks (model C.prog C.w) s2.heap (typeOf (.ref x)) (.ref 198) := (Looks.ld ho).andThen (by rw [hc]; exact .now)
  have hsub := FK.sub (M := model C.prog C.w) X (.type "tuple") (by decide)
  have hdq : Looks (model C.prog C.w) s2.heap (isSubtype (.ref 198) (.type "collections.deque")) false := FK.subF X (.type "collections.deque")
  have hQ := h v s2 (k1.trans k2) e2
  have hlen : vs.size = ds.length := by rw [← hr.length]; simp
  have hvk : (seqIndex? i vs.size).bind (vs[·]?) = some v := by rw [hlen, hk]; simpa using e1
  have hrange : ¬ (decide (i < -(2 ^ 63)) || decide (i ≥ 2 ^ 63)) = true := by simp; omega
  obtain ⟨oc, odt, odd, osl⟩ := o
  dsimp only at hc hod
  subst hc hod
  obtain ⟨hp, g, dr, tk, os⟩ := s2
  dsimp only at hitem hty hsub ho hQ hdq
  unfold subscriptTail getitemInPython specialOf
  repeat (first | rw [hs] | with_reducible refine wpAny_call ?_ | lk)
  refine codeAny_call_builtin (by decide +kernel) PySem.F.entry_tuple_getitem (@check_slot (model C.prog C.w) _ _ _ "tuple.__getitem__" "tuple" "__getitem__" (.ref x) [.int i t] [] _ (by decide +kernel) (by decide +kernel) (hty.andThen hsub) (PySem.F.args_tuple_getitem_2 _ _) ?_)
  unfold Builtin.«tuple.__getitem__»
  repeat (first | rw [if_neg hrange] | rw [hvk] | lk)
  exact hQ
end
end
section -- E3
noncomputable abbrev coN : Str := Str.ofString "co_exceptiontable"
noncomputable def CodeObj (h : Heap) (f : Addr) (b : Array UInt8) (t : Tok) : Prop :=
  ∃ dx fd sl odx, h.get? f = some ⟨.type "function", some dx, .func fd, sl⟩ ∧ h.get? dx = some odx ∧ (∃ es n, odx.data = .dict es n) ∧ lookIn coN odx = some (some (.bytes b t))
section
variable {C : Cx} {n : Nat} {A A0 : Around} {s s' s₀ : Shared} {env : Env} {ρ ρ' : Names} {pv pvc : List Addr} {own o1 o2 : Own} {E : Value → Shared → Prop} {f : Addr} {b : Array UInt8} {t : Tok}
theorem CodeObj.kps (x : CodeObj s.heap f b t) (k : Kp C s s') : CodeObj s'.heap f b t := by
  obtain ⟨dx, fd, sl, odx, h1, h2, ⟨es, n, h3⟩, h4⟩ := x
  obtain ⟨sl', h5, _⟩ := k.sub' dx odx h2 (nt_dict h3)
  exact ⟨dx, fd, sl, _, k.sub _ _ h1 (nt_func rfl), h5, ⟨es, n, h3⟩, h4⟩
theorem tl_fn_ga : typeLookup (.type "function") (Str.ofString "__getattribute__") = pure (some (.builtin "object.__getattribute__")) := by rw [typeLookup_type, builtinLookup_eq_fast]; kernel_rfl!
theorem tl_fn_co : typeLookup (.type "function") coN = pure none := by rw [typeLookup_type, builtinLookup_eq_fast]; kernel_rfl!
theorem sub_fn_obj : isSubtype (.type "function") (.type "object") = pure true := by rw [isSubtype_type]; kernel_rfl!
theorem wp_getco {expr : Bool} {Q : Value → Shared → Prop} (x : CodeObj s.heap f b t) (h : Q (.bytes b t) { s with toks := s.toks + 1 }) : wpAny (model C.prog C.w) A (getAttr (.ref f) coN expr) Q E s := by
  obtain ⟨dx, fd, sl, odx, h1, h2, ⟨es, n, h3⟩, h4⟩ := x
  have ht : Looks (model C.prog C.w) s.heap (typeOf (.ref f)) (.type "function") := (Looks.ld h1).andThen .now
  have hga : Looks (model C.prog C.w) s.heap (typeLookup (.type "function") (Str.ofString "__getattribute__")) (some (.builtin "object.__getattribute__")) := Looks.of_pure tl_fn_ga
  have hco : Looks (model C.prog C.w) s.heap (typeLookup (.type "function") coN) none := Looks.of_pure tl_fn_co
  have hsub : Looks (model C.prog C.w) s.heap (isSubtype (.type "function") (.type "object")) true := Looks.of_pure sub_fn_obj
  have hns : Looks (model C.prog C.w) s.heap (nsGet dx coN) (some (.bytes b t)) := (Looks.ld h2).andThen (by rw [nsLook_of h4]; exact .now)
  obtain ⟨hp, g, d, tk, os⟩ := s
  dsimp only at ht hga hco hsub h1 hns
  have hx : ¬ ((expr && onTheHeap (Value.builtin "object.__getattribute__")) = true) := by rw [show onTheHeap (Value.builtin "object.__getattribute__") = false from rfl, Bool.and_false]; decide
  repeat (first | rw [if_neg hx] | with_reducible refine wpAny_call ?_ | with_reducible refine wpAny_attempt ?_ | lk)
  refine codeAny_call_builtin (by decide +kernel) PySem.F.entry_object_getattribute (@check_slot (model C.prog C.w) _ _ ⟨hp, g, d, tk + 1, os⟩ "object.__getattribute__" "object" "__getattribute__" (.ref f) [.str coN tk] [] _ (by decide +kernel) (by decide +kernel) (ht.andThen hsub) (PySem.F.args_object_getattribute_2 _ _) ?_)
  unfold Builtin.«object.__getattribute__»
  repeat lk
  exact h
theorem tl_fn_sa : typeLookup (.type "function") (Str.ofString "__setattr__") = pure (some (.builtin "object.__setattr__")) := by rw [typeLookup_type, builtinLookup_eq_fast]; kernel_rfl!
theorem mro_fn : mroOf (.type "function") = pure [.type "function", .type "object"] := by rw [mroOf_type]; kernel_rfl!
theorem isStr_co (tk : Nat) : (Value.str coN tk).isStr coN = true := by kernel_rfl!
theorem wp_setco {Q : Unit → Shared → Prop} {fd : FuncData} {sl : Array (Option Value)} (h1 : s.heap.get? f = some ⟨.type "function", none, .func fd, sl⟩)
    (h : ∀ h' tk, CodeObj h' f b t → (∀ b o, b ≠ f → s.heap.get? b = some o → h'.get? b = some o) → Q () { s with heap := h', toks := tk }) : wpAny (model C.prog C.w) A (setAttr (.ref f) coN (.bytes b t)) Q E s := by
  have ht : Looks (model C.prog C.w) s.heap (typeOf (.ref f)) (.type "function") := (Looks.ld h1).andThen .now
  have hsa : Looks (model C.prog C.w) s.heap (typeLookup (.type "function") (Str.ofString "__setattr__")) (some (.builtin "object.__setattr__")) := Looks.of_pure tl_fn_sa
  have hco : Looks (model C.prog C.w) s.heap (typeLookup (.type "function") coN) none := Looks.of_pure tl_fn_co
  have hsub : Looks (model C.prog C.w) s.heap (isSubtype (.type "function") (.type "object")) true := Looks.of_pure sub_fn_obj
  have hmro : Looks (model C.prog C.w) s.heap (mroOf (.type "function")) [.type "function", .type "object"] := Looks.of_pure mro_fn
  obtain ⟨hp, g, d, tk, os⟩ := s
  dsimp only at ht hsa hco hsub h1 hmro h
  repeat (first | with_reducible refine wpAny_call ?_ | lk)
  refine codeAny_call_builtin (by decide +kernel) PySem.F.entry_object_setattr (@check_slot (model C.prog C.w) _ _ ⟨hp, g, d, tk + 1, os⟩ "object.__setattr__" "object" "__setattr__" (.ref f) [.str coN tk, .bytes b t] [] _ (by decide +kernel) (by decide +kernel) (ht.andThen hsub) (PySem.F.args_object_setattr_3 _ _ _) ?_)
  unfold Builtin.«object.__setattr__»
  repeat lk
  have hlt := Heap.lt_size h1
  have hf1 := Heap.get?_push_of_some (h := hp) { cls := .type "dict", data := .dict #[] } h1
  refine wpAny_update hf1 ?_
  have hfin : finalisedInACycleAlone "function" = false := by decide +kernel
  have hdm : ∀ d, dictMade (.type "function") f d = pure (some d) := fun d => by
    unfold dictMade
    simp only [hfin, Bool.false_eq_true, if_false]
  rw [hdm]
  refine wpAny_pure ?_
  dsimp only
  unfold Builtin.ObjectAttr.storeInDict Builtin.ObjectAttr.newKeyGuard
  have hne : hp.objs.size ≠ f := Nat.ne_of_gt hlt
  have hd0 : (Heap.update (hp.push { cls := .type "dict", data := .dict #[] }) f (fun o => { o with dict := some hp.objs.size })).get? hp.objs.size = some { cls := .type "dict", data := .dict #[] } :=
    (Heap.get?_update_other _ _ (Ne.symm hne)).trans (Heap.get?_push_size _ rfl)
  unfold nsSet
  repeat lk
  refine wpAny_updatePart hd0 ?_
  generalize (if coN.cps.isEmpty = true then 0 else reduceHash ((model C.prog C.w).w.params.strHash coN.cps)) = H
  have hp1 : Obj.putName coN H (Value.str coN (tk + 1)) (Value.bytes b t) { cls := .type "dict", data := .dict #[] } = { cls := .type "dict", data := .dict #[⟨H, .str coN (tk + 1), .bytes b t⟩] 1 } := by rfl
  have hd1 := Heap.get?_update_self (Obj.putName coN H (Value.str coN (tk + 1)) (Value.bytes b t)) hd0 (by rw [hp1]; rfl)
  rw [hp1] at hd1
  refine wpAny_bind (wpAny_lookBehind hd1 (by rfl) ?_)
  refine wpAny_pure (wpAny_pure (wpAny_pure (h _ _ ⟨hp.objs.size, fd, sl, _, ?_, hd1, ⟨_, _, rfl⟩, ?_⟩ fun c o hc e => ?_)))
  · rw [Heap.get?_update_other _ _ hne]
    exact Heap.get?_update_self _ hf1 rfl
  · unfold lookIn
    simp [isStr_co]
  · rw [Heap.get?_update_other _ _ (Nat.ne_of_gt (Heap.lt_size e)), Heap.get?_update_other _ _ (Ne.symm hc)]
    exact Heap.get?_push_of_some _ e
end
end
section -- F5
noncomputable def bisGo (less : Nat → Bool) (k : Nat) : Nat → Nat → Nat :=
  Nat.rec (fun lo _ => lo) (fun _ ih lo hi => if lo < hi then (if less ((lo + hi) / 2) then ih ((lo + hi) / 2 + 1) hi else ih lo ((lo + hi) / 2)) else lo) k
noncomputable def bisLoop (less : Nat → Bool) (lo hi : Nat) : Nat := bisGo less (hi - lo) lo hi
theorem bisGo_succ (less : Nat → Bool) (k lo hi : Nat) : bisGo less (k + 1) lo hi = if lo < hi then (if less ((lo + hi) / 2) then bisGo less k ((lo + hi) / 2 + 1) hi else bisGo less k lo ((lo + hi) / 2)) else lo := rfl
theorem bisGo_enough (less : Nat → Bool) (k : Nat) : ∀ lo hi, hi - lo ≤ k → bisGo less (k + 1) lo hi = bisGo less k lo hi := by
  induction k with
  | zero => intro lo hi h; rw [bisGo_succ, if_neg (by omega)]; rfl
  | succ k ih =>
    intro lo hi h
    rw [bisGo_succ less (k + 1) lo hi, bisGo_succ less k lo hi]
    by_cases q : lo < hi
    · rw [if_pos q, if_pos q, ih _ _ (by omega), ih _ _ (by omega)]
    · rw [if_neg q, if_neg q]
theorem bisGo_more (less : Nat → Bool) {k : Nat} (m : Nat) {lo hi : Nat} (h : hi - lo ≤ k) : bisGo less (k + m) lo hi = bisGo less k lo hi := by
  induction m with
  | zero => rfl
  | succ m ih => rw [← ih]; exact bisGo_enough _ _ _ _ (Nat.le_trans h (Nat.le_add_right _ _))
theorem bisGo_loop (less : Nat → Bool) {k lo hi : Nat} (h : hi - lo ≤ k) : bisGo less k lo hi = bisLoop less lo hi := by
  have := bisGo_more less (k - (hi - lo)) (lo := lo) (hi := hi) (Nat.le_refl _)
  rwa [Nat.add_sub_cancel' h] at this
theorem bisLoop_step (less : Nat → Bool) {lo hi : Nat} (h : lo < hi) : bisLoop less lo hi = if less ((lo + hi) / 2) then bisLoop less ((lo + hi) / 2 + 1) hi else bisLoop less lo ((lo + hi) / 2) := by
  rw [← bisGo_loop less (k := hi - lo + 1) (by omega), bisGo_succ, if_pos h, bisGo_loop less (by omega), bisGo_loop less (by omega)]
theorem bisLoop_end (less : Nat → Bool) {lo hi : Nat} (h : ¬ lo < hi) : bisLoop less lo hi = lo := by
  rw [← bisGo_loop less (k := hi - lo + 1) (by omega), bisGo_succ, if_neg h]
noncomputable abbrev bisI3 (ks : List Int) (x : Int) (lo hi : Nat) (k : Nat) (ρ : Names) (own : Own) : Prop := own = [] ∧ ∃ l h : Nat, k = h - l ∧ h ≤ ks.length ∧ bisLoop (fun i => decide (ks.getD i 0 < x)) l h = bisLoop (fun i => decide (ks.getD i 0 < x)) lo hi ∧ ρ = ([("a", intsD ks), ("x", .int x), ("lo", .int l), ("hi", .int h), ("key", .none)] : Names)
theorem pf_bisect_left {C : Cx} (G : Glb C) (ks : List Int) (x : Int) (lo hi : Nat) (hh : hi ≤ ks.length) (hl : ks.length < 2 ^ 30) :
    PFn C 3 (.ref 57) [intsD ks, .int x, .int lo, .int hi] (.int (bisLoop (fun i => decide (ks.getD i 0 < x)) lo hi)) := fun A ra s pv vs B L P hv Q E hq => by
  obtain ⟨-, doc, pm, D⟩ := G.fn 5 57 _ _ (by walk_at "has")
  obtain ⟨o, n, t, ho, hs⟩ := G.dflt 49 (by walk_at "has") s B
  obtain ⟨m, hn, hm⟩ := G.kdflt 50 (by walk_at "has") s B
  obtain ⟨v1, w1, rfl, r1, hv⟩ := hv.inv
  obtain ⟨v2, w2, rfl, r2, hv⟩ := hv.inv
  obtain ⟨v3, v4, rfl, r3, r4⟩ := hv.inv2
  refine wpAny_call (call_start (binds := [("a", v1), ("x", v2), ("lo", v3), ("hi", v4), ("key", .none)]) (ρ := [("a", intsD ks), ("x", .int x), ("lo", .int lo), ("hi", .int hi), ("key", .none)]) D rfl rfl B L P ra
    (binds_left4 ho hs hn hm) (by simp only [List.map_cons, List.map_nil]; decide +kernel) ?_ ?_ ?_)
  · intro L x hx
    simp only [List.map_cons, List.map_nil, List.mem_cons, List.not_mem_nil, or_false] at hx
    rcases hx with rfl | rfl | rfl | rfl | rfl <;> exact .inl rfl
  · intro y d i
    simp only [List.mem_cons, Prod.mk.injEq, List.not_mem_nil, or_false] at i
    rcases i with ⟨rfl, rfl⟩ | ⟨rfl, rfl⟩ | ⟨rfl, rfl⟩ | ⟨rfl, rfl⟩ | ⟨rfl, rfl⟩
    · exact ⟨_, by walk_at "has", r1⟩
    · exact ⟨_, by walk_at "has", r2⟩
    · exact ⟨_, by walk_at "has", r3⟩
    · exact ⟨_, by walk_at "has", r4⟩
    · exact ⟨_, by walk_at "has", .none⟩
  · intro L' s1 env he ra st
    subst he
    conv in (bdI 5) => whnf
    refine st.skip ra .cstr (fun s1 st => ?_)
    refine st.ifs ra (b := decide ((lo : Int) < 0)) (by walk_at "tst") (fun h => absurd (of_decide_eq_true h) (by omega)) (fun _ s2 st => wpAny_execs_nil ?_)
    refine st.ifs ra (b := false) (by walk_at "tst") (fun h => nomatch h) (fun _ s3 st => wpAny_execs_nil ?_)
    refine st.ifs ra (b := true) (by walk_at "tst") (fun _ s4 st => ?_) (fun h => nomatch h)
    refine st.while (bisI3 ks x lo hi) (hi - lo) ra ⟨rfl, lo, hi, rfl, hh, rfl, rfl⟩ ?_
    rintro k ρ1 own1 ⟨rfl, l, h, rfl, hh1, hb, rfl⟩
    refine ⟨decide ((l : Int) < h), by walk_at "tst", fun hlt s5 st E => ?_, fun hge s5 st => ?_⟩
    · have hlt : l < h := by have := of_decide_eq_true hlt; omega
      rw [bisLoop_step _ hlt] at hb
      refine st.assign ra (d := .int (((l + h) / 2 : Nat) : Int)) ?_ (by walk_at "upd") (by walk_at "none") (fun s6 st => ?_) (by walk_at "ownn")
      · have e : (((l + h) / 2 : Nat) : Int) = ((l : Int) + h).fdiv 2 := by rw [Int.fdiv_eq_ediv_of_nonneg _ (by omega)]; omega
        rw [e]
        walk_at "ev"
      refine st.ifs ra (b := decide (ks.getD ((l + h) / 2) 0 < x)) ?_ (fun hq' s7 st => ?_) (fun hq' s7 st => ?_)
      · refine Tst.cmp (x := .int (ks.getD ((l + h) / 2) 0)) (y := .int x) (Ev.itm (i := (((l + h) / 2 : Nat) : Int)) (d := intsD ks) (by walk_at "ev") (by walk_at "ev") (itm_ints (by omega) hl)) (by walk_at "ev") (.lt _ _)
      · refine st.assign ra (d := .int (((l + h) / 2 + 1 : Nat) : Int)) ?_ (by walk_at "upd") (by walk_at "none") (fun s8 st => wpAny_execs_nil (wpAny_execs_nil ⟨_, _, _, ?_, ⟨rfl, (l + h) / 2 + 1, h, rfl, hh1, ?_, rfl⟩, st.weak ?_⟩)) (by walk_at "ownn")
        · rw [Int.natCast_add]; walk_at "ev"
        · omega
        · rw [← hb, if_pos hq']
        · walk_at "weak"
      · refine st.assign ra (d := .int (((l + h) / 2 : Nat) : Int)) (by walk_at "ev") (by walk_at "upd") (by walk_at "none") (fun s8 st => wpAny_execs_nil (wpAny_execs_nil ⟨_, _, _, ?_, ⟨rfl, l, (l + h) / 2, rfl, by omega, ?_, rfl⟩, st.weak ?_⟩)) (by walk_at "ownn")
        · omega
        · rw [← hb, if_neg (by rw [hq']; decide)]
        · walk_at "weak"
    · have hge : ¬ l < h := by have := of_decide_eq_false hge; omega
      rw [bisLoop_end _ hge] at hb
      refine wpAny_execs_nil (st.ret ra (d := .int l) (by walk_at "ev") fun v s1 k1 r1 => ?_)
      rw [hb] at r1
      exact hq _ _ k1 r1
end
section -- F3
noncomputable def noWish : Wish := ⟨0, 0, 0, false, 0⟩
theorem itm_wishes {ws : List Wish} {k : Nat} (h : k < ws.length) (hl : ws.length < 2 ^ 30) : ItemOk (.list (ws.map wishD)) (k : Int) (wishD (ws.getD k noWish)) := by
  refine .listN ?_ (by rw [List.length_map]; omega)
  rw [List.getElem?_map, List.getD_eq_getElem?_getD]
  simp [List.getElem?_eq_getElem h]
noncomputable abbrev bisI1 (kf : Wish → Int) (ws : List Wish) (x : Int) (f : Addr) (k : Nat) (ρ : Names) (own : Own) : Prop := own = [] ∧ ∃ l h : Nat, k = h - l ∧ h ≤ ws.length ∧ bisLoop (fun i => decide (kf (ws.getD i noWish) < x)) l h = bisLoop (fun i => decide (kf (ws.getD i noWish) < x)) 0 ws.length ∧ ρ = ([("a", wishesD ws), ("x", .int x), ("lo", .int l), ("hi", .int h), ("key", opq f)] : Names)
theorem pf_bisect_left_key {C : Cx} (G : Glb C) {n : Nat} {f : Addr} {kf : Wish → Int} (ho : FnAt C f) (hk : ∀ w, PFn C n (.ref f) [wishD w] (.int (kf w))) (ws : List Wish) (x : Int) (hl : ws.length < 2 ^ 30) :
    PFnK C (n + 1) (.ref 57) [wishesD ws, .int x, .int 0, .none] "key" (opq f) (.int (bisLoop (fun i => decide (kf (ws.getD i noWish) < x)) 0 ws.length)) := fun A ra s pv vs kv B L P hv rk Q E hq => by
  obtain ⟨-, doc, pm, D⟩ := G.fn 5 57 _ _ (by walk_at "has")
  obtain ⟨o, m, t, ho', hs⟩ := G.dflt 49 (by walk_at "has") s B
  obtain ⟨v1, w1, rfl, r1, hv⟩ := hv.inv
  obtain ⟨v2, w2, rfl, r2, hv⟩ := hv.inv
  obtain ⟨v3, v4, rfl, r3, r4⟩ := hv.inv2
  refine wpAny_call (call_start (binds := [("a", v1), ("x", v2), ("lo", v3), ("hi", v4), ("key", kv)]) (ρ := [("a", wishesD ws), ("x", .int x), ("lo", .int 0), ("hi", .none), ("key", opq f)]) D rfl rfl B L P ra
    (BindsTo.of_defaults rfl ho' hs rfl rfl) (by simp only [List.map_cons, List.map_nil]; decide +kernel) ?_ ?_ ?_)
  · intro L x hx
    simp only [List.map_cons, List.map_nil, List.mem_cons, List.not_mem_nil, or_false] at hx
    rcases hx with rfl | rfl | rfl | rfl | rfl <;> exact .inl rfl
  · intro y d i
    simp only [List.mem_cons, Prod.mk.injEq, List.not_mem_nil, or_false] at i
    rcases i with ⟨rfl, rfl⟩ | ⟨rfl, rfl⟩ | ⟨rfl, rfl⟩ | ⟨rfl, rfl⟩ | ⟨rfl, rfl⟩
    · exact ⟨_, by walk_at "has", r1⟩
    · exact ⟨_, by walk_at "has", r2⟩
    · exact ⟨_, by walk_at "has", r3⟩
    · exact ⟨_, by walk_at "has", r4⟩
    · exact ⟨_, by walk_at "has", rk⟩
  · intro L' s1 env he ra st
    subst he
    conv in (bdI 5) => whnf
    refine st.skip ra .cstr (fun s1 st => ?_)
    refine st.ifs ra (b := decide ((0 : Int) < 0)) (by walk_at "tst") (fun h => absurd (of_decide_eq_true h) (by omega)) (fun _ s2 st => wpAny_execs_nil ?_)
    refine st.ifs ra (b := true) (by walk_at "tst") (fun _ s3 st => ?_) (fun h => nomatch h)
    refine st.assign ra (d := .int (ws.length : Int)) ?_ (by walk_at "upd") (by walk_at "none") (fun s3 st => wpAny_execs_nil ?_) (by walk_at "ownn")
    · have e : (ws.length : Int) = ((ws.map wishD).length : Int) := by rw [List.length_map]
      rw [e]
      exact Ev.callB (.cons (d := wishesD ws) (by walk_at "ev") .nil) (pf_len (by rw [List.length_map]; omega)) (G.bi "len" (.builtin "len") (by walk_at "has")).1 (G.bi "len" (.builtin "len") (by walk_at "has")).2
    refine st.ifs ra (b := false) (by walk_at "tst") (fun h => nomatch h) (fun _ s4 st => ?_)
    refine st.while (bisI1 kf ws x f) (ws.length - 0) ra ⟨rfl, 0, ws.length, rfl, Nat.le_refl _, rfl, rfl⟩ ?_
    rintro k ρ1 own1 ⟨rfl, l, h, rfl, hh1, hb, rfl⟩
    refine ⟨decide ((l : Int) < h), by walk_at "tst", fun hlt s5 st E => ?_, fun hge s5 st => ?_⟩
    · have hlt : l < h := by have := of_decide_eq_true hlt; omega
      rw [bisLoop_step _ hlt] at hb
      refine st.assign ra (d := .int (((l + h) / 2 : Nat) : Int)) ?_ (by walk_at "upd") (by walk_at "none") (fun s6 st => ?_) (by walk_at "ownn")
      · have e : (((l + h) / 2 : Nat) : Int) = ((l : Int) + h).fdiv 2 := by rw [Int.fdiv_eq_ediv_of_nonneg _ (by omega)]; omega
        rw [e]
        walk_at "ev"
      refine st.ifs ra (b := decide (kf (ws.getD ((l + h) / 2) noWish) < x)) ?_ (fun hq' s7 st => ?_) (fun hq' s7 st => ?_)
      · refine Tst.cmp (x := .int (kf (ws.getD ((l + h) / 2) noWish))) (y := .int x) ?_ (by walk_at "ev") (.lt _ _)
        refine Ev.callN (f := f) (by walk_at "has") (.cons (d := wishD (ws.getD ((l + h) / 2) noWish)) (Ev.itm (i := (((l + h) / 2 : Nat) : Int)) (d := wishesD ws) (by walk_at "ev") (by walk_at "ev") (itm_wishes (by omega) hl)) .nil) (hk _) ho
      · refine st.assign ra (d := .int (((l + h) / 2 + 1 : Nat) : Int)) ?_ (by walk_at "upd") (by walk_at "none") (fun s8 st => wpAny_execs_nil (wpAny_execs_nil ⟨_, _, _, ?_, ⟨rfl, (l + h) / 2 + 1, h, rfl, hh1, ?_, rfl⟩, st.weak ?_⟩)) (by walk_at "ownn")
        · rw [Int.natCast_add]; walk_at "ev"
        · omega
        · rw [← hb, if_pos hq']
        · walk_at "weak"
      · refine st.assign ra (d := .int (((l + h) / 2 : Nat) : Int)) (by walk_at "ev") (by walk_at "upd") (by walk_at "none") (fun s8 st => wpAny_execs_nil (wpAny_execs_nil ⟨_, _, _, ?_, ⟨rfl, l, (l + h) / 2, rfl, by omega, ?_, rfl⟩, st.weak ?_⟩)) (by walk_at "ownn")
        · omega
        · rw [← hb, if_neg (by rw [hq']; decide)]
        · walk_at "weak"
    · have hge : ¬ l < h := by have := of_decide_eq_false hge; omega
      rw [bisLoop_end _ hge] at hb
      refine wpAny_execs_nil (st.ret ra (d := .int l) (by walk_at "ev") fun v s1 k1 r1 => ?_)
      rw [hb] at r1
      exact hq _ _ k1 r1
noncomputable abbrev bisI2 (kf : Wish → Int) (ws : List Wish) (x : Int) (f : Addr) (k : Nat) (ρ : Names) (own : Own) : Prop := own = [] ∧ ∃ l h : Nat, k = h - l ∧ h ≤ ws.length ∧ bisLoop (fun i => !decide (x < kf (ws.getD i noWish))) l h = bisLoop (fun i => !decide (x < kf (ws.getD i noWish))) 0 ws.length ∧ ρ = ([("a", wishesD ws), ("x", .int x), ("lo", .int l), ("hi", .int h), ("key", opq f)] : Names)
theorem pf_bisect_right_key {C : Cx} (G : Glb C) {n : Nat} {f : Addr} {kf : Wish → Int} (ho : FnAt C f) (hk : ∀ w, PFn C n (.ref f) [wishD w] (.int (kf w))) (ws : List Wish) (x : Int) (hl : ws.length < 2 ^ 30) :
    PFnK C (n + 1) (.ref 39) [wishesD ws, .int x, .int 0, .none] "key" (opq f) (.int (bisLoop (fun i => !decide (x < kf (ws.getD i noWish))) 0 ws.length)) := fun A ra s pv vs kv B L P hv rk Q E hq => by
  obtain ⟨-, doc, pm, D⟩ := G.fn 3 39 _ _ (by walk_at "has")
  obtain ⟨o, m, t, ho', hs⟩ := G.dflt 31 (by walk_at "has") s B
  obtain ⟨v1, w1, rfl, r1, hv⟩ := hv.inv
  obtain ⟨v2, w2, rfl, r2, hv⟩ := hv.inv
  obtain ⟨v3, v4, rfl, r3, r4⟩ := hv.inv2
  refine wpAny_call (call_start (binds := [("a", v1), ("x", v2), ("lo", v3), ("hi", v4), ("key", kv)]) (ρ := [("a", wishesD ws), ("x", .int x), ("lo", .int 0), ("hi", .none), ("key", opq f)]) D rfl rfl B L P ra
    (BindsTo.of_defaults rfl ho' hs rfl rfl) (by simp only [List.map_cons, List.map_nil]; decide +kernel) ?_ ?_ ?_)
  · intro L x hx
    simp only [List.map_cons, List.map_nil, List.mem_cons, List.not_mem_nil, or_false] at hx
    rcases hx with rfl | rfl | rfl | rfl | rfl <;> exact .inl rfl
  · intro y d i
    simp only [List.mem_cons, Prod.mk.injEq, List.not_mem_nil, or_false] at i
    rcases i with ⟨rfl, rfl⟩ | ⟨rfl, rfl⟩ | ⟨rfl, rfl⟩ | ⟨rfl, rfl⟩ | ⟨rfl, rfl⟩
    · exact ⟨_, by walk_at "has", r1⟩
    · exact ⟨_, by walk_at "has", r2⟩
    · exact ⟨_, by walk_at "has", r3⟩
    · exact ⟨_, by walk_at "has", r4⟩
    · exact ⟨_, by walk_at "has", rk⟩
  · intro L' s1 env he ra st
    subst he
    conv in (bdI 3) => whnf
    refine st.skip ra .cstr (fun s1 st => ?_)
    refine st.ifs ra (b := decide ((0 : Int) < 0)) (by walk_at "tst") (fun h => absurd (of_decide_eq_true h) (by omega)) (fun _ s2 st => wpAny_execs_nil ?_)
    refine st.ifs ra (b := true) (by walk_at "tst") (fun _ s3 st => ?_) (fun h => nomatch h)
    refine st.assign ra (d := .int (ws.length : Int)) ?_ (by walk_at "upd") (by walk_at "none") (fun s3 st => wpAny_execs_nil ?_) (by walk_at "ownn")
    · have e : (ws.length : Int) = ((ws.map wishD).length : Int) := by rw [List.length_map]
      rw [e]
      exact Ev.callB (.cons (d := wishesD ws) (by walk_at "ev") .nil) (pf_len (by rw [List.length_map]; omega)) (G.bi "len" (.builtin "len") (by walk_at "has")).1 (G.bi "len" (.builtin "len") (by walk_at "has")).2
    refine st.ifs ra (b := false) (by walk_at "tst") (fun h => nomatch h) (fun _ s4 st => ?_)
    refine st.while (bisI2 kf ws x f) (ws.length - 0) ra ⟨rfl, 0, ws.length, rfl, Nat.le_refl _, rfl, rfl⟩ ?_
    rintro k ρ1 own1 ⟨rfl, l, h, rfl, hh1, hb, rfl⟩
    refine ⟨decide ((l : Int) < h), by walk_at "tst", fun hlt s5 st E => ?_, fun hge s5 st => ?_⟩
    · have hlt : l < h := by have := of_decide_eq_true hlt; omega
      rw [bisLoop_step _ hlt] at hb
      refine st.assign ra (d := .int (((l + h) / 2 : Nat) : Int)) ?_ (by walk_at "upd") (by walk_at "none") (fun s6 st => ?_) (by walk_at "ownn")
      · have e : (((l + h) / 2 : Nat) : Int) = ((l : Int) + h).fdiv 2 := by rw [Int.fdiv_eq_ediv_of_nonneg _ (by omega)]; omega
        rw [e]
        walk_at "ev"
      refine st.ifs ra (b := decide (x < kf (ws.getD ((l + h) / 2) noWish))) ?_ (fun hq' s7 st => ?_) (fun hq' s7 st => ?_)
      · refine Tst.cmp (x := .int x) (y := .int (kf (ws.getD ((l + h) / 2) noWish))) (by walk_at "ev") ?_ (.lt _ _)
        refine Ev.callN (f := f) (by walk_at "has") (.cons (d := wishD (ws.getD ((l + h) / 2) noWish)) (Ev.itm (i := (((l + h) / 2 : Nat) : Int)) (d := wishesD ws) (by walk_at "ev") (by walk_at "ev") (itm_wishes (by omega) hl)) .nil) (hk _) ho
      · refine st.assign ra (d := .int (((l + h) / 2 : Nat) : Int)) (by walk_at "ev") (by walk_at "upd") (by walk_at "none") (fun s8 st => wpAny_execs_nil (wpAny_execs_nil ⟨_, _, _, ?_, ⟨rfl, l, (l + h) / 2, rfl, by omega, ?_, rfl⟩, st.weak ?_⟩)) (by walk_at "ownn")
        · omega
        · rw [← hb, if_neg (by show ¬ (!decide _) = true; rw [hq']; decide)]
        · walk_at "weak"
      · refine st.assign ra (d := .int (((l + h) / 2 + 1 : Nat) : Int)) ?_ (by walk_at "upd") (by walk_at "none") (fun s8 st => wpAny_execs_nil (wpAny_execs_nil ⟨_, _, _, ?_, ⟨rfl, (l + h) / 2 + 1, h, rfl, hh1, ?_, rfl⟩, st.weak ?_⟩)) (by walk_at "ownn")
        · rw [Int.natCast_add]; walk_at "ev"
        · omega
        · rw [← hb, if_pos (by show (!decide _) = true; rw [hq']; rfl)]
        · walk_at "weak"
    · have hge : ¬ l < h := by have := of_decide_eq_false hge; omega
      rw [bisLoop_end _ hge] at hb
      refine wpAny_execs_nil (st.ret ra (d := .int l) (by walk_at "ev") fun v s1 k1 r1 => ?_)
      rw [hb] at r1
      exact hq _ _ k1 r1
end
section -- F2
theorem bisGo_le (less : Nat → Bool) (k : Nat) : ∀ {lo hi : Nat}, lo ≤ hi → bisGo less k lo hi ≤ hi := by
  induction k with
  | zero => exact fun h => h
  | succ k ih =>
    intro lo hi h
    rw [bisGo_succ]
    split
    · split
      · exact ih (by omega)
      · exact Nat.le_trans (ih (by omega)) (by omega)
    · exact h
theorem bisLoop_le (less : Nat → Bool) {lo hi : Nat} (h : lo ≤ hi) : bisLoop less lo hi ≤ hi := bisGo_le _ _ h
noncomputable def posLeft (kf : Wish → Int) (ws : List Wish) (w : Wish) : Nat := bisLoop (fun i => decide (kf (ws.getD i noWish) < kf w)) 0 ws.length
theorem wp_insort_left {C : Cx} (G : Glb C) {n : Nat} {f : Addr} {kf : Wish → Int} (ho : FnAt C f) (hk : ∀ w, PFn C n (.ref f) [wishD w] (.int (kf w))) (ws : List Wish) (w : Wish) (hl : ws.length < 2 ^ 20)
    {A : Around} (ra : Room (n + 2) A) {s : Shared} {pv : List Addr} {a : Addr} {us : Array Value} {v : Value} (B : Base C s) (Ba : Base C (s.sans a)) (L : Live C A s) (P : ∀ p ∈ pv, ∃ o, s.heap.get? p = some o) (hp : a ∉ pv) (hls : LsAt s.heap a us)
    (hr : RDs s.heap (a :: pv) us.toList (ws.map wishD)) (hw : RD s.heap (a :: pv) v (wishD w)) {Q : Value → Shared → Prop} {E : Value → Shared → Prop} (hq : ∀ s', Mut C s pv a ((insD ws (posLeft kf ws w) w).map wishD) s' → Q .none s') :
    wpAny (model C.prog C.w) A (call (.ref 48) [.ref a, v] [(Str.ofString "key", .ref f)]) Q E s := by
  obtain ⟨-, doc, pm, D⟩ := G.fn 4 48 _ _ (by walk_at "has")
  obtain ⟨o, m, t, ho', hs⟩ := G.dflt 40 (by walk_at "has") s B
  have hthere : ∃ o, s.heap.get? a = some o := let ⟨_, e⟩ := hls; ⟨_, e⟩
  refine wpAny_call (call_start (pvc := a :: pv) (binds := [("a", .ref a), ("x", v), ("lo", .int 0 t), ("hi", .none), ("key", .ref f)]) (ρ := [("a", opq a), ("x", wishD w), ("lo", .int 0), ("hi", .none), ("key", opq f)]) D rfl rfl B L
    (fun p hp' => by rcases List.mem_cons.mp hp' with rfl | h; exact hthere; exact P p h) ra
    (BindsTo.of_defaults rfl ho' hs rfl rfl) (by simp only [List.map_cons, List.map_nil]; decide +kernel) ?_ ?_ ?_)
  · intro L x hx
    simp only [List.map_cons, List.map_nil, List.mem_cons, List.not_mem_nil, or_false] at hx
    rcases hx with rfl | rfl | rfl | rfl | rfl <;> exact .inl rfl
  · intro y d i
    simp only [List.mem_cons, Prod.mk.injEq, List.not_mem_nil, or_false] at i
    rcases i with ⟨rfl, rfl⟩ | ⟨rfl, rfl⟩ | ⟨rfl, rfl⟩ | ⟨rfl, rfl⟩ | ⟨rfl, rfl⟩
    · exact ⟨_, by walk_at "has", .opq _⟩
    · exact ⟨_, by walk_at "has", hw⟩
    · exact ⟨_, by walk_at "has", .int _ _⟩
    · exact ⟨_, by walk_at "has", .none⟩
    · exact ⟨_, by walk_at "has", .opq _⟩
  · intro L' s1 env he ra st
    have hls1 : LsAt s1.heap a us := kp_ls st.kp hls
    have hr1 := hr.kp st.kp
    have st := st.adopt Ba hls1 hr1 hthere hp
    subst he
    conv in (bdI 4) => whnf
    refine st.skip ra .cstr (fun s1 st => ?_)
    refine st.ifs ra (b := false) (by walk_at "tst") (fun h => nomatch h) (fun _ s3 st => ?_)
    refine st.assignF ra (d := .int (posLeft kf ws w : Int)) ?_ rfl (by walk_at "upd") (by walk_at "owno") (fun s4 st => wpAny_execs_nil ?_) (by walk_at "ownn")
    · refine Ev.callK (.cons (d := wishesD ws) (by walk_at "ev") (.cons (d := .int (kf w)) ?_ (.cons (d := .int 0) (by walk_at "ev") (.cons (d := .none) (by walk_at "ev") .nil)))) (dk := opq f) (by walk_at "ev")
        (pf_bisect_left_key G ho hk ws (kf w) (by omega)) (G.at 5 57 (.ref 49) (.ref 50) (by walk_at "has")).1 (G.at 5 57 (.ref 49) (.ref 50) (by walk_at "has")).2
      exact Ev.callN (f := f) (by walk_at "has") (.cons (d := wishD w) (by walk_at "ev") .nil) ((hk w).le (by omega)) ho
    have hss : sizeLine = 16777216 := rfl
    have hpos : posLeft kf ws w ≤ ws.length := bisLoop_le _ (Nat.zero_le _)
    refine St.insert (o1 := []) (o2 := []) (i := posLeft kf ws w) (d := wishD w) st ra (.inl (by walk_at "ev")) (.inl (by walk_at "ev")) (by rw [List.length_map]; exact hpos) (by rw [List.length_map]; omega) fun s5 st => wpAny_execs_nil ?_
    obtain ⟨us', m', l, r, -⟩ := St.ownAt (o1 := []) (o2 := []) st
    refine hq _ ⟨st.kp, us', ⟨m', l⟩, ?_⟩
    have e : (insD ws (posLeft kf ws w) w).map wishD = insD (ws.map wishD) (posLeft kf ws w) (wishD w) := by simp [insD, List.map_take, List.map_drop]
    rw [e]
    exact r
noncomputable def posRight (kf : Wish → Int) (ws : List Wish) (w : Wish) : Nat := bisLoop (fun i => !decide (kf w < kf (ws.getD i noWish))) 0 ws.length
theorem wp_insort_right {C : Cx} (G : Glb C) {n : Nat} {f : Addr} {kf : Wish → Int} (ho : FnAt C f) (hk : ∀ w, PFn C n (.ref f) [wishD w] (.int (kf w))) (ws : List Wish) (w : Wish) (hl : ws.length < 2 ^ 20)
    {A : Around} (ra : Room (n + 2) A) {s : Shared} {pv : List Addr} {a : Addr} {us : Array Value} {v : Value} (B : Base C s) (Ba : Base C (s.sans a)) (L : Live C A s) (P : ∀ p ∈ pv, ∃ o, s.heap.get? p = some o) (hp : a ∉ pv) (hls : LsAt s.heap a us)
    (hr : RDs s.heap (a :: pv) us.toList (ws.map wishD)) (hw : RD s.heap (a :: pv) v (wishD w)) {Q : Value → Shared → Prop} {E : Value → Shared → Prop} (hq : ∀ s', Mut C s pv a ((insD ws (posRight kf ws w) w).map wishD) s' → Q .none s') :
    wpAny (model C.prog C.w) A (call (.ref 30) [.ref a, v] [(Str.ofString "key", .ref f)]) Q E s := by
  obtain ⟨-, doc, pm, D⟩ := G.fn 2 30 _ _ (by walk_at "has")
  obtain ⟨o, m, t, ho', hs⟩ := G.dflt 22 (by walk_at "has") s B
  have hthere : ∃ o, s.heap.get? a = some o := let ⟨_, e⟩ := hls; ⟨_, e⟩
  refine wpAny_call (call_start (pvc := a :: pv) (binds := [("a", .ref a), ("x", v), ("lo", .int 0 t), ("hi", .none), ("key", .ref f)]) (ρ := [("a", opq a), ("x", wishD w), ("lo", .int 0), ("hi", .none), ("key", opq f)]) D rfl rfl B L
    (fun p hp' => by rcases List.mem_cons.mp hp' with rfl | h; exact hthere; exact P p h) ra
    (BindsTo.of_defaults rfl ho' hs rfl rfl) (by simp only [List.map_cons, List.map_nil]; decide +kernel) ?_ ?_ ?_)
  · intro L x hx
    simp only [List.map_cons, List.map_nil, List.mem_cons, List.not_mem_nil, or_false] at hx
    rcases hx with rfl | rfl | rfl | rfl | rfl <;> exact .inl rfl
  · intro y d i
    simp only [List.mem_cons, Prod.mk.injEq, List.not_mem_nil, or_false] at i
    rcases i with ⟨rfl, rfl⟩ | ⟨rfl, rfl⟩ | ⟨rfl, rfl⟩ | ⟨rfl, rfl⟩ | ⟨rfl, rfl⟩
    · exact ⟨_, by walk_at "has", .opq _⟩
    · exact ⟨_, by walk_at "has", hw⟩
    · exact ⟨_, by walk_at "has", .int _ _⟩
    · exact ⟨_, by walk_at "has", .none⟩
    · exact ⟨_, by walk_at "has", .opq _⟩
  · intro L' s1 env he ra st
    have hls1 : LsAt s1.heap a us := kp_ls st.kp hls
    have hr1 := hr.kp st.kp
    have st := st.adopt Ba hls1 hr1 hthere hp
    subst he
    conv in (bdI 2) => whnf
    refine st.skip ra .cstr (fun s1 st => ?_)
    refine st.ifs ra (b := false) (by walk_at "tst") (fun h => nomatch h) (fun _ s3 st => ?_)
    refine st.assignF ra (d := .int (posRight kf ws w : Int)) ?_ rfl (by walk_at "upd") (by walk_at "owno") (fun s4 st => wpAny_execs_nil ?_) (by walk_at "ownn")
    · refine Ev.callK (.cons (d := wishesD ws) (by walk_at "ev") (.cons (d := .int (kf w)) ?_ (.cons (d := .int 0) (by walk_at "ev") (.cons (d := .none) (by walk_at "ev") .nil)))) (dk := opq f) (by walk_at "ev")
        (pf_bisect_right_key G ho hk ws (kf w) (by omega)) (G.at 3 39 (.ref 31) (.ref 32) (by walk_at "has")).1 (G.at 3 39 (.ref 31) (.ref 32) (by walk_at "has")).2
      exact Ev.callN (f := f) (by walk_at "has") (.cons (d := wishD w) (by walk_at "ev") .nil) ((hk w).le (by omega)) ho
    have hss : sizeLine = 16777216 := rfl
    have hpos : posRight kf ws w ≤ ws.length := bisLoop_le _ (Nat.zero_le _)
    refine St.insert (o1 := []) (o2 := []) (i := posRight kf ws w) (d := wishD w) st ra (.inl (by walk_at "ev")) (.inl (by walk_at "ev")) (by rw [List.length_map]; exact hpos) (by rw [List.length_map]; omega) fun s5 st => wpAny_execs_nil ?_
    obtain ⟨us', m', l, r, -⟩ := St.ownAt (o1 := []) (o2 := []) st
    refine hq _ ⟨st.kp, us', ⟨m', l⟩, ?_⟩
    have e : (insD ws (posRight kf ws w) w).map wishD = insD (ws.map wishD) (posRight kf ws w) (wishD w) := by simp [insD, List.map_take, List.map_drop]
    rw [e]
    exact r
end
section -- G1
noncomputable def InsOk (fa : Addr) (posf : (Wish → Int) → List Wish → Wish → Nat) : Prop := ∀ {C : Cx} (_ : Glb C) {n : Nat} {f : Addr} {kf : Wish → Int} (_ : FnAt C f) (_ : ∀ w, PFn C n (.ref f) [wishD w] (.int (kf w))) (ws : List Wish) (w : Wish) (_ : ws.length < 2 ^ 20)
    {A : Around} (_ : Room (n + 2) A) {s : Shared} {pv : List Addr} {a : Addr} {us : Array Value} {v : Value} (_ : Base C s) (_ : Base C (s.sans a)) (_ : Live C A s) (_ : ∀ p ∈ pv, ∃ o, s.heap.get? p = some o) (_ : a ∉ pv) (_ : LsAt s.heap a us)
    (_ : RDs s.heap (a :: pv) us.toList (ws.map wishD)) (_ : RD s.heap (a :: pv) v (wishD w)) {Q : Value → Shared → Prop} {E : Value → Shared → Prop} (_ : ∀ s', Mut C s pv a ((insD ws (posf kf ws w) w).map wishD) s' → Q .none s'),
    wpAny (model C.prog C.w) A (call (.ref fa) [.ref a, v] [(Str.ofString "key", .ref f)]) Q E s
theorem insLeft : InsOk 48 posLeft := @wp_insort_left
theorem insRight : InsOk 30 posRight := @wp_insort_right
theorem DefAt.know {C : Cx} {x a fd} (D : DefAt C a fd) : DefAt (C.know x) a fd := ⟨fun s B => D.at' s B.unknow, fun s B => D.code s B.unknow, D.gl, D.bi, D.clo, D.kind, D.co⟩
theorem Glb.know {C : Cx} {x} (G : Glb C) : Glb (C.know x) := ⟨let ⟨K, h, e⟩ := G.ent; ⟨K, fun s B => h s B.unknow, e⟩, G.entC, let ⟨d, p, D⟩ := G.entF; ⟨d, p, D.know⟩, G.chm, ⟨G.cfn.1, fun s B => G.cfn.2 s B.unknow⟩, G.mkr, fun x h s B => G.mhd x h s B.unknow, fun x h s B => G.mbu x h s B.unknow, G.bi, fun i a dV kV h => let ⟨h1, d, p, D⟩ := G.fn i a dV kV h; ⟨h1, d, p, D.know⟩, fun T h s B => G.dflt T h s B.unknow, fun T h s B => G.kdflt T h s B.unknow⟩
section
variable {C : Cx} {n : Nat} {A : Around} {s s' s₀ : Shared} {env : Env} {ρ ρ' : Names} {pv pvc : List Addr} {own o1 o2 : Own}
theorem St.insort (G : Glb C) {fa : Addr} {posf : (Wish → Int) → List Wish → Wish → Nat} (hI : InsOk fa posf) {fnm x : Str} {a : Addr} {ws : List Wish} {w : Wish} {e : Expr} {p1 p2 pos kp q lp : Pos} {rest : List Stmt} {params : Arguments} {body : Expr} {scope : Scope} {one : Str} {kf : Wish → Int}
    {c P : Addr} {qual : Str} {Q : Flow → Shared → Prop} {E : Value → Shared → Prop}
    (h : St C A s₀ pvc env ρ (o1 ++ (x, a, ws.map wishD) :: o2) s) (ra : Room (n + 3) A) (he : Ev C (n + 3) env ρ e (wishD w)) (M : Mkr C env c P qual) (hws : ws.length < 2 ^ 20)
    (hmg : C.mg fnm = some (.ref fa)) (hfn : FnAt C fa)
    (hbody : ∀ (C' : Cx) env' u, Ev C' n env' [(one, wishD u)] body (.int (kf u)))
    (k : ∀ s', St C A s₀ pvc env ρ (o1 ++ (x, a, (insD ws (posf kf ws w) w).map wishD) :: o2) s' → wpAny (model C.prog C.w) A (execs rest env) Q E s')
    (hbind : ∀ (v pm cdv ct : Value), bindArgs (kla_fn (Str.ofString "<lambda>") qual params body scope [] pm cdv ct) ⟨[v], []⟩ = pure [(one, v)])
    (hloc : scope.names.lookup one = some .local)
    (hd0 : defaultsOf params env = ([], [])) (hcl : closureFor scope env = pure []) (hq : env.qual ++ "<lambda>" = qual) (hsk : autoParam (scope.kind = .function) syR) (hsc : autoParam (scope.isCoroutine = false) syR) (hsg : autoParam (scope.isGenerator = false) syR)
    (hk : autoParam (env.kindOf fnm = some .globalImplicit) syR)
    (hst : autoParam (starEach [.Name x p2, e] env = (false, eval (.Name x p2) env) :: starEach [e] env) syR) (hst2 : autoParam (starEach [e] env = (false, eval e env) :: starEach [] env) syR)
    (hd : autoParam ((x == ("__debug__" : Str)) = false) syD) (hx : autoParam ((x == ("__classdict__" : Str)) = false) syD) (hd' : autoParam ((fnm == ("__debug__" : Str)) = false) syD)
    (hi : autoParam (interactive env = false) syR) (hsw : autoParam (swapsWith (.Call (.Name fnm p1) [.Name x p2, e] [⟨some (Str.ofString "key"), .Lambda params body scope lp, kp⟩] pos) none q.line env = pure false) syU) :
    wpAny (model C.prog C.w) A (execs (.Expr (.Call (.Name fnm p1) [.Name x p2, e] [⟨some (Str.ofString "key"), .Lambda params body scope lp, kp⟩] pos) q :: rest) env) Q E s := by
  have hmem : (x, a, ws.map wishD) ∈ o1 ++ (x, a, ws.map wishD) :: o2 := List.mem_append_right _ List.mem_cons_self
  refine wpAny_execs_cons (wpAny_Expr_any (wpAny_Call_Name_kw (ev_glob h.rdy hk hmg ?_ hd')) hi hsw)
  obtain ⟨fo, ffd, hfo, hffd⟩ := hfn s (h.base.mono h.kp)
  refine callWith_function_kw (o := fo) (fd := ffd) (evalArgs_kw2 (by rfl) ?_ hst)
  refine wpAny_items_cons (h.ownName hmem ?_ hd hx) hst
  refine wpAny_items_cons (he A ra s _ h.rdy _ _ fun v s1 k1 h1 => wpAny_items_nil ?_) hst2
  have t1 := h.kps k1
  refine kwAll_cons (ev_lambda M t1.rdy hd0 hcl hq fun f c' ctv s2 k2 hnf hf cr => kwAll_nil ⟨⟨(k1.trans k2).sub _ _ hfo (nt_func hffd), hffd⟩, ?_⟩)
  have t2 := t1.kps k2
  obtain ⟨us, m, l, r, hl⟩ := t2.ownAt
  obtain ⟨us1, m1, l1, -, -⟩ := t1.ownAt
  obtain ⟨oc, ovs, ot, cr1, cr2, cr3, cr4⟩ := cr
  obtain ⟨mm, cm, F, H, O⟩ := t2.fr
  obtain ⟨e1, e2, -⟩ := O x a _ hmem
  have B2 := t2.base.mono t2.kp
  have nlf : ∀ o, s2.heap.get? a = some o → ∀ vs, o.data ≠ .fields vs := LsAt.nf ⟨m, l⟩
  have Bs : Base C (s2.sans a) := t2.base.mono (kp_sans e2 t2.kp nlf)
  have nf : Nd (lamO C qual params body scope [] c' ctv) := nt_func rfl
  have nc : Nd oc := ⟨nt_cls (by rw [cr2]; exact fun q => nomatch q), fun _ _ q => nomatch cr3.symm.trans q⟩
  have fa' : f ≠ a := fun q => by rw [q] at hnf; have : s1.heap.get? a = some _ := l1; rw [hnf] at this; cases this
  have ca' : c' ≠ a := fun q => by rw [q] at cr1; have : s2.heap.get? a = some _ := l; rw [cr1] at this; cases this; cases cr3
  have B3 : Base ((C.know (f, lamO C qual params body scope [] c' ctv)).know (c', oc)) s2 := (B2.know hf nf).know cr1 nc
  have B4 : Base ((C.know (f, lamO C qual params body scope [] c' ctv)).know (c', oc)) (s2.sans a) := (Bs.know (sans_get hf fa') nf).know (sans_get cr1 ca') nc
  have D : DefAt ((C.know (f, lamO C qual params body scope [] c' ctv)).know (c', oc)) f (kla_fn (Str.ofString "<lambda>") qual params body scope [] ((C.mg "__name__").getD .none) (.ref c') ctv) :=
    ⟨fun s B => ⟨_, (B.known _ (List.mem_cons_of_mem _ List.mem_cons_self)).1, rfl⟩, fun s B => ⟨c', oc, ovs, ot, rfl, (B.known _ List.mem_cons_self).1, cr3, cr4⟩, rfl, rfl, rfl, hsk, hsc⟩
  have hpv : a ∉ prv (o1 ++ o2) pvc := fun hm => by
    simp only [prv, List.mem_append] at hm
    rcases hm with hm | hm
    · have nd := t2.nd
      simp only [List.map_append, List.map_cons] at nd
      have := List.perm_middle.nodup_iff.mp nd
      exact (List.nodup_cons.mp this).1 (by rw [← List.map_append]; exact hm)
    · obtain ⟨o, q⟩ := t2.priv _ hm; rw [e2] at q; cases q
  have hsub : ∀ b o, b ∈ a :: prv (o1 ++ o2) pvc → s2.heap.get? b = some o → b ∈ prv (o1 ++ (x, a, ws.map wishD) :: o2) pvc := fun b o hb _ => by
    simp only [prv, List.map_append, List.map_cons, List.mem_append, List.mem_cons] at hb ⊢
    rcases hb with hb | (hb | hb) | hb <;> simp [hb]
  refine hI G.know.know (n := n + 1) D.fn (fun u => PFn.of_lam D rfl hsg (fun v => hbind v _ _ _) (fun L => .inl hloc) (fun L => hbody _ _ _)) ws w hws ra B3 B4 t2.live ?_ hpv ⟨m, l⟩ (r.sub hsub) ((h1.kp k2).sub hsub) fun s3 hm => ?_
  · intro p hp
    refine prv_there t2 p ?_
    simp only [prv, List.map_append, List.map_cons, List.mem_append, List.mem_cons] at hp ⊢
    rcases hp with (hp | hp) | hp <;> simp [hp]
  · exact k _ (t2.mutd ⟨hm.kp.unknow.unknow, hm.ls⟩)
end
end
section -- F9
set_option maxHeartbeats 2000000
noncomputable def wordF (k : Nat) : Str := (flagF ((2 ^ k : Nat) : Int)).getD (baseText "0x" 16 ((2 ^ k : Nat) : Int))
noncomputable def flagWords (f : Nat) : List Str := if f = 0 then [baseText "0x" 16 0] else (bitsLt f 32).map wordF
theorem word_len : ∀ k < 32, (wordF k).length ≤ 30 := by decide +kernel
theorem hex_len32 : ∀ k < 32, (baseText "0x" 16 ((2 ^ k : Nat) : Int)).length ≤ 30 := by decide +kernel
theorem bits_len (f i : Nat) : (bitsLt f i).length ≤ i := by
  have := List.length_filter_le (f.testBit ·) (List.range i)
  simpa [bitsLt] using this
theorem flagWords_len (f : Nat) : (flagWords f).length ≤ 32 ∧ ∀ y ∈ flagWords f, y.length ≤ 30 := by
  unfold flagWords
  split
  · exact ⟨by simp, fun y hy => by simp at hy; subst hy; decide +kernel⟩
  · refine ⟨by rw [List.length_map]; exact bits_len f 32, fun y hy => ?_⟩
    obtain ⟨k, hk, rfl⟩ := List.mem_map.mp hy
    have := (List.mem_filter.mp hk).1
    exact word_len k (by simpa using this)
theorem sum_le (ys : List Str) (B : Nat) (h : ∀ y ∈ ys, y.length ≤ B) : (ys.map (·.length)).sum ≤ ys.length * B := by
  induction ys with
  | nil => simp
  | cons y r ih =>
    rw [List.map_cons, List.sum_cons, List.length_cons, Nat.add_mul]
    have := h y List.mem_cons_self
    have := ih fun z hz => h z (List.mem_cons_of_mem _ hz)
    omega
noncomputable abbrev flagI (f : Nat) (a : Addr) (i : Nat) (ρ : Names) (own : Own) : Prop := ρ = ([("flags", .int (clr f i))] : Names) ∧ own = [(Str.ofString "names", a, ((bitsLt f i).map wordF).map .str)] ∧ (f = 0 ∨ clr f i ≠ 0)
noncomputable abbrev flagB (f : Nat) (a : Addr) (ρ : Names) (own : Own) : Prop := ρ = ([] : Names) ∧ own = [(Str.ofString "names", a, (flagWords f).map .str)]
theorem pf_flags {C : Cx} (G : Glb C) (f : Nat) (hf : f < 2 ^ 32) : PFn C 3 (.ref 108) [.int f] (.str (Txt.join (Str.ofString ", ") (flagWords f))) := by
  obtain ⟨-, doc, pm, D⟩ := G.fn 9 108 _ _ (by walk_at "has")
  refine PFn.of_def (xs := ["flags"]) D rfl rfl rfl ?_ (by decide +kernel) ?_ ?_
  · exact all1 fun v => by kernel_rfl!
  · intro L x hx
    simp only [List.mem_cons, List.not_mem_nil, or_false] at hx
    subst hx
    exact .inl rfl
  · intro A s₀ pvc L s env he ra st Q E k
    subst he
    conv in (bdI 9) => whnf
    have st : St C A s₀ pvc _ [("flags", .int f)] [] s := st
    have hss : sizeLine = 16777216 := rfl
    have hhx := G.bi "hex" (.builtin "hex") (by walk_at "has")
    refine st.skip ra .cstr (fun s1 st => ?_)
    refine st.assignOwn (ρ' := ([("flags", .int f)] : Names)) ra (EvF.lst .nil (by decide +kernel)) (fun y h => h) (by walk_at "upnot") (by walk_at "none") (fun a s1 st => ?_) (by walk_at "ownn")
    refine st.for (ds := rangeD 0 1 32) (flagI f a)
      (flagB f a) ra (.range1 G.range (N := 32) (by walk_at "ev") (by decide)) ⟨by rw [clr_zero], rfl, by rw [clr_zero]; exact Classical.em _⟩ ?_ ?_ ?_
    · rintro i d hd ρ1 own1 ⟨rfl, rfl, hnz⟩
      have hi : i < 32 := by
        have := (List.getElem?_eq_some_iff.mp hd).1
        simpa [rangeD] using this
      obtain rfl : PyData.int i = d := by
        have : (rangeD 0 1 32)[i]? = some (.int (0 + (i : Int) * 1)) := by simp [rangeD, List.getElem?_range hi]
        rw [this] at hd
        simpa using hd
      refine ⟨[("i", .int i)], _, .name (by walk_at "ownn"), (by walk_at "upds"), (by walk_at "ownt"), rfl, fun s₁ σ st E => ?_⟩
      have e1 : ((2 ^ i : Nat) : Int) = 1 * 2 ^ (i : Int).toNat := by rw [Int.toNat_natCast, Int.one_mul]; exact Int.natCast_pow 2 i
      have hbit : (Builtin.Int.intBits 1 : Int) + (i : Int) ≤ 2 ^ 27 := by
        have : Builtin.Int.intBits 1 ≤ 10 := by decide +kernel
        omega
      refine st.assign ra (d := .int ((2 ^ i : Nat) : Int)) ?_ (by walk_at "upd") (by walk_at "owno") (fun s2 st => ?_) (by walk_at "ownn")
      · rw [e1]
        exact Ev.bin (x := .int 1) (y := .int i) (by walk_at "ev") (by walk_at "ev") (.shl _ _ (by omega) hbit)
      refine st.ifs ra (b := f.testBit i) ?_ (fun hb s3 st => ?_) (fun hb s3 st => ?_)
      · have e2 : f.testBit i = (Builtin.bitAnd (clr f i : Int) ((2 ^ i : Nat) : Int) != 0) := by
          rw [bitAnd_nat]
          have := clr_and f i
          cases h : f.testBit i
          · rw [h] at this; simp at this ⊢; exact_mod_cast this
          · rw [h] at this; simp at this ⊢; exact_mod_cast this
        rw [e2]
        exact Tst.val (Ev.bin (x := .int (clr f i)) (y := .int ((2 ^ i : Nat) : Int)) (by walk_at "ev") (by walk_at "ev") (.and _ _)) (.int _)
      · refine St.append (o1 := []) (o2 := []) (d := .str (wordF i)) st ra (.inl ?_) (by simp only [List.length_map]; have := bits_len f i; omega) fun s4 st => ?_
        · refine Ev.dget G.cfn.1 G.cfn.2 (by decide) (by walk_at "ev") ?_
          exact Ev.callB (.cons (d := .int ((2 ^ i : Nat) : Int)) (by walk_at "ev") .nil) (pf_hex (by have := hex_len32 i hi; omega)) hhx.1 hhx.2
        refine st.aug ra (i := (clr f i : Int)) (j := ((2 ^ i : Nat) : Int)) (r := (clr f (i + 1) : Int)) (by walk_at "has") (.inl (by walk_at "ev")) ?_ (by walk_at "upd") (by walk_at "owno") (fun s5 st => ?_) (by walk_at "ownn")
        · have := bitXor_nat (clr f i) (2 ^ i)
          rw [clr_xor hb] at this
          rw [← this]
          exact .xor _ _
        have eN : ((bitsLt f i).map wordF).map PyData.str ++ [.str (wordF i)] = ((bitsLt f (i + 1)).map wordF).map .str := by rw [bitsLt_succ, if_pos hb]; simp
        rw [eN] at st
        refine st.ifs ra (b := !((clr f (i + 1) : Int) != 0)) (Tst.not (by walk_at "tst")) (fun hz s6 st => ?_) (fun hz s6 st => ?_)
        · have hz : clr f (i + 1) = 0 := by simpa using hz
          have hf0 : f ≠ 0 := fun q => by subst q; simp at hb
          refine wpAny_execs_cons (wpAny_Break ⟨([] : Names), [(Str.ofString "names", a, ((bitsLt f (i + 1)).map wordF).map .str)], ⟨rfl, ?_⟩, st.weak (by walk_at "weak")⟩)
          rw [flagWords, if_neg hf0, bitsLt_end hz (j := 32) (by omega)]
        · have hz : clr f (i + 1) ≠ 0 := by simpa using hz
          exact wpAny_execs_nil (wpAny_execs_nil (wpAny_execs_nil ⟨([("flags", .int (clr f (i + 1)))] : Names), [(Str.ofString "names", a, ((bitsLt f (i + 1)).map wordF).map .str)], ⟨rfl, rfl, .inr hz⟩, rfl, st.weak (by walk_at "weak")⟩))
      · have e := clr_same hb
        refine wpAny_execs_nil (wpAny_execs_nil ⟨([("flags", .int (clr f (i + 1)))] : Names), [(Str.ofString "names", a, ((bitsLt f (i + 1)).map wordF).map .str)], ⟨rfl, rfl, by rw [← e]; exact hnz⟩, rfl, ?_⟩)
        rw [← e, bitsLt_succ, if_neg (by rw [hb]; decide), List.append_nil]
        exact st.weak (by walk_at "weak")
    · rintro ρ1 own1 s' ⟨rfl, rfl, hnz⟩ st E
      have hl : (rangeD 0 1 32).length = 32 := by simp [rangeD]
      rw [hl] at st hnz
      have hf0 : f = 0 := by
        rcases hnz with h | h
        · exact h
        · exact absurd (clr_top hf) h
      subst hf0
      refine St.append (o1 := []) (o2 := []) (d := .str (baseText "0x" 16 0)) st ra (.inl ?_) (by simp only [List.length_map]; have := bits_len 0 32; omega) fun s4 st => wpAny_execs_nil ⟨_, [(Str.ofString "names", a, (flagWords 0).map .str)], ⟨rfl, rfl⟩, ?_⟩
      · have e0 : clr 0 32 = 0 := by simp [clr]
        rw [e0]
        show Ev _ _ _ _ _ (.str (baseText "0x" 16 ((0 : Nat) : Int)))
        exact Ev.callB (.cons (d := .int ((0 : Nat) : Int)) (by walk_at "ev") .nil) (pf_hex (by decide +kernel)) hhx.1 hhx.2
      · have e : ((bitsLt 0 32).map wordF).map PyData.str ++ [.str (baseText "0x" 16 0)] = (flagWords 0).map .str := by
          have : bitsLt 0 32 = [] := by simp [bitsLt]
          rw [this]; rfl
        rw [← e]
        exact st.weak (by walk_at "weak")
    · rintro ρ1 own1 s' ⟨rfl, rfl⟩ st
      have st := st.freeze
      have ⟨hl1, hl2⟩ := flagWords_len f
      have hsum := sum_le (flagWords f) 30 hl2
      refine st.ret ra (d := .str (Txt.join (Str.ofString ", ") (flagWords f))) (Ev.joinS (by walk_at "ev") ?_) fun v s1 k1 r1 => ?_
      · have : (Str.ofString ", ").length = 2 := by decide +kernel
        rw [this]; omega
      · exact k _ _ _ (.inl rfl) k1 r1
end
section -- S0
open PySem.Builtin PySem.Builtin.Str PySem.StrLaws
noncomputable def sepS : Str := Str.ofString ", "
noncomputable def J : List (List Nat) → List Nat
  | [] => []
  | [w] => w
  | w :: r => w ++ [44, 32] ++ J r
noncomputable def cutsOf : Nat → List (List Nat) → List Nat
  | _, [] => []
  | _, [_] => []
  | a, w :: r => (a + w.length) :: cutsOf (a + w.length + 2) r
theorem sep_list : sepS.cps.toList = [44, 32] := by decide +kernel
theorem sep_len : sepS.length = 2 := by decide +kernel
noncomputable def occStep (s sub : Str) (hi limit : Nat) (st : Array Nat × Nat) (i : Nat) : Array Nat × Nat :=
  if ((st.fst.size < limit ∧ st.snd ≤ i) ∧ i + sub.length ≤ hi) ∧ subAt s sub i = true then (st.fst.push i, i + sub.length) else st
theorem occ_fold (s sub : Str) (hi limit : Nat) : ∀ (l : List Nat) (st : Array Nat × Nat), (forIn l st (occBody s sub hi limit)).run = l.foldl (occStep s sub hi limit) st
  | [], _ => rfl
  | a :: l, st => by
    rw [List.forIn_cons, List.foldl_cons]
    unfold occBody occStep
    split
    · exact occ_fold s sub hi limit l _
    · exact occ_fold s sub hi limit l _
theorem fold_same (s sub : Str) (hi limit : Nat) : ∀ (l : List Nat) (st : Array Nat × Nat), (∀ i ∈ l, ¬ (i + sub.length ≤ hi ∧ subAt s sub i = true)) → l.foldl (occStep s sub hi limit) st = st
  | [], _, _ => rfl
  | a :: l, st, h => by
    rw [List.foldl_cons]
    have : occStep s sub hi limit st a = st := by
      unfold occStep
      rw [if_neg]
      rintro ⟨⟨_, h1⟩, h2⟩
      exact h a List.mem_cons_self ⟨h1, h2⟩
    rw [this]
    exact fold_same s sub hi limit l st fun i hi' => h i (List.mem_cons_of_mem _ hi')
theorem at_iff {s : Str} {i : Nat} : (i + sepS.length ≤ s.length ∧ subAt s sepS i = true) ↔ (s.cps.toList[i]? = some 44 ∧ s.cps.toList[i + 1]? = some 32) := by
  have e : subAt s sepS i = true ↔ (s.cps.toList.extract i (i + 2)) = [44, 32] := by
    unfold subAt
    rw [sep_len, beq_iff_eq, ← Array.toList_inj, Array.toList_extract, sep_list]
  rw [e, sep_len]
  have hl : s.length = s.cps.toList.length := rfl
  rw [hl]
  generalize s.cps.toList = L
  rw [List.extract_eq_drop_take, Nat.add_sub_cancel_left]
  constructor
  · rintro ⟨h1, h2⟩
    have h3 : (L.drop i)[0]? = some 44 := by
      have := congrArg (fun l => l[0]?) h2
      simpa using this
    have h4 : (L.drop i)[1]? = some 32 := by
      have := congrArg (fun l => l[1]?) h2
      simpa using this
    simpa using And.intro h3 h4
  · rintro ⟨h1, h2⟩
    obtain ⟨h3, h4⟩ := List.getElem?_eq_some_iff.mp h1
    obtain ⟨h5, h6⟩ := List.getElem?_eq_some_iff.mp h2
    refine ⟨by omega, ?_⟩
    rw [List.drop_eq_getElem_cons h3, List.drop_eq_getElem_cons h5, h4, h6]
    rfl
theorem J_cons {w : List Nat} {r : List (List Nat)} (h : r ≠ []) : J (w :: r) = w ++ [44, 32] ++ J r := by
  cases r with
  | nil => exact absurd rfl h
  | cons _ _ => rfl
theorem cuts_cons {a : Nat} {w : List Nat} {r : List (List Nat)} (h : r ≠ []) : cutsOf a (w :: r) = (a + w.length) :: cutsOf (a + w.length + 2) r := by
  cases r with
  | nil => exact absurd rfl h
  | cons _ _ => rfl
theorem fold_cuts {s : Str} {limit : Nat} : ∀ (ws : List (List Nat)) (pre : List Nat) (found : Array Nat) (free : Nat), ws ≠ [] → (∀ w ∈ ws, 44 ∉ w) → s.cps.toList = pre ++ J ws → free ≤ pre.length → found.size ≤ pre.length → s.length < limit →
    ((List.range' pre.length ((J ws).length + 1)).foldl (occStep s sepS s.length limit) (found, free)).fst.toList = found.toList ++ cutsOf pre.length ws
  | [], _, _, _, h, _, _, _, _, _ => absurd rfl h
  | [w], pre, found, free, _, hc, hs, hf, hz, hl => by
    rw [fold_same]
    · simp [cutsOf]
    · intro i hi
      rw [at_iff, hs]
      rintro ⟨h1, h2⟩
      have hi1 := List.mem_range'_1.mp hi
      rw [List.getElem?_append_right hi1.1] at h1
      exact hc w List.mem_cons_self (List.mem_of_getElem? h1)
  | w :: w2 :: r, pre, found, free, _, hc, hs, hf, hz, hl => by
    have hr : w2 :: r ≠ [] := by simp
    rw [J_cons hr] at hs ⊢
    rw [cuts_cons hr]
    have hlen : (w ++ [44, 32] ++ J (w2 :: r)).length + 1 = w.length + (2 + ((J (w2 :: r)).length + 1)) := by simp only [List.length_append, List.length_cons, List.length_nil]; omega
    rw [hlen, ← List.range'_append_1, List.foldl_append, ← List.range'_append_1, List.foldl_append]
    have hsl : s.length = pre.length + (w.length + (2 + (J (w2 :: r)).length)) := by
      show s.cps.toList.length = _
      rw [hs]; simp only [List.length_append, List.length_cons, List.length_nil]; omega
    rw [fold_same (l := List.range' pre.length w.length)]
    · have h2 : (List.range' (pre.length + w.length) 2) = [pre.length + w.length, pre.length + w.length + 1] := rfl
      rw [h2, List.foldl_cons, List.foldl_cons, List.foldl_nil]
      have hat : s.cps.toList[pre.length + w.length]? = some 44 ∧ s.cps.toList[pre.length + w.length + 1]? = some 32 := by
        rw [hs]
        constructor
        · rw [List.getElem?_append_right (by omega), List.append_assoc, List.getElem?_append_right (by omega)]
          have : pre.length + w.length - pre.length - w.length = 0 := by omega
          rw [this]; rfl
        · rw [List.getElem?_append_right (by omega), List.append_assoc, List.getElem?_append_right (by omega)]
          have : pre.length + w.length + 1 - pre.length - w.length = 1 := by omega
          rw [this]; rfl
      obtain ⟨ha, hb⟩ := at_iff.mpr hat
      have e1 : occStep s sepS s.length limit (found, free) (pre.length + w.length) = (found.push (pre.length + w.length), pre.length + w.length + 2) := by
        unfold occStep
        rw [if_pos ⟨⟨⟨by show found.size < limit; omega, by show free ≤ _; omega⟩, ha⟩, hb⟩, sep_len]
      have e2 : occStep s sepS s.length limit (found.push (pre.length + w.length), pre.length + w.length + 2) (pre.length + w.length + 1) = (found.push (pre.length + w.length), pre.length + w.length + 2) := by
        unfold occStep
        rw [if_neg]
        rintro ⟨⟨⟨_, h⟩, _⟩, _⟩
        have h : pre.length + w.length + 2 ≤ pre.length + w.length + 1 := h
        omega
      rw [e1, e2]
      have hp : (pre ++ w ++ [44, 32]).length = pre.length + w.length + 2 := by simp only [List.length_append, List.length_cons, List.length_nil]
      have := fold_cuts (w2 :: r) (pre ++ w ++ [44, 32]) (found.push (pre.length + w.length)) (pre.length + w.length + 2) hr (fun z hz => hc z (List.mem_cons_of_mem _ hz)) (by rw [hs]; simp only [List.append_assoc]) (by omega) (by rw [Array.size_push]; omega) hl
      rw [hp] at this
      rw [this, Array.toList_push, List.append_assoc]
      rfl
    · intro i hi
      rw [at_iff, hs]
      rintro ⟨h1, _⟩
      have hi1 := List.mem_range'_1.mp hi
      rw [List.getElem?_append_right hi1.1, List.append_assoc, List.getElem?_append_left (by omega)] at h1
      exact hc w List.mem_cons_self (List.mem_of_getElem? h1)
theorem parts_cuts {s : Str} : ∀ (ws : List Str) (pre : List Nat), ws ≠ [] → s.cps.toList = pre ++ J (ws.map (·.cps.toList)) → partsFrom s 2 pre.length (cutsOf pre.length (ws.map (·.cps.toList))) = ws
  | [], _, h, _ => absurd rfl h
  | [w], pre, _, hs => by
    show [strSub s pre.length s.length] = [w]
    congr 1
    unfold strSub
    have : s.cps.extract pre.length s.length = w.cps := by
      rw [← Array.toList_inj, Array.toList_extract, hs, List.extract_eq_drop_take]
      have : s.length = (pre ++ w.cps.toList).length := by show s.cps.toList.length = _; rw [hs]; rfl
      rw [this]
      show List.take _ (List.drop pre.length (pre ++ w.cps.toList)) = _
      rw [List.drop_left, List.length_append, Nat.add_sub_cancel_left, List.take_length]
    rw [this]
  | w :: w2 :: r, pre, _, hs => by
    have hr : (w2 :: r).map (·.cps.toList) ≠ [] := by simp
    rw [List.map_cons, J_cons hr] at hs
    rw [List.map_cons, cuts_cons hr]
    show strSub s pre.length (pre.length + w.cps.toList.length) :: partsFrom s 2 (pre.length + w.cps.toList.length + 2) _ = _
    have hp : (pre ++ w.cps.toList ++ [44, 32]).length = pre.length + w.cps.toList.length + 2 := by simp only [List.length_append, List.length_cons, List.length_nil]
    have := parts_cuts (w2 :: r) (pre ++ w.cps.toList ++ [44, 32]) (by simp) (by rw [hs]; simp only [List.append_assoc])
    rw [hp] at this
    rw [this]
    congr 1
    unfold strSub
    have : s.cps.extract pre.length (pre.length + w.cps.toList.length) = w.cps := by
      rw [← Array.toList_inj, Array.toList_extract, hs, List.extract_eq_drop_take, Nat.add_sub_cancel_left, List.drop_left, List.append_assoc, List.take_left]
    rw [this]
theorem join_J : ∀ (ws : List Str), (Str.join sepS ws).cps.toList = J (ws.map (·.cps.toList))
  | [] => by rfl
  | [w] => by rfl
  | w :: w2 :: r => by
    have := join_J (w2 :: r)
    rw [List.map_cons, J_cons (by simp), ← this, ← sep_list]
    show (w.cps ++ sepS.cps ++ (Str.join sepS (w2 :: r)).cps).toList = _
    rw [Array.toList_append, Array.toList_append]
theorem split_join (ws : List Str) (hne : ws ≠ []) (h : ∀ w ∈ ws, 44 ∉ w.cps.toList) : Txt.split (Txt.join sepS ws) sepS = ws := by
  unfold Txt.join
  rw [glued_eq_join]
  generalize hx : Str.join sepS ws = x
  have hs : x.cps.toList = [] ++ J (ws.map (·.cps.toList)) := by rw [← hx, join_J]; rfl
  have hc : (occurrences x sepS 0 x.length (x.length + 1)) = cutsOf 0 (ws.map (·.cps.toList)) := by
    rw [occ_eq, occ_fold]
    have := fold_cuts (s := x) (limit := x.length + 1) (ws.map (·.cps.toList)) [] #[] 0 (by simpa using hne) (fun w hw => by obtain ⟨z, hz, rfl⟩ := List.mem_map.mp hw; exact h z hz) hs (Nat.le_refl _) (Nat.le_refl _) (Nat.lt_succ_self _)
    have hl : x.length = (J (ws.map (·.cps.toList))).length := by show x.cps.toList.length = _; rw [hs]; rfl
    rw [show x.length + 1 - 0 = (J (ws.map (·.cps.toList))).length + 1 by omega]
    simpa using this
  have hp := parts_cuts (s := x) ws [] hne hs
  have one : ∀ w, ws = [w] → [x] = ws := fun w e => by rw [← hx, e]; rfl
  unfold Txt.split
  split
  · rename_i hk
    have hk1 : Builtin.Str.strKind sepS = 1 := by decide +kernel
    have : ¬ Builtin.Str.strKind x < Builtin.Str.strKind sepS := by
      rw [hk1]; unfold Builtin.Str.strKind; split
      · omega
      · split <;> omega
    simp only [Bool.or_eq_true, decide_eq_true_eq, this, or_false, sep_len] at hk
    match ws, hne, hs, one with
    | [w], _, _, one => exact one w rfl
    | w :: w2 :: r, _, hs, _ =>
      have hl : x.length = (J ((w :: w2 :: r).map (·.cps.toList))).length := by show x.cps.toList.length = _; rw [hs]; rfl
      rw [List.map_cons, J_cons (by simp)] at hl
      simp only [List.length_append, List.length_cons, List.length_nil] at hl
      omega
  · rw [hc]
    split
    · rename_i he
      match ws, hne, he, one with
      | [w], _, _, one => exact one w rfl
      | w :: w2 :: r, _, he, _ => rw [List.map_cons, cuts_cons (by simp)] at he; simp at he
    · rw [partsBetween_eq, sep_len]
      exact hp
theorem word_sep : ∀ k < 32, 44 ∉ (wordF k).cps.toList := by decide +kernel
theorem split_words (l : List Nat) (h : ∀ k ∈ l, k < 32) (hne : l ≠ []) : Txt.split (Txt.join sepS (l.map wordF)) sepS = l.map wordF :=
  split_join _ (by simpa using hne) fun w hw => by
    obtain ⟨k, hk, rfl⟩ := List.mem_map.mp hw
    exact word_sep k (h k hk)
theorem join_len (l : List Nat) (h : ∀ k ∈ l, k < 32) (hl : l.length ≤ 32) : (Txt.join sepS (l.map wordF)).length + 2 ≤ sizeLine := by
  have e : Txt.join sepS (l.map wordF) = Str.join sepS (l.map wordF) := glued_eq_join _ _
  have h1 := StrLaws.join_length_le sepS (l.map wordF)
  rw [sep_len, List.length_map, List.map_map] at h1
  have h2 : (l.map (Str.length ∘ wordF)).sum ≤ 30 * l.length := by
    clear h1 e hl
    induction l with
    | nil => simp
    | cons a r ih =>
      have := ih fun k hk => h k (List.mem_cons_of_mem _ hk)
      have := word_len a (h a List.mem_cons_self)
      simp only [List.map_cons, List.sum_cons, List.length_cons, Function.comp]
      omega
  have : sizeLine = 16777216 := rfl
  rw [e]
  have h3 : (l.map ((fun (x : Str) => x.length) ∘ wordF)).sum ≤ 30 * l.length := h2
  omega
theorem bits_ne {K : Nat} (h : K ≠ 0) (hK : K < 2 ^ 32) : bitsLt K 32 ≠ [] := by
  obtain ⟨i, hi⟩ := Nat.exists_testBit_of_ne_zero h
  have : i < 32 := by
    rcases Nat.lt_or_ge i 32 with q | q
    · exact q
    · rw [Nat.testBit_lt_two_pow (Nat.lt_of_lt_of_le hK (Nat.pow_le_pow_right (by decide) q))] at hi; cases hi
  intro q
  have hm : i ∈ bitsLt K 32 := List.mem_filter.mpr ⟨List.mem_range.mpr this, hi⟩
  rw [q] at hm; cases hm
end
section -- F12
noncomputable def vLoop : Nat → Nat → List Nat → Option (Nat × List Nat)
  | val, b, [] => if b &&& 64 = 0 then some (val, []) else none
  | val, b, b' :: r => if b &&& 64 = 0 then some (val, b' :: r) else vLoop ((val <<< 6) ||| (b' &&& 63)) b' r
noncomputable def varint : List Nat → Option (Nat × List Nat)
  | [] => none
  | b :: r => vLoop (b &&& 63) b r
section
variable {C : Cx} {n : Nat} {A A0 : Around} {s s' s₀ : Shared} {env : Env} {ρ ρ' : Names} {pv pvc : List Addr} {own o1 o2 : Own}
theorem kp_of_sansL {X : List Addr} : Kp C (s.sansL X) s := kp_chg (X := X) (h' := s.heap) (tk := s.toks) fun b o hb e => kx e
inductive HoldT (C : Cx) (A : Around) (s₀ : Shared) (pvc : List Addr) (env : Env) (ρ : Names) (own : Own) (s : Shared) (b : Addr) (o : Obj) : Prop
  | mk (s₁ : Shared) (h : St C A s₁ pvc env ρ own s) (k : Kp C s₀ s₁ ∧ s₁.heap.get? b = some o) (bk : ∀ {ρ' own' s'}, St C A s₁ pvc env ρ' own' s' → St C A s₀ pvc env ρ' own' s' ∧ s'.heap.get? b = some o)
theorem St.hold {b : Addr} {o : Obj} {vs : Array Value} {T : String} (h : St C A s₀ pvc env ρ own s) (e : s.heap.get? b = some o) (d : o.data = .fields vs) (c : o.cls = .type T) :
    HoldT C A s₀ pvc env ρ own s b o := by
  obtain ⟨s₁, h1, k1, hg⟩ := h.rebase
  have hb : b ∉ privA env own := fun q => by
    obtain ⟨_, o', e', n⟩ := h.privs b q
    rw [e] at e'; cases e'; exact n _ d
  exact ⟨s₁, h1, ⟨k1, hg _ _ e hb⟩, fun {ρ' own' s'} h2 => ⟨h2.unbase h.base h.priv k1, h2.kp.sub _ _ (hg _ _ e hb) (nd_rec d c)⟩⟩
noncomputable def octs (b : Array UInt8) : List Nat := b.toList.map (·.toNat)
theorem octs_get {b : Array UInt8} {i : Nat} {c : UInt8} (h : b[i]? = some c) : (octs b).drop i = c.toNat :: (octs b).drop (i + 1) := by
  have : (octs b)[i]? = some c.toNat := by simp [octs, h]
  obtain ⟨h1, h2⟩ := List.getElem?_eq_some_iff.mp this
  rw [List.drop_eq_getElem_cons h1, h2]
theorem octs_none {b : Array UInt8} {i : Nat} (h : b[i]? = none) : (octs b).drop i = [] := by
  have : b.size ≤ i := by simpa using h
  simp [octs, this]
theorem St.next {x : Str} {p q np cp ip : Pos} {rest : List Stmt} {it : Addr} {ρ' : Int → Names} {b : Array UInt8} {t : Tok} {i : Nat} {iter : Str} {Q : Flow → Shared → Prop} {E : Value → Shared → Prop} (h : St C A s₀ pvc env ρ own s) (ra : Room n A) (hmn : C.mg (Str.ofString "next") = none) (hbn : C.mb (Str.ofString "next") = some (.builtin "next"))
    (hi : (iter, PyData.dict [(.int it, .none)]) ∈ ρ) (h0 : s₀.heap.get? it = none) (hit : KBw.IsBytesIter s.heap it b t i) (hx : OwnN env env.cells x) (hu : ∀ j : Int, Upd x (.int j) ρ (ρ' j)) (ho : ∀ y ∈ own, y.1 ≠ x)
    (k : ∀ c s', b[i]? = some c → St C A s₀ pvc env (ρ' c.toNat) own s' → KBw.IsBytesIter s'.heap it b t (i + 1) → wpAny (model C.prog C.w) A (execs rest env) Q E s')
    (kE : ∀ x s', b[i]? = none → St C A s₀ pvc env ρ own s' → Exn none s₀ s' x "StopIteration" none → E (.ref x) s')
    (hk : autoParam (env.kindOf (Str.ofString "next") = some .globalImplicit) syR) (hd : autoParam ((iter == ("__debug__" : Str)) = false) syD) (hc : autoParam ((iter == ("__classdict__" : Str)) = false) syD)
    (hsw : autoParam (swapsWith (.Call (.Name (Str.ofString "next") np) [.Name iter ip] [] cp) (some (.Name x p)) q.line env = pure false) syU) :
    wpAny (model C.prog C.w) A (execs (.Assign [.Name x p] (.Call (.Name (Str.ofString "next") np) [.Name iter ip] [] cp) q :: rest) env) Q E s := by
  obtain ⟨o, ho', hoc, hod⟩ := id hit
  have nP : it ∉ privA env own := fun q => by
    obtain ⟨_, o', e', n⟩ := h.privs it q
    rw [ho'] at e'; cases e'; exact n _ hod
  have hX : ∀ b ∈ [it], s₀.heap.get? b = none ∧ b ∉ privA env own ∧ ∀ o, s.heap.get? b = some o → (∀ vs n, o.data ≠ .seq vs n) ∧ o.cls ≠ .none ∧ o.cls ≠ .type "code" := fun b hb => by
    rw [List.mem_singleton.mp hb]
    exact ⟨h0, nP, fun o e => by rw [ho'] at e; cases e; exact ⟨fun _ _ q => (nomatch hod.symm.trans q), (rec_cls hoc hod (by decide)).2⟩⟩
  have hlive : ∀ {s1}, Kp C (s.sansL [it]) s1 → Live C A s1 := fun {s1} k1 => by
    obtain ⟨l, a, bb⟩ := h.live
    exact Live.mono (s := s.sansL [it]) ⟨l, a, bb.mono fun L _ ⟨o, es, n, e, d⟩ => ⟨o, es, n, sansL_get e (fun q => by rw [List.mem_singleton.mp q, ho'] at e; cases e; exact nomatch d.symm.trans hod), d⟩⟩ k1
  refine wpAny_execs_cons (wpAny_Assign_Name ?_ hsw)
  refine wpAny_Call_NameR (ev_built h.rdy hk hmn hbn ?_)
  refine callWith_builtin (star_plain (by rfl) cp) (evalArgs_ev ra h.rdy (.cons (.nam hi hd hc) .nil) (by rfl) fun vs s1 k1 h1 => ?_)
  obtain ⟨v, rfl, r1⟩ := h1.inv1
  have := r1.opq_inv
  subst this
  have st1 := h.kps k1
  have hit1 : KBw.IsBytesIter s1.heap it b t i := ⟨o, k1.sub _ _ ho' (nd_rec hod hoc), hoc, hod⟩
  have k1' : Kp C (s.sansL [it]) (s1.sansL [it]) := kp_sansL (fun b hb => sansL_none hb) (kp_of_sansL.trans k1) fun b hb o' e => by
    obtain ⟨o1, f1, f2, f3⟩ := hit1
    rw [List.mem_singleton.mp hb, f1] at e; cases e; exact (rec_cls f2 f3 (by decide)).2
  cases hb : b[i]? with
  | none =>
    refine wp_next_end ra.handled hit1 hb h0 st1.kp fun h' x k2 f2 => kE x _ hb (h.chg hX (k1'.trans k2) (hlive (k1'.trans k2))) f2
  | some c =>
    refine wp_next_item hit1 hb fun h' tk hit2 hs => ?_
    have k2 : Kp C (s1.sansL [it]) { s1 with heap := h', toks := s1.toks + 1 } := kp_chg fun b o hb e => kx ((hs.2 b fun q => hb (by simp [q])).trans e)
    have st2 := h.chg hX (k1'.trans k2) (hlive (k1'.trans k2))
    obtain ⟨o2, g1, g2, g3⟩ := id hit2
    obtain ⟨sB, st3, -, hold⟩ := st2.hold (o := o2) g1 g3 g2
    refine st3.store hx (.int _ tk) (hu _) ho fun s3 st4 => ?_
    obtain ⟨st5, e5⟩ := hold st4
    exact k c s3 hb st5 ⟨o2, e5, g2, g3⟩
noncomputable abbrev whileXQ (C : Cx) (A0 : Around) (s₀ : Shared) (pvc : List Addr) (env : Env) (Iv : Nat → Names → Own → Shared → Prop) (k : Nat) : Flow → Shared → Prop := fun f s'' => match f with
  | .next | .cont => ∃ k' ρ3 own3, k' < k ∧ Iv k' ρ3 own3 s'' ∧ St C (A0.deeper env) s₀ pvc env ρ3 own3 s''
  | _ => False
inductive WhileXT (C : Cx) (n : Nat) (A0 : Around) (s₀ : Shared) (pvc : List Addr) (env : Env) (own1 : Own) (ρ1 : Names) (σ : Shared) (test : Expr) (body rest : List Stmt) (om : Option Str) (X : String) (Iv : Nat → Names → Own → Shared → Prop) (Px : Names → Own → Prop) (k : Nat) (Q : Flow → Shared → Prop) (E : Value → Shared → Prop) : Prop
  | mk (b : Bool) (h1 : Tst C n env (ρ1 ++ seen own1) test b)
      (h2 : b = true → ∀ s', Kp C σ s' → St C (A0.deeper env) s₀ pvc env ρ1 own1 s' → ∀ E, (∀ x fl s'' ρ2 own2, Px ρ2 own2 → St C (A0.deeper env) s₀ pvc env ρ2 own2 s'' → Exn om s₀ s'' x X fl → E (.ref x) s'') →
        wpAny (model C.prog C.w) (A0.deeper env) (execs body env) (whileXQ C A0 s₀ pvc env Iv k) E s')
      (h3 : b = false → ∀ s', Kp C σ s' → St C (A0.deeper env) s₀ pvc env ρ1 own1 s' → wpAny (model C.prog C.w) (A0.deeper env) (execs rest env) Q E s')
theorem St.whileX {test : Expr} {body : List Stmt} {pos : Pos} {rest : List Stmt} {om : Option Str} {X : String} {Q : Flow → Shared → Prop} {E : Value → Shared → Prop} (Iv : Nat → Names → Own → Shared → Prop) (Px : Names → Own → Prop) (k₀ : Nat) (h : St C (A0.deeper env) s₀ pvc env ρ own s) (ra : Room n (A0.deeper env)) (hf : env.frame = some env.locals) (hX : X ≠ "code") (h0 : Iv k₀ ρ own s)
    (turn : ∀ k ρ1 own1 σ, Iv k ρ1 own1 σ → WhileXT C n A0 s₀ pvc env own1 ρ1 σ test body rest om X Iv Px k Q E)
    (hE : ∀ x fl s' ρ1 own1, Px ρ1 own1 → St C (A0.deeper env) s₀ pvc env ρ1 own1 s' → Exn om s₀ s' x X fl → E (.ref x) s') :
    wpAny (model C.prog C.w) (A0.deeper env) (execs (.While test body [] pos :: rest) env) Q E s := by
  refine wpAny_execs_cons (wpAny_While (codeAny_mono (R := fun r s' => match r with | .ok .next => wpAny (model C.prog C.w) (A0.deeper env) (execs rest env) Q E s' | .ok _ => False | .error e => cameBackBy (model C.prog C.w) (A0.deeper env) env E e s')
    (codeAny_whileLoop (fun k σ => ∃ ρ1 own1, Iv k ρ1 own1 σ ∧ St C (A0.deeper env) s₀ pvc env ρ1 own1 σ) ?_ k₀ ⟨ρ, own, h0, h⟩) fun r s' hr => ?_))
  · rintro k σ ⟨ρ1, own1, h1, hst⟩
    obtain ⟨b, ht, hb1, hb2⟩ := turn k ρ1 own1 σ h1
    refine ht (A0.deeper env) ra σ _ hst.rdyF _ _ fun s' ks => ?_
    cases b with
    | true =>
      refine wpAny_mono (hb1 rfl s' ks (hst.kps ks) (notedBy (model C.prog C.w) (A0.deeper env) env (cameBackBy (model C.prog C.w) (A0.deeper env) env E)) fun x fl s'' ρ2 own2 hp st2 x2 => Exn.loop st2 hf hX x2 fun s3 fl' st3 x3 => hE x fl' s3 ρ2 own2 hp st3 x3) (fun f s'' hf => ?_) fun _ _ e => e
      cases f with
      | next => obtain ⟨k', ρ3, own3, h3, h4, h5⟩ := hf; exact ⟨k', h3, ρ3, own3, h4, h5⟩
      | cont => obtain ⟨k', ρ3, own3, h3, h4, h5⟩ := hf; exact ⟨k', h3, ρ3, own3, h4, h5⟩
      | brk => exact hf.elim
      | ret _ => exact hf.elim
    | false => exact wpAny_execs_nil (hb2 rfl s' ks (hst.kps ks))
  · cases r with
    | error e => exact hr
    | ok f => cases f <;> first | exact hr | exact hr.elim
theorem vLoop_nil (v b : Nat) : vLoop v b [] = if b &&& 64 = 0 then some (v, []) else none := rfl
theorem vLoop_cons (v b c : Nat) (r : List Nat) : vLoop v b (c :: r) = if b &&& 64 = 0 then some (v, c :: r) else vLoop ((v <<< 6) ||| (c &&& 63)) c r := rfl
theorem vLoop_done {v b : Nat} {r : List Nat} (h : b &&& 64 = 0) : vLoop v b r = some (v, r) := by cases r <;> simp [vLoop, h]
theorem bitOr_nat (a b : Nat) : Builtin.bitOr (a : Int) (b : Int) = ((a ||| b : Nat) : Int) := by
  rw [bitOr_and, bitAnd_nat]
  have := nat_or_add_and a b
  omega
noncomputable abbrev varI (it : Addr) (b : Array UInt8) (t : Tok) (i : Nat) (k : Nat) (ρ : Names) (own : Own) (σ : Shared) : Prop := ∃ j val bb : Nat, ρ = ([("iterator", opq it), ("b", .int bb), ("val", .int val)] : Names) ∧ own = [] ∧ KBw.IsBytesIter σ.heap it b t j ∧ vLoop val bb ((octs b).drop j) = varint ((octs b).drop i) ∧ k = b.size - j ∧ j ≤ b.size ∧ val < 2 ^ (6 * j)
theorem wp_varint (G : Glb C) (ra : Room 2 A) {it : Addr} {b : Array UInt8} {t : Tok} {i : Nat} {Q : Value → Shared → Prop} {E : Value → Shared → Prop} (B : Base C s) (Bs : Base C (s.sansL [it])) (L : Live C A s) (hit : KBw.IsBytesIter s.heap it b t i) (hsz : b.size ≤ 1000)
    (hQ : ∀ (v j : Nat) tk s', varint ((octs b).drop i) = some (v, (octs b).drop j) → Kp C (s.sansL [it]) s' → KBw.IsBytesIter s'.heap it b t j → Q (.int v tk) s')
    (hE : ∀ x fl s', varint ((octs b).drop i) = none → Kp C (s.sansL [it]) s' → Exn none (s.sansL [it]) s' x "StopIteration" fl → E (.ref x) s') : wpAny (model C.prog C.w) A (call (.ref 208) [.ref it]) Q E s := by
  obtain ⟨-, doc, pm, D⟩ := G.fn 12 208 _ _ (by walk_at "has")
  have hnx := G.bi (Str.ofString "next") (.builtin "next") (by walk_at "has")
  obtain ⟨o, ho, hoc, hod⟩ := id hit
  refine wpAny_call (call_start (n := 1) (pvc := []) (ρ := [("iterator", opq it)]) (binds := [("iterator", .ref it)]) D rfl rfl B L (fun _ h => nomatch h) ra (.of_eq (by kernel_rfl!)) (by simp) (fun L x hx => ?_) (fun y d i => ?_) fun L s₁ env he ra' st => ?_)
  · simp only [List.map_cons, List.map_nil, List.mem_cons, List.not_mem_nil, or_false] at hx
    subst hx
    exact .inl rfl
  · simp at i; obtain ⟨rfl, rfl⟩ := i; exact ⟨_, List.mem_cons_self, .opq it⟩
  subst he
  have hit1 : KBw.IsBytesIter s₁.heap it b t i := ⟨o, st.kp.sub _ _ ho (nd_rec hod hoc), hoc, hod⟩
  have st := st.unbase Bs (fun _ h => nomatch h) kp_of_sansL
  conv in (bdI 12) => whnf
  have it0 : (s.sansL [it]).heap.get? it = none := sansL_none (by simp)
  have hlv : ∀ x fl s', Kp C (s.sansL [it]) s' → Live C (A.deeper _) s' → Exn none (s.sansL [it]) s' x "StopIteration" fl → varint ((octs b).drop i) = none → wpAny (model C.prog C.w) (A.deeper (callEnvC (fdI 12 .none .none doc pm 207) L 208)) (leaving (callEnvC (fdI 12 .none .none doc pm 207) L 208) (.ref x)) (fun _ s'' => E (.ref x) s'') (fun e' s'' => E e' s'') s' :=
    fun x fl s' k l f hv => f.leave k l rfl (by decide) fun s2 k2 f2 => hE x _ s2 hv k2 f2
  refine st.next (ρ' := fun j => [("iterator", opq it), ("b", .int j)]) ra' hnx.1 hnx.2 (by walk_at "has") it0 hit1 (by walk_at "ownn") (fun j => by walk_at "upd") (by walk_at "none") (fun c s2 hc st hit2 => ?_) (fun x s2 hn st f => ?_)
  rotate_left
  · exact hlv x _ s2 st.kp st.live f (by rw [octs_none hn]; rfl)
  have hvi : varint ((octs b).drop i) = vLoop (c.toNat &&& 63) c.toNat ((octs b).drop (i + 1)) := by rw [octs_get hc]; rfl
  have hib : i < b.size := (Array.getElem?_eq_some_iff.mp hc).1
  obtain ⟨o2, g1, g2, g3⟩ := id hit2
  obtain ⟨sB, stB, -, hold⟩ := st.hold g1 g3 g2
  refine stB.assign ra' (d := .int ((c.toNat &&& 63 : Nat) : Int)) (by rw [← bitAnd_nat]; exact Ev.bin (x := .int c.toNat) (y := .int (63 : Nat)) (by walk_at "ev") (by walk_at "ev") (.and _ _)) (by walk_at "upd") (by walk_at "none") (fun s3 stB' => ?_) (by walk_at "ownn")
  obtain ⟨st, e3⟩ := hold stB'
  refine st.whileX (n := 1) (om := none) (X := "StopIteration") (A0 := A) (varI it b t i)
    (fun _ _ => varint ((octs b).drop i) = none) _ ra' rfl (by decide) ⟨i + 1, c.toNat &&& 63, c.toNat, rfl, rfl, ⟨o2, e3, g2, g3⟩, hvi.symm, rfl, hib, ?_⟩ ?_ ?_
  · refine Nat.lt_of_le_of_lt Nat.and_le_right ?_
    refine Nat.lt_of_lt_of_le (m := 2 ^ 6) (by decide) (Nat.pow_le_pow_right (by decide) (by omega))
  · rintro k ρ1 own1 σ ⟨j, val, bb, rfl, rfl, hj1, hj2, rfl, hj4, hj5⟩
    refine ⟨(((bb &&& 64 : Nat) : Int) != 0), ?_, fun hb s4 k4 st E hE => ?_, fun hb s4 k4 st => ?_⟩
    · refine Tst.val (d := .int ((bb &&& 64 : Nat) : Int)) ?_ (.int _)
      rw [← bitAnd_nat]
      exact Ev.bin (x := .int bb) (y := .int (64 : Nat)) (by walk_at "ev") (by walk_at "ev") (.and _ _)
    · have hb : ¬ bb &&& 64 = 0 := by simpa using hb
      obtain ⟨o3, q1, q2, q3⟩ := id hj1
      obtain ⟨sC, stC, -, holdC⟩ := st.hold (k4.sub _ _ q1 (nd_rec q3 q2)) q3 q2
      have hbits : (Builtin.Int.intBits (val : Int) : Int) + (6 : Nat) ≤ 2 ^ 27 := by
        have : Builtin.Int.intBits (val : Int) ≤ 6 * j := intBits_le_iff.mpr (by simpa using hj5)
        omega
      refine stC.aug ra' (i := val) (j := (6 : Nat)) (r := ((val <<< 6 : Nat) : Int)) (by walk_at "has") (.inl .cint) ?_ (by walk_at "upd") (by walk_at "none") (fun s5 stC' => ?_) (by walk_at "ownn")
      · have e : ((val <<< 6 : Nat) : Int) = (val : Int) * 2 ^ ((6 : Nat) : Int).toNat := by rw [Nat.shiftLeft_eq]; rfl
        rw [e]
        exact .shl _ _ (by omega) hbits
      obtain ⟨st, e5⟩ := holdC stC'
      refine st.next (ρ' := fun j => [("iterator", opq it), ("b", .int j), ("val", .int ((val <<< 6 : Nat) : Int))]) ra' hnx.1 hnx.2 (by walk_at "has") it0 ⟨o3, e5, q2, q3⟩ (by walk_at "ownn") (fun j => by walk_at "upd") (by walk_at "none") (fun c' s6 hc' st hit6 => ?_) (fun x s6 hn st f => ?_)
      · obtain ⟨o6, u1, u2, u3⟩ := id hit6
        obtain ⟨sD, stD, -, holdD⟩ := st.hold u1 u3 u2
        have hlt : j < b.size := (Array.getElem?_eq_some_iff.mp hc').1
        refine stD.aug ra' (i := ((val <<< 6 : Nat) : Int)) (j := ((c'.toNat &&& 63 : Nat) : Int)) (r := (((val <<< 6) ||| (c'.toNat &&& 63) : Nat) : Int)) (by walk_at "has") (.inl (by rw [← bitAnd_nat]; exact Ev.bin (x := .int c'.toNat) (y := .int (63 : Nat)) (by walk_at "ev") (by walk_at "ev") (.and _ _))) (by rw [← bitOr_nat]; exact .or _ _) (by walk_at "upd") (by walk_at "none") (fun s7 stD' => ?_) (by walk_at "ownn")
        obtain ⟨st, e7⟩ := holdD stD'
        refine wpAny_execs_nil ⟨b.size - (j + 1), _, _, by omega, ⟨j + 1, _, c'.toNat, rfl, rfl, ⟨o6, e7, u2, u3⟩, ?_, rfl, hlt, ?_⟩, st⟩
        · rw [← hj2, octs_get hc', vLoop_cons, if_neg hb]
        · have h1 : val <<< 6 < 2 ^ (6 * (j + 1)) := by
            rw [Nat.shiftLeft_eq]
            have : 2 ^ (6 * (j + 1)) = 2 ^ (6 * j) * 2 ^ 6 := by rw [← Nat.pow_add]; rfl
            omega
          have h2 : c'.toNat &&& 63 < 2 ^ (6 * (j + 1)) := Nat.lt_of_le_of_lt Nat.and_le_right (Nat.lt_of_lt_of_le (m := 2 ^ 6) (by decide) (Nat.pow_le_pow_right (by decide) (by omega)))
          exact Nat.or_lt_two_pow h1 h2
      · refine hE x _ s6 _ _ ?_ st f
        rw [← hj2, octs_none hn, vLoop_nil, if_neg hb]
    · have hb : bb &&& 64 = 0 := by simpa using hb
      obtain ⟨o3, q1, q2, q3⟩ := id hj1
      obtain ⟨sC, stC, ⟨kC, eC⟩, -⟩ := st.hold (k4.sub _ _ q1 (nd_rec q3 q2)) q3 q2
      refine stC.ret ra' (d := .int val) (by walk_at "ev") fun v s5 k5 r5 => ?_
      obtain ⟨tk, rfl⟩ := r5.int_inv
      exact hQ val j tk s5 (by rw [← hj2, vLoop_done hb]) (kC.trans k5) ⟨o3, k5.sub _ _ eC (nd_rec q3 q2), q2, q3⟩
  · intro x fl s4 ρ1 own1 hp st f
    exact hlv x fl s4 st.kp st.live f hp
end
end
section -- F13
theorem vLoop_len : ∀ {r : List Nat} {v b v' : Nat} {r' : List Nat}, vLoop v b r = some (v', r') → r'.length ≤ r.length
  | [], v, b, v', r', h => by
    rw [vLoop_nil] at h
    split at h
    · cases h; exact Nat.le_refl _
    · cases h
  | c :: r, v, b, v', r', h => by
    rw [vLoop_cons] at h
    split at h
    · cases h; exact Nat.le_refl _
    · have := vLoop_len h
      simp only [List.length_cons]; omega
theorem varint_lt {os : List Nat} {v : Nat} {r : List Nat} (h : varint os = some (v, r)) : r.length < os.length := by
  cases os with
  | nil => cases h
  | cons b os => have := vLoop_len (show vLoop _ _ _ = _ from h); simp only [List.length_cons]; omega
noncomputable def entRow (s l t d : Nat) : List PyData := [.int ((s * 2 : Nat) : Int), .int ((s * 2 + l * 2 : Nat) : Int), .int ((t * 2 : Nat) : Int), .int ((d / 2 : Nat) : Int), .bool (d % 2 != 0)]
noncomputable def tblF : Nat → List Nat → List (List PyData)
  | 0, _ => []
  | f + 1, os => match varint os with
    | none => []
    | some (s, r1) => match varint r1 with
      | none => []
      | some (l, r2) => match varint r2 with
        | none => []
        | some (t, r3) => match varint r3 with
          | none => []
          | some (d, r4) => entRow s l t d :: tblF f r4
section
variable {C : Cx} {n : Nat} {A A0 : Around} {s s' s₀ : Shared} {env : Env} {ρ : Names} {pv pvc : List Addr} {own o1 o2 : Own} {it : Addr} {b : Array UInt8} {t : Tok} {i : Nat}
theorem pf_bool {j : Int} : PFn C n (.type "bool") [.int j] (.bool (j != 0)) := fun A ra s pv vs B L P h Q E hq => by
  obtain ⟨v, rfl, h1⟩ := h.inv1
  obtain ⟨u, rfl⟩ := h1.int_inv
  exact call_bool_int (hq _ _ (.refl _ _) (.bool _))
theorem iter_args (a : Value) : argsOk "iter" ⟨[a], []⟩ := by unfold argsOk; kernel_rfl
theorem wp_iter_bytes {Q : Value → Shared → Prop} {E : Value → Shared → Prop} (hQ : Q (.ref s.heap.objs.size) { s with heap := s.heap.push { cls := .type "bytes_iterator", data := .fields #[.bytes b t, .int 0 0] } }) :
    wpAny (model C.prog C.w) A (call (.builtin "iter") [.bytes b t]) Q E s := by
  refine call_function_entry (by decide +kernel) (by decide +kernel) kdk_entry_iter (iter_args _) ?_
  unfold Builtin.«iter»
  refine wpAny_bind (m := someArgs "iter" 1 2 _) (PySem.wpAny_of_eq (a := [Value.bytes b t]) (by first | rfl | kernel_rfl!) ?_)
  show wpAny _ _ (pyIter (.bytes b t) >>= _) _ _ _
  exact wpAny_bind (KBw.pyIter_bytes (wpAny_pure ⟨_, rfl, hQ⟩))
theorem St.evVarint (G : Glb C) {iter : Str} {np ip cp : Pos} {Q : Value → Shared → Prop} {E : Value → Shared → Prop} (h : St C A s₀ pvc env ρ own s) (ra : Room 2 A) (hi : (iter, PyData.dict [(.int it, .none)]) ∈ ρ) (h0 : s₀.heap.get? it = none) (hit : KBw.IsBytesIter s.heap it b t i) (hsz : b.size ≤ 1000)
    (k : ∀ (v j : Nat) tk s', varint ((octs b).drop i) = some (v, (octs b).drop j) → St C A s₀ pvc env ρ own s' → KBw.IsBytesIter s'.heap it b t j → Q (.int v tk) s')
    (kE : ∀ x fl s', varint ((octs b).drop i) = none → St C A s₀ pvc env ρ own s' → Exn none s₀ s' x "StopIteration" fl → E (.ref x) s')
    (hk : autoParam (env.kindOf (Str.ofString "_parse_varint") = some .globalImplicit) syR) (hd : autoParam ((iter == ("__debug__" : Str)) = false) syD) (hc : autoParam ((iter == ("__classdict__" : Str)) = false) syD) :
    wpAny (model C.prog C.w) A (eval (.Call (.Name (Str.ofString "_parse_varint") np) [.Name iter ip] [] cp) env) Q E s := by
  obtain ⟨o, ho', hoc, hod⟩ := id hit
  have nP : it ∉ privA env own := fun q => by
    obtain ⟨_, o', e', n⟩ := h.privs it q
    rw [ho'] at e'; cases e'; exact n _ hod
  have hX : ∀ b ∈ [it], s₀.heap.get? b = none ∧ b ∉ privA env own ∧ ∀ o, s.heap.get? b = some o → (∀ vs n, o.data ≠ .seq vs n) ∧ o.cls ≠ .none ∧ o.cls ≠ .type "code" := fun b hb => by
    rw [List.mem_singleton.mp hb]
    exact ⟨h0, nP, fun o e => by rw [ho'] at e; cases e; exact ⟨fun _ _ q => (nomatch hod.symm.trans q), (rec_cls hoc hod (by decide)).2⟩⟩
  have hlive : ∀ {s1}, Kp C (s.sansL [it]) s1 → Live C A s1 := fun {s1} k1 => by
    obtain ⟨l, a, bb⟩ := h.live
    exact Live.mono (s := s.sansL [it]) ⟨l, a, bb.mono fun L _ ⟨o, es, n, e, d⟩ => ⟨o, es, n, sansL_get e (fun q => by rw [List.mem_singleton.mp q, ho'] at e; cases e; exact nomatch d.symm.trans hod), d⟩⟩ k1
  have ⟨hg, hf⟩ := G.at 12 208 .none .none (by walk_at "has")
  refine wpAny_Call_NameR (ev_glob h.rdy hk hg ?_ (by decide +kernel))
  obtain ⟨of, fd, hof, hfd⟩ := hf s h.rdy.base
  refine callWith_function (o := of) (fd := fd) (evalArgs_ev ra h.rdy (.cons (.nam hi hd hc) .nil) (by rfl) fun vs s1 k1 h1 => ⟨⟨k1.sub _ _ hof (nt_func hfd), hfd⟩, ?_⟩)
  obtain ⟨v, rfl, r1⟩ := h1.inv1
  have := r1.opq_inv
  subst this
  have st1 := h.kps k1
  have hit1 : KBw.IsBytesIter s1.heap it b t i := ⟨o, k1.sub _ _ ho' (nd_rec hod hoc), hoc, hod⟩
  have k1' : Kp C (s.sansL [it]) (s1.sansL [it]) := kp_sansL (fun b hb => sansL_none hb) (kp_of_sansL.trans k1) fun b hb o' e => by
    obtain ⟨o1, f1, f2, f3⟩ := hit1
    rw [List.mem_singleton.mp hb, f1] at e; cases e; exact (rec_cls f2 f3 (by decide)).2
  have k0 : Kp C s₀ (s1.sansL [it]) := kp_sansL (fun b hb => (hX b hb).1) st1.kp fun b hb o' e => by
    obtain ⟨o1, f1, f2, f3⟩ := hit1
    rw [List.mem_singleton.mp hb, f1] at e; cases e; exact (rec_cls f2 f3 (by decide)).2
  refine wp_varint G ra st1.rdy.base (h.base.mono k0) st1.live hit1 hsz (fun v j tk s2 hv k2 hit2 => k v j tk s2 hv (h.chg hX (k1'.trans k2) (hlive (k1'.trans k2))) hit2) fun x fl s2 hv k2 f2 => kE x fl s2 hv (h.chg hX (k1'.trans k2) (hlive (k1'.trans k2))) (f2.down k0)
theorem St.varint1 (G : Glb C) {iter x : Str} {p q np ip cp : Pos} {rest : List Stmt} {ρ' : Int → Names} {Q : Flow → Shared → Prop} {E : Value → Shared → Prop} (h : St C A s₀ pvc env ρ own s) (ra : Room 2 A) (hi : (iter, PyData.dict [(.int it, .none)]) ∈ ρ) (h0 : s₀.heap.get? it = none) (hit : KBw.IsBytesIter s.heap it b t i) (hsz : b.size ≤ 1000)
    (hx : OwnN env env.cells x) (hu : ∀ j : Int, Upd x (.int j) ρ (ρ' j)) (ho : ∀ y ∈ own, y.1 ≠ x)
    (k : ∀ (v j : Nat) s', varint ((octs b).drop i) = some (v, (octs b).drop j) → St C A s₀ pvc env (ρ' v) own s' → KBw.IsBytesIter s'.heap it b t j → wpAny (model C.prog C.w) A (execs rest env) Q E s')
    (kE : ∀ x fl s', varint ((octs b).drop i) = none → St C A s₀ pvc env ρ own s' → Exn none s₀ s' x "StopIteration" fl → E (.ref x) s')
    (hk : autoParam (env.kindOf (Str.ofString "_parse_varint") = some .globalImplicit) syR) (hd : autoParam ((iter == ("__debug__" : Str)) = false) syD) (hc : autoParam ((iter == ("__classdict__" : Str)) = false) syD)
    (hsw : autoParam (swapsWith (.Call (.Name (Str.ofString "_parse_varint") np) [.Name iter ip] [] cp) (some (.Name x p)) q.line env = pure false) syU) :
    wpAny (model C.prog C.w) A (execs (.Assign [.Name x p] (.Call (.Name (Str.ofString "_parse_varint") np) [.Name iter ip] [] cp) q :: rest) env) Q E s := by
  refine wpAny_execs_cons (wpAny_Assign_Name (h.evVarint G ra hi h0 hit hsz (fun v j tk s2 hv st2 hit2 => ?_) kE hk hd hc) hsw)
  obtain ⟨o2, g1, g2, g3⟩ := id hit2
  obtain ⟨sB, st3, -, hold⟩ := st2.hold (o := o2) g1 g3 g2
  refine st3.store hx (.int _ tk) (hu _) ho fun s3 st4 => ?_
  obtain ⟨st5, e5⟩ := hold st4
  exact k v j s3 hv st5 ⟨o2, e5, g2, g3⟩
theorem St.varint2 (G : Glb C) {iter x : Str} {p q np ip cp bp c2 : Pos} {k2 : Nat} {rest : List Stmt} {ρ' : Int → Names} {Q : Flow → Shared → Prop} {E : Value → Shared → Prop} (h : St C A s₀ pvc env ρ own s) (ra : Room 2 A) (hi : (iter, PyData.dict [(.int it, .none)]) ∈ ρ) (h0 : s₀.heap.get? it = none) (hit : KBw.IsBytesIter s.heap it b t i) (hsz : b.size ≤ 1000)
    (hx : OwnN env env.cells x) (hu : ∀ j : Int, Upd x (.int j) ρ (ρ' j)) (ho : ∀ y ∈ own, y.1 ≠ x)
    (k : ∀ (v j : Nat) s', varint ((octs b).drop i) = some (v, (octs b).drop j) → St C A s₀ pvc env (ρ' ((v * 2 : Nat) : Int)) own s' → KBw.IsBytesIter s'.heap it b t j → wpAny (model C.prog C.w) A (execs rest env) Q E s')
    (kE : ∀ x fl s', varint ((octs b).drop i) = none → St C A s₀ pvc env ρ own s' → Exn none s₀ s' x "StopIteration" fl → E (.ref x) s')
    (hk : autoParam (env.kindOf (Str.ofString "_parse_varint") = some .globalImplicit) syR) (hd : autoParam ((iter == ("__debug__" : Str)) = false) syD) (hc : autoParam ((iter == ("__classdict__" : Str)) = false) syD)
    (hsw : autoParam (swapsWith (.BinOp (.Call (.Name (Str.ofString "_parse_varint") np) [.Name iter ip] [] cp) .Mult (.Constant (.int 2) k2 c2) bp) (some (.Name x p)) q.line env = pure false) syU) :
    wpAny (model C.prog C.w) A (execs (.Assign [.Name x p] (.BinOp (.Call (.Name (Str.ofString "_parse_varint") np) [.Name iter ip] [] cp) .Mult (.Constant (.int 2) k2 c2) bp) q :: rest) env) Q E s := by
  refine wpAny_execs_cons (wpAny_Assign_Name (wpAny_BinOp (h.evVarint G ra hi h0 hit hsz (fun v j tk s2 hv st2 hit2 => ?_) kE hk hd hc)) hsw)
  refine wpAny_Constant_int (PyProof.Rows.mul_int ?_ (IntMulOk.of_right (by decide +kernel)))
  have k3 : Kp C s2 { s2 with toks := s2.toks + 1 + 1 } := Kp.tok
  obtain ⟨o2, g1, g2, g3⟩ := id hit2
  have st2 := st2.kps k3
  obtain ⟨sB, st3, -, hold⟩ := st2.hold (o := o2) g1 g3 g2
  have e2 : (v : Int) * 2 = ((v * 2 : Nat) : Int) := by omega
  rw [e2]
  refine st3.store hx (.int _ _) (hu _) ho fun s3 st4 => ?_
  obtain ⟨st5, e5⟩ := hold st4
  exact k v j s3 hv st5 ⟨o2, e5, g2, g3⟩
theorem tblF_none {f : Nat} {os : List Nat} (h : ∀ s r1, varint os = some (s, r1) → ∀ l r2, varint r1 = some (l, r2) → ∀ t r3, varint r2 = some (t, r3) → varint r3 = none) : tblF f os = [] := by
  cases f with
  | zero => rfl
  | succ f =>
    unfold tblF
    split
    · rfl
    · rename_i s r1 h1
      split
      · rfl
      · rename_i l r2 h2
        split
        · rfl
        · rename_i t r3 h3
          rw [h s r1 h1 l r2 h2 t r3 h3]
theorem tblF_some {f : Nat} {os r1 r2 r3 r4 : List Nat} {s l t d : Nat} (h1 : varint os = some (s, r1)) (h2 : varint r1 = some (l, r2)) (h3 : varint r2 = some (t, r3)) (h4 : varint r3 = some (d, r4)) : tblF (f + 1) os = entRow s l t d :: tblF f r4 := by
  simp only [tblF, h1, h2, h3, h4]
theorem tblF_len : ∀ (f : Nat) (os : List Nat), (tblF f os).length ≤ f
  | 0, _ => Nat.le_refl _
  | f + 1, os => by
    unfold tblF
    split
    · simp
    · split
      · simp
      · split
        · simp
        · split
          · simp
          · rw [List.length_cons]; have := tblF_len f; exact Nat.succ_le_succ (this _)
theorem tblF_fuel : ∀ {f g : Nat} {os : List Nat}, os.length < f → os.length < g → tblF f os = tblF g os
  | 0, _, _, h, _ => absurd h (Nat.not_lt_zero _)
  | _ + 1, 0, _, _, h => absurd h (Nat.not_lt_zero _)
  | f + 1, g + 1, os, hf, hg => by
    unfold tblF
    split
    · rfl
    · rename_i s r1 h1
      have l1 := varint_lt h1
      split
      · rfl
      · rename_i l r2 h2
        have l2 := varint_lt h2
        split
        · rfl
        · rename_i t r3 h3
          have l3 := varint_lt h3
          split
          · rfl
          · rename_i d r4 h4
            have l4 := varint_lt h4
            rw [tblF_fuel (f := f) (g := g) (by omega) (by omega)]
theorem sub_stop : isSubtype (.type "StopIteration") (.type "StopIteration") = pure true := by rw [isSubtype_type]; kernel_rfl!
theorem stop_base : isSubtype (.type "StopIteration") (.type "BaseException") = pure true := by rw [isSubtype_type]; kernel_rfl!
theorem stop_meta : isSubtype (.type ((Manifest.find? "StopIteration").elim "type" fun x => x.metatype)) (.type "tuple") = pure false := by rw [show ((Manifest.find? "StopIteration").elim "type" fun x => x.metatype) = "type" by decide +kernel, isSubtype_type]; kernel_rfl!
noncomputable abbrev tblI (f it a : Addr) (b : Array UInt8) (t : Tok) (T : List (List PyData)) (k : Nat) (ρ : Names) (own : Own) (σ : Shared) : Prop := ∃ (j : Nat) (es : List (List PyData)), ρ = ([("code", opq f), ("iterator", opq it)] : Names) ∧ own = [(Str.ofString "entries", a, es.map entD)] ∧ KBw.IsBytesIter σ.heap it b t j ∧ k = ((octs b).drop j).length ∧ es ++ tblF (((octs b).drop j).length + 1) ((octs b).drop j) = T
noncomputable abbrev tblB (f it a : Addr) (T : List (List PyData)) (ρ : Names) (own : Own) : Prop := own = [(Str.ofString "entries", a, T.map entD)] ∧ ∀ y ∈ ([("code", opq f), ("iterator", opq it)] : Names), y ∈ ρ
theorem wp_table (G : Glb C) (ra : Room 6 A) {pv : List Addr} {f : Addr} {Q : Value → Shared → Prop} {E : Value → Shared → Prop} (B : Base C s) (L : Live C A s) (P : ∀ p ∈ pv, ∃ o, s.heap.get? p = some o) (hco : CodeObj s.heap f b t) (hsz : b.size ≤ 1000)
    (hQ : ∀ v s', Kp C s s' → RD s'.heap pv v (.list ((tblF (b.size + 1) (octs b)).map entD)) → Q v s') : wpAny (model C.prog C.w) A (call (.ref 215) [.ref f]) Q E s := by
  obtain ⟨-, doc, pm, D⟩ := G.fn 13 215 _ _ (by walk_at "has")
  have hit := G.bi (Str.ofString "iter") (.builtin "iter") (by walk_at "has")
  have hbo := G.bi (Str.ofString "bool") (.type "bool") (by walk_at "has")
  have hst := G.bi (Str.ofString "StopIteration") (.type "StopIteration") (by walk_at "has")
  refine wpAny_call (call_start (n := 5) (pvc := pv) (ρ := [("code", opq f)]) (binds := [("code", .ref f)]) D rfl rfl B L P ra (.of_eq (by kernel_rfl!)) (by simp) (fun L x hx => ?_) (fun y d i => ?_) fun L s₁ env he ra' st => ?_)
  · simp only [List.map_cons, List.map_nil, List.mem_cons, List.not_mem_nil, or_false] at hx
    subst hx
    exact .inl rfl
  · simp at i; obtain ⟨rfl, rfl⟩ := i; exact ⟨_, List.mem_cons_self, .opq f⟩
  subst he
  have hco1 := hco.kps st.kp
  conv in (bdI 13) => whnf
  -- the iterator
  refine wpAny_execs_cons (wpAny_Assign_Name (wpAny_Call_NameR (ev_built st.rdy rfl hit.1 hit.2 (callWith_builtin (star_plain (by rfl) _) (evalArgs_plain (wpAny_items_cons (Attribute_name ?_) (by rfl)))))) (by with_unfolding_all rfl))
  refine Ev.nam (d := opq f) (by walk_at "has") (by decide) (by decide) _ ra' s₁ _ st.rdy _ _ fun v s2 k2 h2 => ?_
  have := h2.opq_inv
  subst this
  refine wp_getco (hco1.kps k2) (wpAny_items_nil ?_)
  have k3 : Kp C s2 { s2 with toks := s2.toks + 1 } := Kp.tok
  refine wp_iter_bytes ?_
  have st3 := (st.kps k2).kps k3
  generalize hs3 : ({ s2 with toks := s2.toks + 1 } : Shared) = s3 at st3 k3 ⊢
  have it0 : s.heap.get? s3.heap.objs.size = none := new_of_kp st3.kp noObj
  generalize hit' : s3.heap.objs.size = it at it0 ⊢
  have hself : (s3.heap.push { cls := .type "bytes_iterator", data := .fields #[.bytes b t, .int 0 0] }).get? it = some { cls := .type "bytes_iterator", data := .fields #[.bytes b t, .int 0 0] } := hit' ▸ Heap.get?_push_size _ rfl
  have st4 := st3.kps (Kp.push (C := C) (o := { cls := .type "bytes_iterator", data := .fields #[.bytes b t, .int 0 0] }))
  obtain ⟨sB, st5, -, hold⟩ := st4.hold (vs := #[.bytes b t, .int 0 0]) (T := "bytes_iterator") hself rfl rfl
  refine st5.store (ρ' := [("code", opq f), ("iterator", opq it)]) (by walk_at "ownn") (.opq it) (by walk_at "upd") (by walk_at "none") fun s5 st6 => ?_
  obtain ⟨st, e5⟩ := hold st6
  -- the list
  obtain ⟨sC, stC, -, holdC⟩ := st.hold (vs := #[.bytes b t, .int 0 0]) (T := "bytes_iterator") e5 rfl rfl
  refine stC.assignOwn (ρ' := ([("code", opq f), ("iterator", opq it)] : Names)) ra' (EvF.lst .nil (by decide +kernel)) (fun y h => h) (by walk_at "upnot") (by walk_at "none") (fun a s6 st6 => ?_) (by walk_at "ownn")
  obtain ⟨st, e6⟩ := holdC st6
  have hit6 : KBw.IsBytesIter s6.heap it b t 0 := ⟨_, e6, rfl, rfl⟩
  generalize hT : tblF (b.size + 1) (octs b) = T
  rw [hT] at hQ
  -- try
  refine wpAny_execs_cons (wpAny_Try_except ?_)
  have hlen : (octs b).length = b.size := by simp [octs]
  refine st.whileX (n := 5) (om := none) (X := "StopIteration") (A0 := A) (tblI f it a b t T)
    (tblB f it a T) _ ra' rfl (by decide) ⟨0, [], rfl, rfl, hit6, rfl, ?_⟩ ?_ ?_
  · rw [← hT, List.drop_zero, hlen]; rfl
  · rintro k ρ1 own1 σ ⟨j, es, rfl, rfl, hj1, rfl, hj2⟩
    refine ⟨true, Tst.val .cbool (.bool true), fun _ s7 k7 st E hE => ?_, fun hb => nomatch hb⟩
    obtain ⟨o7, g1, g2, g3⟩ := id hj1
    have hj7 : KBw.IsBytesIter s7.heap it b t j := ⟨o7, k7.sub _ _ g1 (nd_rec g3 g2), g2, g3⟩
    have done : ∀ {x fl s8 ρ2}, (∀ y ∈ ([("code", opq f), ("iterator", opq it)] : Names), y ∈ ρ2) → tblF (((octs b).drop j).length + 1) ((octs b).drop j) = [] → St C (A.deeper _) s pv _ ρ2 [(Str.ofString "entries", a, es.map entD)] s8 → Exn none s s8 x "StopIteration" fl → E (.ref x) s8 := fun {x fl s8 ρ2} hρ ht st f => by
      rw [ht, List.append_nil] at hj2
      exact hE x fl s8 ρ2 _ ⟨by rw [hj2], hρ⟩ st f
    have ra2 := ra'.le (m := 2) (by decide)
    refine st.varint2 (ρ' := fun v => [("code", opq f), ("iterator", opq it), ("start", .int v)]) G ra2 (by walk_at "has") it0 hj7 hsz (by walk_at "ownn") (fun j => by walk_at "upd") (by walk_at "owno") (fun v1 j1 s8 hv1 st hj8 => ?_) (fun x fl s8 hv st f => done (fun y h => h) (tblF_none fun s r1 h => by rw [hv] at h; cases h) st f)
    refine st.varint2 (ρ' := fun v => [("code", opq f), ("iterator", opq it), ("start", .int ((v1 * 2 : Nat) : Int)), ("length", .int v)]) G ra2 (by walk_at "has") it0 hj8 hsz (by walk_at "ownn") (fun j => by walk_at "upd") (by walk_at "owno") (fun v2 j2 s9 hv2 st hj9 => ?_) (fun x fl s8 hv st f => done (by walk_at "weak") (tblF_none fun s r1 h l r2 h2 => by rw [hv1] at h; cases h; rw [hv] at h2; cases h2) st f)
    obtain ⟨o9, q1, q2, q3⟩ := id hj9
    obtain ⟨sD, stD, -, holdD⟩ := st.hold q1 q3 q2
    refine stD.assign ra' (d := .int ((v1 * 2 + v2 * 2 : Nat) : Int)) (Ev.bin (x := .int ((v1 * 2 : Nat) : Int)) (y := .int ((v2 * 2 : Nat) : Int)) (by walk_at "ev") (by walk_at "ev") (by rw [Int.natCast_add]; exact .add _ _)) (by walk_at "upd") (by walk_at "owno") (fun s10 stD' => ?_) (by walk_at "ownn")
    obtain ⟨st, e10⟩ := holdD stD'
    refine st.varint2 (ρ' := fun v => [("code", opq f), ("iterator", opq it), ("start", .int ((v1 * 2 : Nat) : Int)), ("length", .int ((v2 * 2 : Nat) : Int)), ("end", .int ((v1 * 2 + v2 * 2 : Nat) : Int)), ("target", .int v)]) G ra2 (by walk_at "has") it0 ⟨o9, e10, q2, q3⟩ hsz (by walk_at "ownn") (fun j => by walk_at "upd") (by walk_at "owno") (fun v3 j3 s11 hv3 st hj11 => ?_) (fun x fl s8 hv st f => done (by walk_at "weak") (tblF_none fun s r1 h l r2 h2 t r3 h3 => by rw [hv1] at h; cases h; rw [hv2] at h2; cases h2; rw [hv] at h3; cases h3) st f)
    refine st.varint1 (ρ' := fun v => [("code", opq f), ("iterator", opq it), ("start", .int ((v1 * 2 : Nat) : Int)), ("length", .int ((v2 * 2 : Nat) : Int)), ("end", .int ((v1 * 2 + v2 * 2 : Nat) : Int)), ("target", .int ((v3 * 2 : Nat) : Int)), ("dl", .int v)]) G ra2 (by walk_at "has") it0 hj11 hsz (by walk_at "ownn") (fun j => by walk_at "upd") (by walk_at "owno") (fun v4 j4 s12 hv4 st hj12 => ?_) (fun x fl s8 hv st f => done (by walk_at "weak") (tblF_none fun s r1 h l r2 h2 t r3 h3 => by rw [hv1] at h; cases h; rw [hv2] at h2; cases h2; rw [hv3] at h3; cases h3; exact hv) st f)
    obtain ⟨o12, u1, u2, u3⟩ := id hj12
    obtain ⟨sE, stE, -, holdE⟩ := st.hold u1 u3 u2
    refine stE.assign ra' (d := .int ((v4 / 2 : Nat) : Int)) (Ev.bin (x := .int v4) (y := .int (1 : Nat)) (by walk_at "ev") (by walk_at "ev") ?_) (by walk_at "upd") (by walk_at "owno") (fun s13 stE => ?_) (by walk_at "ownn")
    · have e : ((v4 / 2 : Nat) : Int) = (v4 : Int).fdiv (2 ^ ((1 : Nat) : Int).toNat) := by
        rw [show (2 : Int) ^ ((1 : Nat) : Int).toNat = ((2 : Nat) : Int) from rfl, Int.fdiv_eq_ediv_of_nonneg _ (by omega)]
        omega
      rw [e]
      exact .shr _ _ (by omega)
    refine stE.assign ra' (d := .bool (v4 % 2 != 0)) ?_ (by walk_at "upd") (by walk_at "owno") (fun s14 stE => ?_) (by walk_at "ownn")
    · have e : (v4 % 2 != 0) = (((v4 &&& 1 : Nat) : Int) != 0) := by
        rw [Nat.and_one_is_mod]
        cases h : v4 % 2 with
        | zero => rfl
        | succ k => simp; omega
      rw [e, ← bitAnd_nat]
      exact Ev.callT (.cons (Ev.bin (x := .int v4) (y := .int (1 : Nat)) (by walk_at "ev") (by walk_at "ev") (.and _ _)) .nil) pf_bool hbo.1 hbo.2
    have hel : es.length ≤ 2000 := by
      have h1 := congrArg List.length hj2
      have h2 := tblF_len (b.size + 1) (octs b)
      rw [hT] at h2
      rw [List.length_append] at h1
      omega
    refine St.append (o1 := []) (o2 := []) (d := entD (entRow v1 v2 v3 v4)) stE ra' (.inl (Ev.entry (n := 2) G (ds := entRow v1 v2 v3 v4) ?_ rfl)) (by simp only [List.length_map]; have : sizeLine = 16777216 := rfl; omega) fun s15 stE => ?_
    · unfold entRow
      walk_at "evs"
    obtain ⟨st, e15⟩ := holdE stE
    have l1 := varint_lt hv1
    have l2 := varint_lt hv2
    have l3 := varint_lt hv3
    have l4 := varint_lt hv4
    refine wpAny_execs_nil ⟨((octs b).drop j4).length, _, [(Str.ofString "entries", a, (es ++ [entRow v1 v2 v3 v4]).map entD)], by omega, ⟨j4, es ++ [entRow v1 v2 v3 v4], rfl, rfl, ⟨o12, e15, u2, u3⟩, rfl, ?_⟩, ?_⟩
    · rw [← hj2, tblF_some hv1 hv2 hv3 hv4, List.append_assoc, List.singleton_append, tblF_fuel (f := ((octs b).drop j4).length + 1) (g := ((octs b).drop j).length) (by omega) (by omega)]
    · rw [List.map_append]
      exact st.weak (by walk_at "weak")
  · rintro x fl s7 ρ1 own1 ⟨rfl, hρ⟩ st f7
    refine f7.note st.kp st.live rfl (by decide) fun s8 t8 f8 => ?_
    have st := t8.st st
    refine f8.setf (C := C) fun s9 t9 f9 => ?_
    have st := (t9.st st).weak hρ
    have stm : St C ((A.deeper (callEnvC (fdI 13 .none .none doc pm (215 - 1)) L 215)).mark (some (.ref x))) s pv (callEnvC (fdI 13 .none .none doc pm (215 - 1)) L 215) ([("code", opq f), ("iterator", opq it)] : Names) [(Str.ofString "entries", a, T.map entD)] s9 := ⟨st.ok, st.base, st.live, st.kp, st.priv, st.fr, st.nd⟩
    refine wpAny_handleBy_builtin stop_base stop_meta sub_stop (ev_built stm.rdy rfl hst.1 hst.2 ⟨rfl, f9.typeIs, ?_⟩)
    rw [if_pos rfl]
    refine f9.setf (C := C) fun s10 t10 f10 => ?_
    have stm := (t10.st stm).freeze
    refine wpAny_execs_cons (wpAny_Return_some ?_)
    obtain ⟨v, n1, n2⟩ := stm.rdy.names (Str.ofString "entries") (.list (T.map entD)) List.mem_cons_self
    refine wpAny_Name (ev_loadName stm.ok n1 (by decide +kernel) ?_) (by decide +kernel)
    exact hQ v s10 stm.kp (by simpa [prv] using n2)
end
end
section -- F16
open Sem (wp)
inductive GS | new | «at» (i : Nat) (x : Int) | rep (x : Int)
inductive GO | fin | err | val (v : Int) (g : GS)
noncomputable def gZero : Option Int → GO | none => .err | some y => .val y (.rep y)
noncomputable def gOne (i : Nat) (last : Option Int) (x : Int) : GO := if x = 127 then .fin else if x = 0 then gZero last else .val x (.at (i + 1) x)
noncomputable def gFrom (rl : List Int) (i : Nat) (last : Option Int) : GO := match rl[i]? with
  | none => .fin
  | some x => gOne i last x
noncomputable def gNext (rl : List Int) : GS → GO | .new => gFrom rl 0 none | .at i x => gFrom rl i (some x) | .rep x => .val x (.rep x)
noncomputable def gSeq (rl : List Int) : Nat → GO | 0 => gFrom rl 0 none | k + 1 => match gSeq rl k with | .val _ g => gNext rl g | o => o
noncomputable def gRho (ax : Addr) : GS → Names | .new => [("grouping", opq ax)] | .at _ x => [("interval", .int x)] | .rep x => [("last_interval", .int x)]
noncomputable def IterAt (I ax : Addr) (h : Heap) : GS → Prop | .new => True | .at i _ => h.IsListIter I ax i | .rep _ => ∃ i, h.IsListIter I ax i
noncomputable def lastD : Option Int → PyData | none => .none | some x => .int x
noncomputable def gMax : Nat := 40
noncomputable def gMsg : Str := Str.ofString "invalid grouping"
noncomputable def gFor : Stmt := (bdI 16).getD 1 (.Pass default)
noncomputable def gTgt : Expr := match gFor with | .For t .. => t | _ => .Constant .none 0 default
noncomputable def gBody : List Stmt := match gFor with | .For _ _ b .. => b | _ => []
section
variable {C : Cx} {n : Nat} {A Ag : Around} {s s' s₀ sB : Shared} {env : Env} {ρ ρ' : Names} {pv pvc : List Addr} {own o1 o2 : Own} {I ax : Addr} {rl : List Int}
noncomputable def GI (C : Cx) (Ag : Around) (sB : Shared) (env : Env) (ax I : Addr) (g : GS) (s : Shared) : Prop := St C (Ag.deeper env) sB [] env (gRho ax g) [] s ∧ sB.heap.get? I = none ∧ IterAt I ax s.heap g
noncomputable def RecI (I : Addr) (s : Shared) : Prop := ∀ o, s.heap.get? I = some o → (∃ vs, o.data = .fields vs) ∧ o.cls = .type "list_iterator"
noncomputable def GStep (C : Cx) (Ag : Around) (sB : Shared) (env : Env) (I : Addr) (s s' : Shared) : Prop := sB.heap.get? I = none ∧ RecI I s ∧ Kp C (s.sansL [env.locals, I]) s' ∧ Live C (Ag.deeper env) s'
theorem IterAt.rec {g : GS} (hg : g ≠ .new) (x : IterAt I ax s.heap g) : RecI I s := fun o e => by
  have : ∃ i, s.heap.IsListIter I ax i := by
    cases g
    · exact absurd rfl hg
    · exact ⟨_, x⟩
    · exact x
  obtain ⟨i, o', e', c, d⟩ := this
  rw [e] at e'; cases e'
  exact ⟨⟨_, d⟩, c⟩
theorem kp_sansN {X : List Addr} (h0 : ∀ b ∈ X, s.heap.get? b = none) (k : Kp C s s') (hL : ∀ b ∈ X, ∀ o, s'.heap.get? b = some o → (o.cls ≠ .none ∧ o.cls ≠ .type "code") ∨ ∀ vs, o.data ≠ .fields vs) : Kp C s (s'.sansL X) := by
  have ne : ∀ {b o}, s.heap.get? b = some o → b ∉ X := fun e q => by rw [h0 _ q] at e; cases e
  refine ⟨fun b o e n => let ⟨sl, e1, q⟩ := k.sub' b o e n; ⟨sl, sansL_get e1 (ne e), q⟩, fun b ps e t => ?_, fun T y hy => ?_, k.os, k.gens⟩
  · rcases k.tab b ps e t with q | ⟨hm, more, q, t'⟩
    · exact .inl (sansL_get q (ne e))
    · exact .inr ⟨hm, more, sansL_get q (ne e), t'⟩
  · obtain ⟨ps, h1, h2, h3⟩ := k.tabs T y hy
    refine ⟨ps, sansL_get h1 (fun q => ?_), h2, fun pos v e => ?_⟩
    · rcases hL _ q _ h1 with q | q
      · exact q.1 rfl
      · exact q _ rfl
    obtain ⟨c', rfl, o, vs, tk, e2, e3, e4, e5⟩ := h3 pos v e
    refine ⟨c', rfl, o, vs, tk, sansL_get e2 (fun q => ?_), e3, e4, e5⟩
    rcases hL _ q _ e2 with q | q
    · exact q.2 e3
    · exact q _ e4
theorem sans_kp (h : St C A sB [] env ρ [] s) (hI : sB.heap.get? I = none) (hr : RecI I s) : Kp C sB (s.sansL [env.locals, I]) := by
  obtain ⟨m, cm, F, _⟩ := h.fr
  refine kp_sansN (fun b hb => ?_) h.kp fun b hb o e => ?_
  · simp only [List.mem_cons, List.not_mem_nil, or_false] at hb
    rcases hb with rfl | rfl
    · exact F.new
    · exact hI
  · simp only [List.mem_cons, List.not_mem_nil, or_false] at hb
    rcases hb with rfl | rfl
    · obtain ⟨o', es, n, e', d, _⟩ := F.ns
      rw [e] at e'; cases e'
      exact .inr fun vs q => nomatch d.symm.trans q
    · obtain ⟨_, c⟩ := hr o e
      rw [c]; exact .inl ⟨(fun q => nomatch q), by decide⟩
theorem St.overI (h : St C A sB [] env ρ [] s) (hc : env.cells = []) (hI : sB.heap.get? I = none) (hr : RecI I s) : St C A (s.sansL [env.locals, I]) [] env ρ [] s := by
  obtain ⟨m, cm, F, H, O⟩ := h.fr
  exact ⟨h.ok, h.base.mono (sans_kp h hI hr), h.live, kp_of_sansL, (fun p hp => absurd hp List.not_mem_nil), ⟨m, cm, ⟨F.ns, sansL_none List.mem_cons_self, F.same, (fun x c hx => by rw [hc] at hx; cases hx), F.apart⟩, H, (fun x a ds i => absurd i List.not_mem_nil)⟩, h.nd⟩
noncomputable def gY (C : Cx) (Ag : Around) (sB : Shared) (env : Env) (ax : Addr) (rl : List Int) : Protocol := fun n s₀ v s' kap =>
  ∃ x g I, gSeq rl (gMax - 1 - n) = .val x g ∧ (∃ t, v = .int x t) ∧ GStep C Ag sB env I s₀ s' ∧ GI C Ag sB env ax I g s' ∧ (1 ≤ n → ∀ s'', GI C Ag sB env ax I g s'' → kap (.send .none) s'')
noncomputable def gP (C : Cx) (Ag : Around) (sB : Shared) (env : Env) (rl : List Int) (n : Nat) (s₀ s₁ : Shared) : Prop := gSeq rl (gMax - n) = .fin ∧ ∃ I, GStep C Ag sB env I s₀ s₁
noncomputable def gX (C : Cx) (Ag : Around) (sB : Shared) (env : Env) (rl : List Int) (n : Nat) (s₀ : Shared) (e : Addr) (s₁ : Shared) : Prop := gSeq rl (gMax - n) = .err ∧ ∃ I, GStep C Ag sB env I s₀ s₁ ∧ ∃ fl, Exn (some gMsg) (s₀.sansL [env.locals, I]) s₁ e "ValueError" fl
noncomputable def gR (C : Cx) (Ag : Around) (sB : Shared) (env : Env) (rl : List Int) : GenEnd := fun n s₀ r s₁ => (r = .ok (.ret .none) ∧ gP C Ag sB env rl n s₀ s₁) ∨ ∃ e, r = .error (.ref e) ∧ gX C Ag sB env rl n s₀ e s₁
theorem seg_rep {k1 l1 fb p1 k2 l2 p2 x} {t : Expr} {b o : List Stmt} {it : Value} (hc : env.cells = []) (ra : Room n (Ag.deeper env)) {np yp ep tp : Pos} (hx : env.kindOf (Str.ofString "last_interval") = some .local) (hco : env.scope.isCoroutine = false) (hi : interactive env = false) :
    ∀ (m : Nat) (s₀ s : Shared), m + 1 ≤ gMax → St C (Ag.deeper env) (s₀.sansL [env.locals, I]) [] env [("last_interval", .int x)] [] s → Kp C sB (s₀.sansL [env.locals, I]) → (Base C sB) → sB.heap.get? I = none → RecI I s₀ → (∃ i, s.heap.IsListIter I ax i) → gSeq rl (gMax - (m + 1)) = .val x (.rep x) →
      Seg (model C.prog C.w) Ag (gR C Ag sB env rl) (gY C Ag sB env ax rl) (m + 1) s₀ (.whileLoop (.Constant (.bool true) 0 tp) [.Expr (.Yield (some (.Name (Str.ofString "last_interval") np)) yp) ep] [] env)
        ((model C.prog C.w).den (.whileLoop (.Constant (.bool true) 0 tp) [.Expr (.Yield (some (.Name (Str.ofString "last_interval") np)) yp) ep] [] env))
        [.ret k2 none false l2 (.forLoop t it b o env) p2 [], .ret k1 none false l1 (.func fb env) p1 []] s := by
    intro m
    induction m using Nat.strongRecOn with
    | _ m ih =>
    intro s₀ s hm st kB B hI hr hit hq
    refine seg_whileLoop ?_
    rw [over_while]
    refine Tst.val .cbool (.bool true) (by intro _; rfl) _ ra s _ st.rdy _ _ fun s1 k1 => ?_
    rw [if_pos rfl]
    have st := st.kps k1
    have hit1 : ∃ i, s1.heap.IsListIter I ax i := let ⟨i, o, e, c, d⟩ := hit; ⟨i, o, k1.sub _ _ e (nd_rec d c), c, d⟩
    refine seg_execs_cons (seg_Expr_Yield rfl rfl rfl ?_ hco hi)
    rw [over_while]
    refine Ev.nam (d := .int x) List.mem_cons_self (by decide +kernel) (by decide +kernel) _ ra s1 _ st.rdy _ _ fun v s2 k2 h2 kap hk => ?_
    have st := st.kps k2
    have hit2 : ∃ i, s2.heap.IsListIter I ax i := let ⟨i, o, e, c, d⟩ := hit1; ⟨i, o, k2.sub _ _ e (nd_rec d c), c, d⟩
    refine ⟨x, .rep x, I, ?_, h2.int_inv, ⟨hI, hr, st.kp, st.live⟩, ⟨st.unbase B (fun p hp => absurd hp List.not_mem_nil) kB, hI, hit2⟩, fun hn s'' gi => hk .none s'' ?_⟩
    · rw [← hq]; congr 1; omega
    obtain ⟨m', rfl⟩ : ∃ m', m = m' + 1 := ⟨m - 1, by omega⟩
    refine seg_execs_nil (seg_again rfl ?_)
    obtain ⟨g1, g2, g3⟩ := gi
    have hr' := IterAt.rec (g := .rep x) (by simp) g3
    refine ih m' (by omega) s'' s'' (by omega) (g1.overI hc g2 hr') (sans_kp g1 g2 hr') B g2 hr' g3 ?_
    have : gMax - (m' + 1) = gMax - (m' + 1 + 1) + 1 := by unfold gMax at *; omega
    rw [this]
    unfold gSeq
    rw [hq]
    rfl
theorem ev_charmax (G : Glb C) {p : Pos} (hk : env.kindOf (Str.ofString "CHAR_MAX") = some .globalImplicit) : Ev C n env ρ (.Name (Str.ofString "CHAR_MAX") p) (.int 127) := fun A ra s pv r Q E h => by
  obtain ⟨t, hg⟩ := G.chm
  exact ev_glob r hk hg (h _ s (.refl _ _) (.int _ _)) (by decide +kernel)
theorem eqv_int (a b : Int) : PyData.eqv (.int a) (.int b) = decide (a = b) := by
  unfold PyData.eqv
  rfl
theorem seg_turn (G : Glb C) {doc pm : Value} {L : Addr} {k1 l1 fb p1} {items : Array Value} (he : env = callEnvC (fdI 16 .none .none doc pm (222 - 1)) L 222) (ra : Room n (Ag.deeper env)) (B : Base C sB) (hne : ax ≠ I)
    (hl : sB.heap.IsList ax items) (hrl : RDs sB.heap [] items.toList (rl.map .int))
    (hk1 : ∀ f n s₀ s, (f = .next ∨ f = .ret .none) → gP C Ag sB env rl n s₀ s → Seg (model C.prog C.w) Ag (gR C Ag sB env rl) (gY C Ag sB env ax rl) n s₀ (.func fb env) (k1 (.ok f)) [] s)
    (hk2 : ∀ n s₀ s e fl, gSeq rl (gMax - n) = .err → GStep C Ag sB env I s₀ s → Live C (Ag.deeper env) s → Exn (some gMsg) (s₀.sansL [env.locals, I]) s e "ValueError" (some fl) → Seg (model C.prog C.w) Ag (gR C Ag sB env rl) (gY C Ag sB env ax rl) n s₀ (.func fb env) (k1 (.error (.ref e))) [] s) :
    ∀ (m i : Nat) (last : Option Int) (s₀ s : Shared), m + 1 ≤ gMax → i ≤ items.size → St C (Ag.deeper env) (s₀.sansL [env.locals, I]) [] env [("last_interval", lastD last)] [] s → Kp C sB (s₀.sansL [env.locals, I]) → sB.heap.get? I = none → RecI I s₀ → s.heap.IsListIter I ax i → gSeq rl (gMax - (m + 1)) = gFrom rl i last →
      Seg (model C.prog C.w) Ag (gR C Ag sB env rl) (gY C Ag sB env ax rl) (m + 1) s₀ (.forLoop gTgt (.ref I) gBody [] env) ((model C.prog C.w).den (.forLoop gTgt (.ref I) gBody [] env)) [.ret k1 none false l1 (.func fb env) p1 []] s := by
    intro m
    induction m using Nat.strongRecOn with
    | _ m ih =>
    intro i last s₀ s hm hile st kB hI hr hit hq
    have hcl : env.cells = [] := by rw [he]; rfl
    have hbI : (s₀.sansL [env.locals, I]).heap.get? I = none := sansL_none (List.mem_cons_of_mem _ List.mem_cons_self)
    have hlist : ∀ {s' : Shared}, Kp C (s₀.sansL [env.locals, I]) s' → s'.heap.IsList ax items := fun {s'} k => by
      obtain ⟨o, e, c, n, d⟩ := hl
      exact ⟨o, (kB.trans k).sub _ _ e (nt_seq d), c, n, d⟩
    have hItIs : ∀ o, s.heap.get? I = some o → o.cls ≠ .none ∧ o.cls ≠ .type "code" ∧ ∃ vs, o.data = .fields vs := fun o e => by
      obtain ⟨o', e', c, d⟩ := hit
      rw [e] at e'; cases e'
      rw [c]; exact ⟨(fun q => nomatch q), by decide, _, d⟩
    refine seg_forLoop fun E => ?_
    rw [over_for]
    have W := Walks.list (prog := C.prog) (w := C.w) (A := Ag.deeper env) ra.handled I ax hne items
    by_cases hi : i < items.size
    · refine W.item i s _ E hi ⟨hit, hlist st.kp⟩ fun v h₁ tk₁ hv hst₁ hk₁ => ?_
      have st₁ := st.but (tk := tk₁) hbI (fun b o hb e => hk₁ b o (fun q => hb (List.mem_singleton.mp q)) e) hItIs
      have hit₁ := hst₁.1
      obtain ⟨x, hx, hv⟩ : ∃ x, rl[i]? = some x ∧ ∃ t, v = .int x t := by
        have hlen := hrl.length
        simp only [Array.length_toList, List.length_map] at hlen
        have hx : rl[i]? = some rl[i] := List.getElem?_eq_getElem (by omega)
        obtain ⟨v', e1, e2⟩ := hrl.get (i := i) (d := .int rl[i]) (by rw [List.getElem?_map, hx]; rfl)
        have hv' : items.toList[i]? = some v := by simpa using hv
        rw [hv'] at e1; cases e1
        exact ⟨_, hx, e2.int_inv⟩
      obtain ⟨t, rfl⟩ := hv
      obtain ⟨o1, e1, c1, d1⟩ := id hit₁
      dsimp only
      refine letGo_any (s := { s with heap := h₁, toks := tk₁ }) e1 c1 (by decide) ?_
      refine st₁.target (ρ' := [("last_interval", lastD last), ("interval", .int x)]) ra.handled (d := .int x) (.name (by rw [he]; walk_at "ownn")) (.int x t) (by walk_at "upds") (by walk_at "ownt") fun σ st z => ?_
      have hitσ : σ.heap.IsListIter I ax (i + 1) := ⟨o1, z.nf I o1 e1 (.fields d1 c1), c1, d1⟩
      rw [show gFrom rl i last = gOne i last x by unfold gFrom; rw [hx]] at hq
      have keepI : ∀ {s s' : Shared} {i : Nat}, s.heap.IsListIter I ax i → Kp C s s' → s'.heap.IsListIter I ax i := fun ⟨o, e, c, d⟩ k => ⟨o, k.sub _ _ e (nd_rec d c), c, d⟩
      conv in gBody => whnf
      unfold gOne at hq
      -- if interval == CHAR_MAX
      refine seg_stmt (wpAny_execs_cons (wpAny_If ?_))
      rw [over_for]
      refine Tst.cmp (x := .int x) (y := .int 127) (.nam (by walk_at "has")) (ev_charmax G (by rw [he]; rfl)) (.eq _ _ rfl rfl) (by with_unfolding_all rfl) _ ra σ _ st.rdy _ _ fun s1 k1 => ?_
      have st := st.kps k1
      have hit1 := keepI hitσ k1
      by_cases h127 : x = 127
      · rw [if_pos (show PyData.eqv (.int x) (.int 127) = true by rw [eqv_int]; exact decide_eq_true h127)]
        rw [if_pos h127] at hq
        refine wpAny_execs_cons (wpAny_Return_none ?_)
        exact seg_leaf (.ok (.ret .none)) (hk1 (.ret .none) _ _ _ (.inr rfl) ⟨hq, I, hI, hr, st.kp, st.live⟩)
      rw [if_neg h127] at hq
      rw [if_neg (show ¬ PyData.eqv (.int x) (.int 127) = true by rw [eqv_int]; exact fun q => h127 (of_decide_eq_true q))]
      refine wpAny_execs_nil (wpAny_execs_nil ?_)
      dsimp only
      by_cases h0 : x = 0
      · rw [if_pos h0] at hq
        refine seg_execs_cons (seg_If ?_)
        rw [over_for]
        refine Tst.cmp (x := .int x) (y := .int 0) (.nam (by walk_at "has")) .cint (.eq _ _ rfl rfl) (by with_unfolding_all rfl) _ ra s1 _ st.rdy _ _ fun s2 k2 => ?_
        have st := st.kps k2
        have hit2 := keepI hit1 k2
        rw [if_pos (show PyData.eqv (.int x) (.int 0) = true by rw [eqv_int]; exact decide_eq_true h0)]
        cases last with
        | none =>
          replace st : St C (Ag.deeper env) (s₀.sansL [env.locals, I]) [] env [("last_interval", .none), ("interval", .int x)] [] s2 := st
          refine seg_stmt (wpAny_execs_cons (wpAny_If ?_))
          rw [over_for]
          refine Tst.cmp (x := .none) (y := .none) (.nam (by walk_at "has")) .cnone (.isNone _) (by with_unfolding_all rfl) _ ra s2 _ st.rdy _ _ fun s3 k3 => ?_
          have st := st.kps k3
          rw [if_pos (show isN .none = true from rfl)]
          have hv := G.bi (Str.ofString "ValueError") (.type "ValueError") (by walk_at "has")
          refine st.raiseV ra hv.1 hv.2 (fun e s4 st f4 => ?_) (by rw [he]; rfl)
          refine seg_wrap ?_
          rw [over_for]
          refine wpAny_bind (f4.note st.kp st.live (by rw [he]; rfl) (by decide) fun s5 t5 f5 => ?_)
          refine wpAny_theTreesLotGoes ?_
          exact seg_leaf (.error (.ref e)) (hk2 _ _ _ e _ hq ⟨hI, hr, t5.kp st.kp, t5.live st.live⟩ (t5.live st.live) f5)
        | some y =>
          replace st : St C (Ag.deeper env) (s₀.sansL [env.locals, I]) [] env [("last_interval", .int y), ("interval", .int x)] [] s2 := st
          refine seg_stmt (wpAny_execs_cons (wpAny_If ?_))
          rw [over_for]
          refine Tst.cmp (x := .int y) (y := .none) (.nam (by walk_at "has")) .cnone (.isNone _) (by with_unfolding_all rfl) _ ra s2 _ st.rdy _ _ fun s3 k3 => ?_
          have st := st.kps k3
          have hit3 := keepI hit2 k3
          rw [if_neg (show ¬ isN (.int y) = true from Bool.false_ne_true)]
          refine wpAny_execs_nil (wpAny_execs_nil ?_)
          dsimp only
          refine seg_execs_cons (seg_While fun p => ?_)
          exact seg_rep hcl ra (by rw [he]; rfl) (by rw [he]; rfl) (by rw [he]; rfl) m s₀ s3 hm (st.weak (by walk_at "weak")) kB B hI hr ⟨_, hit3⟩ hq
      · rw [if_neg h0] at hq
        refine seg_stmt (wpAny_execs_cons (wpAny_If ?_))
        rw [over_for]
        refine Tst.cmp (x := .int x) (y := .int 0) (.nam (by walk_at "has")) .cint (.eq _ _ rfl rfl) (by with_unfolding_all rfl) _ ra s1 _ st.rdy _ _ fun s2 k2 => ?_
        have st := st.kps k2
        have hit2 := keepI hit1 k2
        rw [if_neg (show ¬ PyData.eqv (.int x) (.int 0) = true by rw [eqv_int]; exact fun q => h0 (of_decide_eq_true q))]
        refine wpAny_execs_nil (wpAny_execs_nil ?_)
        dsimp only
        refine seg_execs_cons (seg_Expr_Yield rfl rfl rfl ?_ (by rw [he]; rfl) (by rw [he]; rfl))
        rw [over_for]
        refine Ev.nam (d := .int x) (by walk_at "has") (by decide +kernel) (by decide +kernel) _ ra s2 _ st.rdy _ _ fun v s3 k3 h3 kap hk => ?_
        have st := st.kps k3
        have hit3 := keepI hit2 k3
        refine ⟨x, .at (i + 1) x, I, ?_, h3.int_inv, ⟨hI, hr, st.kp, st.live⟩, ⟨(st.unbase B (fun p hp => absurd hp List.not_mem_nil) kB).weak (by walk_at "weak"), hI, hit3⟩, fun hn s'' gi => hk .none s'' ?_⟩
        · rw [← hq]; congr 1; omega
        obtain ⟨m', rfl⟩ : ∃ m', m = m' + 1 := ⟨m - 1, by omega⟩
        obtain ⟨g1, g2, g3⟩ := gi
        have hr' := IterAt.rec (g := .at (i + 1) x) (by simp) g3
        have st4 : St C (Ag.deeper env) (s''.sansL [env.locals, I]) [] env [("interval", .int x)] [] s'' := g1.overI hcl g2 hr'
        obtain ⟨o5, q1, q2, q3⟩ := id g3
        refine seg_stmt ?_
        rw [over_for]
        obtain ⟨sH, stH, -, hold⟩ := st4.hold q1 q3 q2
        refine stH.assign (ρ' := [("interval", .int x), ("last_interval", .int x)]) ra (d := .int x) (.nam List.mem_cons_self) (.miss (by decide +kernel) .nil) (by walk_at "owno") (fun s6 st6 => ?_) (by rw [he]; walk_at "ownn")
        obtain ⟨st6, e6⟩ := hold st6
        refine wpAny_execs_nil (seg_execs_nil (seg_again rfl ?_))
        refine ih m' (by omega) (i + 1) (some x) s'' s6 (by omega) hi (st6.weak (ρ' := [("last_interval", .int x)]) (by walk_at "weak")) (sans_kp g1 g2 hr') g2 hr' ⟨o5, e6, q2, q3⟩ ?_
        have : gMax - (m' + 1) = gMax - (m' + 1 + 1) + 1 := by unfold gMax at *; omega
        rw [this]
        unfold gSeq
        rw [hq]
        rfl
    · have hin : rl[i]? = none := by
        have hlen := hrl.length
        simp only [Array.length_toList, List.length_map] at hlen
        exact List.getElem?_eq_none (by omega)
      rw [show gFrom rl i last = .fin by unfold gFrom; rw [hin]] at hq
      obtain rfl : i = items.size := by omega
      refine W.done s _ E ⟨hit, hlist st.kp⟩ fun h₁ tk₁ hk₁ => ?_
      have st₁ := st.but (tk := tk₁) hbI (fun b o hb e => hk₁ b o (fun q => hb (List.mem_singleton.mp q)) e) hItIs
      dsimp only
      refine seg_execs_nil ?_
      exact seg_leaf (.ok .next) (hk1 .next _ _ _ (.inl rfl) ⟨hq, I, hI, hr, st₁.kp, st₁.live⟩)
theorem Exn.leaveL {A0 : Around} {om : Option Str} {e : Addr} {X : String} {fl : Option Value} {M : Model} {E : Value → Shared → Prop} {R : Shared → Prop} (x : Exn om s₀ s e X fl) (k : Kp C s₀ s) (L : Live C (A0.deeper env) s) (hf : env.frame = some env.locals) (hX : X ≠ "code") (h : ∀ s', Kp C s₀ s' → Live C (A0.deeper env) s' → Exn om s₀ s' e X (some .none) → R s') :
    wpAny M (A0.deeper env) (leaving env (.ref e)) (fun _ s' => R s') E s := by
  unfold leaving
  refine wpAny_bind (x.note k L hf hX fun s1 t1 x1 => ?_)
  have k1 := t1.kp k
  exact x1.setf fun s2 t2 x2 => h s2 (t2.kp k1) (t2.live (t1.live L)) x2
theorem gen_fresh (G : Glb C) {doc pm : Value} {L : Addr} {items : Array Value} (he : env = callEnvC (fdI 16 .none .none doc pm (222 - 1)) L 222) (ra : Room n (Ag.deeper env)) (B : Base C sB)
    (hl : sB.heap.IsList ax items) (hrl : RDs sB.heap [] items.toList (rl.map .int)) (st : St C (Ag.deeper env) sB [] env [("grouping", opq ax)] [] s) :
    (GenState.fresh (.func (bdI 16) env)).Goes (model C.prog C.w) Ag (gR C Ag sB env rl) (gY C Ag sB env ax rl) gMax (.send .none) s := by
  refine ⟨rfl, seg_func ?_⟩
  have hcl : env.cells = [] := by rw [he]; rfl
  have kB1 : Kp C sB (s.sansL [env.locals]) := by
    obtain ⟨m, cm, F, _⟩ := st.fr
    refine kp_sansN (fun b hb => ?_) st.kp fun b hb o e => ?_
    · rw [List.mem_singleton.mp hb]; exact F.new
    · rw [List.mem_singleton.mp hb] at e
      obtain ⟨o', es, n, e', d, _⟩ := F.ns
      rw [e] at e'; cases e'
      exact .inr fun vs q => nomatch d.symm.trans q
  have st0 : St C (Ag.deeper env) (s.sansL [env.locals]) [] env [("grouping", opq ax)] [] s := by
    obtain ⟨m, cm, F, H, O⟩ := st.fr
    exact ⟨st.ok, st.base.mono kB1, st.live, kp_of_sansL, (fun p hp => absurd hp List.not_mem_nil), ⟨m, cm, ⟨F.ns, sansL_none List.mem_cons_self, F.same, (fun x c hx => by rw [hcl] at hx; cases hx), F.apart⟩, H, (fun x a ds i => absurd i List.not_mem_nil)⟩, st.nd⟩
  conv in (bdI 16) => whnf
  refine seg_stmt ?_
  rw [over_func]
  refine st0.assign (ρ' := [("grouping", opq ax), ("last_interval", .none)]) ra (d := .none) .cnone (.miss (by decide +kernel) .nil) (by walk_at "owno") (fun s1 st1 => ?_) (by rw [he]; walk_at "ownn")
  refine wpAny_execs_nil ?_
  dsimp only
  refine seg_execs_cons (seg_For (by intro _; rfl) fun E => ?_)
  rw [over_func]
  refine Ev.nam (d := opq ax) (by walk_at "has") (by decide +kernel) (by decide +kernel) _ ra s1 _ st1.rdy _ _ fun v s2 k2 h2 => ?_
  have := h2.opq_inv
  subst this
  have st2 := st1.kps k2
  have hl2 : s2.heap.IsList ax items := by
    obtain ⟨o, e, c, n, d⟩ := hl
    exact ⟨o, (kB1.trans st2.kp).sub _ _ e (nt_seq d), c, n, d⟩
  refine wpAny_pyIter_list hl2 fun p l => ?_
  have hnI : s2.heap.get? s2.heap.objs.size = none := noObj
  have hself : ({ s2 with heap := s2.heap.push { cls := .type "list_iterator", data := .fields #[.ref ax, .int 0 0] } } : Shared).heap.IsListIter s2.heap.objs.size ax 0 := ⟨_, Heap.get?_push_size _ rfl, rfl, rfl⟩
  have hne : ax ≠ s2.heap.objs.size := fun q => by obtain ⟨o, e, _⟩ := hl2; rw [q, hnI] at e; cases e
  have kp3 : Kp C s2 { s2 with heap := s2.heap.push { cls := .type "list_iterator", data := .fields #[.ref ax, .int 0 0] } } := Kp.push
  generalize ({ s2 with heap := s2.heap.push { cls := .type "list_iterator", data := .fields #[.ref ax, .int 0 0] } } : Shared) = s3 at kp3 hself ⊢
  generalize s2.heap.objs.size = I at hnI hself hne ⊢
  have st3 := st2.kps kp3
  have h1I : (s.sansL [env.locals]).heap.get? I = none := new_of_kp st2.kp hnI
  have hLI : env.locals ≠ I := fun q => by
    obtain ⟨m, cm, F, _⟩ := st2.fr
    obtain ⟨o, _, _, e, _⟩ := F.ns
    rw [q, hnI] at e; cases e
  have hsI : s.heap.get? I = none := by
    cases q : s.heap.get? I with
    | none => rfl
    | some o => rw [sansL_get q (by simp; exact fun q => hLI q.symm)] at h1I; cases h1I
  have hBI : sB.heap.get? I = none := new_of_kp st.kp hsI
  have hr : RecI I s := fun o e => by rw [hsI] at e; cases e
  have kB := sans_kp st hBI hr
  have kk : Kp C (s.sansL [env.locals, I]) (s.sansL [env.locals]) := Kp.keep (s := s.sansL [env.locals, I]) (h' := (s.sansL [env.locals]).heap) (tk := s.toks) fun b o e => sansL_get (of_sansL e) fun q => sansL_out e (by simp at q; simp [q])
  have st4 : St C (Ag.deeper env) (s.sansL [env.locals, I]) [] env [("last_interval", .none)] [] s3 := (st3.unbase (B.mono kB) (fun p hp => absurd hp List.not_mem_nil) kk).weak (by walk_at "weak")
  refine seg_turn G he ra B hne hl hrl ?_ ?_ 39 0 none s s3 (Nat.le_refl _) (Nat.zero_le _) st4 kB hBI hr hself rfl
  · intro f n s₀ s5 hf hp
    rcases hf with rfl | rfl
    · exact seg_end (.ok (.ret .none)) (.inl ⟨rfl, hp⟩)
    · exact seg_end (.ok (.ret .none)) (.inl ⟨rfl, hp⟩)
  · intro n s₀ s5 e fl hq hg hlv hx
    refine seg_raised ?_
    rw [over_func]
    obtain ⟨hg1, hg2, hg3, hg4⟩ := hg
    have hx' := hx
    obtain ⟨a, ⟨g0, oe, vs, g1, g2, g3, g4, T, oT, ts, g5, _⟩, _⟩ := hx
    refine wpAny_bind (wpAny_field g1 g3 g5 ?_)
    rw [if_neg (show ¬ ((Value.ref T == Value.none) = true) from Bool.false_ne_true)]
    refine hx'.setf (C := C) fun s6 t6 x6 => ?_
    refine seg_wrap ?_
    rw [over_func]
    refine x6.leaveL (t6.kp hg3) (t6.live hlv) (by rw [he]; rfl) (by decide) fun s7 k7 l7 x7 => ?_
    exact seg_end (.error (.ref e)) (.inr ⟨e, rfl, hq, I, ⟨hg1, hg2, k7, l7⟩, _, x7⟩)
end
end
section -- F18
set_option maxHeartbeats 2000000
noncomputable def cellStep (i : Nat) (cs : List Int) (x : Int) : List Int := cs.set (i % cs.length) (cs.getD (i % cs.length) 0 + x.fmod 1000000)
noncomputable def cellsN (own script : List Int) : Nat → List Int
  | 0 => own
  | i + 1 => cellStep i (cellsN own script i) (script.getD i 0)
theorem cellsN_len (own script : List Int) : ∀ i, (cellsN own script i).length = own.length
  | 0 => rfl
  | i + 1 => by rw [cellsN, cellStep, List.length_set, cellsN_len own script i]
theorem fmod_nat (i n : Nat) : ((i : Int).fmod n) = ((i % n : Nat) : Int) := by
  rw [Int.fmod_eq_emod_of_nonneg _ (by omega)]; omega
noncomputable abbrev cellsI (own script : List Int) (a : Addr) (i : Nat) (ρ : Names) (own' : Own) : Prop := ρ = ([("own", intsD own), ("script", intsD script)] : Names) ∧ own' = [(Str.ofString "cells", a, (cellsN own script i).map .int)]
theorem pf_cells {C : Cx} (G : Glb C) (own script : List Int) (ho : 0 < own.length) (ho2 : own.length ≤ 100) (hs : script.length ≤ 100) : PFn C 3 (.ref 229) [intsD own, intsD script] (intsD (cellsN own script (script.take 60).length)) := by
  obtain ⟨-, doc, pm, D⟩ := G.fn 18 229 _ _ (by walk_at "has")
  refine PFn.of_def (xs := ["own", "script"]) D rfl rfl rfl ?_ (by decide +kernel) ?_ ?_
  · exact all2 fun v w => by kernel_rfl!
  · intro L x hx
    simp only [List.mem_cons, List.not_mem_nil, or_false] at hx
    rcases hx with rfl | rfl <;> exact .inl rfl
  · intro A s₀ pvc L s env he ra st Q E k
    subst he
    conv in (bdI 18) => whnf
    have st : St C A s₀ pvc _ [("own", intsD own), ("script", intsD script)] [] s := st
    have hss : sizeLine = 16777216 := rfl
    have hli := G.bi "list" (.type "list") (by walk_at "has")
    have hle := G.bi "len" (.builtin "len") (by walk_at "has")
    have hen := G.bi "enumerate" (.type "enumerate") (by walk_at "has")
    refine st.assignOwn (ρ' := ([("own", intsD own), ("script", intsD script)] : Names)) ra (EvF.copy (ds := own.map .int) (by walk_at "ev") (by rw [List.length_map]; omega) hli.1 hli.2) (fun y h => h) (by walk_at "upnot") (by walk_at "none") (fun a s1 st => ?_) (by walk_at "ownn")
    refine st.forEnum (ds := (script.take 60).map .int) (cellsI own script a) ra ?_ ⟨rfl, rfl⟩ ?_ ?_ hen.1 hen.2
    · rw [List.map_take]
      exact Ev.sliceTo (b := 60) (ds := script.map .int) (by walk_at "ev") (by walk_at "ev") (by rw [List.length_map]; omega)
    · rintro i d hd ρ1 own1 ⟨rfl, rfl⟩
      obtain ⟨x, hx, rfl⟩ : ∃ x, (script.take 60)[i]? = some x ∧ PyData.int x = d := Option.map_eq_some_iff.mp (by rw [← List.getElem?_map]; exact hd)
      have hx2 : script.getD i 0 = x := by
        rw [List.getD_eq_getElem?_getD]
        have : i < 60 := by have := (List.getElem?_eq_some_iff.mp hx).1; simp at this; omega
        rw [List.getElem?_take_of_lt this] at hx
        rw [hx]; rfl
      have hcl := cellsN_len own script i
      have hnx : cellsN own script (i + 1) = cellStep i (cellsN own script i) x := by rw [cellsN, hx2]
      generalize cellsN own script i = cs at hcl hnx
      refine ⟨[("place", .int i), ("x", .int x)], _, .cons (by walk_at "ownn") (by walk_at "upnot") (.cons (by walk_at "ownn") (by walk_at "upnot") .nil), (by walk_at "upds"), (by walk_at "ownt"), rfl, fun s₁ σ st E => ?_⟩
      have hlt : i % own.length < own.length := Nat.mod_lt _ ho
      have eo : (own.length : Int) = ((own.map PyData.int).length : Int) := by rw [List.length_map]
      refine St.setAt (o1 := []) (o2 := []) (i := i % own.length) (d := .int (cs.getD (i % own.length) 0 + x.fmod 1000000)) st ra (.inl ?_) (.inr ⟨rfl, ?_⟩) (by rw [List.length_map, hcl]; exact hlt) (by rw [List.length_map]; omega) fun s2 st => wpAny_execs_nil ⟨_, [(Str.ofString "cells", a, (cellStep i cs x).map .int)], ⟨rfl, by rw [hnx]⟩, rfl, ?_⟩
      · rw [← fmod_nat, eo]
        exact Ev.bin (x := .int i) (y := .int ((own.map PyData.int).length : Int)) (by walk_at "ev") (Ev.callB (.cons (d := intsD own) (by walk_at "ev") .nil) (pf_len (by rw [List.length_map]; omega)) hle.1 hle.2) (.mod _ _ (by rw [List.length_map]; omega))
      · have it := itm_ints (ks := cs) (k := i % own.length) (by omega) (by omega)
        refine Ev.bin (x := .int (cs.getD (i % own.length) 0)) (y := .int (x.fmod 1000000)) (Ev.itm (i := ((i % own.length : Nat) : Int)) (d := intsD cs) (by walk_at "ev") ?_ it) ?_ (.add _ _)
        · rw [← fmod_nat, eo]
          exact Ev.bin (x := .int i) (y := .int ((own.map PyData.int).length : Int)) (by walk_at "ev") (Ev.callB (.cons (d := intsD own) (by walk_at "ev") .nil) (pf_len (by rw [List.length_map]; omega)) hle.1 hle.2) (.mod _ _ (by rw [List.length_map]; omega))
        · exact Ev.bin (x := .int x) (y := .int 1000000) (by walk_at "ev") (Ev.bin (x := .int 10) (y := .int 6) (by walk_at "ev") (by walk_at "ev") (.pow 10 6 (by decide) (by decide))) (.mod _ _ (by decide))
      · have e : (cellStep i cs x).map PyData.int = (cs.map PyData.int).set (i % own.length) (.int (cs.getD (i % own.length) 0 + x.fmod 1000000)) := by
          rw [cellStep, hcl, List.map_set]
        rw [e]
        exact st.weak (by walk_at "weak")
    · rintro ρ1 own1 s' ⟨rfl, rfl⟩ st
      have st := st.freeze
      rw [List.length_map] at st
      refine st.ret ra (d := intsD (cellsN own script (script.take 60).length)) (by walk_at "ev") fun v s1 k1 r1 => ?_
      exact k _ _ _ (.inl rfl) k1 r1
end
section -- F21
noncomputable abbrev natsL (xs : List Nat) : List PyData := xs.map fun (n : Nat) => PyData.int (n : Int)
noncomputable abbrev natsT (xs : List Nat) : PyData := .tuple (natsL xs)
noncomputable def moreOf (x : Nat) : Nat := (([1, 2, 3] : List Nat).filter fun k => decide (64 ^ k ≤ x)).length
noncomputable def octK (x k : Nat) : Nat := (if 0 < k then 64 else 0) + x / 64 ^ k % 64
noncomputable def octN (x : Nat) : List Nat := (List.range (moreOf x + 1)).map fun i => octK x (moreOf x - i)
noncomputable def encEntry (os e : List Nat) : List Nat := let r := os ++ e.flatMap octN; r.set os.length (r.getD os.length 0 + 128)
noncomputable def allOct (es : List (List Nat)) : List Nat := es.foldl encEntry []
theorem moreOf_le (x : Nat) : moreOf x ≤ 3 := List.length_filter_le _ _
theorem octK_lt (x k : Nat) : octK x k < 128 := by unfold octK; exact Nat.add_lt_add_of_le_of_lt (by split <;> decide : _ ≤ 64) (Nat.mod_lt (x / 64 ^ k) (show 64 > 0 by decide))
theorem octN_lt {x o : Nat} (h : o ∈ octN x) : o < 128 := by
  obtain ⟨i, _, rfl⟩ := List.mem_map.mp h
  exact octK_lt _ _
theorem octN_len (x : Nat) : (octN x).length = moreOf x + 1 := by simp [octN]
theorem flat_len4 : ∀ (e : List Nat), (e.flatMap octN).length ≤ 4 * e.length
  | [] => Nat.le_refl _
  | x :: r => by
    have := flat_len4 r
    have h1 := octN_len x
    have h2 := moreOf_le x
    rw [List.flatMap_cons, List.length_append, List.length_cons]; omega
theorem enc_len (os e : List Nat) : (encEntry os e).length = os.length + (e.flatMap octN).length := by simp [encEntry]
theorem all_len : ∀ (es : List (List Nat)) (os : List Nat), (∀ e ∈ es, e.length ≤ 10) → (es.foldl encEntry os).length ≤ os.length + 40 * es.length
  | [], os, _ => Nat.le_refl _
  | e :: r, os, h => by
    have h1 := all_len r (encEntry os e) fun x hx => h x (List.mem_cons_of_mem _ hx)
    have h2 := enc_len os e
    have h3 := flat_len4 e
    have h4 := h e List.mem_cons_self
    rw [List.foldl_cons, List.length_cons]; omega
theorem enc_lt {os e : List Nat} (ho : ∀ o ∈ os, o < 256) : ∀ o ∈ encEntry os e, o < 256 := by
  intro o h
  unfold encEntry at h
  dsimp only at h
  have hr : ∀ x ∈ os ++ e.flatMap octN, x < 256 := fun x hx => by
    rcases List.mem_append.mp hx with hx | hx
    · exact ho x hx
    · obtain ⟨y, _, hy⟩ := List.mem_flatMap.mp hx
      have := octN_lt hy; omega
  rcases List.mem_or_eq_of_mem_set h with h | rfl
  · exact hr o h
  · rw [List.getD_eq_getElem?_getD, List.getElem?_append_right (Nat.le_refl _), Nat.sub_self]
    cases q : (e.flatMap octN)[0]? with
    | none => simp
    | some x =>
      obtain ⟨y, _, hy⟩ := List.mem_flatMap.mp (List.mem_of_getElem? q)
      have := octN_lt hy
      simp; omega
theorem all_lt : ∀ (es : List (List Nat)) {os : List Nat}, (∀ o ∈ os, o < 256) → ∀ o ∈ es.foldl encEntry os, o < 256
  | [], _, h => h
  | e :: r, _, h => all_lt r (enc_lt h)
theorem fdiv_nat (a b : Nat) : ((a : Int).fdiv b) = ((a / b : Nat) : Int) := by rw [Int.fdiv_eq_ediv_of_nonneg _ (by omega)]; rfl
theorem pow64 (k : Nat) : (64 : Int) ^ k = ((64 ^ k : Nat) : Int) := by rw [Int.natCast_pow]; rfl
theorem pow64_ok {k : Nat} (h : k ≤ 3) : (Builtin.Int.intBits 64 : Int) * k ≤ 2 ^ 27 := by
  have : Builtin.Int.intBits 64 ≤ 10 := by decide +kernel
  have : (Builtin.Int.intBits 64 : Int) * k ≤ 10 * 3 := by
    have h1 : Builtin.Int.intBits 64 * k ≤ 10 * 3 := Nat.mul_le_mul (by assumption) h
    exact_mod_cast h1
  omega
theorem ev_pow64 {C : Cx} {n : Nat} {env : Env} {ρ : Names} {l r : Expr} {pos : Pos} {k : Nat} (hl : Ev C n env ρ l (.int 64)) (hr : Ev C n env ρ r (.int k)) (h : k ≤ 3) : Ev C n env ρ (.BinOp l .Pow r pos) (.int ((64 ^ k : Nat) : Int)) := by
  rw [← pow64]
  have := Ev.bin (pos := pos) hl hr (.pow 64 k (by omega) (pow64_ok h))
  rwa [Int.toNat_natCast] at this
section
variable {C : Cx} {n : Nat} {A A0 : Around} {s s' s₀ : Shared} {env : Env} {ρ ρ' : Names} {pv pvc : List Addr} {own o1 o2 : Own}
theorem list_is_list {a : Addr} {o : Obj} {Q : Value → Shared → Prop} {E : Value → Shared → Prop} (hx : s.heap.get? a = some o) (hc : o.cls = .type "list") (h : Q (.bool true) s) : wpAny (model C.prog C.w) A (call (.builtin "isinstance") [.ref a, .type "list"]) Q E s :=
  PySem.IsiPair.list_list hx hc h
theorem Tst.isList (G : Glb C) {x : Str} {ip xp lp pos : Pos} {ds : List PyData} (m : (x, PyData.list ds) ∈ ρ) (hk : autoParam (env.kindOf (Str.ofString "isinstance") = some .globalImplicit) syR) (hk2 : autoParam (env.kindOf (Str.ofString "list") = some .globalImplicit) syR)
    (hd : autoParam ((x == ("__debug__" : Str)) = false) syD) (hx : autoParam ((x == ("__classdict__" : Str)) = false) syD) :
    Tst C n env ρ (.Call (.Name (Str.ofString "isinstance") ip) [.Name x xp, .Name (Str.ofString "list") lp] [] pos) true := fun A ra s pv r Q E h => by
  have hi := G.bi (Str.ofString "isinstance") (.builtin "isinstance") (by walk_at "has")
  have hl := G.bi (Str.ofString "list") (.type "list") (by walk_at "has")
  refine wpAny_isTrue_value (wpAny_Call_NameR (ev_built r hk hi.1 hi.2 ?_)) (by rfl)
  refine callWith_builtin (star_plain (by rfl) pos) (evalArgs_plain (wpAny_items_cons (Ev.nam m hd hx A ra s pv r _ _ fun v s1 k1 h1 => wpAny_items_cons (ev_built (r.kp k1) hk2 hl.1 hl.2 (wpAny_items_nil ?_)) (by rfl)) (by rfl)))
  obtain ⟨a, vs, rfl, _, ⟨m0, e⟩, _⟩ := h1.list_inv
  exact list_is_list e rfl (wpAny_truthy_bool (h s1 k1))
theorem privA_kind (h : St C A s₀ pvc env ρ own s) {b : Addr} {o : Obj} (hb : b ∈ privA env own) (e : s.heap.get? b = some o) : (∃ es n, o.data = .dict es n) ∨ (∃ v, o.data = .cell v) ∨ ∃ vs n, o.data = .seq vs n := by
  obtain ⟨m, cm, F, H, O⟩ := h.fr
  rcases List.mem_cons.mp hb with rfl | hb
  · obtain ⟨o', es, n, e', d, _⟩ := F.ns
    rw [e] at e'; cases e'; exact .inl ⟨es, n, d⟩
  · rcases List.mem_append.mp hb with hb | hb
    · obtain ⟨p, _, hp⟩ := List.mem_filterMap.mp hb
      obtain ⟨⟨o', e', d⟩, n⟩ := F.cell _ _ hp
      rw [e] at e'; cases e'; exact .inr (.inl ⟨_, d⟩)
    · obtain ⟨⟨x, a, ds⟩, i, rfl⟩ := List.mem_map.mp hb
      obtain ⟨_, n, vs, ⟨n', e'⟩, _⟩ := O x a ds i
      have e' : s.heap.get? a = some _ := e'
      rw [show s.heap.get? a = some o from e] at e'; cases e'; exact .inr (.inr ⟨vs, n', rfl⟩)
inductive HoldF (C : Cx) (A : Around) (s₀ : Shared) (pvc : List Addr) (env : Env) (ρ : Names) (own : Own) (s : Shared) (b : Addr) (o : Obj) : Prop
  | mk (s₁ : Shared) (h : St C A s₁ pvc env ρ own s) (bk : ∀ {ρ' own' s'}, St C A s₁ pvc env ρ' own' s' → St C A s₀ pvc env ρ' own' s' ∧ s'.heap.get? b = some o)
theorem St.holdF {b : Addr} {o : Obj} {fd : FuncData} (h : St C A s₀ pvc env ρ own s) (e : s.heap.get? b = some o) (d : o.data = .func fd) :
    HoldF C A s₀ pvc env ρ own s b o := by
  obtain ⟨s₁, h1, k1, hg⟩ := h.rebase
  have hb : b ∉ privA env own := fun q => by
    rcases privA_kind h q e with ⟨_, _, d'⟩ | ⟨_, d'⟩ | ⟨_, _, d'⟩ <;> exact nomatch d.symm.trans d'
  exact ⟨s₁, h1, fun {ρ' own' s'} h2 => ⟨h2.unbase h.base h.priv k1, h2.kp.sub _ _ (hg _ _ e hb) (nt_func d)⟩⟩
theorem tblF_row : ∀ (f : Nat) (os : List Nat) r, r ∈ tblF f os → ∃ a b c d, r = entRow a b c d
  | 0, _, _, h => nomatch h
  | f + 1, os, r, h => by
    unfold tblF at h
    split at h
    · exact nomatch h
    · split at h
      · exact nomatch h
      · split at h
        · exact nomatch h
        · split at h
          · exact nomatch h
          · rcases List.mem_cons.mp h with rfl | h
            · exact ⟨_, _, _, _, rfl⟩
            · exact tblF_row f _ r h
theorem natsL_flat (xs : List Nat) : (natsL xs).all flat = true := by
  induction xs with
  | nil => rfl
  | cons x r ih => exact ih
theorem natsL_app (xs ys : List Nat) : natsL (xs ++ ys) = natsL xs ++ natsL ys := List.map_append
theorem natsL_ints (xs : List Nat) : natsL xs = (xs.map fun (n : Nat) => (n : Int)).map PyData.int := by simp [natsL]
theorem seqIndex_nat {i n : Nat} (h : i < n) : seqIndex? (i : Int) n = some i := by
  have h1 : ¬ ((i : Int) < 0) := by omega
  have h2 : (0 : Int) ≤ i := by omega
  have h3 : (i : Int) < n := by omega
  simp only [seqIndex?, h1, h2, h3, if_false, decide_true, Bool.and_self, if_true, Int.toNat_natCast]
theorem octs_bytes {xs : List Nat} (h : ∀ o ∈ xs, o < 256) : octs (byteArr (xs.map fun (n : Nat) => (n : Int))) = xs := by
  unfold octs byteArr
  rw [List.map_map, List.map_map]
  conv => rhs; rw [← List.map_id xs]
  refine List.map_congr_left fun x hx => ?_
  have := h x hx
  simp only [Function.comp, Int.toNat_natCast, id]
  exact Nat.mod_eq_of_lt this
theorem ev_more {n : Nat} {env : Env} {ρ : Names} {x : Nat} (G : Glb C) {np p1 p2 p3 p4 p5 p6 p7 p8 p9 p10 p11 p12 p13 : Pos} (m : (Str.ofString "number", PyData.int x) ∈ ρ) (hkn : env.kindOf (Str.ofString "number") = some .cell) (hk : env.kindOf (Str.ofString "len") = some .globalImplicit) :
    Ev C n env ρ (.Call (.Name (Str.ofString "len") p1) [.ListComp (.Name (Str.ofString "k") p2) [⟨.Name (Str.ofString "k") p3, .Tuple [.Constant (.int 1) 0 p4, .Constant (.int 2) 0 p5, .Constant (.int 3) 0 p6] 0 p7, [.Compare (.Name (Str.ofString "number") p8) [.GtE] [.BinOp (.Constant (.int 64) 0 p9) .Pow (.Name (Str.ofString "k") p10) p11] p12], 0⟩]
      { kind := .function, names := [(Str.ofString ".0", .local), (Str.ofString "k", .local), (Str.ofString "number", .free)], isGenerator := false, isCoroutine := false } p13] [] np) (.int (moreOf x)) := by
  have hl := G.bi (Str.ofString "len") (.builtin "len") (by walk_at "has")
  have e : (moreOf x : Int) = (((([1, 2, 3] : List Nat).flatMap fun (k : Nat) => if decide (64 ^ k ≤ x) = true then [PyData.int k] else []).length : Nat) : Int) := by
    rw [flat_if, List.length_map]; rfl
  rw [e]
  refine Ev.callB (.cons (Ev.comp ([1, 2, 3] : List Nat) (fun (k : Nat) => .int (k : Int)) _ (.tuple (Ev.tup (ds := [.int 1, .int 2, .int 3]) (by walk_at "evs") (len_ok (by kernel_rfl!)))) (ρf := [(Str.ofString "number", .int x)]) (.skip (by decide) (.skip (by decide) (.take m (.inl hkn) .nil))) (by decide) fun k hk => ?_) .nil) (pf_len (by
      refine Nat.lt_of_le_of_lt (m := 3) ?_ (by decide)
      rw [flat_if, List.length_map]; exact moreOf_le x)) hl.1 hl.2 hk
  have hk3 : k ≤ 3 := by simp at hk; omega
  refine ⟨[(Str.ofString "k", .int k)], decide (64 ^ k ≤ x), .int k, fun L => .name (by walk_at "ownn"), fun L => ?_, fun _ L => (by walk_at "ev"), rfl⟩
  have e2 : decide (64 ^ k ≤ x) = decide (((64 ^ k : Nat) : Int) ≤ (x : Int)) := by simp only [Int.ofNat_le]
  rw [e2]
  exact Tst.cmp (x := .int x) (y := .int ((64 ^ k : Nat) : Int)) (by walk_at "ev") (ev_pow64 (by walk_at "ev") (by walk_at "ev") hk3) (.ge _ _)
theorem ev_octs {n : Nat} {env : Env} {ρ : Names} {x : Nat} (G : Glb C) {p1 p2 p3 p4 p5 p6 p7 p8 p9 p10 p11 p12 p13 p14 p15 p16 p17 p18 p19 p20 p21 p22 p23 : Pos} (m : (Str.ofString "number", PyData.int x) ∈ ρ) (mm : (Str.ofString "more", PyData.int (moreOf x)) ∈ ρ) (hkn : env.kindOf (Str.ofString "number") = some .cell) (hk : env.kindOf (Str.ofString "range") = some .globalImplicit) :
    Ev C n env ρ (.ListComp (.BinOp (.IfExp (.Compare (.Name (Str.ofString "k") p1) [.Gt] [.Constant (.int 0) 0 p2] p3) (.Constant (.int 64) 0 p4) (.Constant (.int 0) 0 p5) p6) .Add (.BinOp (.BinOp (.Name (Str.ofString "number") p7) .FloorDiv (.BinOp (.Constant (.int 64) 0 p8) .Pow (.Name (Str.ofString "k") p9) p10) p11) .Mod (.Constant (.int 64) 0 p12) p13) p14)
      [⟨.Name (Str.ofString "k") p15, .Call (.Name (Str.ofString "range") p16) [.Name (Str.ofString "more") p17, .UnaryOp .USub (.Constant (.int 1) 0 p18) p19, .UnaryOp .USub (.Constant (.int 1) 0 p20) p21] [] p22, [], 0⟩]
      { kind := .function, names := [(Str.ofString ".0", .local), (Str.ofString "k", .local), (Str.ofString "number", .free)], isGenerator := false, isCoroutine := false } p23) (.list (natsL (octN x))) := by
  have hm := moreOf_le x
  have e : natsL (octN x) = (List.range (moreOf x + 1)).flatMap fun i => [PyData.int ((octK x (moreOf x - i) : Nat) : Int)] := by
    unfold natsL octN
    generalize List.range (moreOf x + 1) = l
    induction l with
    | nil => rfl
    | cons a r ih => rw [List.map_cons, List.map_cons, List.flatMap_cons, ← ih]; rfl
  rw [e]
  refine Ev.comp (List.range (moreOf x + 1)) (fun (i : Nat) => .int ((moreOf x : Int) + i * (-1))) _ (.rangeDown G.range (N := moreOf x) (.nam mm) (by walk_at "ev") (by walk_at "ev") (by omega) (hk := hk)) (ρf := [(Str.ofString "number", .int x)]) (.skip (by decide) (.skip (by decide) (.take m (.inl hkn) .nil))) (by simp only [List.length_range]; omega) fun i hi => ?_
  have hi : i ≤ moreOf x := by have := List.mem_range.mp hi; omega
  have ek : (moreOf x : Int) + (i : Int) * (-1) = ((moreOf x - i : Nat) : Int) := by omega
  generalize hkk : moreOf x - i = k at ek
  have hk3 : k ≤ 3 := by omega
  refine ⟨[(Str.ofString "k", .int k)], true, .int ((octK x k : Nat) : Int), fun L => by rw [ek]; exact .name (by walk_at "ownn"), fun L => rfl, fun _ L => ?_, rfl⟩
  have e3 : ((octK x k : Nat) : Int) = (if 0 < k then (64 : Int) else 0) + ((x / 64 ^ k % 64 : Nat) : Int) := by
    unfold octK
    split <;> simp
  rw [e3]
  refine Ev.bin (x := .int (if 0 < k then (64 : Int) else 0)) (y := .int ((x / 64 ^ k % 64 : Nat) : Int)) ?_ ?_ (.add _ _)
  · refine Ev.ite (b := decide (((0 : Nat) : Int) < (k : Int))) (Tst.cmp (x := .int k) (y := .int ((0 : Nat) : Int)) (by walk_at "ev") (by walk_at "ev") (.gt _ _)) (fun q => ?_) (fun q => ?_)
    · rw [if_pos (by have := of_decide_eq_true q; omega)]; walk_at "ev"
    · rw [if_neg (by have := of_decide_eq_false q; omega)]; walk_at "ev"
  · have e4 : ((x / 64 ^ k % 64 : Nat) : Int) = ((x / 64 ^ k : Nat) : Int).fmod ((64 : Nat) : Int) := by rw [fmod_nat]
    rw [e4]
    refine Ev.bin (x := .int ((x / 64 ^ k : Nat) : Int)) (y := .int ((64 : Nat) : Int)) ?_ (by walk_at "ev") (.mod _ _ (by decide))
    rw [← fdiv_nat]
    have hpos : 0 < 64 ^ k := Nat.pow_pos (by decide)
    have hlt : 64 ^ k ≤ 64 ^ 3 := Nat.pow_le_pow_right (by decide) hk3
    exact Ev.bin (x := .int x) (y := .int ((64 ^ k : Nat) : Int)) (by walk_at "ev") (ev_pow64 (by walk_at "ev") (by walk_at "ev") hk3) (.div _ _ (by omega) (by rw [Int.natAbs_natCast]; exact Nat.lt_of_le_of_lt hlt (by decide)))
theorem wp_bytesOf (G : Glb C) {xs : List Nat} {np cp : Pos} {e : Expr} {Q : Value → Shared → Prop} {E : Value → Shared → Prop} (r : Rdy C A env ρ pv s) (ra : Room n A) (he : Ev C n env ρ e (.list (natsL xs))) (hx : ∀ o ∈ xs, o < 256) (hz : xs.length ≤ 1000)
    (k : ∀ t s', Kp C s s' → Q (.bytes (byteArr (xs.map fun (n : Nat) => (n : Int))) t) s')
    (hk : autoParam (env.kindOf (Str.ofString "bytes") = some .globalImplicit) syR) (hst : autoParam (starEach [e] env = (false, eval e env) :: starEach [] env) syR) (hpl : autoParam ((starEach [e] env).all (fun x => !x.1) = true) syR) :
    wpAny (model C.prog C.w) A (eval (.Call (.Name (Str.ofString "bytes") np) [e] [] cp) env) Q E s := by
  have hby := G.bi (Str.ofString "bytes") (.type "bytes") (by walk_at "has")
  refine wpAny_Call_NameR (ev_built r hk hby.1 hby.2 ?_)
  refine PySem.callWith_type (star_plain hpl cp) (evalArgs_ev ra r (.cons he .nil hst) hst fun vs s5 k5 h5 => ?_)
  obtain ⟨v, rfl, h5'⟩ := h5.inv1
  obtain ⟨l, ws, rfl, -, el, er⟩ := h5'.list_inv
  rw [natsL_ints] at er
  have hlen5 := er.length
  simp only [List.length_map] at hlen5
  have : sizeLine = 16777216 := rfl
  refine call_bytes_ints (vs := ws.toList) el.isList er.ints (fun x hxm => ?_) (by omega) ra.handled fun h' t tk hk => k t _ (k5.trans (Kp.keep fun b o e => hk b o e))
  obtain ⟨m, hm, rfl⟩ := List.mem_map.mp hxm
  have := hx m hm
  omega
theorem wp_tableOf (G : Glb C) {x : Str} {f : Addr} {b : Array UInt8} {t : Tok} {np ip cp : Pos} {Q : Value → Shared → Prop} {E : Value → Shared → Prop} (h : St C A s₀ pvc env ρ own s) (ra : Room 6 A) (hx : (x, opq f) ∈ ρ) (hco : CodeObj s.heap f b t) (hz : b.size ≤ 1000)
    (k : ∀ v s', St C A s₀ pvc env ρ own s' → RD s'.heap (prv own pvc) v (.list ((tblF (b.size + 1) (octs b)).map entD)) → Q v s')
    (hk : autoParam (env.kindOf (Str.ofString "_parse_exception_table") = some .globalImplicit) syR) (hd : autoParam ((x == ("__debug__" : Str)) = false) syD) (hc : autoParam ((x == ("__classdict__" : Str)) = false) syD) :
    wpAny (model C.prog C.w) A (eval (.Call (.Name (Str.ofString "_parse_exception_table") np) [.Name x ip] [] cp) env) Q E s := by
  have ⟨hg, hfn⟩ := G.at 13 215 .none .none (by walk_at "has")
  refine wpAny_Call_NameR (ev_glob h.rdy hk hg ?_ (by decide +kernel))
  obtain ⟨og, fd, hog, hfd⟩ := hfn s h.rdy.base
  refine callWith_function (o := og) (fd := fd) (evalArgs_ev ra h.rdy (.cons (.nam hx hd hc) .nil) (by rfl) fun vs s8 k8 h8 => ⟨⟨k8.sub _ _ hog (nt_func hfd), hfd⟩, ?_⟩)
  obtain ⟨v, rfl, h8'⟩ := h8.inv1
  have := h8'.opq_inv
  subst this
  have st8 := h.kps k8
  exact wp_table G ra st8.rdy.base st8.live (prv_there st8) (hco.kps k8) hz fun v s9 k9 h9 => k v s9 (st8.kps k9) h9
theorem St.setco {x : Str} {f : Addr} {fd : FuncData} {sl : Array (Option Value)} {b : Array UInt8} {t : Tok} {np : Pos} {Q : Unit → Shared → Prop} {E : Value → Shared → Prop} (h : St C A s₀ pvc env ρ own s) (hx : (x, opq f) ∈ ρ) (e6 : s.heap.get? f = some ⟨.type "function", none, .func fd, sl⟩) (f0 : s₀.heap.get? f = none)
    (k : ∀ s', St C A s₀ pvc env ρ own s' → CodeObj s'.heap f b t → Q () s') (hd : autoParam ((x == ("__debug__" : Str)) = false) syD) (hc : autoParam ((x == ("__classdict__" : Str)) = false) syD) :
    wpAny (model C.prog C.w) A (eval (.Name x np) env) (fun ov s₂ => wpAny (model C.prog C.w) A (setAttr ov coN (.bytes b t)) Q E s₂) E s := by
  obtain ⟨v, n1, n2⟩ := h.rdy.names x (opq f) hx
  have := n2.opq_inv
  subst this
  refine wpAny_Name (ev_loadName h.ok n1 hc ?_) hd
  refine wp_setco e6 fun h7 tk7 hco hk7 => ?_
  have k7 : Kp C (s.sansL [f]) { s with heap := h7, toks := tk7 } := kp_chg fun b o hb e => ⟨o.slots, hk7 b o (fun q => hb (List.mem_singleton.mpr q)) e, .inl rfl⟩
  have hX : ∀ b ∈ [f], s₀.heap.get? b = none ∧ b ∉ privA env own ∧ ∀ o, s.heap.get? b = some o → (∀ vs n, o.data ≠ .seq vs n) ∧ o.cls ≠ .none ∧ o.cls ≠ .type "code" := fun b hb => by
    rw [List.mem_singleton.mp hb]
    refine ⟨f0, fun q => ?_, fun o e => by rw [e6] at e; cases e; exact ⟨fun _ _ q => (nomatch q), fun q => (nomatch q), by simp⟩⟩
    rcases privA_kind h q e6 with ⟨_, _, d⟩ | ⟨_, d⟩ | ⟨_, _, d⟩ <;> exact nomatch d
  have hlive : Live C A { s with heap := h7, toks := tk7 } := by
    obtain ⟨l, a, bb⟩ := h.live
    exact Live.mono (s := s.sansL [f]) ⟨l, a, bb.mono fun L _ ⟨o, es, n, e, d⟩ => ⟨o, es, n, sansL_get e (fun q => by rw [List.mem_singleton.mp q, e6] at e; cases e; exact nomatch d), d⟩⟩ k7
  exact k _ (h.chg hX k7 hlive) hco
noncomputable abbrev tabI (es : List (List Nat)) (rest : List Nat) (i : Nat) (ρ : Names) (own : Own) : Prop := ρ = ([("entries", .list (es.map natsT)), ("rest", .list (natsL rest))] : Names) ∧ ∃ a, own = [(Str.ofString "octets", a, natsL ((es.take i).foldl encEntry []))]
noncomputable abbrev tabJ (es : List (List Nat)) (rest e os : List Nat) (j : Nat) (ρ : Names) (own : Own) : Prop := ρ = ([("entries", .list (es.map natsT)), ("rest", .list (natsL rest)), ("entry", natsT e), ("first", .int os.length)] : Names) ∧ ∃ a, own = [(Str.ofString "octets", a, natsL (os ++ (e.take j).flatMap octN))]
theorem pf_table (G : Glb C) (es : List (List Nat)) (rest : List Nat) (hes : es.length ≤ 10) (he : ∀ e ∈ es, e ≠ [] ∧ e.length ≤ 10) (hr : rest.length ≤ 10) (hr2 : ∀ r ∈ rest, r < 256) :
    PFn C 8 (.ref 244) [.list (es.map natsT), .list (natsL rest)] (.list ((tblF ((allOct es ++ rest).length + 1) (allOct es ++ rest)).map .tuple)) := by
  obtain ⟨-, doc, pm, D⟩ := G.fn 21 244 _ _ (by walk_at "has")
  have hlen := G.bi (Str.ofString "len") (.builtin "len") (by walk_at "has")
  have hby := G.bi (Str.ofString "bytes") (.type "bytes") (by walk_at "has")
  refine PFn.of_def (xs := ["entries", "rest"]) D rfl rfl rfl ?_ (by decide +kernel) ?_ ?_
  · exact all2 fun v w => by kernel_rfl!
  · intro L x hx
    simp only [List.mem_cons, List.not_mem_nil, or_false] at hx
    rcases hx with rfl | rfl <;> exact .inl rfl
  · intro A s₀ pvc L s env he' ra st Q E k
    subst he'
    conv in (bdI 21) => whnf
    have st : St C A s₀ pvc _ [("entries", .list (es.map natsT)), ("rest", .list (natsL rest))] [] s := st
    refine st.assignOwn (ρ' := ([("entries", .list (es.map natsT)), ("rest", .list (natsL rest))] : Names)) ra (EvF.lst .nil (by decide +kernel)) (fun y h => h) (by walk_at "upnot") (by walk_at "none") (fun a s1 st => ?_) (by walk_at "ownn")
    have hal : ∀ i, ((es.take i).foldl encEntry []).length ≤ 400 := fun i => by
      have h1 := all_len (es.take i) [] fun e h => (he e (List.mem_of_mem_take h)).2
      have h2 : (es.take i).length ≤ 10 := by rw [List.length_take]; omega
      simp at h1; simp at h2; omega
    refine st.forW (ds := es.map natsT) (tabI es rest) ra (.list (.nam (by walk_at "has"))) ⟨rfl, a, rfl⟩ ?_ ?_
    · rintro i d hd ρ1 own1 ⟨rfl, a1, rfl⟩
      obtain ⟨e, hei, rfl⟩ : ∃ e, es[i]? = some e ∧ natsT e = d := by simpa using hd
      have hem := he e (List.mem_of_getElem? hei)
      generalize hos : (es.take i).foldl encEntry [] = os
      have hosl : os.length ≤ 400 := hos ▸ hal i
      refine ⟨[("entry", natsT e)], _, .name (by walk_at "ownn"), (by walk_at "upds"), (by walk_at "ownt"), fun s₁ σ st E => ?_⟩
      refine st.assignF ra (d := .int os.length) ?_ rfl (by walk_at "upd") (by walk_at "owno") (fun s2 st => ?_) (by walk_at "ownn")
      · have h1 : (natsL os).length = os.length := List.length_map _
        rw [← h1]
        exact Ev.callB (.cons (d := .list (natsL os)) (by walk_at "ev") .nil) (pf_len (by rw [h1]; exact Nat.lt_of_le_of_lt hosl (by decide))) hlen.1 hlen.2
      have hel : e ≠ [] ∧ e.length ≤ 10 := hem
      refine st.forW (ds := natsL e) (tabJ es rest e os) ra (EvIt.tuple (.nam (by walk_at "has"))) ⟨rfl, a1, ?_⟩ ?_ ?_
      · simp
      · rintro j d hd ρ2 own2 ⟨rfl, a2, rfl⟩
        obtain ⟨x, hx, rfl⟩ : ∃ x, e[j]? = some x ∧ PyData.int (x : Nat) = d := by simpa using hd
        refine ⟨[("number", .int x)], _, .name (by walk_at "ownn"), (by walk_at "upds"), (by walk_at "ownt"), fun s₂ σ2 st E => ?_⟩
        refine st.assign ra (d := .int (moreOf x)) (ev_more G (by walk_at "has") rfl rfl) (by walk_at "upd") (by walk_at "owno") (fun s3 st => ?_) (by walk_at "ownn")
        have hl2 : (os ++ (e.take j).flatMap octN).length ≤ 440 := by
          have h1 := flat_len4 (e.take j)
          have h2 : (e.take j).length ≤ 10 := by rw [List.length_take]; omega
          rw [List.length_append]; omega
        refine st.reown (ds' := natsL (os ++ (e.take (j + 1)).flatMap octN)) ra ?_ (natsL_flat _) (by walk_at "upnot") (by walk_at "none") (fun a' s4 hn st' => ?_) (by walk_at "ownn")
        · have e1 : natsL (os ++ (e.take (j + 1)).flatMap octN) = natsL (os ++ (e.take j).flatMap octN) ++ natsL (octN x) := by
            rw [flat_take hx, ← List.append_assoc, natsL_app]
          rw [e1]
          refine EvF.cat (by walk_at "ev") (ev_octs G (by walk_at "has") (by walk_at "has") rfl rfl) ?_
          have : sizeLine = 16777216 := rfl
          have h1 := octN_len x
          have h2 := moreOf_le x
          simp only [List.length_map]; omega
        · refine wpAny_execs_nil ⟨_, _, ⟨rfl, a', rfl⟩, fun y hy => ?_, st'.weak (ρ' := ([("entries", .list (es.map natsT)), ("rest", .list (natsL rest)), ("entry", natsT e), ("first", .int os.length)] : Names)) (by walk_at "weak")⟩
          simp at hy; subst hy
          exact .inr ⟨_, _, s3, st, hn⟩
      · rintro ρ2 own2 s3 ⟨rfl, a2, rfl⟩ hnew st3
        have hnew := hnew _ List.mem_cons_self
        have hle : e.take (natsL e).length = e := by rw [List.length_map, List.take_length]
        rw [hle] at st3 hnew
        have hl3 : (os ++ e.flatMap octN).length ≤ 440 := by
          have h1 := flat_len4 e
          rw [List.length_append]; omega
        have hpos : os.length < (os ++ e.flatMap octN).length := by
          obtain ⟨x, r, rfl⟩ := List.exists_cons_of_ne_nil hel.1
          have := octN_len x
          rw [List.length_append, List.flatMap_cons, List.length_append]; omega
        have hgd : (natsL (os ++ e.flatMap octN))[os.length]? = some (.int ((os ++ e.flatMap octN).getD os.length 0 : Nat)) := by
          rw [List.getElem?_map, List.getD_eq_getElem?_getD, List.getElem?_eq_getElem hpos]; rfl
        refine St.setAt (o1 := []) (o2 := []) (i := os.length) (d := .int (((os ++ e.flatMap octN).getD os.length 0 + 128 : Nat) : Int)) st3 ra (.inr ⟨rfl, by walk_at "ev"⟩) (.inr ⟨rfl, ?_⟩) (by rw [List.length_map]; exact hpos) (by rw [List.length_map]; have : sizeLine = 16777216 := rfl; omega) fun s4 st4 => ?_
        · rw [Int.natCast_add]
          refine Ev.bin (x := .int ((os ++ e.flatMap octN).getD os.length 0 : Nat)) (y := .int (128 : Nat)) ?_ (by walk_at "ev") (.add _ _)
          exact Ev.itm (.nam (by walk_at "has")) (i := (os.length : Nat)) (.nam (by walk_at "has")) (.list (seqIndex_nat (by rw [List.length_map]; exact hpos)) hgd (by omega) (by omega)) (by intro _ _; with_unfolding_all rfl)
        · have henc : encEntry os e = (os ++ e.flatMap octN).set os.length ((os ++ e.flatMap octN).getD os.length 0 + 128) := rfl
          have hfold : (es.take (i + 1)).foldl encEntry [] = encEntry os e := by
            rw [List.take_add_one, hei, List.foldl_append, hos]; rfl
          refine wpAny_execs_nil ⟨_, _, ⟨rfl, a2, rfl⟩, fun y hy => ?_, ?_⟩
          · simp at hy; subst hy
            rcases hnew with h | h
            · exact .inl h
            · exact .inr ⟨_, _, s2, st, h⟩
          · have e5 : natsL ((os ++ e.flatMap octN).set os.length ((os ++ e.flatMap octN).getD os.length 0 + 128)) = (natsL (os ++ e.flatMap octN)).set os.length (.int (((os ++ e.flatMap octN).getD os.length 0 + 128 : Nat) : Int)) := List.map_set
            rw [hfold, henc, e5]
            exact st4.weak (by walk_at "weak")
    · rintro ρ1 own1 s2 ⟨rfl, a1, rfl⟩ - st2
      have hall : es.take (es.map natsT).length = es := by rw [List.length_map, List.take_length]
      rw [hall] at st2
      have hol := hal es.length
      rw [List.take_length] at hol
      have holt : ∀ o ∈ allOct es ++ rest, o < 256 := fun o h => by
        rcases List.mem_append.mp h with h | h
        · exact all_lt es (fun _ h => absurd h List.not_mem_nil) o h
        · exact hr2 o h
      change (allOct es).length ≤ 400 at hol
      change St C A s₀ pvc _ _ [(_, _, natsL (allOct es))] s2 at st2
      generalize allOct es = os at *
      have st2 := st2.freeze
      refine wpAny_execs_cons (wpAny_Assign_Name ?_ (by with_unfolding_all rfl))
      refine ev_lambda (clos := []) (G.maker 243 241 (Str.ofString "_law_table.<locals>.<lambda>") (by walk_at "has") rfl (by decide) (by decide +kernel)) st2.rdy ?_ ?_ ?_ fun f c' ctv s3 k3 hnf hf cr => ?_
      · kernel_rfl!
      · kernel_rfl!
      · kernel_rfl!
      have f0 : s₀.heap.get? f = none := new_of_kp st2.kp hnf
      obtain ⟨sB, stB, hold⟩ := (st2.kps k3).holdF hf rfl
      refine stB.store (ρ' := [(Str.ofString "octets", .list (natsL os)), ("entries", .list (es.map natsT)), ("rest", .list (natsL rest)), (Str.ofString "code", opq f)]) (by walk_at "ownn") (.opq f) (by walk_at "upd") (by walk_at "none") fun s4 stB' => ?_
      obtain ⟨st, e4⟩ := hold stB'
      refine wpAny_execs_cons (plainObj_wpAny_Assign_Attribute ?_ (by with_unfolding_all rfl))
      refine wp_bytesOf G st.rdy ra (xs := os ++ rest) ?_ holt (by rw [List.length_append]; omega) fun t s5 k5 => ?_
      · rw [natsL_app]
        refine Ev.bin (.nam (by walk_at "has")) (.nam (by walk_at "has")) (.cat _ _ ?_)
        have : sizeLine = 16777216 := rfl
        simp only [List.length_map]; omega
      refine (st.kps k5).setco (x := Str.ofString "code") (by walk_at "has") (k5.sub _ _ e4 (nt_func rfl)) f0 fun s6 st6 hco => ?_
      have hoc : octs (byteArr ((os ++ rest).map fun (n : Nat) => (n : Int))) = os ++ rest := octs_bytes holt
      have hsz : (byteArr ((os ++ rest).map fun (n : Nat) => (n : Int))).size = (os ++ rest).length := by rw [byteArr_size, List.length_map]
      refine wpAny_execs_cons (wpAny_Assign_Name ?_ (by with_unfolding_all rfl))
      refine wp_tableOf G st6 ?_ (x := Str.ofString "code") ?_ hco ?_ (fun v s7 st7 h7 => ?_) ?_
      · exact ra.le (by decide)
      · walk_at "has"
      · rw [hsz, List.length_append]; omega
      rotate_left
      · rfl
      rw [hoc, hsz] at h7
      generalize hT : tblF ((os ++ rest).length + 1) (os ++ rest) = T at h7 ⊢
      refine st7.store (ρ' := [(Str.ofString "octets", .list (natsL os)), ("entries", .list (es.map natsT)), ("rest", .list (natsL rest)), (Str.ofString "code", opq f), (Str.ofString "table", .list (T.map entD))]) (by walk_at "ownn") h7 (by walk_at "upd") (by walk_at "none") fun s10 st => ?_
      refine st.ret ra (d := .list (T.map .tuple)) (Ev.ite (b := true) (Tst.isList G (ds := T.map entD) (by walk_at "has")) (fun _ => ?_) (fun h => nomatch h)) fun v s' k' r => k _ v s' (.inl rfl) k' (by rw [hT]; exact r)
      have e : T.map PyData.tuple = T.flatMap fun r => [PyData.tuple r] := by
        clear h7 st hT
        induction T with
        | nil => rfl
        | cons a r ih => rw [List.map_cons, List.flatMap_cons, ← ih]; rfl
      rw [e]
      refine Ev.comp T entD (fun r => [PyData.tuple r]) (.list (.nam (by walk_at "has"))) (ρf := []) (.skip (by decide) (.skip (by decide) .nil)) ?_ fun r hr => ?_
      · have := tblF_len ((os ++ rest).length + 1) (os ++ rest)
        rw [hT] at this
        simp only [List.length_append] at this
        omega
      · obtain ⟨a, b, c, d, rfl⟩ := tblF_row ((os ++ rest).length + 1) (os ++ rest) r (by rw [hT]; exact hr)
        refine ⟨[("one", entD (entRow a b c d))], true, _, fun L => .name (by walk_at "ownn"), fun L => rfl, fun _ L => ?_, rfl⟩
        unfold entRow
        refine Ev.tup ?_ (len_ok (by kernel_rfl!))
        refine .cons (Ev.itmE G (.nam (by walk_at "has")) (i := 0) (k := 0) .cint rfl rfl (by decide) (by decide)) ?_ rfl
        refine .cons (Ev.itmE G (.nam (by walk_at "has")) (i := 1) (k := 1) .cint rfl rfl (by decide) (by decide)) ?_ rfl
        refine .cons (Ev.itmE G (.nam (by walk_at "has")) (i := 2) (k := 2) .cint rfl rfl (by decide) (by decide)) ?_ rfl
        refine .cons (Ev.itmE G (.nam (by walk_at "has")) (i := 3) (k := 3) .cint rfl rfl (by decide) (by decide)) ?_ rfl
        refine .cons (Ev.itmE G (.nam (by walk_at "has")) (i := 4) (k := 4) .cint rfl rfl (by decide) (by decide)) ?_ rfl
        exact .nil
end
end
section -- F17
open Sem (wp)
section
variable {C : Cx} {n : Nat} {A Ag : Around} {s s' s₀ sB : Shared} {env envc : Env} {ρ ρ' : Names} {pv pvc : List Addr} {own o1 o2 : Own} {I ax : Addr} {rl : List Int}
theorem GK.push {a b : Array GenState} {x : GenState} (k : GK a b) (hx : x.bare = true) : GK a (b.push x) := k.trans ⟨fun i z e => by
  obtain ⟨h, e'⟩ := Array.getElem?_eq_some_iff.mp e
  rw [Array.getElem?_push_lt h, e'], fun h => h.push hx⟩
theorem GK.set {a : Array GenState} {g : Nat} {x : GenState} {s : Shared} (k : GK a s.gens) (hg : a.size ≤ g) (hx : x.bare = true) : GK a (s.setGen g x).gens := by
  refine ⟨fun i z e => ?_, fun h y hy => ?_⟩
  · have hi : i < a.size := (Array.getElem?_eq_some_iff.mp e).1
    show (s.gens.setIfInBounds g x)[i]? = some z
    rw [Array.getElem?_setIfInBounds, if_neg (by omega)]
    exact k.1 i z e
  · have h' := k.2 h
    rcases Array.mem_or_eq_of_mem_setIfInBounds hy with q | q
    · exact h' y q
    · rw [q]; exact hx
theorem St.gens {g' : Array GenState} (h : St C A s₀ pvc env ρ own s) (k : GK s₀.gens g') : St C A s₀ pvc env ρ own { s with gens := g' } :=
  ⟨h.ok, h.base, h.live, h.kp.gens_to rfl rfl rfl rfl k, h.priv, (let ⟨m, cm, F, H, O⟩ := h.fr; ⟨m, cm, ⟨F.ns, F.new, F.same, F.cell, F.apart⟩, H, O⟩), h.nd⟩
theorem St.around {A' : Around} (h : St C A s₀ pvc env ρ own s) (e : A'.frames = A.frames) : St C A' s₀ pvc env ρ own s :=
  ⟨h.ok, h.base, (let ⟨l, a, b⟩ := h.live; ⟨l, e.trans a, b⟩), h.kp, h.priv, h.fr, h.nd⟩
theorem St.chgN {X : List Addr} (h : St C A s₀ pvc env ρ own s) (hX : ∀ b ∈ X, s₀.heap.get? b = none ∧ b ∉ privA env own ∧ ∀ o, s.heap.get? b = some o → (∀ vs n, o.data ≠ .seq vs n) ∧ ((o.cls ≠ .none ∧ o.cls ≠ .type "code") ∨ ∀ vs, o.data ≠ .fields vs))
    (k : Kp C (s.sansL X) s') (hl : Live C A s') : St C A s₀ pvc env ρ own s' := by
  obtain ⟨m, cm, F, H, O⟩ := h.fr
  have k0 : Kp C s₀ s' := (kp_sansN (fun b hb => (hX b hb).1) h.kp fun b hb o e => ((hX b hb).2.2 o e).2).trans k
  have sq : SqK (prv own pvc) s.heap s'.heap := fun b o vs n hb e d => k.sub b o (sansL_get e fun q => ((hX b q).2.2 o e).1 _ _ d) (nt_seq d)
  have nL : env.locals ∉ X := fun q => (hX _ q).2.1 List.mem_cons_self
  have nC : ∀ x c, env.cells.lookup x = some c → c ∉ X := fun x c hc q => (hX _ q).2.1 (List.mem_cons_of_mem _ (List.mem_append_left _ (cellAs_mem hc)))
  refine ⟨h.ok, h.base, hl, k0, h.priv, ⟨m, cm, ⟨?_, F.new, F.same, fun x c hc => ⟨?_, (F.cell x c hc).2⟩, F.apart⟩, fun x d i => ?_, fun x a ds i => ?_⟩, h.nd⟩
  · obtain ⟨o, es, ep, e, d, r⟩ := F.ns
    exact kp_ns k ⟨o, es, ep, sansL_get e nL, d, r⟩
  · obtain ⟨o, e, d⟩ := (F.cell x c hc).1
    exact kp_cell k ⟨o, sansL_get e (nC x c hc), d⟩
  · obtain ⟨v, e1, e2⟩ := H x d i
    exact ⟨v, e1, e2.mono sq⟩
  · obtain ⟨e1, e2, vs, ⟨n, e3⟩, e4⟩ := O x a ds i
    exact ⟨e1, e2, vs, kp_ls k ⟨n, sansL_get e3 fun q => ((hX _ q).2.2 _ e3).1 _ _ rfl⟩, e4.mono sq⟩
theorem wp_gencall (G : Glb C) {Q : Value → Shared → Prop} {E : Value → Shared → Prop} (ra : Room (n + 1) A) (B : Base C s) (Lv : Live C A s)
    (hQ : ∀ a L doc pm s', Kp C s s' → s'.heap.IsGen a s.gens.size → s'.gens[s.gens.size]? = some (.fresh (.func (bdI 16) (callEnvC (fdI 16 .none .none doc pm (222 - 1)) L 222))) →
      St C (A.deeper (callEnvC (fdI 16 .none .none doc pm (222 - 1)) L 222)) s [] (callEnvC (fdI 16 .none .none doc pm (222 - 1)) L 222) [("grouping", opq ax)] [] s' → s.heap.get? a = none → Q (.ref a) s') :
    wpAny (model C.prog C.w) A (call (.ref 222) [.ref ax]) Q E s := by
  obtain ⟨-, doc, pm, D⟩ := G.fn 16 222 _ _ (by walk_at "has")
  obtain ⟨o, ho, hd⟩ := D.at' s B
  refine wpAny_call (codeAny_call_generator (by have := ra.depth; omega) ho hd D.co rfl rfl (D.code s B) ?_)
  refine PySem.wpAny_of_eq (a := ([("grouping", Value.ref ax)] : List (Str × Value))) (by kernel_rfl!) ?_
  rw [D.clo]
  refine wpAny_newFunctionEnv_cells D.kind (fun x hx => ?_) fun env he s' x => ?_
  · simp at hx; subst hx; exact .inl rfl
  subst he
  refine ⟨(base_nolimit B C.nolimit).keeps x.toInCall.keep, ?_⟩
  have st := St.start (ρ := [("grouping", opq ax)]) (envOk_of D) B Lv (fun p hp => absurd hp List.not_mem_nil) x (by simp) rfl (fun y d i => by
    simp at i; obtain ⟨rfl, rfl⟩ := i
    exact ⟨_, List.mem_cons_self, .opq ax, .inl rfl⟩)
  obtain ⟨h', tk, rfl⟩ := x.toInCall.same
  have k1 : Kp C ({ s with heap := h', toks := tk } : Shared) { ({ s with heap := h', toks := tk } : Shared) with heap := h'.push { cls := .type "generator", data := .fields #[.int s.gens.size 0, .str (fdI 16 .none .none doc pm (222 - 1)).name tk, .str (fdI 16 .none .none doc pm (222 - 1)).qualname (tk + 1)] } } := Kp.push
  have gk : GK s.gens (s.gens.push (.fresh (.func (bdI 16) (callEnvC (fdI 16 .none .none doc pm (222 - 1)) s.heap.objs.size 222)))) := (GK.refl _).push rfl
  have k2 : Kp C ({ s with heap := h', toks := tk } : Shared) _ := k1.gens_to (b' := { ({ s with heap := h', toks := tk } : Shared) with gens := s.gens.push (.fresh (.func (bdI 16) (callEnvC (fdI 16 .none .none doc pm (222 - 1)) s.heap.objs.size 222))), toks := tk + 1 + 1, heap := h'.push { cls := .type "generator", data := .fields #[.int s.gens.size 0, .str (fdI 16 .none .none doc pm (222 - 1)).name tk, .str (fdI 16 .none .none doc pm (222 - 1)).qualname (tk + 1)] } }) rfl rfl rfl rfl gk
  exact hQ _ _ doc pm _ (st.kp.trans k2) ⟨_, _, _, Heap.get?_push_size _ rfl, rfl, rfl, rfl⟩ (Array.getElem?_push_size ..) (st.kps k2) (new_of_kp st.kp noObj)
noncomputable def gAtk (rl : List Int) : Nat → GS → Prop | 0, st => st = .new | k + 1, st => ∃ x, gSeq rl k = .val x st
noncomputable def GAt (C : Cx) (A : Around) (sB : Shared) (env : Env) (ax : Addr) (rl : List Int) (a : Addr) (g k : Nat) (s : Shared) : Prop :=
  s.heap.IsGen a g ∧ sB.gens.size ≤ g ∧ ∃ gs st I, s.gens[g]? = some gs ∧ gs.bare = true ∧ GI C A.in1 sB env ax I st s ∧ gAtk rl k st ∧
    (k < gMax → ∀ s'', GI C A.in1 sB env ax I st s'' → gs.Goes (model C.prog C.w) A.in1 (gR C A.in1 sB env rl) (gY C A.in1 sB env ax rl) (gMax - k) (.send .none) s'')
theorem GI.gens {st : GS} {g' : Array GenState} (x : GI C Ag sB env ax I st s) (k : GK sB.gens g') : GI C Ag sB env ax I st { s with gens := g' } := ⟨x.1.gens k, x.2⟩
theorem gen_next {a : Addr} {g k : Nat} {Q : Option Value → Shared → Prop} {E : Value → Shared → Prop} (h : St C A sB pvc envc ρ own s) (ra : Room n A) (hL : envc.locals ≠ env.locals) (x : GAt C A sB env ax rl a g k s) (hk : k < gMax)
    (hv : ∀ i st t s', gSeq rl k = .val i st → St C A sB pvc envc ρ own s' → GAt C A sB env ax rl a g (k + 1) s' → Q (some (.int i t)) s')
    (hf : ∀ s', gSeq rl k = .fin → St C A sB pvc envc ρ own s' → Q none s')
    (he : ∀ e fl s', gSeq rl k = .err → St C A sB pvc envc ρ own s' → Exn (some gMsg) sB s' e "ValueError" fl → E (.ref e) s') :
    wpAny (model C.prog C.w) A (pyNext (.ref a)) Q E s := by
  obtain ⟨hg, hsz, gs, st, I, hgs, hb, gi, hst, hgo⟩ := x
  have gk1 : GK sB.gens (s.setGen g .running).gens := h.kp.gens.set hsz rfl
  have gi' : GI C A.in1 sB env ax I st (s.setGen g .running) := gi.gens gk1
  have hgr : (s.setGen g .running).gens[g]? = some .running := setGen_self hgs
  obtain ⟨o, nm, qn, hgo1, hgo2, hgo3, hgo4⟩ := id hg
  have hla : env.locals ≠ a := fun q => by
    obtain ⟨m, cm, F, _⟩ := gi.1.fr
    obtain ⟨o', es, n, e', d, _⟩ := F.ns
    rw [q, hgo1] at e'; cases e'; exact nomatch d.symm.trans hgo3
  -- what a step changes
  have step : ∀ {I' s₁}, GStep C A.in1 sB env I' (s.setGen g .running) s₁ → ∀ gs', gs'.bare = true → St C A sB pvc envc ρ own (s₁.setGen g gs') ∧ s₁.heap.IsGen a g ∧ (s₁.setGen g gs').gens[g]? = some gs' ∧ GK sB.gens (s₁.setGen g gs').gens := fun {I' s₁} hs gs' hb' => by
    obtain ⟨h1, h2, h3, h4⟩ := hs
    have gk2 : GK sB.gens s₁.gens := gk1.trans h3.gens
    have gk3 : GK sB.gens (s₁.setGen g gs').gens := gk2.set hsz hb'
    have haI : a ≠ I' := fun q => by
      obtain ⟨_, c⟩ := h2 o (q ▸ hgo1)
      rw [hgo2] at c; exact absurd c (by decide)
    have ha1 : s₁.heap.get? a = some o := h3.sub _ _ (sansL_get hgo1 (by simp; exact ⟨fun q => hla q.symm, haI⟩)) (nd_rec hgo3 hgo2)
    have k4 : Kp C (({ s with gens := sB.gens } : Shared).sansL [env.locals, I']) (s₁.setGen g gs') := h3.gens_to rfl rfl rfl rfl gk3
    have hX : ∀ b ∈ [env.locals, I'], sB.heap.get? b = none ∧ b ∉ privA envc own ∧ ∀ o, s.heap.get? b = some o → (∀ vs n, o.data ≠ .seq vs n) ∧ ((o.cls ≠ .none ∧ o.cls ≠ .type "code") ∨ ∀ vs, o.data ≠ .fields vs) := fun b hb => by
      simp only [List.mem_cons, List.not_mem_nil, or_false] at hb
      obtain ⟨m, cm, F, _⟩ := gi.1.fr
      obtain ⟨o', es, n, e', d, _⟩ := F.ns
      rcases hb with rfl | rfl
      · refine ⟨F.new, fun q => ?_, fun o e => by rw [e'] at e; cases e; exact ⟨fun _ _ q => (nomatch d.symm.trans q), .inr fun _ q => (nomatch d.symm.trans q)⟩⟩
        rcases List.mem_cons.mp q with q | q
        · exact hL q.symm
        · obtain ⟨mc, cmc, Fc, Hc, Oc⟩ := h.fr
          rcases List.mem_append.mp q with q | q
          · obtain ⟨p, _, hp⟩ := List.mem_filterMap.mp q
            obtain ⟨⟨o2, e2, d2⟩, _⟩ := Fc.cell _ _ hp
            rw [e'] at e2; cases e2; exact nomatch d.symm.trans d2
          · obtain ⟨⟨x, a2, ds⟩, i, q⟩ := List.mem_map.mp q
            obtain ⟨_, _, vs, ⟨n2, e2⟩, _⟩ := Oc x a2 ds i
            have q : a2 = env.locals := q
            rw [q] at e2
            have e2 : s.heap.get? env.locals = some _ := e2
            rw [e'] at e2; cases e2; exact nomatch d
      · refine ⟨h1, fun q => ?_, fun o e => by
          obtain ⟨⟨vs, d⟩, c⟩ := h2 o e
          exact ⟨fun _ _ q => (nomatch d.symm.trans q), .inl ⟨(by rw [c]; exact fun q => (nomatch q)), (by rw [c]; decide)⟩⟩⟩
        obtain ⟨_, o2, e2, n2⟩ := h.privs _ q
        obtain ⟨⟨vs, d⟩, c⟩ := h2 o2 e2
        exact n2 vs d
    have hl : Live C A (s₁.setGen g gs') := by
      obtain ⟨l, a1, bb⟩ := h4
      obtain ⟨l0, a0, -⟩ := h.live
      have a1 : A.frames.map (env :: ·) = some l := a1
      rw [a0] at a1; cases a1
      exact ⟨l0, a0, fun e he => bb e (List.mem_cons_of_mem _ he)⟩
    exact ⟨St.chgN (s := { s with gens := sB.gens }) (h.gens (.refl _)) hX k4 hl, ⟨o, nm, qn, ha1, hgo2, hgo3, hgo4⟩, setGen_self (h3.gens.1 _ _ hgr), gk3⟩
  refine pyNext_genR (P := gP C A.in1 sB env rl) (X := gX C A.in1 sB env rl) ra.handled (base_nolimit (h.base.mono h.kp) C.nolimit) (by have := ra.depth; omega) hg hgs (hgo hk _ gi') (fun v s₁ gs' hb' hy => ?_) (fun s₁ hp h' hk' => ?_) (fun e s₁ hx => ?_)
  · obtain ⟨x, st', I', hq, ⟨t, rfl⟩, hs, gi2, hkap⟩ := hy
    rw [show gMax - 1 - (gMax - k - 1) = k by omega] at hq
    obtain ⟨s1, s2, s3, s4⟩ := step hs gs' hb'
    refine hv x st' t _ hq s1 ⟨s2, hsz, gs', st', I', s3, hb', gi2.gens s4, ⟨x, hq⟩, fun hk1 s'' g'' => ?_⟩
    have h5 := hkap (by omega) s'' g''
    obtain ⟨m, hm⟩ : ∃ m, gMax - k = m + 1 := ⟨gMax - k - 1, by omega⟩
    rw [hm] at h5
    rw [show gMax - (k + 1) = m by omega]
    exact h5
  · obtain ⟨hq, I', hs⟩ := hp
    rw [show gMax - (gMax - k) = k by omega] at hq
    obtain ⟨s1, s2, s3, s4⟩ := step hs .finished rfl
    exact hf _ hq (s1.kps (Kp.keepH hk'))
  · obtain ⟨hq, I', hs, fl, ex⟩ := hx
    rw [show gMax - (gMax - k) = k by omega] at hq
    obtain ⟨s1, s2, s3, s4⟩ := step hs .finished rfl
    refine ⟨s2, ⟨_, ex.typeIs, by rw [isSubtype_type]; kernel_rfl!⟩, he e fl _ hq s1 ?_⟩
    exact ex.down (sans_kp gi'.1 hs.1 hs.2.1)
theorem St.rebaseS (h : St C A s₀ pvc env ρ own s) : St C A (s.sansL (privA env own)) pvc env ρ own s ∧ Kp C s₀ (s.sansL (privA env own)) := by
  have B := h.base.mono h.kp
  have pr := h.privs
  obtain ⟨m, cm, F, H, O⟩ := h.fr
  have out : ∀ b o, s₀.heap.get? b = some o → b ∉ privA env own := fun b o e hb => by rw [(pr b hb).1] at e; cases e
  have nf : ∀ b o vs, s.heap.get? b = some o → o.data = .fields vs → b ∉ privA env own := fun b o vs e d hb => by
    obtain ⟨_, o', e', n⟩ := pr b hb; rw [e] at e'; cases e'; exact n _ d
  have get : ∀ b o, s.heap.get? b = some o → b ∉ privA env own → (s.sansL (privA env own)).heap.get? b = some o := fun b o e hb => hideAll_get _ e hb
  have kk : Kp C s₀ (s.sansL (privA env own)) := by
    refine ⟨fun b o e n => let ⟨sl, e1, q⟩ := h.kp.sub' b o e n; ⟨sl, get _ _ e1 (out b o e), q⟩, fun b ps e t => ?_, fun t => ?_, h.kp.os, h.kp.gens⟩
    · rcases h.kp.tab b ps e t with q | ⟨hm, more, q, t'⟩
      · exact .inl (get _ _ q (out b _ e))
      · exact .inr ⟨hm, more, get _ _ q (out b _ e), t'⟩
    · intro x hx
      obtain ⟨ps, h1, h2, h3⟩ := h.kp.tabs t x hx
      refine ⟨ps, get _ _ h1 (nf _ _ _ h1 rfl), h2, fun pos v e => ?_⟩
      obtain ⟨c', rfl, o, vs, tk, e2, e3, e4, e5⟩ := h3 pos v e
      exact ⟨c', rfl, o, vs, tk, get _ _ e2 (nf _ _ _ e2 e4), e3, e4, e5⟩
  refine ⟨⟨h.ok, h.base.mono kk, h.live, ?_, fun p hp => let ⟨_, e⟩ := h.priv p hp; kk.there e, ⟨m, cm, ⟨F.ns, hideAll_none _ List.mem_cons_self, F.same, fun x c hx => ⟨(F.cell x c hx).1, hideAll_none _ ?_⟩, F.apart⟩, H, fun x a ds i => ?_⟩, h.nd⟩, kk⟩
  · exact ⟨fun b o e _ => kx (of_hideAll _ e), fun b ps e _ => .inl (of_hideAll _ e), fun _ => B.tabs, rfl, .refl _⟩
  · exact List.mem_cons_of_mem _ (List.mem_append_left _ (cellAs_mem hx))
  · obtain ⟨e1, e2, r⟩ := O x a ds i
    exact ⟨e1, hideAll_none _ (List.mem_cons_of_mem _ (List.mem_append_right _ (List.mem_map.mpr ⟨_, i, rfl⟩))), r⟩
theorem GAt.wait {a : Addr} {g k : Nat} (x : GAt C A sB env ax rl a g k s) (h : St C A sB pvc envc ρ own s) (hL : envc.locals ≠ env.locals) (hcl : env.cells = []) (hfr : env.frame = some env.locals) :
    ∀ {ρ' own' s'}, St C A (s.sansL (privA envc own)) pvc envc ρ' own' s' → St C A sB pvc envc ρ' own' s' ∧ GAt C A sB env ax rl a g k s' := fun {ρ' own' s'} h' => by
  obtain ⟨hg, hsz, gs, st, I, hgs, hb, gi, hst, hgo⟩ := x
  have hB := h'.unbase h.base h.priv h.rebaseS.2
  have kp := h'.kp
  have recOut : ∀ {b o vs}, s.heap.get? b = some o → o.data = .fields vs → b ∉ privA envc own := fun {b o vs} e d q => by
    obtain ⟨_, o', e', n⟩ := h.privs b q
    rw [e] at e'; cases e'; exact n _ d
  obtain ⟨m, cm, F, H, O⟩ := gi.1.fr
  have hLp : env.locals ∉ privA envc own := fun q => by
    obtain ⟨o', es, n, e', d, _⟩ := F.ns
    rcases List.mem_cons.mp q with q | q
    · exact hL q.symm
    · obtain ⟨mc, cmc, Fc, Hc, Oc⟩ := h.fr
      rcases List.mem_append.mp q with q | q
      · obtain ⟨p, _, hp⟩ := List.mem_filterMap.mp q
        obtain ⟨⟨o2, e2, d2⟩, _⟩ := Fc.cell _ _ hp
        rw [e'] at e2; cases e2; exact nomatch d.symm.trans d2
      · obtain ⟨⟨x, a2, ds⟩, i, q⟩ := List.mem_map.mp q
        obtain ⟨_, _, vs, ⟨n2, e2⟩, _⟩ := Oc x a2 ds i
        have q : a2 = env.locals := q
        subst q
        have e2 : s.heap.get? env.locals = some _ := e2
        rw [e'] at e2; cases e2; exact nomatch d
  have ns' : s'.heap.Ns env.locals m := by
    obtain ⟨o', es, n, e', r⟩ := F.ns
    exact kp_ns kp ⟨o', es, n, sansL_get e' hLp, r⟩
  refine ⟨hB, ?_, hsz, gs, st, I, kp.gens.1 _ _ hgs, hb, ⟨⟨gi.1.ok, gi.1.base, ?_, hB.kp, gi.1.priv, ⟨m, cm, ⟨ns', F.new, F.same, (fun x c hx => by rw [hcl] at hx; cases hx), F.apart⟩, fun x d i => ?_, fun x a ds i => absurd i List.not_mem_nil⟩, gi.1.nd⟩, gi.2.1, ?_⟩, hst, hgo⟩
  · obtain ⟨o, nm, qn, e1, e2, e3, e4⟩ := hg
    exact ⟨o, nm, qn, kp.sub _ _ (sansL_get e1 (recOut e1 e3)) (nd_rec e3 e2), e2, e3, e4⟩
  · obtain ⟨l, a1, b1⟩ := gi.1.live
    obtain ⟨l0, a0, b0⟩ := hB.live
    have a2 : A.frames.map (env :: ·) = some l := a1
    rw [a0] at a2; cases a2
    refine ⟨_, a1, fun e he => ?_⟩
    rcases List.mem_cons.mp he with rfl | he
    · obtain ⟨q1, L, q2, q3, q4⟩ := b1 _ List.mem_cons_self
      refine ⟨q1, L, q2, q3, ?_⟩
      rw [hfr] at q2; cases q2
      exact .ns ns'
    · exact b0 e he
  · obtain ⟨v, e1, e2⟩ := H x d i
    refine ⟨v, e1, ?_⟩
    cases st with
    | new => simp [gRho] at i; obtain ⟨rfl, rfl⟩ := i; rw [e2.opq_inv]; exact .opq ax
    | «at» _ _ => simp [gRho] at i; obtain ⟨rfl, rfl⟩ := i; exact e2.flat rfl _ _
    | rep _ => simp [gRho] at i; obtain ⟨rfl, rfl⟩ := i; exact e2.flat rfl _ _
  · have it : ∀ {i}, s.heap.IsListIter I ax i → s'.heap.IsListIter I ax i := fun ⟨o, e, c, d⟩ => ⟨o, kp.sub _ _ (sansL_get e (recOut e d)) (nd_rec d c), c, d⟩
    have gi3 := gi.2.2
    cases st with
    | new => trivial
    | «at» _ _ => exact it gi3
    | rep _ => obtain ⟨i, gi3⟩ := gi3; exact ⟨i, it gi3⟩
end
end
section -- F19
set_option maxHeartbeats 4000000
noncomputable def wordsL : List Str := (List.range 32).map wordF
noncomputable abbrev strsD (ys : List Str) : PyData := .list (ys.map .str)
noncomputable def digS (i : Nat) : Nat := (Str.ofString "1248").cps.getD ((10 + i) % 4) 0
theorem word_eq : ∀ i < 22, (Str.ofString "0x" ++ (⟨#[digS i]⟩ : Str)) ++ repS (Str.ofString "0") ((10 + i) / 4) = wordF (10 + i) := by decide +kernel
theorem rep_len : ∀ i < 22, (repS (Str.ofString "0") ((10 + i) / 4)).length ≤ 20 := by decide +kernel
theorem dig_ok : ∀ i : Nat, i < 22 → (seqIndex? ((10 + (i : Int) * 1).fmod 4) (Str.ofString "1248").length).bind ((Str.ofString "1248").cps[·]?) = some (digS i) := by decide +kernel
theorem dig_in : ∀ i : Nat, i < 22 → (decide ((10 + (i : Int) * 1).fmod 4 < -(2 ^ 63 : Int)) || decide ((10 + (i : Int) * 1).fmod 4 ≥ 2 ^ 63)) = false := by decide +kernel
noncomputable def w10 : List PyData := [.str (Str.ofString "OPTIMIZED"), .str (Str.ofString "NEWLOCALS"), .str (Str.ofString "VARARGS"), .str (Str.ofString "VARKEYWORDS"), .str (Str.ofString "NESTED"), .str (Str.ofString "GENERATOR"), .str (Str.ofString "NOFREE"), .str (Str.ofString "COROUTINE"), .str (Str.ofString "ITERABLE_COROUTINE"), .str (Str.ofString "ASYNC_GENERATOR")]
noncomputable def w10s : List Str := [Str.ofString "OPTIMIZED", Str.ofString "NEWLOCALS", Str.ofString "VARARGS", Str.ofString "VARKEYWORDS", Str.ofString "NESTED", Str.ofString "GENERATOR", Str.ofString "NOFREE", Str.ofString "COROUTINE", Str.ofString "ITERABLE_COROUTINE", Str.ofString "ASYNC_GENERATOR"]
theorem words_eqS : wordsL = w10s ++ (List.range 22).map fun i => wordF (10 + i) := by decide +kernel
theorem words_eq : wordsL.map PyData.str = w10 ++ (List.range 22).flatMap fun i => [PyData.str (wordF (10 + i))] := by
  rw [words_eqS, List.map_append, List.map_map]
  congr 1
theorem pf_words {C : Cx} (G : Glb C) : PFn C 3 (.ref 234) [] (strsD wordsL) := by
  obtain ⟨-, doc, pm, D⟩ := G.fn 19 234 _ _ (by walk_at "has")
  refine PFn.of_def (xs := []) D rfl rfl rfl ?_ (by decide +kernel) ?_ ?_
  · exact all0 (by kernel_rfl!)
  · intro L x hx
    exact absurd hx List.not_mem_nil
  · intro A s₀ pvc L s env he ra st Q E k
    subst he
    conv in (bdI 19) => whnf
    have st : St C A s₀ pvc _ [] [] s := st
    with_reducible refine St.assign (d := .list w10) (ρ' := [(Str.ofString "names", .list w10)]) st ra ?_ ?_ ?_ (fun s1 st => ?_) ?_ ?_
    rotate_left 5
    · with_unfolding_all rfl
    rotate_left 5
    · exact Ev.lst (by unfold w10; walk_at "evs") (by decide +kernel)
    · walk_at "upd"
    · walk_at "none"
    rotate_left
    · walk_at "ownn"
    have e : strsD wordsL = .list (w10 ++ (List.range 22).flatMap fun i => [PyData.str (wordF (10 + i))]) := by
      show PyData.list (wordsL.map PyData.str) = _
      rw [words_eq]
    refine st.ret ra (d := strsD wordsL) ?_ fun v s1 k1 r1 => k _ _ _ (.inl rfl) k1 r1
    rw [e]
    refine Ev.bin (x := .list w10) (y := .list ((List.range 22).flatMap fun i => [PyData.str (wordF (10 + i))])) (by walk_at "ev") ?_ (.cat _ _ (by decide +kernel))
    refine Ev.comp (List.range 22) (fun i : Nat => PyData.int (10 + (i : Int) * 1)) (fun i => [PyData.str (wordF (10 + i))]) (.range2 G.range (a := 10) (N := 22) (by walk_at "ev") (by walk_at "ev") (by decide) (by decide)) (ρf := []) (by walk_at "frees") (by decide) (fun i hi => ?_)
    have hi : i < 22 := by simpa using hi
    have ediv : (10 + (i : Int) * 1).fdiv 4 = (((10 + i) / 4 : Nat) : Int) := by rw [Int.fdiv_eq_ediv_of_nonneg _ (by omega)]; omega
    refine ⟨[("k", .int (10 + (i : Int) * 1))], true, .str (wordF (10 + i)), fun L => .name (by walk_at "ownn"), fun L => rfl, fun _ L => ?_, rfl⟩
    rw [← word_eq i hi]
    refine Ev.bin (x := .str (Str.ofString "0x" ++ (⟨#[digS i]⟩ : Str))) (y := .str (repS (Str.ofString "0") ((10 + i) / 4))) (Ev.bin (x := .str (Str.ofString "0x")) (y := .str ⟨#[digS i]⟩) (by walk_at "ev") ?_ (.txt _ _ ?_)) ?_ (.txt _ _ ?_)
    · exact Ev.itm (d := .str (Str.ofString "1248")) (i := (10 + (i : Int) * 1).fmod 4) (by walk_at "ev") (by walk_at "ev") (.str (dig_in i hi) (dig_ok i hi))
    · have : (Str.ofString "0x").length = 2 := by decide +kernel
      rw [this]; show 2 + 1 ≤ sizeLine; decide +kernel
    · refine Ev.rep (k := (10 + i) / 4) (by walk_at "ev") ?_ (by decide +kernel) (by omega) (by have := rep_len i hi; have hss : sizeLine = 16777216 := rfl; omega)
      rw [← ediv]
      exact Ev.bin (x := .int (10 + (i : Int) * 1)) (y := .int 4) (by walk_at "ev") (by walk_at "ev") (.div _ _ (by decide) (by decide))
    · have h2 : (Str.ofString "0x").length = 2 := by decide +kernel
      have h3 : (Str.ofString "0x" ++ (⟨#[digS i]⟩ : Str)).length = 2 + 1 := by
        rw [PySem.Str.length_append, h2]; rfl
      have := rep_len i hi
      have hss : sizeLine = 16777216 := rfl
      omega
end
section -- F20
open Sem (wp)
section
variable {C : Cx} {n : Nat} {A A0 Ag : Around} {s s' s₀ sB : Shared} {env envc : Env} {ρ ρ' : Names} {pv pvc : List Addr} {own o1 o2 : Own} {I ax : Addr} {rl : List Int}
theorem forLoop_genX {target it body orelse} {R : Result → Shared → Prop} (I : Nat → Shared → Prop)
    (turn : ∀ n s, I n s → wpAny (model C.prog C.w) A (pyNext it) (fun r s₁ => match r with
      | none => ∀ E, wpAny (model C.prog C.w) A (execs orelse env) (fun f s₃ => R (.ok f) s₃) E s₁
      | some v => ∀ E, wpAny (model C.prog C.w) A (letOwnedTupleGo target it v) (fun _ s₁' => wpAny (model C.prog C.w) A (PySem.assign target env v) (fun _ s₂ => wpAny (model C.prog C.w) A (execs body env) (fun f s₃ => match f with
          | .next | .cont => ∃ m, m < n ∧ I m s₃
          | .brk => R (.ok .next) s₃
          | .ret v => R (.ok (.ret v)) s₃) E s₂) E s₁') E s₁) (notedBy (model C.prog C.w) A env fun e s' => R (.error e) s') s)
    (n : Nat) (h : I n s) : codeAny (model C.prog C.w) A (.forLoop target it body orelse env) R s := by
  refine codeAny_loop' rfl I (fun n s hI => ?_) n h
  show wpAny _ _ ((forTurn target it body orelse env).onRaise (fun x => do noteFrame x env; theTreesLotGoes x)) _ _ s
  refine wpAny_noted ?_
  simp only [forTurn]
  refine wpAny_bind (wpAny_standAt (wpAny_bind (wpAny_onRaise (wpAny_mono (turn n s hI) (fun r s₁ h₁ => ?_) fun _ _ h' => wpAny_standAt h'))))
  cases r with
  | none => exact wpAny_pure (.inr ⟨rfl, codeAny_block (h₁ _)⟩)
  | some v =>
    refine wpAny_bind (wpAny_mono (h₁ _) (fun _ s₁' h₁' => wpAny_bind (wpAny_mono h₁' (fun _ s₂ h₂ => wpAny_bind (wpAny_mono h₂ (fun f s₃ h₃ => ?_) fun _ _ h' => h')) fun _ _ h' => h')) fun _ _ h' => h')
    cases f with
    | next => exact wpAny_pure (.inl ⟨rfl, h₃⟩)
    | cont => exact wpAny_pure (.inl ⟨rfl, h₃⟩)
    | brk => exact wpAny_pure h₃
    | ret v => exact wpAny_pure h₃
theorem GK.size {a b : Array GenState} (k : GK a b) : a.size ≤ b.size := by
  rcases Nat.lt_or_ge b.size a.size with h | h
  · have := k.1 b.size _ (Array.getElem?_eq_getElem h)
    simp at this
  · exact h
theorem privA0 (h : St C A s₀ pvc env ρ [] s) {b : Addr} {o : Obj} (hb : b ∈ privA env []) (e : s.heap.get? b = some o) : (∃ es n, o.data = .dict es n) ∨ ∃ v, o.data = .cell v := by
  obtain ⟨m, cm, F, H, O⟩ := h.fr
  rcases List.mem_cons.mp hb with rfl | hb
  · obtain ⟨o', es, n, e', d, _⟩ := F.ns
    rw [e] at e'; cases e'; exact .inl ⟨es, n, d⟩
  · rcases List.mem_append.mp hb with hb | hb
    · obtain ⟨p, _, hp⟩ := List.mem_filterMap.mp hb
      obtain ⟨⟨o', e', d⟩, n⟩ := F.cell _ _ hp
      rw [e] at e'; cases e'; exact .inr ⟨_, d⟩
    · exact absurd hb List.not_mem_nil
noncomputable abbrev forGQ (C : Cx) (A0 : Around) (s₁ : Shared) (pvc : List Addr) (envc : Env) (Iv : Nat → Names → Prop) (Bk : Names → Prop) (k : Nat) : Flow → Shared → Prop := fun f s' => match f with
  | .next | .cont => ∃ ρ3, Iv (k + 1) ρ3 ∧ St C (A0.deeper envc) s₁ pvc envc ρ3 [] s'
  | .brk => ∃ ρ3, Bk ρ3 ∧ St C (A0.deeper envc) s₁ pvc envc ρ3 [] s'
  | .ret _ => False
inductive ForGT (C : Cx) (A0 : Around) (pvc : List Addr) (envc : Env) (ρ1 : Names) (x : Str) (i : Int) (body : List Stmt) (Iv : Nat → Names → Prop) (Bk : Names → Prop) (k : Nat) : Prop
  | mk (ρ2 : Names) (h1 : Upd x (.int i) ρ1 ρ2) (h2 : ∀ s₁ σ, St C (A0.deeper envc) s₁ pvc envc ρ2 [] σ → ∀ E, wpAny (model C.prog C.w) (A0.deeper envc) (execs body envc) (forGQ C A0 s₁ pvc envc Iv Bk k) E σ)
theorem St.forGen (G : Glb C) {x y : Str} {tp np yp cp pos : Pos} {body rest : List Stmt} {Q : Flow → Shared → Prop} {E : Value → Shared → Prop} (Iv : Nat → Names → Prop) (Bk : Names → Prop)
    (h : St C (A0.deeper envc) s₀ pvc envc ρ [] s) (ra : Room (n + 2) (A0.deeper envc)) (hf : envc.frame = some envc.locals) (hy : (y, intsD rl) ∈ ρ) (hx : OwnN envc envc.cells x) (h0 : Iv 0 ρ) (hmax : ∀ k ρ1, Iv k ρ1 → k < gMax)
    (turn : ∀ k i st, gSeq rl k = .val i st → ∀ ρ1, Iv k ρ1 → ForGT C A0 pvc envc ρ1 x i body Iv Bk k)
    (fin : ∀ k ρ1, Iv k ρ1 → gSeq rl k = .fin → Bk ρ1)
    (k : ∀ ρ1 s', Bk ρ1 → St C (A0.deeper envc) s₀ pvc envc ρ1 [] s' → wpAny (model C.prog C.w) (A0.deeper envc) (execs rest envc) Q E s')
    (err : ∀ k ρ1 e fl s', Iv k ρ1 → gSeq rl k = .err → St C (A0.deeper envc) s₀ pvc envc ρ1 [] s' → Exn (some gMsg) s₀ s' e "ValueError" fl → E (.ref e) s')
    (hk : autoParam (envc.kindOf (Str.ofString "_grouping_intervals") = some .globalImplicit) syR) (hd : autoParam ((y == ("__debug__" : Str)) = false) syD) (hc : autoParam ((y == ("__classdict__" : Str)) = false) syD) :
    wpAny (model C.prog C.w) (A0.deeper envc) (execs (.For (.Name x tp) (.Call (.Name (Str.ofString "_grouping_intervals") np) [.Name y yp] [] cp) body [] pos :: rest) envc) Q E s := by
  obtain ⟨hb, kb⟩ := h.rebaseS
  generalize hbs : s.sansL (privA envc []) = b at hb kb
  have ⟨hg, hfn⟩ := G.at 16 222 .none .none (by walk_at "has")
  refine wpAny_execs_cons (wpAny_For (wpAny_Call_NameR (ev_glob hb.rdy hk hg ?_ (by decide +kernel))) (by intro _; rfl))
  obtain ⟨og, fd, hog, hfd⟩ := hfn s hb.rdy.base
  obtain ⟨v0, n1, n2⟩ := hb.rdy.names y _ hy
  obtain ⟨ax, ws, rfl, hap, el, er⟩ := n2.list_inv
  have r0 : Rdy C (A0.deeper envc) envc [(y, opq ax)] (prv [] pvc) s := ⟨hb.rdy.ok, hb.rdy.base, hb.rdy.live, fun z d i => by
    simp only [List.mem_cons, List.not_mem_nil, or_false, Prod.mk.injEq] at i
    obtain ⟨rfl, rfl⟩ := i
    exact ⟨_, n1, .opq ax⟩, hb.rdy.priv⟩
  have hlb : b.heap.IsList ax ws := by
    obtain ⟨n, e⟩ := id el
    refine ⟨{ cls := .type "list", data := .seq ws n }, ?_, rfl, n, rfl⟩
    rw [← hbs]
    refine sansL_get e fun q => ?_
    rcases privA0 h q e with ⟨_, _, d⟩ | ⟨_, d⟩ <;> exact nomatch d
  have hrl : RDs b.heap [] ws.toList (rl.map .int) := RDs.of_ints er.ints
  refine callWith_function (o := og) (fd := fd) (evalArgs_ev ra r0 (.cons (.nam List.mem_cons_self hd hc) .nil) (by rfl) fun vs s1 k1 h1 => ⟨⟨k1.sub _ _ hog (nt_func hfd), hfd⟩, ?_⟩)
  obtain ⟨v, rfl, h1'⟩ := h1.inv1
  have := h1'.opq_inv
  subst this
  have st1 := hb.kps k1
  refine wp_gencall G (n := n + 1) ra st1.rdy.base st1.live fun a L doc pm s2 k2 hg2 hgs stg hna => ?_
  have st2 := st1.kps k2
  refine wpAny_pyIter_gen hg2 ?_
  have hLn : envc.locals ≠ L := fun q => by
    obtain ⟨m, cm, F, _⟩ := stg.fr
    obtain ⟨m1, cm1, F1, _⟩ := st1.fr
    obtain ⟨o, _, _, e, _⟩ := F1.ns
    have h1 : s1.heap.get? L = none := F.new
    rw [← q, e] at h1; cases h1
  have hBb : Base C b := hb.base
  have gi0 : GI C (A0.deeper envc).in1 b (callEnvC (fdI 16 .none .none doc pm (222 - 1)) L 222) ax L .new s2 := ⟨(stg.around (A' := (A0.deeper envc).in1.deeper _) rfl).unbase hBb (fun p hp => absurd hp List.not_mem_nil) st1.kp, new_of_kp st1.kp (let ⟨m, cm, F, _, _⟩ := stg.fr; F.new), trivial⟩
  have ga0 : GAt C (A0.deeper envc) b (callEnvC (fdI 16 .none .none doc pm (222 - 1)) L 222) ax rl a s1.gens.size 0 s2 :=
    ⟨hg2, st1.kp.gens.size, _, .new, L, hgs, rfl, gi0, rfl, fun _ s'' gi => gen_fresh G rfl (n := n) ⟨ra.handled, (by have := ra.depth; show _ + 1 + n < _; simp only [Around.deeper] at this ⊢; omega), (by have := ra.units; simp only [Around.deeper] at this ⊢; omega)⟩ hBb hlb hrl gi.1⟩
  have hgl : (callEnvC (fdI 16 .none .none doc pm (222 - 1)) L 222).locals = L := rfl
  have hgc : (callEnvC (fdI 16 .none .none doc pm (222 - 1)) L 222).cells = [] := rfl
  have hgf : (callEnvC (fdI 16 .none .none doc pm (222 - 1)) L 222).frame = some (callEnvC (fdI 16 .none .none doc pm (222 - 1)) L 222).locals := rfl
  generalize callEnvC (fdI 16 .none .none doc pm (222 - 1)) L 222 = genv at gi0 ga0 hgl hgc hgf
  have hne : envc.locals ≠ genv.locals := hgl ▸ hLn
  generalize s1.gens.size = g at ga0
  refine forLoop_genX (fun m σ => ∃ k ρ1, m = gMax - k ∧ Iv k ρ1 ∧ St C (A0.deeper envc) b pvc envc ρ1 [] σ ∧ GAt C (A0.deeper envc) b genv ax rl a g k σ) ?_ gMax ⟨0, ρ, rfl, h0, st1.kps k2, ga0⟩
  rintro m σ ⟨k', ρ1, rfl, hIv, st, ga⟩
  have hk' := hmax _ _ hIv
  refine gen_next st ra hne ga hk' (fun i gst t s3 hq st3 ga3 => ?_) (fun s3 hq st3 => ?_) (fun e fl s3 hq st3 ex => ?_)
  · intro E'
    obtain ⟨ρ2, hu, hbody⟩ := turn k' i gst hq ρ1 hIv
    obtain ⟨o, nm, qn, e1, e2, e3, e4⟩ := id ga3.1
    refine letGo_any e1 e2 (by decide) ?_
    have hw : ∀ {ρ' own' s'}, St C (A0.deeper envc) (s3.sansL (privA envc [])) pvc envc ρ' own' s' → _ := @GAt.wait _ _ _ _ _ _ _ _ _ _ _ _ _ _ ga3 st3 hne hgc hgf
    obtain ⟨st4, kb4⟩ := st3.rebaseS
    refine st4.target ra.handled (.name hx) (.int i t) (.cons hu .nil) (by walk_at "ownt") fun σ2 st5 z => ?_
    refine wpAny_mono (hbody _ σ2 st5 E') (fun f s5 hf' => ?_) fun _ _ e => e
    cases f with
    | next =>
      obtain ⟨ρ3, h3, st6⟩ := hf'
      obtain ⟨st7, ga7⟩ := hw st6
      exact ⟨gMax - (k' + 1), by omega, k' + 1, ρ3, rfl, h3, st7, ga7⟩
    | cont =>
      obtain ⟨ρ3, h3, st6⟩ := hf'
      obtain ⟨st7, ga7⟩ := hw st6
      exact ⟨gMax - (k' + 1), by omega, k' + 1, ρ3, rfl, h3, st7, ga7⟩
    | brk =>
      obtain ⟨ρ3, h3, st6⟩ := hf'
      obtain ⟨st7, ga7⟩ := hw st6
      exact k _ _ h3 (st7.unbase h.base h.priv kb)
    | ret _ => exact hf'.elim
  · intro E'
    exact wpAny_execs_nil (k _ _ (fin _ _ hIv hq) (st3.unbase h.base h.priv kb))
  · refine Exn.loop (st3.unbase h.base h.priv kb) hf (by decide) (ex.down kb) fun s4 fl' st4 ex4 => err _ _ _ _ _ hIv hq st4 ex4
end
end
section -- F22
noncomputable def negD (w : Wish) : Int := -w.d
noncomputable def lineStep (l : List Wish) (w : Wish) : List Wish := insD l (if w.l then posLeft negD l w else posRight negD l w) w
noncomputable def lineOf (ws : List Wish) : List Wish := ws.foldl lineStep []
theorem posLeft_le {kf l w} : posLeft kf l w ≤ l.length := bisLoop_le _ (Nat.zero_le _)
theorem posRight_le {kf l w} : posRight kf l w ≤ l.length := bisLoop_le _ (Nat.zero_le _)
theorem insD_len {α : Type} {l : List α} {k x} (h : k ≤ l.length) : (insD l k x).length = l.length + 1 := by simp [insD]; rw [Nat.min_eq_left h, ← Nat.add_assoc, Nat.add_sub_cancel' h]
theorem lineStep_len {l w} : (lineStep l w).length = l.length + 1 := insD_len (by split; exact posLeft_le; exact posRight_le)
theorem line_len : ∀ (ws l : List Wish), (ws.foldl lineStep l).length = l.length + ws.length
  | [], l => rfl
  | w :: r, l => by rw [List.foldl_cons, line_len r, lineStep_len, List.length_cons]; omega
theorem ev_negd (C : Cx) (env : Env) (u : Wish) (p1 p2 p3 p4 : Pos) (i0) : Ev C 0 env [(Str.ofString "one", wishD u)] (.UnaryOp .USub (.Subscript (.Name (Str.ofString "one") p1) (.Constant (.int 2) i0 p2) p3) p4) (.int (negD u)) := by
  unfold negD
  walk_at "ev"
noncomputable abbrev lineI (ws : List Wish) (a : Addr) (i : Nat) (ρ : Names) (own : Own) : Prop := ρ = ([("wishes", wishesD ws)] : Names) ∧ own = [(Str.ofString "line", a, ((ws.take i).foldl lineStep []).map wishD)]
noncomputable abbrev lineB (ws : List Wish) (a : Addr) (ρ : Names) (own : Own) : Prop := ρ = ([("wishes", wishesD ws)] : Names) ∧ own = [(Str.ofString "line", a, (lineOf ws).map wishD)]
theorem pf_line {C : Cx} (G : Glb C) (ws : List Wish) (hk : ws.length ≤ 100) : PFn C 4 (.ref 251) [wishesD ws] (wishesD (lineOf ws)) := by
  obtain ⟨-, doc, pm, D⟩ := G.fn 22 251 _ _ (by walk_at "has")
  refine PFn.of_def (xs := ["wishes"]) D rfl rfl rfl ?_ (by decide +kernel) ?_ ?_
  · exact all1 fun v => by kernel_rfl!
  · intro L x hx
    simp only [List.mem_cons, List.not_mem_nil, or_false] at hx
    subst hx
    exact .inl rfl
  · intro A s₀ pvc L s env he ra st Q E k
    subst he
    conv in (bdI 22) => whnf
    have st : St C A s₀ pvc _ [("wishes", wishesD ws)] [] s := st
    refine st.assignOwn (ρ' := ([("wishes", wishesD ws)] : Names)) ra (EvF.lst .nil (by decide +kernel)) (fun y h => h) (by walk_at "upnot") (by walk_at "none") (fun a s1 st => ?_) (by walk_at "ownn")
    refine st.for (ds := ws.map wishD) (lineI ws a)
      (lineB ws a) ra (.list (.nam (by walk_at "has"))) ⟨rfl, rfl⟩ ?_ ?_ ?_
    · rintro i d hd ρ1 own1 ⟨rfl, rfl⟩
      obtain ⟨w, hw, rfl⟩ : ∃ w, ws[i]? = some w ∧ wishD w = d := by simpa using hd
      generalize hst : (ws.take i).foldl lineStep [] = l
      have hl : l.length ≤ 100 := by
        rw [← hst, line_len]; simp; omega
      refine ⟨[("wish", wishD w)], _, .name (by walk_at "ownn"), (by walk_at "upds"), (by walk_at "ownt"), rfl, fun s₁ σ st E => ?_⟩
      refine st.ifs ra (b := w.l) (by walk_at "tst") (fun hb s2 st => ?_) (fun hb s2 st => ?_)
      · refine st.insort G insLeft (o1 := []) (o2 := []) (kf := negD) (ws := l) (w := w) ra (by walk_at "ev") (G.maker 250 246 _ (by walk_at "has") rfl (by decide) (by decide +kernel)) (by omega) (G.at 4 48 (.ref 40) (.ref 41) (by walk_at "has")).1 (G.at 4 48 (.ref 40) (.ref 41) (by walk_at "has")).2 (fun C' env' u => ev_negd C' env' u _ _ _ _ _)
          (fun s3 st => wpAny_execs_nil (wpAny_execs_nil ⟨_, [(Str.ofString "line", a, (insD l (posLeft negD l w) w).map wishD)], ⟨rfl, ?_⟩, rfl, st.weak (ρ' := ([("wishes", wishesD ws)] : Names)) (by walk_at "weak")⟩)) ?_ rfl (by with_unfolding_all rfl) (by with_unfolding_all rfl) (by kernel_rfl!)
        · rw [List.take_add_one, hw, Option.toList_some, List.foldl_append, hst]
          show _ = [(_, _, (lineStep l w).map wishD)]
          rw [lineStep, if_pos hb]
        · intro v pm' cdv ct; kernel_rfl!
      · refine st.insort G insRight (o1 := []) (o2 := []) (kf := negD) (ws := l) (w := w) ra (by walk_at "ev") (G.maker 250 246 _ (by walk_at "has") rfl (by decide) (by decide +kernel)) (by omega) (G.at 2 30 (.ref 22) (.ref 23) (by walk_at "has")).1 (G.at 2 30 (.ref 22) (.ref 23) (by walk_at "has")).2 (fun C' env' u => ev_negd C' env' u _ _ _ _ _)
          (fun s3 st => wpAny_execs_nil (wpAny_execs_nil ⟨_, [(Str.ofString "line", a, (insD l (posRight negD l w) w).map wishD)], ⟨rfl, ?_⟩, rfl, st.weak (ρ' := ([("wishes", wishesD ws)] : Names)) (by walk_at "weak")⟩)) ?_ rfl (by with_unfolding_all rfl) (by with_unfolding_all rfl) (by kernel_rfl!)
        · rw [List.take_add_one, hw, Option.toList_some, List.foldl_append, hst]
          show _ = [(_, _, (lineStep l w).map wishD)]
          rw [lineStep, if_neg (by rw [hb]; decide)]
        · intro v pm' cdv ct; kernel_rfl!
    · rintro ρ1 own1 s' ⟨rfl, rfl⟩ st E
      refine wpAny_execs_nil ⟨_, _, ⟨rfl, rfl⟩, ?_⟩
      simpa [lineOf] using st
    · rintro ρ1 own1 s' ⟨rfl, rfl⟩ st
      have st := st.freeze
      refine st.ret ra (d := wishesD (lineOf ws)) (by walk_at "ev") fun v s1 k1 r1 => ?_
      exact k _ _ _ (.inl rfl) k1 r1
end
section -- F23
set_option maxHeartbeats 2000000
theorem bisGo_ge (less : Nat → Bool) (k : Nat) : ∀ {lo hi : Nat}, lo ≤ bisGo less k lo hi := by
  induction k with
  | zero => exact Nat.le_refl _
  | succ k ih =>
    intro lo hi
    rw [bisGo_succ]
    split
    · split
      · exact Nat.le_trans (by omega) ih
      · exact ih
    · exact Nat.le_refl _
theorem bisLoop_ge (less : Nat → Bool) {lo hi : Nat} : lo ≤ bisLoop less lo hi := bisGo_ge _ _
theorem map_erase {α β : Type} (f : α → β) : ∀ (l : List α) (i : Nat), (l.map f).eraseIdx i = (l.eraseIdx i).map f
  | [], _ => rfl
  | _ :: _, 0 => rfl
  | x :: r, i + 1 => by simp [map_erase f r i]
noncomputable def bisI (ks : List Int) (x : Int) (lo hi : Nat) : Nat := bisLoop (fun i => decide (ks.getD i 0 < x)) lo hi
noncomputable def seatStep (st : List Int × Nat × Nat) (w : Wish) : List Int × Nat × Nat :=
  if bisI st.1 w.b st.2.1 st.2.2 < bisI st.1 w.e st.2.1 st.2.2 then
    (insD (st.1.eraseIdx (bisI st.1 w.b st.2.1 st.2.2)) (if w.l then st.2.1 else (st.1.eraseIdx (bisI st.1 w.b st.2.1 st.2.2)).length) (st.1.getD (bisI st.1 w.b st.2.1 st.2.2) 0), if w.l then (st.2.1 + 1, st.2.2) else (st.2.1, st.2.2 - 1))
  else st
noncomputable def seats (ws : List Wish) (ms : List Int) : List Int × Nat × Nat := ws.foldl seatStep (ms, 0, ms.length)
noncomputable def keptStep (ms : List Int) (st : List Wish × List Wish × List Int) (w : Wish) : List Wish × List Wish × List Int :=
  if (seats (insD st.1 (posRight Wish.e st.1 w) w) ms).2.1 + ms.length = (insD st.1 (posRight Wish.e st.1 w) w).length + (seats (insD st.1 (posRight Wish.e st.1 w) w) ms).2.2 then
    (insD st.1 (posRight Wish.e st.1 w) w, st.2.1 ++ [w], ((seats (insD st.1 (posRight Wish.e st.1 w) w) ms).1.drop (seats (insD st.1 (posRight Wish.e st.1 w) w) ms).2.1).take ((seats (insD st.1 (posRight Wish.e st.1 w) w) ms).2.2 - (seats (insD st.1 (posRight Wish.e st.1 w) w) ms).2.1))
  else st
noncomputable def keptOf (line : List Wish) (ms : List Int) : List Wish × List Wish × List Int := line.foldl (keptStep ms) ([], [], ms)
noncomputable def SeatOk (n : Nat) (st : List Int × Nat × Nat) : Prop := st.2.1 ≤ st.2.2 ∧ st.2.2 ≤ n ∧ st.1.length = n
theorem seat_ok {n st w} (h : SeatOk n st) : SeatOk n (seatStep st w) := by
  obtain ⟨h1, h2, h3⟩ := h
  unfold seatStep
  split
  · rename_i hlt
    have b1 : st.2.1 ≤ bisI st.1 w.b st.2.1 st.2.2 := bisLoop_ge _
    have b2 : bisI st.1 w.e st.2.1 st.2.2 ≤ st.2.2 := bisLoop_le _ h1
    have hp := Nat.lt_of_lt_of_le hlt b2
    have hl := Nat.lt_of_le_of_lt b1 hp
    have hn : bisI st.1 w.b st.2.1 st.2.2 < st.1.length := h3 ▸ Nat.lt_of_lt_of_le hp h2
    have e : (st.1.eraseIdx (bisI st.1 w.b st.2.1 st.2.2)).length + 1 = n := by rw [List.length_eraseIdx, if_pos hn, Nat.sub_add_cancel (Nat.lt_of_le_of_lt (Nat.zero_le _) hn)]; exact h3
    cases hw : w.l with
    | true => exact ⟨hl, h2, (insD_len (k := st.2.1) (Nat.le_of_lt_succ (Nat.lt_of_lt_of_eq (Nat.lt_of_lt_of_le hl h2) e.symm))).trans e⟩
    | false => exact ⟨Nat.le_sub_one_of_lt hl, Nat.le_trans (Nat.sub_le _ _) h2, (insD_len (Nat.le_refl _)).trans e⟩
  · exact ⟨h1, h2, h3⟩
theorem seats_ok {n} : ∀ (ws : List Wish) {st}, SeatOk n st → SeatOk n (ws.foldl seatStep st)
  | [], _, h => h
  | w :: r, _, h => seats_ok r (seat_ok h)
theorem kept_step_len (ms : List Int) (st) (w) : (keptStep ms st w).1.length ≤ st.1.length + 1 ∧ (keptStep ms st w).2.1.length ≤ st.2.1.length + 1 := by
  unfold keptStep
  split
  · exact ⟨Nat.le_of_eq (insD_len posRight_le), by simp⟩
  · exact ⟨Nat.le_succ _, Nat.le_succ _⟩
theorem kept_len (ms : List Int) (ws : List Wish) : ∀ (st), (ws.foldl (keptStep ms) st).1.length ≤ st.1.length + ws.length ∧ (ws.foldl (keptStep ms) st).2.1.length ≤ st.2.1.length + ws.length := by
  induction ws with
  | nil => exact fun st => ⟨Nat.le_refl _, Nat.le_refl _⟩
  | cons w r ih =>
    intro st
    have h1 := ih (keptStep ms st w)
    have h2 := kept_step_len ms st w
    exact ⟨Nat.le_trans h1.1 (Nat.le_trans (Nat.add_le_add_right h2.1 _) (Nat.le_of_eq (Nat.add_right_comm _ 1 _))), Nat.le_trans h1.2 (Nat.le_trans (Nat.add_le_add_right h2.2 _) (Nat.le_of_eq (Nat.add_right_comm _ 1 _)))⟩
theorem len2 {α : Type} (l : List α) (h : l.length = 2) : ∃ a b, l = [a, b] := by
  rcases l with _ | ⟨a, _ | ⟨b, _ | ⟨c, l⟩⟩⟩
  all_goals first | exact ⟨_, _, rfl⟩ | (exfalso; simp at h)
theorem ev_end (C : Cx) (env : Env) (u : Wish) (p1 p2 p3 : Pos) (i0) : Ev C 0 env [(Str.ofString "one", wishD u)] (.Subscript (.Name (Str.ofString "one") p1) (.Constant (.int 1) i0 p2) p3) (.int u.e) := by
  walk_at "ev"
noncomputable abbrev keptI (line : List Wish) (ms : List Int) (i : Nat) (ρ : Names) (own : Own) : Prop := own = [] ∧ ρ = ([("line", wishesD line), ("marks", intsD ms), ("crowd", wishesD ((line.take i).foldl (keptStep ms) ([], [], ms)).1), ("kept", wishesD ((line.take i).foldl (keptStep ms) ([], [], ms)).2.1), ("left", intsD ((line.take i).foldl (keptStep ms) ([], [], ms)).2.2)] : Names)
noncomputable abbrev keptB (line : List Wish) (ms : List Int) (ρ : Names) (own : Own) : Prop := own = [] ∧ ρ = ([("line", wishesD line), ("marks", intsD ms), ("crowd", wishesD (keptOf line ms).1), ("kept", wishesD (keptOf line ms).2.1), ("left", intsD (keptOf line ms).2.2)] : Names)
noncomputable abbrev seatI (trial line crowd kept : List Wish) (ms left : List Int) (w : Wish) (a2 : Addr) (j : Nat) (ρ : Names) (own : Own) : Prop := own = [(Str.ofString "marked", a2, ((trial.take j).foldl seatStep (ms, 0, ms.length)).1.map .int)] ∧ ρ = ([("trial", wishesD trial), ("line", wishesD line), ("marks", intsD ms), ("crowd", wishesD crowd), ("kept", wishesD kept), ("left", intsD left), ("wish", wishD w), ("low", .int ((trial.take j).foldl seatStep (ms, 0, ms.length)).2.1), ("high", .int ((trial.take j).foldl seatStep (ms, 0, ms.length)).2.2)] : Names)
noncomputable abbrev seatB (trial line crowd kept : List Wish) (ms left : List Int) (w : Wish) (a2 : Addr) (ρ : Names) (own : Own) : Prop := own = [(Str.ofString "marked", a2, (seats trial ms).1.map .int)] ∧ ρ = ([("trial", wishesD trial), ("line", wishesD line), ("marks", intsD ms), ("crowd", wishesD crowd), ("kept", wishesD kept), ("left", intsD left), ("wish", wishD w), ("low", .int (seats trial ms).2.1), ("high", .int (seats trial ms).2.2)] : Names)
theorem pf_kept {C : Cx} (G : Glb C) (line : List Wish) (ms : List Int) (hk : line.length ≤ 100) (hm : ms.length ≤ 100) : PFn C 4 (.ref 258) [wishesD line, intsD ms] (.tuple [wishesD (keptOf line ms).2.1, intsD (keptOf line ms).2.2]) := by
  obtain ⟨-, doc, pm, D⟩ := G.fn 23 258 _ _ (by walk_at "has")
  refine PFn.of_def (xs := ["line", "marks"]) D rfl rfl rfl ?_ (by decide +kernel) ?_ ?_
  · exact all2 fun v w => by kernel_rfl!
  · intro L x hx
    simp only [List.mem_cons, List.not_mem_nil, or_false] at hx
    rcases hx with rfl | rfl <;> exact .inl rfl
  · intro A s₀ pvc L s env he ra st Q E k
    subst he
    conv in (bdI 23) => whnf
    have st : St C A s₀ pvc _ [("line", wishesD line), ("marks", intsD ms)] [] s := st
    refine st.assignSwap (xs := ["crowd", "kept", "left"]) (ds := [.list [], .list [], intsD ms]) ra (by walk_at "ev") rfl (by decide +kernel) (by walk_at "ownall") (by walk_at "upds") (by walk_at "none") fun s1 st => ?_
    refine st.for (ds := line.map wishD) (keptI line ms)
      (keptB line ms) ra (.list (.nam (by walk_at "has"))) ⟨rfl, rfl⟩ ?_ ?_ ?_
    · rintro i d hd ρ1 own1 ⟨rfl, rfl⟩
      obtain ⟨w, hw, rfl⟩ : ∃ w, line[i]? = some w ∧ wishD w = d := by simpa using hd
      have hcl := kept_len ms (line.take i) ([], [], ms)
      generalize hst : (line.take i).foldl (keptStep ms) ([], [], ms) = sti at hcl
      obtain ⟨crowd, kept, left⟩ := sti
      have htl : (line.take i).length ≤ 100 := by simp; omega
      have hc1 : crowd.length ≤ 100 := by simp at hcl; omega
      have hc2 : kept.length ≤ 100 := by simp at hcl; omega
      refine ⟨[("wish", wishD w)], _, .name (by walk_at "ownn"), (by walk_at "upds"), (by walk_at "ownt"), rfl, fun s₁ σ st E => ?_⟩
      have hss : sizeLine = 16777216 := rfl
      have hss : sizeLine = 16777216 := rfl
      have hli := G.bi "list" (.type "list") (by walk_at "has")
      have hle := G.bi "len" (.builtin "len") (by walk_at "has")
      refine st.assignTupX (xs := ["trial", "marked", "low", "high"]) (its := [.own (crowd.map wishD), .own (ms.map .int), .dat (.int 0), .dat (.int ms.length)])
        (ρ' := ([("line", wishesD line), ("marks", intsD ms), ("crowd", wishesD crowd), ("kept", wishesD kept), ("left", intsD left), ("wish", wishD w), ("low", .int 0), ("high", .int ms.length)] : Names)) ra ?_ (.cons (.cons (.cons (.cons .nil)))) rfl (len_ok (by kernel_rfl!)) (by decide +kernel) (by walk_at "ownall") (by walk_at "xnames") (by walk_at "none") (fun as s2 has st => ?_)
      · refine EvsX.fresh (EvF.copy (by walk_at "ev") (by rw [List.length_map]; omega) hli.1 hli.2) (EvsX.fresh (EvF.copy (by walk_at "ev") (by rw [List.length_map]; omega) hli.1 hli.2) (EvsX.dat (by walk_at "ev") (EvsX.dat ?_ EvsX.nil)))
        have e : (ms.length : Int) = ((ms.map PyData.int).length : Int) := by rw [List.length_map]
        rw [e]
        exact Ev.callB (.cons (d := intsD ms) (by walk_at "ev") .nil) (pf_len (by rw [List.length_map]; omega)) hle.1 hle.2
      · obtain ⟨a1, a2, rfl⟩ := len2 as has
        have st : St C A s₁ pvc _ _ [(Str.ofString "trial", a1, crowd.map wishD), (Str.ofString "marked", a2, ms.map .int)] s2 := st
        refine st.insort G insRight (o1 := []) (o2 := [(Str.ofString "marked", a2, ms.map .int)]) (kf := Wish.e) (ws := crowd) (w := w) ra (by walk_at "ev") (G.maker 257 253 _ (by walk_at "has") rfl (by decide) (by decide +kernel)) (by omega) (G.at 2 30 (.ref 22) (.ref 23) (by walk_at "has")).1 (G.at 2 30 (.ref 22) (.ref 23) (by walk_at "has")).2 (fun C' env' u => ev_end C' env' u _ _ _ _)
          (fun s3 st => ?_) ?_ rfl (by with_unfolding_all rfl) (by with_unfolding_all rfl) (by kernel_rfl!)
        · generalize htr : insD crowd (posRight Wish.e crowd w) w = trial at st
          have hlt : trial.length = crowd.length + 1 := by rw [← htr, insD_len posRight_le]
          have st : St C A s₁ pvc _ _ [(Str.ofString "trial", a1, trial.map wishD), (Str.ofString "marked", a2, ms.map .int)] s3 := st
          have st := st.freeze
          have h0 : SeatOk ms.length (ms, 0, ms.length) := ⟨Nat.zero_le _, Nat.le_refl _, rfl⟩
          refine st.for (ds := trial.map wishD) (seatI trial line crowd kept ms left w a2)
            (seatB trial line crowd kept ms left w a2) ra (.list (.nam (by walk_at "has"))) ⟨rfl, rfl⟩ ?_ ?_ ?_
          · rintro j d hd ρ1 own1 ⟨rfl, rfl⟩
            obtain ⟨u, hu, rfl⟩ : ∃ u, trial[j]? = some u ∧ wishD u = d := by simpa using hd
            have hok := seats_ok (n := ms.length) (trial.take j) h0
            have hnext : (trial.take (j + 1)).foldl seatStep (ms, 0, ms.length) = seatStep ((trial.take j).foldl seatStep (ms, 0, ms.length)) u := by rw [List.take_add_one, hu, Option.toList_some, List.foldl_append]; rfl
            generalize (trial.take j).foldl seatStep (ms, 0, ms.length) = sj at hok hnext
            obtain ⟨mk, lo, hi⟩ := sj
            obtain ⟨ho1, ho2, ho3⟩ := hok
            simp only at ho1 ho2 ho3
            refine ⟨[("begin", .int u.b), ("end", .int u.e), ("depth", .int u.d), ("lasti", .bool u.l), ("turn", .int u.t)], _, .tup (.cons (by walk_at "ownn") (by walk_at "upnot") (.cons (by walk_at "ownn") (by walk_at "upnot") (.cons (by walk_at "ownn") (by walk_at "upnot") (.cons (by walk_at "ownn") (by walk_at "upnot") (.cons (by walk_at "ownn") (by walk_at "upnot") .nil))))), (by walk_at "upds"), (by walk_at "ownt"), rfl, fun s₂ σ2 st E => ?_⟩
            have hbl := G.at 5 57 (.ref 49) (.ref 50) (by walk_at "has")
            refine st.assignF ra (d := .int (bisI mk u.b lo hi)) ?_ rfl (by walk_at "upd") (by walk_at "owno") (fun s4 st => ?_) (by walk_at "ownn")
            · exact Ev.callF (.cons (d := intsD mk) (by walk_at "ev") (.cons (d := .int u.b) (by walk_at "ev") (.cons (d := .int lo) (by walk_at "ev") (.cons (d := .int hi) (by walk_at "ev") .nil)))) (pf_bisect_left G mk u.b lo hi (by omega) (by omega)) hbl.1 hbl.2
            refine st.ifs ra (b := decide ((bisI mk u.b lo hi : Int) < (bisI mk u.e lo hi : Int))) ?_ (fun hlt' s5 st => ?_) (fun hge' s5 st => ?_)
            · refine Tst.cmp (x := .int (bisI mk u.b lo hi)) (y := .int (bisI mk u.e lo hi)) (by walk_at "ev") ?_ (.lt _ _)
              exact Ev.callF (.cons (d := intsD mk) (by walk_at "ev") (.cons (d := .int u.e) (by walk_at "ev") (.cons (d := .int lo) (by walk_at "ev") (.cons (d := .int hi) (by walk_at "ev") .nil)))) (pf_bisect_left G mk u.e lo hi (by omega) (by omega)) hbl.1 hbl.2
            · have hlt' : bisI mk u.b lo hi < bisI mk u.e lo hi := by have := of_decide_eq_true hlt'; omega
              have b1 : lo ≤ bisI mk u.b lo hi := bisLoop_ge _
              have b2 : bisI mk u.e lo hi ≤ hi := bisLoop_le _ ho1
              have el : (mk.eraseIdx (bisI mk u.b lo hi)).length = ms.length - 1 := by rw [List.length_eraseIdx, if_pos (by omega)]; omega
              have hget : (mk.map PyData.int)[bisI mk u.b lo hi]? = some (.int (mk.getD (bisI mk u.b lo hi) 0)) := by
                have : bisI mk u.b lo hi < mk.length := by omega
                rw [List.getElem?_map, List.getD_eq_getElem?_getD]
                simp [List.getElem?_eq_getElem this]
              refine St.popAt (o1 := []) (o2 := []) (i := bisI mk u.b lo hi) (d := .int (mk.getD (bisI mk u.b lo hi) 0)) st ra (.inl (by walk_at "ev")) hget rfl (by rw [List.length_map]; show mk.length ≤ sizeLine; omega) (by walk_at "upd") (by walk_at "owno") (fun s6 st => ?_) (by walk_at "ownn")
              have em : (mk.map PyData.int).eraseIdx (bisI mk u.b lo hi) = (mk.eraseIdx (bisI mk u.b lo hi)).map PyData.int := map_erase _ _ _
              rw [em] at st
              generalize hmk' : mk.eraseIdx (bisI mk u.b lo hi) = mk' at st el
              generalize hmm : mk.getD (bisI mk u.b lo hi) 0 = mm at st
              refine St.insert (o1 := []) (o2 := []) (i := if u.l then lo else mk'.length) (d := .int mm) st ra (.inr ⟨rfl, ?_⟩) (.inl (by walk_at "ev")) (by rw [List.length_map]; split <;> omega) (by rw [List.length_map]; omega) fun s7 st => ?_
              · refine Ev.ite (b := u.l) (by walk_at "tst") (fun hb => ?_) (fun hb => ?_)
                · rw [if_pos hb]; walk_at "ev"
                · rw [if_neg (by rw [hb]; decide)]
                  have e : (mk'.length : Int) = ((mk'.map PyData.int).length : Int) := by rw [List.length_map]
                  rw [e]
                  exact Ev.callB (.cons (d := intsD mk') (by walk_at "ev") .nil) (pf_len (by rw [List.length_map]; omega)) hle.1 hle.2
              have ei : insD (mk'.map PyData.int) (if u.l = true then lo else mk'.length) (.int mm) = (insD mk' (if u.l = true then lo else mk'.length) mm).map PyData.int := by simp [insD, List.map_take, List.map_drop]
              rw [ei] at st
              refine st.assignTup (ρt := [("low", .int (if u.l then lo + 1 else lo : Nat)), ("high", .int (if u.l then hi else hi - 1 : Nat))]) (ds := [.int (if u.l then lo + 1 else lo : Nat), .int (if u.l then hi else hi - 1 : Nat)]) ra ?_ (.cons (by walk_at "ownn") (by walk_at "upnot") (.cons (by walk_at "ownn") (by walk_at "upnot") .nil)) (by walk_at "upds") (by walk_at "ownt") (fun s8 st => ?_)
              · refine Ev.ite (b := u.l) (by walk_at "tst") (fun hb => ?_) (fun hb => ?_)
                · rw [if_pos hb, if_pos hb, Int.natCast_add]; walk_at "ev"
                · rw [if_neg (by rw [hb]; decide), if_neg (by rw [hb]; decide)]
                  have e : ((hi - 1 : Nat) : Int) = (hi : Int) - 1 := by omega
                  rw [e]; walk_at "ev"
              have hss2 : seatStep (mk, lo, hi) u = (insD mk' (if u.l = true then lo else mk'.length) mm, if u.l then lo + 1 else lo, if u.l then hi else hi - 1) := by
                subst hmk' hmm
                unfold seatStep
                rw [if_pos hlt']
                cases u.l <;> rfl
              refine wpAny_execs_nil (wpAny_execs_nil ⟨_, _, ⟨rfl, rfl⟩, rfl, ?_⟩)
              rw [hnext, hss2]
              exact st.weak (by walk_at "weak")
            · have hge' : ¬ bisI mk u.b lo hi < bisI mk u.e lo hi := by have := of_decide_eq_false hge'; omega
              have hss2 : seatStep (mk, lo, hi) u = (mk, lo, hi) := by unfold seatStep; rw [if_neg hge']
              refine wpAny_execs_nil (wpAny_execs_nil ⟨_, _, ⟨rfl, rfl⟩, rfl, ?_⟩)
              rw [hnext, hss2]
              exact st.weak (by walk_at "weak")
          · rintro ρ1 own1 s' ⟨rfl, rfl⟩ st E
            refine wpAny_execs_nil ⟨_, _, ⟨rfl, rfl⟩, ?_⟩
            simpa [seats] using st
          · rintro ρ1 own1 s' ⟨rfl, rfl⟩ st
            have hok : SeatOk ms.length (seats trial ms) := seats_ok trial h0
            generalize hse : seats trial ms = se at st hok
            obtain ⟨mk, lo, hi⟩ := se
            obtain ⟨ho1, ho2, ho3⟩ := hok
            simp only at ho1 ho2 ho3 st
            refine st.ifs ra (b := decide (((lo : Int) + ms.length) - hi = trial.length)) ?_ (fun hy s5 st => ?_) (fun hn s5 st => ?_)
            · refine Tst.cmp (x := .int ((lo : Int) + ms.length - hi)) (y := .int trial.length) ?_ ?_ (.eq _ _ (by rfl) (by rfl))
              · have e : (ms.length : Int) = ((ms.map PyData.int).length : Int) := by rw [List.length_map]
                rw [e]
                refine Ev.bin (x := .int ((lo : Int) + ((ms.map PyData.int).length : Int))) (y := .int hi) (Ev.bin (x := .int lo) (y := .int ((ms.map PyData.int).length : Int)) (by walk_at "ev") (Ev.callB (.cons (d := intsD ms) (by walk_at "ev") .nil) (pf_len (by rw [List.length_map]; omega)) hle.1 hle.2) (.add _ _)) (by walk_at "ev") (.sub _ _)
              · have e : (trial.length : Int) = ((trial.map wishD).length : Int) := by rw [List.length_map]
                rw [e]
                exact Ev.callB (.cons (d := wishesD trial) (by walk_at "ev") .nil) (pf_len (by rw [List.length_map]; omega)) hle.1 hle.2
            · have hy : lo + ms.length = trial.length + hi := by have := of_decide_eq_true hy; omega
              have st := st.freeze
              have hks : keptStep ms (crowd, kept, left) w = (trial, kept ++ [w], (mk.drop lo).take (hi - lo)) := by
                unfold keptStep
                simp only [htr, hse, hy, if_true]
              refine st.assignSwap (xs := ["crowd", "left", "kept"]) (ds := [wishesD trial, intsD ((mk.drop lo).take (hi - lo)), wishesD (kept ++ [w])]) ra ?_ rfl (by decide +kernel) (by walk_at "ownall") (by walk_at "upds") (by walk_at "none") fun s6 st => ?_
              · refine Ev.tup (.cons (by walk_at "ev") (.cons ?_ (.cons ?_ .nil))) (len_ok (by kernel_rfl!))
                · show Ev _ _ _ _ _ (.list (List.map PyData.int _))
                  rw [List.map_take, List.map_drop]
                  exact Ev.sliceRun (by walk_at "ev") (by walk_at "ev") (by walk_at "ev") ho1 (by rw [List.length_map]; omega) (by rw [List.length_map]; omega)
                · show Ev _ _ _ _ _ (.list (List.map wishD _))
                  rw [List.map_append]
                  exact Ev.bin (x := wishesD kept) (y := .list [wishD w]) (by walk_at "ev") (by walk_at "ev") (.cat _ _ (by rw [List.length_map]; simp; omega))
              refine wpAny_execs_nil (wpAny_execs_nil ⟨_, _, ⟨rfl, rfl⟩, rfl, ?_⟩)
              rw [List.take_add_one, hw, Option.toList_some, List.foldl_append, hst, List.foldl_cons, List.foldl_nil, hks]
              exact st.weak (by walk_at "weak")
            · have hn : ¬ lo + ms.length = trial.length + hi := by have := of_decide_eq_false hn; omega
              have hks : keptStep ms (crowd, kept, left) w = (crowd, kept, left) := by
                unfold keptStep
                simp only [htr, hse, hn, if_false]
              refine wpAny_execs_nil (wpAny_execs_nil ⟨_, _, ⟨rfl, rfl⟩, rfl, ?_⟩)
              rw [List.take_add_one, hw, Option.toList_some, List.foldl_append, hst, List.foldl_cons, List.foldl_nil, hks]
              exact (st.drop).weak (by walk_at "weak")
        · intro v pm' cdv ct; kernel_rfl!
    · rintro ρ1 own1 s' ⟨rfl, rfl⟩ st E
      refine wpAny_execs_nil ⟨_, _, ⟨rfl, rfl⟩, ?_⟩
      simpa [keptOf] using st
    · rintro ρ1 own1 s' ⟨rfl, rfl⟩ st
      refine st.ret ra (d := .tuple [wishesD (keptOf line ms).2.1, intsD (keptOf line ms).2.2]) (by walk_at "ev") fun v s1 k1 r1 => ?_
      exact k _ _ _ (.inl rfl) k1 r1
end
section -- F24
set_option maxHeartbeats 2000000
noncomputable def belowN (ms : List Int) (k : Nat) : Nat := ((List.range k).filter fun (p : Nat) => ms.any (· == (p : Int))).length
theorem belowN_succ (ms : List Int) (k : Nat) : belowN ms (k + 1) = belowN ms k + (if ms.any (· == (k : Int)) then 1 else 0) := by
  unfold belowN
  rw [List.range_succ, List.filter_append, List.length_append]
  congr 1
  rw [List.filter_cons]
  split <;> simp
noncomputable def belowL (ms : List Int) (k : Nat) : List Int := (List.range (k + 1)).map fun j => (belowN ms j : Int)
theorem belowL_succ (ms : List Int) (k : Nat) : belowL ms (k + 1) = belowL ms k ++ [(belowN ms (k + 1) : Int)] := by
  unfold belowL
  rw [List.range_succ (n := k + 1), List.map_append]; rfl
theorem belowL_len (ms : List Int) (k : Nat) : (belowL ms k).length = k + 1 := by simp [belowL]
theorem belowL_get (ms : List Int) (k j : Nat) (h : j ≤ k) : (belowL ms k).getD j 0 = (belowN ms j : Int) := by
  have : j < k + 1 := by omega
  simp [belowL, List.getD_eq_getElem?_getD, List.getElem?_range this]
noncomputable def cntIn (ks : List Wish) (l h : Int) : Nat := (ks.filter fun u => decide (l ≤ u.b) && decide (u.e ≤ h)).length
noncomputable def lowsOf (ks : List Wish) (w : Wish) : List Int := ((ks ++ [w]).filter fun u => decide (u.b ≤ w.b)).map (·.b)
noncomputable def highsOf (ks : List Wish) (w : Wish) : List Int := ((ks ++ [w]).filter fun u => decide (w.e ≤ u.e)).map (·.e)
noncomputable def fullOf (ms : List Int) (ks : List Wish) (w : Wish) : List Int := (lowsOf ks w).flatMap fun l => (highsOf ks w).flatMap fun h => if decide ((belowN ms h.toNat : Int) - belowN ms l.toNat ≤ cntIn ks l h) = true then [1] else []
noncomputable def winStep (ms : List Int) (ks : List Wish) (w : Wish) : List Wish := if (fullOf ms ks w).isEmpty then ks ++ [w] else ks
noncomputable def winOf (line : List Wish) (ms : List Int) : List Wish := line.foldl (winStep ms) []
theorem win_len (ms : List Int) : ∀ (ws l : List Wish), (ws.foldl (winStep ms) l).length ≤ l.length + ws.length
  | [], l => Nat.le_refl _
  | w :: r, l => by
    have := win_len ms r (winStep ms l w)
    have h2 : (winStep ms l w).length ≤ l.length + 1 := by unfold winStep; split <;> simp
    rw [List.foldl_cons, List.length_cons]; omega
theorem win_sub (ms : List Int) : ∀ (ws l : List Wish), ∀ u ∈ ws.foldl (winStep ms) l, u ∈ l ∨ u ∈ ws
  | [], l, u, h => .inl h
  | w :: r, l, u, h => by
    rcases win_sub ms r _ u h with h | h
    · unfold winStep at h
      split at h
      · rcases List.mem_append.mp h with h | h
        · exact .inl h
        · simp at h; exact .inr (h ▸ List.mem_cons_self)
      · exact .inl h
    · exact .inr (List.mem_cons_of_mem _ h)
noncomputable def InR (w : Wish) : Prop := 0 ≤ w.b ∧ w.b ≤ 32 ∧ 0 ≤ w.e ∧ w.e ≤ 32
noncomputable abbrev belowI (line : List Wish) (ms : List Int) (a : Addr) (i : Nat) (ρ : Names) (own : Own) : Prop := own = [(Str.ofString "below", a, (belowL ms i).map .int)] ∧ ρ = ([("line", wishesD line), ("marks", intsD ms), ("kept", .list [])] : Names)
noncomputable abbrev belowB (line : List Wish) (ms : List Int) (a : Addr) (ρ : Names) (own : Own) : Prop := own = [(Str.ofString "below", a, (belowL ms 32).map .int)] ∧ ρ = ([("line", wishesD line), ("marks", intsD ms), ("kept", .list [])] : Names)
noncomputable abbrev winI (line : List Wish) (ms : List Int) (i : Nat) (ρ : Names) (own : Own) : Prop := own = [] ∧ ρ = ([("below", intsD (belowL ms 32)), ("line", wishesD line), ("marks", intsD ms), ("kept", wishesD ((line.take i).foldl (winStep ms) []))] : Names)
noncomputable abbrev winB (line : List Wish) (ms : List Int) (ρ : Names) (own : Own) : Prop := own = [] ∧ ρ = ([("below", intsD (belowL ms 32)), ("line", wishesD line), ("marks", intsD ms), ("kept", wishesD (winOf line ms))] : Names)
theorem pf_windows {C : Cx} (G : Glb C) (line : List Wish) (ms : List Int) (hk : line.length ≤ 100) (hm : ms.length ≤ 100) (hr : ∀ w ∈ line, InR w) : PFn C 3 (.ref 263) [wishesD line, intsD ms] (wishesD (winOf line ms)) := by
  obtain ⟨-, doc, pm, D⟩ := G.fn 24 263 _ _ (by walk_at "has")
  refine PFn.of_def (xs := ["line", "marks"]) D rfl rfl rfl ?_ (by decide +kernel) ?_ ?_
  · exact all2 fun v w => by kernel_rfl!
  · intro L x hx
    simp only [List.mem_cons, List.not_mem_nil, or_false] at hx
    rcases hx with rfl | rfl <;> exact .inl rfl
  · intro A s₀ pvc L s env he ra st Q E k
    subst he
    conv in (bdI 24) => whnf
    have st : St C A s₀ pvc _ [("line", wishesD line), ("marks", intsD ms)] [] s := st
    have hss : sizeLine = 16777216 := rfl
    refine st.assignTupX (xs := ["below", "kept"]) (its := [.own [.int 0], .dat (.list [])]) (ρ' := ([("line", wishesD line), ("marks", intsD ms), ("kept", .list [])] : Names)) ra
      (EvsX.fresh (EvF.lst (.cons (d := .int 0) (by walk_at "ev") .nil) (len_ok (by kernel_rfl!))) (EvsX.dat (Ev.lst .nil (len_ok (by kernel_rfl!))) EvsX.nil)) (.cons (.cons .nil)) rfl (len_ok (by kernel_rfl!)) (by decide +kernel) (by walk_at "ownall") (by walk_at "xnames") (by walk_at "none") (fun as s1 has st => ?_)
    obtain ⟨a, rfl⟩ : ∃ a, as = [a] := List.length_eq_one_iff.mp has
    have st : St C A s₀ pvc _ _ [(Str.ofString "below", a, (belowL ms 0).map .int)] s1 := st
    refine st.for (ds := rangeD 0 1 32) (belowI line ms a)
      (belowB line ms a) ra (.range1 G.range (N := 32) (by walk_at "ev") (by decide)) ⟨rfl, rfl⟩ ?_ ?_ ?_
    · rintro i d hd ρ1 own1 ⟨rfl, rfl⟩
      have hi : i < 32 := by
        have := (List.getElem?_eq_some_iff.mp hd).1
        simpa [rangeD] using this
      obtain rfl : PyData.int i = d := by
        have : (rangeD 0 1 32)[i]? = some (.int (0 + (i : Int) * 1)) := by simp [rangeD, List.getElem?_range hi]
        rw [this] at hd
        simpa using hd
      refine ⟨[("place", .int i)], _, .name (by walk_at "ownn"), (by walk_at "upds"), (by walk_at "ownt"), rfl, fun s₁ σ st E => ?_⟩
      refine St.append (o1 := []) (o2 := []) (d := .int (belowN ms (i + 1))) st ra (.inr ⟨rfl, ?_⟩) (by rw [List.length_map, belowL_len]; omega) fun s2 st => wpAny_execs_nil ⟨_, [(Str.ofString "below", a, (belowL ms i).map PyData.int ++ [PyData.int (belowN ms (i + 1))])], ⟨?_, rfl⟩, rfl, st.weak (ρ' := ([("line", wishesD line), ("marks", intsD ms), ("kept", .list [])] : Names)) (by walk_at "weak")⟩
      · rw [belowN_succ, Int.natCast_add]
        refine Ev.bin (x := .int (belowN ms i)) (y := .int ((if (ms.any (· == (i : Int))) = true then 1 else 0 : Nat) : Int)) (Ev.itm (d := .list ((belowL ms i).map .int)) (i := -1) (by walk_at "ev") (by walk_at "ev") ?_) ?_ (.add _ _)
        · refine .list (k := i) ?_ ?_ (by decide) (by decide)
          · rw [List.length_map, belowL_len]
            have := PySem.seqIndex_neg (k := -1) (n := i + 1) (by decide) (by omega)
            rw [this]; congr 1; omega
          · rw [List.getElem?_map]
            have h1 := belowL_get ms i i (Nat.le_refl _)
            rw [List.getD_eq_getElem?_getD] at h1
            have h2 : i < (belowL ms i).length := by rw [belowL_len]; omega
            rw [List.getElem?_eq_getElem h2] at h1 ⊢
            simp at h1 ⊢; exact h1
        · refine Ev.ite (b := ms.any (· == (i : Int))) (Tst.cmp (by walk_at "ev") (by walk_at "ev") (.isIn _ _)) (fun q => ?_) (fun q => ?_)
          · rw [if_pos q]; walk_at "ev"
          · rw [if_neg (by rw [q]; decide)]; walk_at "ev"
      · show _ = [(_, _, (belowL ms (i + 1)).map PyData.int)]
        rw [belowL_succ, List.map_append]; rfl
    · rintro ρ1 own1 s' ⟨rfl, rfl⟩ st E
      exact wpAny_execs_nil ⟨_, _, ⟨rfl, rfl⟩, st⟩
    · rintro ρ1 own1 s' ⟨rfl, rfl⟩ st
      have st := st.freeze
      have hle := G.bi "len" (.builtin "len") (by walk_at "has")
      refine st.for (ds := line.map wishD) (winI line ms)
        (winB line ms) ra (.list (.nam (by walk_at "has"))) ⟨rfl, rfl⟩ ?_ ?_ ?_
      · rintro i d hd ρ1 own1 ⟨rfl, rfl⟩
        obtain ⟨w, hw, rfl⟩ : ∃ w, line[i]? = some w ∧ wishD w = d := by simpa using hd
        have hwr := hr w (List.mem_of_getElem? hw)
        have hlen := win_len ms (line.take i) []
        have hsub := win_sub ms (line.take i) []
        generalize hst : (line.take i).foldl (winStep ms) [] = ks at hlen hsub
        have hkl : ks.length ≤ 100 := by simp at hlen; omega
        have hkr : ∀ u ∈ ks ++ [w], InR u := fun u hu => by
          rcases List.mem_append.mp hu with hu | hu
          · rcases hsub u hu with h | h
            · cases h
            · exact hr u (List.mem_of_mem_take h)
          · simp at hu; exact hu ▸ hwr
        refine ⟨[("wish", wishD w)], _, .name (by walk_at "ownn"), (by walk_at "upds"), (by walk_at "ownt"), rfl, fun s₁ σ st E => ?_⟩
        have ekw : wishesD (ks ++ [w]) = .list (ks.map wishD ++ [wishD w]) := by simp
        refine st.assignComp (ks ++ [w]) wishD (fun u => if decide (u.b ≤ w.b) = true then [.int u.b] else []) (ρf := [("wish", wishD w)]) ra (.list ?_) (by walk_at "frees") (by simp; omega) (fun u hu => ?_) (by walk_at "upd") (by walk_at "none") (fun s2 st => ?_) (by walk_at "ownn")
        · show Ev _ _ _ _ _ (wishesD (ks ++ [w]))
          rw [ekw]
          exact Ev.bin (x := wishesD ks) (y := .list [wishD w]) (by walk_at "ev") (by walk_at "ev") (.cat _ _ (by rw [List.length_map]; simp; omega))
        · refine ⟨[("one", wishD u)], decide (u.b ≤ w.b), .int u.b, fun L => .name (by walk_at "ownn"), fun L => ?_, fun _ L => by walk_at "ev", rfl⟩
          show Tst _ _ _ _ _ _
          walk_at "tst"
        rw [flat_if (ks ++ [w]) (fun u => decide (u.b ≤ w.b)) (fun u => PyData.int u.b)] at st
        have el : ((ks ++ [w]).filter fun u => decide (u.b ≤ w.b)).map (fun u => PyData.int u.b) = (lowsOf ks w).map .int := by simp [lowsOf, List.map_map, Function.comp_def]
        rw [el] at st
        refine st.assign ra (d := intsD (highsOf ks w)) ?_ (by walk_at "upd") (by walk_at "none") (fun s3 st => ?_) (by walk_at "ownn")
        · have eh : intsD (highsOf ks w) = .list ((ks ++ [w]).flatMap fun u => if decide (w.e ≤ u.e) = true then [PyData.int u.e] else []) := by
            rw [flat_if (ks ++ [w]) (fun u => decide (w.e ≤ u.e)) (fun u => PyData.int u.e)]
            simp [highsOf, List.map_map, Function.comp_def]
          rw [eh]
          refine Ev.comp (ks ++ [w]) wishD _ (.list ?_) (ρf := [("wish", wishD w)]) (by walk_at "frees") (by simp; omega) (fun u hu => ?_)
          · show Ev _ _ _ _ _ (wishesD (ks ++ [w]))
            rw [ekw]
            exact Ev.bin (x := wishesD ks) (y := .list [wishD w]) (by walk_at "ev") (by walk_at "ev") (.cat _ _ (by rw [List.length_map]; simp; omega))
          · refine ⟨[("one", wishD u)], decide (w.e ≤ u.e), .int u.e, fun L => .name (by walk_at "ownn"), fun L => ?_, fun _ L => by walk_at "ev", rfl⟩
            show Tst _ _ _ _ _ _
            walk_at "tst"
        have hlo : ∀ l ∈ lowsOf ks w, 0 ≤ l ∧ l ≤ 32 := fun l hl => by
          obtain ⟨u, hu, rfl⟩ := List.mem_map.mp hl
          have := hkr u (List.mem_filter.mp hu).1
          exact ⟨this.1, this.2.1⟩
        have hhi : ∀ l ∈ highsOf ks w, 0 ≤ l ∧ l ≤ 32 := fun l hl => by
          obtain ⟨u, hu, rfl⟩ := List.mem_map.mp hl
          have := hkr u (List.mem_filter.mp hu).1
          exact ⟨this.2.2.1, this.2.2.2⟩
        have hll : (lowsOf ks w).length ≤ 101 := by
          have := List.length_filter_le (fun u : Wish => decide (u.b ≤ w.b)) (ks ++ [w])
          simp only [lowsOf, List.length_map]; simp at this ⊢; omega
        have hhl : (highsOf ks w).length ≤ 101 := by
          have := List.length_filter_le (fun u : Wish => decide (w.e ≤ u.e)) (ks ++ [w])
          simp only [highsOf, List.length_map]; simp at this ⊢; omega
        refine st.assignComp2 (lowsOf ks w) .int (highsOf ks w) .int (fun l h => if decide ((belowN ms h.toNat : Int) - belowN ms l.toNat ≤ cntIn ks l h) = true then [.int 1] else []) (ρf := [("below", intsD (belowL ms 32)), ("highs", intsD (highsOf ks w)), ("kept", wishesD ks)]) ra (.list (.nam (by walk_at "has"))) (by walk_at "frees") (by omega) (by omega) (fun l hl => ?_) (by walk_at "upd") (by walk_at "none") (fun s4 st => ?_) (by walk_at "ownn")
        · obtain ⟨ln, rfl⟩ := Int.eq_ofNat_of_zero_le (hlo l hl).1
          have hl2 := (hlo _ hl).2
          refine ⟨[("low", .int ln)], fun L => .name (by walk_at "ownn"), fun L => .list (.nam (by walk_at "has")), fun h hh => ?_⟩
          obtain ⟨hn, rfl⟩ := Int.eq_ofNat_of_zero_le (hhi h hh).1
          have hh2 := (hhi _ hh).2
          refine ⟨[("high", .int hn)], decide ((belowN ms hn : Int) - belowN ms ln ≤ cntIn ks ln hn), .int 1, fun L => .name (by walk_at "ownn"), ?_, fun L => ?_, fun _ L => .cint, rfl⟩
          · intro z e hz e' he'
            simp only [List.mem_singleton, Prod.mk.injEq] at hz he'
            exact absurd (hz.1.symm.trans he'.1) (by decide +kernel)
          · show Tst _ _ _ _ _ _
            refine Tst.cmp (x := .int (cntIn ks ln hn)) (y := .int ((belowN ms hn : Int) - belowN ms ln)) ?_ ?_ (.ge _ _)
            · rw [cntIn, ← flat_len ks (fun u => decide ((ln : Int) ≤ u.b) && decide (u.e ≤ (hn : Int))) (.int 1)]
              refine Ev.callB (.cons (Ev.comp ks wishD (fun u => if (decide ((ln : Int) ≤ u.b) && decide (u.e ≤ (hn : Int))) = true then [.int 1] else []) (.list (.nam (by walk_at "has"))) (ρf := [("high", .int hn), ("low", .int ln)]) (by walk_at "frees") (by omega) (fun u hu => ?_)) .nil) (pf_len ?_) hle.1 hle.2
              · refine ⟨[("one", wishD u)], (decide ((ln : Int) ≤ u.b) && decide (u.e ≤ (hn : Int))), .int 1, fun L => .name (by walk_at "ownn"), fun L => ?_, fun _ L => .cint, rfl⟩
                show Tst _ _ _ _ _ _
                have e : (decide ((ln : Int) ≤ u.b) && decide (u.e ≤ (hn : Int))) = (decide ((ln : Int) ≤ u.b) && (decide (u.e ≤ (hn : Int)) && true)) := by simp
                rw [e]
                exact Tst.and (TAll.cons (by walk_at "tst") fun _ => TAll.cons (by walk_at "tst") fun _ => TAll.nil)
              · have := flat_len ks (fun u => decide ((ln : Int) ≤ u.b) && decide (u.e ≤ (hn : Int))) (.int 1)
                have h2 := List.length_filter_le (fun u : Wish => decide ((ln : Int) ≤ u.b) && decide (u.e ≤ (hn : Int))) ks
                omega
            · have g1 := belowL_get ms 32 hn (by omega)
              have g2 := belowL_get ms 32 ln (by omega)
              have i1 := itm_ints (ks := belowL ms 32) (k := hn) (by rw [belowL_len]; omega) (by rw [belowL_len]; omega)
              have i2 := itm_ints (ks := belowL ms 32) (k := ln) (by rw [belowL_len]; omega) (by rw [belowL_len]; omega)
              rw [g1] at i1
              rw [g2] at i2
              exact Ev.bin (x := .int (belowN ms hn)) (y := .int (belowN ms ln)) (Ev.itm (i := hn) (d := intsD (belowL ms 32)) (by walk_at "ev") (by walk_at "ev") i1) (Ev.itm (i := ln) (d := intsD (belowL ms 32)) (by walk_at "ev") (by walk_at "ev") i2) (.sub _ _)
        have ef : PyData.list ((lowsOf ks w).flatMap fun l => (highsOf ks w).flatMap fun h => if decide ((belowN ms h.toNat : Int) - belowN ms l.toNat ≤ cntIn ks l h) = true then [PyData.int 1] else []) = intsD (fullOf ms ks w) := by
          unfold fullOf intsD
          rw [map_flat]
          congr 1
          congr 1
          funext l
          rw [map_flat]
          congr 1
          funext h
          split <;> rfl
        rw [ef] at st
        refine st.assign ra (d := wishesD (winStep ms ks w)) ?_ (by walk_at "upd") (by walk_at "none") (fun s5 st => ?_) (by walk_at "ownn")
        · refine Ev.ite (b := (fullOf ms ks w).isEmpty) ?_ (fun q => ?_) (fun q => ?_)
          · rw [← eqv_nil]
            exact Tst.cmp (x := intsD (fullOf ms ks w)) (y := .list []) (by walk_at "ev") (by walk_at "ev") (.eq _ _ (shaped_ints _) (by rfl))
          · rw [winStep, if_pos q, ekw]
            exact Ev.bin (x := wishesD ks) (y := .list [wishD w]) (by walk_at "ev") (by walk_at "ev") (.cat _ _ (by rw [List.length_map]; simp; omega))
          · rw [winStep, if_neg (by rw [q]; decide)]
            walk_at "ev"
        refine wpAny_execs_nil ⟨_, _, ⟨rfl, rfl⟩, rfl, ?_⟩
        rw [List.take_add_one, hw, Option.toList_some, List.foldl_append, hst, List.foldl_cons, List.foldl_nil]
        exact st.weak (by walk_at "weak")
      · rintro ρ1 own1 s' ⟨rfl, rfl⟩ st E
        refine wpAny_execs_nil ⟨_, _, ⟨rfl, rfl⟩, ?_⟩
        simpa [winOf] using st
      · rintro ρ1 own1 s' ⟨rfl, rfl⟩ st
        refine st.ret ra (d := wishesD (winOf line ms)) (by walk_at "ev") fun v s1 k1 r1 => ?_
        exact k _ _ _ (.inl rfl) k1 r1
end
section -- F25
noncomputable def nobStep (ks : List Wish) (st : Int × List Int) (m : Int) : Int × List Int :=
  let waits := ((ks.filter fun w => decide (w.b ≤ m)).length : Int) - st.1
  (st.1 + (if 0 < waits then 1 else 0), st.2 ++ (if waits = 0 then [m] else []))
noncomputable def nobody (ks : List Wish) (ms : List Int) : List Int := (ms.foldl (nobStep ks) (0, [])).2
theorem nob_bound (ks : List Wish) : ∀ (ms : List Int) (st : Int × List Int), (ms.foldl (nobStep ks) st).2.length ≤ st.2.length + ms.length
  | [], st => by simp
  | m :: r, st => by
    rw [List.foldl_cons]
    refine Nat.le_trans (nob_bound ks r _) ?_
    unfold nobStep
    simp only [List.length_append, List.length_cons]
    split <;> simp <;> omega
noncomputable abbrev nobI (ks : List Wish) (ms : List Int) (i : Nat) (ρ : Names) (own : Own) : Prop := own = [] ∧ ρ = ([("kept", wishesD ks), ("marks", intsD ms), ("gone", .int ((ms.take i).foldl (nobStep ks) (0, [])).1), ("free", intsD ((ms.take i).foldl (nobStep ks) (0, [])).2)] : Names)
noncomputable abbrev nobB (ks : List Wish) (ms : List Int) (ρ : Names) (own : Own) : Prop := own = [] ∧ ρ = ([("kept", wishesD ks), ("marks", intsD ms), ("gone", .int (ms.foldl (nobStep ks) (0, [])).1), ("free", intsD (ms.foldl (nobStep ks) (0, [])).2)] : Names)
theorem pf_nobody {C : Cx} (G : Glb C) (ks : List Wish) (ms : List Int) (hk : ks.length ≤ 100) (hm : ms.length ≤ 100) :
    PFn C 3 (.ref 268) [wishesD ks, intsD ms] (intsD (nobody ks ms)) := by
  obtain ⟨-, doc, pm, D⟩ := G.fn 25 268 _ _ (by walk_at "has")
  refine PFn.of_def (xs := ["kept", "marks"]) D rfl rfl rfl ?_ (by decide +kernel) ?_ ?_
  · exact all2 fun v w => by kernel_rfl!
  · intro L x hx
    simp only [List.mem_cons, List.not_mem_nil, or_false] at hx
    rcases hx with rfl | rfl <;> exact .inl rfl
  · intro A s₀ pvc L s env he ra st Q E k
    subst he
    conv in (bdI 25) => whnf
    have st : St C A s₀ pvc _ [("kept", wishesD ks), ("marks", intsD ms)] [] s := st
    refine st.assignSwap (xs := ["gone", "free"]) (ds := [.int 0, .list []]) ra (by walk_at "ev") rfl (by decide +kernel) (by walk_at "ownall") (by walk_at "upds") (by walk_at "none") fun s1 st => ?_
    refine st.for (ds := ms.map .int) (nobI ks ms)
      (nobB ks ms)
      ra (.list (.nam (by walk_at "has"))) ⟨rfl, rfl⟩ ?_ ?_ ?_
    · rintro i d hd ρ1 own1 ⟨rfl, rfl⟩
      obtain ⟨m, hm', rfl⟩ : ∃ m, ms[i]? = some m ∧ PyData.int m = d := by simpa using hd
      generalize hst : (ms.take i).foldl (nobStep ks) (0, []) = sti
      obtain ⟨g, f⟩ := sti
      have hfl : f.length ≤ 100 := by
        have := nob_bound ks (ms.take i) (0, [])
        rw [hst] at this
        simp at this; omega
      refine ⟨[("mark", .int m)], _, .name (by walk_at "ownn"), (by walk_at "upds"), (by walk_at "none"), rfl, fun s₁ σ st E => ?_⟩
      refine st.assign ra (d := .int (((ks.filter fun w => decide (w.b ≤ m)).length : Int) - g)) ?_ (by walk_at "upd") (by walk_at "none") (fun s2 st => ?_) (by walk_at "ownn")
      · refine Ev.bin (x := .int ((ks.filter fun w => decide (w.b ≤ m)).length : Int)) (y := .int g) ?_ (by walk_at "ev") (.sub _ _)
        rw [← flat_len ks _ (.int 1)]
        refine Ev.callB (.cons (Ev.comp ks wishD (fun w => if decide (w.b ≤ m) = true then [.int 1] else []) (.list (.nam (by walk_at "has"))) (ρf := [("mark", .int m)]) (by walk_at "frees") (by omega) fun w hw => ?_) .nil)
          (pf_len (by have := flat_len ks (fun w => decide (w.b ≤ m)) (.int 1); have := List.length_filter_le (fun w => decide (w.b ≤ m)) ks; omega)) (G.bi "len" (.builtin "len") (by walk_at "has")).1 (G.bi "len" (.builtin "len") (by walk_at "has")).2
        refine ⟨[("one", wishD w)], decide (w.b ≤ m), .int 1, fun L => .name (by walk_at "ownn"), fun L => ?_, fun _ L => .cint, rfl⟩
        show Tst _ _ _ _ _ _
        walk_at "tst"
      refine st.assign ra (d := .int (g + (if 0 < ((ks.filter fun w => decide (w.b ≤ m)).length : Int) - g then 1 else 0))) ?_ (by walk_at "upd") (by walk_at "none") (fun s3 st => ?_) (by walk_at "ownn")
      · refine Ev.bin (x := .int g) (y := .int (if 0 < ((ks.filter fun w => decide (w.b ≤ m)).length : Int) - g then 1 else 0)) (by walk_at "ev") ?_ (.add _ _)
        refine Ev.ite (b := decide (0 < ((ks.filter fun w => decide (w.b ≤ m)).length : Int) - g)) (by walk_at "tst") (fun q => ?_) (fun q => ?_)
        · rw [if_pos (of_decide_eq_true q)]; walk_at "ev"
        · rw [if_neg (of_decide_eq_false q)]; walk_at "ev"
      refine st.assign ra (d := intsD (f ++ (if ((ks.filter fun w => decide (w.b ≤ m)).length : Int) - g = 0 then [m] else []))) ?_ (by walk_at "upd") (by walk_at "none") (fun s4 st => ?_) (by walk_at "ownn")
      · show Ev _ _ _ _ _ (.list (List.map PyData.int (f ++ _)))
        rw [List.map_append]
        refine Ev.bin (x := intsD f) (y := intsD (if ((ks.filter fun w => decide (w.b ≤ m)).length : Int) - g = 0 then [m] else [])) (by walk_at "ev") ?_ (.cat _ _ ?_)
        · refine Ev.ite (b := decide (((ks.filter fun w => decide (w.b ≤ m)).length : Int) - g = 0)) (by walk_at "tst") (fun q => ?_) (fun q => ?_)
          · rw [if_pos (of_decide_eq_true q)]; exact Ev.lst (ds := [.int m]) (by walk_at "evs") (len_ok (by kernel_rfl!))
          · rw [if_neg (of_decide_eq_false q)]; exact Ev.lst (ds := []) (by walk_at "evs")
        · have : sizeLine = 16777216 := rfl
          split <;> simp <;> omega
      refine wpAny_execs_nil ⟨_, _, ⟨rfl, ?_⟩, rfl, st.weak (ρ' := ([("kept", wishesD ks), ("marks", intsD ms), ("gone", .int (nobStep ks (g, f) m).1), ("free", intsD (nobStep ks (g, f) m).2)] : Names)) ?_⟩
      · rw [List.take_add_one, hm', Option.toList_some, List.foldl_append, hst]; rfl
      · intro x hx
        simp only [List.mem_cons, List.not_mem_nil, or_false] at hx ⊢
        rcases hx with rfl | rfl | rfl | rfl <;> simp [nobStep]
    · rintro ρ1 own1 s' ⟨rfl, rfl⟩ st E
      refine wpAny_execs_nil ⟨_, _, ⟨rfl, rfl⟩, ?_⟩
      simpa using st
    · rintro ρ1 own1 s' ⟨rfl, rfl⟩ st
      refine st.ret ra (d := intsD (ms.foldl (nobStep ks) (0, [])).2) (by walk_at "ev") fun v s1 k1 r1 => ?_
      exact k _ _ _ (.inl rfl) k1 r1
end
section -- F28
open Sem (wp)
theorem valueAt_stored {K : Type} [DecidableEq K] (kvs : List (K × Value)) (k k' : K) (v : Value) : valueAt (stored kvs k v) k' = if k' = k then some v else valueAt kvs k' := by
  unfold stored valueAt
  by_cases h : kvs.any (fun kv => kv.1 = k)
  · rw [if_pos h]
    induction kvs with
    | nil => simp at h
    | cons x r ih =>
      by_cases hx : x.1 = k
      · simp only [List.map_cons, hx, if_true, List.find?_cons]
        by_cases hk : k' = k
        · subst hk; simp
        · rw [if_neg hk]
          have : ¬ k = k' := fun q => hk q.symm
          simp only [this, decide_false]
          by_cases hr : r.any (fun kv => kv.1 = k)
          · rw [ih hr, if_neg hk]
          · have e : r.map (fun kv => if kv.1 = k then (kv.1, v) else kv) = r := by
              conv => rhs; rw [← List.map_id r]
              refine List.map_congr_left fun y hy => ?_
              have : ¬ y.1 = k := fun q => hr (List.any_eq_true.mpr ⟨y, hy, by simp [q]⟩)
              rw [if_neg this]; rfl
            rw [e]
      · simp only [List.map_cons, if_neg hx, List.find?_cons]
        have hr : r.any (fun kv => kv.1 = k) = true := by simpa [hx] using h
        have := ih hr
        by_cases hxk : x.1 = k'
        · have hk : ¬ k' = k := fun q => hx (hxk.trans q)
          simp [hxk, hk]
        · simp only [hxk, decide_false]
          exact this
  · rw [if_neg h, List.find?_append]
    by_cases hk : k' = k
    · subst hk
      rw [if_pos rfl]
      have : kvs.find? (fun kv => decide (kv.1 = k')) = none := by
        rw [List.find?_eq_none]
        intro y hy q
        exact h (List.any_eq_true.mpr ⟨y, hy, by simpa using q⟩)
      rw [this]; simp
    · rw [if_neg hk]
      have : [(k, v)].find? (fun kv => decide (kv.1 = k')) = none := by
        have : ¬ k = k' := fun q => hk q.symm
        simp [this]
      rw [this, Option.or_none]
theorem wordF_inj : ∀ i < 32, ∀ j < 32, wordF i = wordF j → i = j := by decide +kernel
noncomputable def FKw (v : Value) (k : Str) : Prop := ∃ (i : Nat) (t : Tok), v = .int i t ∧ i < 32 ∧ k = wordF i
noncomputable def FVw (v y : Value) : Prop := y = v
theorem stored_words {l : List Value} {kvs : List (Str × Value)} (h : StoredAll FKw FVw l kvs) (hl : ∀ (j : Nat) v, l[j]? = some v → ∃ t, v = .int j t) : ∀ (j : Nat), j < l.length → ∃ t, valueAt kvs (wordF j) = some (.int j t) := by
  induction h with
  | nil => intro j hj; exact absurd hj (Nat.not_lt_zero _)
  | @snoc l kvs v k y _ hk hy ih =>
    intro j hj
    obtain ⟨i, t, rfl, hi, rfl⟩ := hk
    obtain ⟨t', e⟩ := hl l.length (.int i t) (by simp)
    have hil : i = l.length := by have := (Value.int.inj e).1; omega
    rw [valueAt_stored]
    by_cases h : wordF j = wordF i
    · rw [if_pos h]
      rw [List.length_append, List.length_singleton] at hj
      have := wordF_inj j (by omega) i hi h
      exact ⟨t, by rw [this]; exact congrArg some hy⟩
    · rw [if_neg h]
      rw [List.length_append, List.length_singleton] at hj
      refine ih (fun j v hv => hl j v ?_) j ?_
      · rw [List.getElem?_append_left]
        · exact hv
        · exact (List.getElem?_eq_some_iff.mp hv).1
      · have : j ≠ i := fun q => h (by rw [q])
        omega
section
variable {C : Cx} {n : Nat} {A A0 Ag : Around} {s s' s₀ sB : Shared} {env envc : Env} {ρ ρ' : Names} {pv pvc : List Addr} {own o1 o2 : Own} {E : Value → Shared → Prop}
theorem wp_split {x y : Str} {t u : Tok} {Q : Value → Shared → Prop} (hy : (y.length == 0) = false) (hsz : x.length + 2 ≤ sizeLine)
    (h : ∀ l k, l.map (·.1) = Txt.split x y → Q (.ref s.heap.objs.size) { s with heap := s.heap.push { cls := .type "list", data := .seq (strValues l).toArray }, toks := k }) :
    wpAny (model C.prog C.w) A (call (.builtin "str.split") [.str x t, .str y u]) Q E s := by
  have hn : (Builtin.Str.partsBetween x (Builtin.Str.occurrences x y 0 x.length (x.length + 1)) y.length).length ≤ sizeLine := by
    have e1 := StrLaws.occ_length_le x y 0 x.length (x.length + 1)
    rw [length_partsBetween]; omega
  cases h1 : (decide (x.length < y.length) || decide (Builtin.Str.strKind x < Builtin.Str.strKind y))
  · cases hf : (Builtin.Str.occurrences x y 0 x.length (x.length + 1)).isEmpty
    · refine call_meets F.slot_str_split (typeIs_str _ _ _) F.entry_str_split (F.args_str_split_2 _ _) (meets_str_split_sep x y t u h1 hy hf (by omega) hn) ?_
      show wants Q E _ { s with toks := _, heap := s.heap.push { cls := .type "list", data := .seq (strsFrom s.toks (Builtin.Str.partsBetween x (Builtin.Str.occurrences x y 0 x.length (x.length + 1)) y.length)).toArray } }
      rw [strsFrom_eq]
      exact h (numbered s.toks _) _ ((numbered_texts _ _).trans ((if_neg (ne_true_of_eq_false h1)).trans (if_neg (ne_true_of_eq_false hf))).symm)
    · exact call_meets F.slot_str_split (typeIs_str _ _ _) F.entry_str_split (F.args_str_split_2 _ _) (meets_str_split_not_found x y t u h1 hy hf)
        (h [(x, t)] s.toks ((if_neg (ne_true_of_eq_false h1)).trans (if_pos hf)).symm)
  · exact call_meets F.slot_str_split (typeIs_str _ _ _) F.entry_str_split (F.args_str_split_2 _ _) (meets_str_split_cannot_occur x y t u h1)
      (h [(x, t)] s.toks (if_pos h1).symm)
theorem rds_strs {h : Heap} {pv : List Addr} : ∀ l : List (Str × Tok), RDs h pv (strValues l).toArray.toList ((l.map (·.1)).map PyData.str)
  | [] => .nil
  | p :: r => .cons (.str _ _) (rds_strs r)
theorem Ev.split {x y : Str} {e : Expr} {kc : Nat} {kp apos pos : Pos} (he : Ev C n env ρ e (.str x)) (hy : (y.length == 0) = false) (hsz : x.length + 2 ≤ sizeLine)
    (hbase : attributeBase e "split" env (eval e env) = eval e env)
    (hfew : autoParam (((backTo pos (starEach [.Constant (.str y) kc kp] env)).all (fun x => !x.1) && (backToKw pos (keywordEach [] env)).all (fun x => x.1.isSome) && decide ([Expr.Constant (.str y) kc kp].length + ([] : List Keyword).length + (if ([] : List Keyword).isEmpty then 0 else 1) < 30)) = true) syR)
    (hline : autoParam ((apos.endLine == pos.line) = true) syR) (hst : autoParam (starEach [.Constant (.str y) kc kp] env = (false, eval (.Constant (.str y) kc kp) env) :: starEach [] env) syR) :
    Ev C n env ρ (.Call (.Attribute e "split" apos) [.Constant (.str y) kc kp] [] pos) (.list ((Txt.split x y).map .str)) := fun A ra s pv r Q E h => by
  refine wpAny_Call_method hbase hfew hline PySem.F.plainAttrs_str PySem.F.slot_str_split PySem.F.type_str_split (he A ra s pv r _ _ fun v s1 k1 h1 => ?_)
  obtain ⟨t, rfl⟩ := h1.str_inv
  refine ⟨by rfl, (fun a q => by cases q), ?_⟩
  refine callWith_method1 (wpAny_items_cons (Ev.cstr A ra s1 pv (r.kp k1) _ _ fun w s2 k2 h2 => wpAny_items_nil ?_) hst) hst
  obtain ⟨u, rfl⟩ := h2.str_inv
  have r2 := (r.kp k1).kp k2
  refine wp_split hy hsz fun l k e => h _ _ ((k1.trans k2).trans (Kp.keep fun b o e => Heap.get?_push_of_some _ e)) (.list r2.new ⟨_, Heap.get?_push_size _ rfl⟩ ?_)
  rw [← e]
  exact rds_strs l
noncomputable abbrev scFlag : Scope := { kind := .function, names := [(Str.ofString ".0", .local), (Str.ofString "k", .local), (Str.ofString "words", .free)], isGenerator := false, isCoroutine := false }
theorem isStr_self (x : Str) (t : Tok) : Value.isStrOf x (Value.str x t) = true := by
  unfold Value.isStrOf
  simp
theorem wp_flagD (G : Glb C) {p1 p2 p3 p4 p5 p6 p7 p8 pos : Pos} {Q : Value → Shared → Prop} (h : St C A s₀ pvc env ρ [] s) (ra : Room n A) (hw : (Str.ofString "words", strsD wordsL) ∈ ρ) (hk : env.kindOf (Str.ofString "words") = some .cell) (hkr : env.kindOf (Str.ofString "range") = some .globalImplicit)
    (k : ∀ D s' kvs, s.heap.get? D = none → St C A s₀ pvc env ρ [] s' → s'.heap.DictOf (strKind C.prog C.w) D kvs → (∀ i < 32, ∃ t, valueAt kvs (wordF i) = some (.int i t)) → Q (.ref D) s') :
    wpAny (model C.prog C.w) A (eval (.DictComp (.Subscript (.Name (Str.ofString "words") p1) (.Name (Str.ofString "k") p2) p3) (.Name (Str.ofString "k") p4) [⟨.Name (Str.ofString "k") p5, .Call (.Name (Str.ofString "range") p6) [.Constant (.int 32) 0 p7] [] p8, [], 0⟩]
      scFlag pos) env) Q E s := by
  have hf : Frees env ρ [(Str.ofString ".0", NameKind.local), (Str.ofString "k", .local), (Str.ofString "words", .free)] [(Str.ofString "words", strsD wordsL)] := .skip (by decide) (.skip (by decide) (.take hw (.inl hk) .nil))
  have nd : (([(Str.ofString ".0", NameKind.local), (Str.ofString "k", .local), (Str.ofString "words", .free)] : List (Str × NameKind)).map (·.1)).Nodup := by decide +kernel
  refine wpAny_DictComp_free (strKind C.prog C.w) (fun _ => true) FKw FVw (frees_closure h.rdy hf) (by intro y hy; simp at hy; rcases hy with rfl | rfl | rfl <;> simp) rfl (by decide +kernel) rfl ?_ (by intro _; rfl)
  refine (EvIt.range1 (n := n) (env := env) (ρ := ρ) G.range (N := 32) .cint (by decide) hkr) A ra s _ h.rdy _ _ fun I s1 s2 fp wr P J k1 it => ?_
  have st1 := h.kps k1
  have st2 := st1.kps it.kp
  obtain ⟨vw, nw1, nw2⟩ := st2.rdy.names (Str.ofString "words") _ hw
  obtain ⟨aw, ws, rfl, -, lw, rw'⟩ := nw2.list_inv
  have hI0 : s.heap.get? I = none := new_of_kp k1 it.newI
  have W := it.walk
  have W' : Walks C.prog C.w A I fp wr (rangeD 0 1 32).length (fun i v => P i v ∧ i < 32) J := ⟨W.sub, W.frame, fun i s Q E hi st hQ => W.item i s Q E hi st fun v h' tk hp => hQ v h' tk ⟨hp, by simpa [rangeD] using hi⟩, W.done, W.self⟩
  have rd : ∀ i v, P i v → i < 32 → ∃ t, v = .int (i : Nat) t := fun i v hp hi => by
    have := it.read i v (.int (i : Nat)) hp (by simp [rangeD, hi])
    exact this.int_inv
  have okc : ∀ L, EnvOk (cenvC scFlag env L) := fun L => cenv_ok h.ok rfl
  have kAt : ∀ {Cc : Addr} {s₃ : Shared} {m₃ v}, s₃.heap.Ns Cc m₃ → m₃ (Str.ofString "k") = some v → NameAt (cenvC scFlag env Cc) s₃.heap (Str.ofString "k") v := fun hn hm => .inl ⟨rfl, _, hn, hm⟩
  refine ⟨I, fp, wr, _, _, J, rfl, W', by decide, it.start, fun b hb => (let ⟨o, e, _⟩ := it.live 0 _ it.start b hb; Heap.lt_size e), ⟨?_, ?_, ?_⟩, ?_⟩
  · intro Cc i v s₃ m₃ E' hP hn hm hkp
    exact wpAny_pure ⟨rfl, _, _, rfl, fun b o e => e⟩
  · intro Cc i v s₃ m₃ E' hP _ hn hm hkp
    obtain ⟨t, rfl⟩ := rd i v hP.1 hP.2
    have nw3 : NameAt env s₃.heap (Str.ofString "words") (.ref aw) := by
      rcases nw1 with ⟨a, _⟩ | ⟨a, c, b, e⟩
      · rw [hk] at a; cases a
      · obtain ⟨o, e1, d⟩ := e
        refine .inr ⟨a, c, b, o, hkp c o (fun q => ?_) e1, d⟩
        have := it.wrI c q
        subst this
        obtain ⟨_, _, vs, d'⟩ := it.clsI 0 _ it.start o e1
        exact nomatch d.symm.trans d'
    have lw3 : LsAt s₃.heap aw ws := by
      obtain ⟨n0, e⟩ := lw
      refine ⟨n0, hkp aw _ (fun q => ?_) e⟩
      have := it.wrI aw q
      subst this
      obtain ⟨_, _, vs, d'⟩ := it.clsI 0 _ it.start _ e
      exact nomatch d'
    have nw4 := free_at (scope := scFlag) (L := Cc) nd hf List.mem_cons_self nw3
    refine Subscript_ (wpAny_Name (ev_loadName (okc Cc) nw4 (by decide +kernel) ?_) (by decide +kernel))
    refine wpAny_Name (ev_loadName (okc Cc) (kAt hn hm) (by decide +kernel) ?_) (by decide +kernel)
    obtain ⟨v, e1, e2⟩ := rw'.get (i := i) (d := .str (wordF i)) (by simp [wordsL, hP.2])
    obtain ⟨t2, rfl⟩ := e2.str_inv
    have hkk : (PySem.strKind C.prog C.w).is (wordF i) (.str (wordF i) t2) = true := isStr_self (wordF i) t2
    refine tail_any lw3.isList.typeIs slot_list_getitem.lookup (getItem_listI lw3.isList (by omega) (by have := hP.2; omega) (j := i) ?_ (by simpa using e1) ⟨⟨wordF i, hkk, i, t, rfl, hP.2, rfl⟩, _, _, rfl, fun b o e => e⟩) (by with_unfolding_all rfl)
    have := rw'.length
    simp [wordsL] at this
    rw [this]
    exact seqIndex_nat hP.2
  · intro Cc i v s₃ m₃ E' hP _ hn hm hkp
    exact wpAny_Name (ev_loadName (okc Cc) (kAt hn hm) (by decide +kernel) ⟨rfl, _, _, rfl, fun b o e => e⟩) (by decide +kernel)
  · intro D h' tk kvs vs hD hd hlen hP hF hkp
    refine k D _ kvs ?_ (st2.but (tk := tk) (new_of_kp h.kp hI0) (fun b o hb e => hkp b o (fun q => hb (it.wrI b q)) e) (it.clsI 0 _ it.start)) hd ?_
    · exact new_of_kp (k1.trans it.kp) hD
    · intro i hi
      have e0 : vs.filter (fun _ => true) = vs := List.filter_eq_self.mpr (by simp)
      rw [e0] at hF
      have hv : ∀ (j : Nat) v, vs[j]? = some v → ∃ t, v = .int j t := fun j v hv => by
        obtain ⟨h1, h2⟩ := hP j v hv
        exact rd j v h1 h2
      refine stored_words hF hv i ?_
      rw [hlen]
      simpa [rangeD] using hi
noncomputable def hidX (C : Cx) (h : Heap) (D : Addr) : List Addr := (List.range h.objs.size).filter fun a => (C.h₁.get? a).isNone && a != D
theorem plus_of {h : Heap} {D b : Addr} {o : Obj} (e : (hideAll h (hidX C h D)).get? b = some o) : h.get? b = some o ∧ ((C.h₁.get? b).isSome = true ∨ b = D) := by
  have e1 := of_hideAll _ e
  refine ⟨e1, ?_⟩
  by_cases hb : b ∈ hidX C h D
  · rw [hideAll_none _ hb] at e; cases e
  · rcases Classical.em (b = D) with q | q
    · exact .inr q
    · left
      cases hc : C.h₁.get? b with
      | some _ => rfl
      | none => exact absurd (List.mem_filter.mpr ⟨List.mem_range.mpr (Heap.lt_size e1), by simp [hc, q]⟩) hb
theorem plus_get {h : Heap} {D b : Addr} {o : Obj} (e : h.get? b = some o) (hb : (C.h₁.get? b).isSome = true ∨ b = D) : (hideAll h (hidX C h D)).get? b = some o := by
  refine hideAll_get _ e fun q => ?_
  have := (List.mem_filter.mp q).2
  rcases hb with hb | hb
  · cases hc : C.h₁.get? b <;> simp [hc] at hb this
  · simp [hb] at this
theorem plus_ns {s : Shared} (B : Base C s) {D a : Addr} {m} (h : C.h₁.Ns a m) : (hideAll s.heap (hidX C s.heap D)).Ns a m := by
  obtain ⟨o, es, n, e, r⟩ := base_ns B h
  obtain ⟨o', _, _, e', _⟩ := h
  exact ⟨o, es, n, plus_get e (.inl (by rw [e']; rfl)), r⟩
noncomputable def Cx.plus (C : Cx) (s : Shared) (B : Base C s) (D : Addr) : Cx :=
  { C with h₁ := hideAll s.heap (hidX C s.heap D), g := plus_ns B C.g, b := plus_ns B C.b, nolimit := let ⟨mc, a, b⟩ := C.nolimit; ⟨mc, plus_ns B a, b⟩ }
theorem Base.unplus {s s' : Shared} {B : Base C s} {D : Addr} (x : Base (C.plus s B D) s') : Base C s' :=
  ⟨fun b o e n => x.sub' b o (plus_get (B.sub' b o e n) (.inl (by rw [e]; rfl))) n, fun b o e => let ⟨o1, e1⟩ := B.there b o e; x.there b o1 (plus_get e1 (.inl (by rw [e]; rfl))), x.tabs, x.known⟩
theorem Base.plus {s : Shared} (B : Base C s) {D : Addr} : Base (C.plus s B D) s :=
  ⟨fun b o e _ => (plus_of e).1, fun b o e => ⟨o, (plus_of e).1⟩, B.tabs, B.known⟩
theorem Kp.unplus {s a b : Shared} {B : Base C s} {D : Addr} (k : Kp (C.plus s B D) a b) : Kp C a b :=
  ⟨(fun x o e n => by
    obtain ⟨sl, h, q⟩ := k.sub' x o e n
    refine ⟨sl, h, q.imp id fun q => ⟨?_, q.2⟩⟩
    cases hc : C.h₁.get? x with
    | none => rfl
    | some o' =>
      obtain ⟨o1, e1⟩ := B.there x o' hc
      have : (C.plus s B D).h₁.get? x = some o1 := plus_get e1 (.inl (by rw [hc]; rfl))
      rw [q.1] at this; cases this), k.tab, k.tabs, k.os, k.gens⟩
theorem DefAt.plus {s : Shared} {B : Base C s} {D a fd} (x : DefAt C a fd) : DefAt (C.plus s B D) a fd := ⟨fun s' B' => x.at' s' (Base.unplus B'), fun s' B' => x.code s' (Base.unplus B'), x.gl, x.bi, x.clo, x.kind, x.co⟩
theorem Glb.plus {s : Shared} {B : Base C s} {D} (G : Glb C) : Glb (C.plus s B D) := ⟨let ⟨K, h, e⟩ := G.ent; ⟨K, fun s' B' => h s' (Base.unplus B'), e⟩, G.entC, let ⟨d, p, D⟩ := G.entF; ⟨d, p, D.plus⟩, G.chm, ⟨G.cfn.1, fun s' B' => G.cfn.2 s' (Base.unplus B')⟩, G.mkr, fun x h s' B' => G.mhd x h s' (Base.unplus B'), fun x h s' B' => G.mbu x h s' (Base.unplus B'), G.bi, fun i a dV kV h => let ⟨h1, d, p, D⟩ := G.fn i a dV kV h; ⟨h1, d, p, D.plus⟩, fun T h s' B' => G.dflt T h s' (Base.unplus B'), fun T h s' B' => G.kdflt T h s' (Base.unplus B')⟩
theorem St.plus (h : St C A s₀ pvc env ρ [] s) {D : Addr} {o : Obj} (e : s.heap.get? D = some o) (hD : D ∉ privA env []) (hl : ∀ l, A.frames = some l → ∀ e ∈ l, e.frame ≠ some D) :
    St (C.plus (s.sansL (privA env [])) h.rebaseS.1.base D) A (s.sansL (privA env [])) pvc env ρ [] s ∧ (s.sansL (privA env [])).heap.get? D = some o ∧ (C.plus (s.sansL (privA env [])) h.rebaseS.1.base D).h₁.get? D = some o := by
  obtain ⟨h1, k1⟩ := h.rebaseS
  have e1 : (s.sansL (privA env [])).heap.get? D = some o := sansL_get e hD
  refine ⟨⟨h1.ok, Base.plus _, ?_, kp_of_sansL, h1.priv, h1.fr, h1.nd⟩, e1, plus_get e1 (.inr rfl)⟩
  obtain ⟨l, a, b⟩ := h1.live
  refine ⟨l, a, fun env' he' => ?_⟩
  obtain ⟨q1, L, q2, q3, q4⟩ := b env' he'
  refine ⟨q1, L, q2, ?_, q4⟩
  cases q : (C.plus (s.sansL (privA env [])) h.rebaseS.1.base D).h₁.get? L with
  | none => rfl
  | some o' =>
    rcases (plus_of q).2 with r | r
    · rw [q3] at r; cases r
    · exact absurd (r ▸ q2) (hl l a env' he')
theorem Ev.dsub {x : Str} {xp pos : Pos} {e : Expr} {D : Addr} {kvs : List (Str × Value)} {y : Str} {i : Int} {t : Tok} (m : (x, opq D) ∈ ρ) (hD : ∀ s, Base C s → s.heap.DictOf (PySem.strKind C.prog C.w) D kvs) (he : Ev C n env ρ e (.str y)) (hv : valueAt kvs y = some (.int i t))
    (hd : autoParam ((x == ("__debug__" : Str)) = false) syD) (hx : autoParam ((x == ("__classdict__" : Str)) = false) syD)
    (hs : autoParam (∀ o i, subscripted e false o i = operate [o, i] (getItem o i)) syV) : Ev C n env ρ (.Subscript (.Name x xp) e pos) (.int i) := fun A ra s pv r Q E h => by
  refine Subscript_ (Ev.nam m hd hx A ra s pv r _ _ fun a s1 k1 h1 => he A ra s1 pv (r.kp k1) _ _ fun b s2 k2 h2 => ?_)
  obtain ⟨u, rfl⟩ := h2.str_inv
  have := h1.opq_inv
  subst this
  have hd2 := hD s2 ((r.base.mono k1).mono k2)
  refine tail_any hd2.typeIs slot_dict_getitem.lookup (wpAny_getItem_of (knd := PySem.strKind C.prog C.w) (isStr_self y u) hd2.mapOf hv ?_) (hs _ _)
  exact h _ _ ((k1.trans k2).trans Kp.tok) (.int _ _)
end
end
section -- F29
open Sem (wp)
noncomputable def mkL (rl : List Int) : Nat → Nat → Nat → List Nat
  | 0, _, _ => []
  | f + 1, k, at' => match gSeq rl k with
    | .val i _ => if (31 : Int) < at' + i then [] else (at' + i.toNat) :: mkL rl f (k + 1) (at' + i.toNat)
    | _ => []
theorem gSeq_err {rl : List Int} (h : gSeq rl 0 = .err) : ∀ k, gSeq rl k = .err
  | 0 => h
  | k + 1 => by unfold gSeq; rw [gSeq_err h k]
theorem gSeq_ok {rl : List Int} {k : Nat} (h : gSeq rl k ≠ .err) : gSeq rl 0 ≠ .err := fun q => h (gSeq_err q k)
noncomputable def marksF (rl : List Int) : List Nat := mkL rl gMax 0 0
noncomputable def sumPow (l : List Nat) : Nat := (l.map (2 ^ ·)).sum
theorem sumPow_app (a b : List Nat) : sumPow (a ++ b) = sumPow a + sumPow b := by simp [sumPow]
section
variable {C : Cx} {n : Nat} {A A0 Ag : Around} {s s' s₀ sB : Shared} {env envc : Env} {ρ ρ' : Names} {pv pvc : List Addr} {own o1 o2 : Own} {E : Value → Shared → Prop} {rl : List Int}
theorem marks_body (G : Glb C) {doc pm : Value} {L : Addr} {Q : Flow → Shared → Prop} (he : env = callEnvC (fdI 20 .none .none doc pm (239 - 1)) L 239) (ra : Room 10 (A0.deeper env)) (st : St C (A0.deeper env) s₀ pvc env [("ruler", intsD rl)] [] s)
    (hgood : ∀ k i g, gSeq rl k = .val i g → 1 ≤ i ∧ i ≤ 1000) (hf : env.frame = some env.locals)
    (k : gSeq rl 0 ≠ .err → ∀ v s', Kp C s₀ s' → RD s'.heap pvc v (intsD ((bitsLt (sumPow (marksF rl)) 32).map fun (k : Nat) => (k : Int))) → Q (.ret v) s')
    (hlt : gSeq rl 0 ≠ .err → sumPow (marksF rl) < 2 ^ 32 ∧ marksF rl ≠ [])
    (err : ∀ k e fl s', gSeq rl k = .err → Kp C s₀ s' → Live C (A0.deeper env) s' → Exn (some gMsg) s₀ s' e "ValueError" fl → E (.ref e) s') :
    wpAny (model C.prog C.w) (A0.deeper env) (execs (bdI 20) env) Q E s := by
  subst he
  have ⟨hgw, hfw⟩ := G.at 19 234 .none .none (by walk_at "has")
  conv in (bdI 20) => whnf
  refine st.assignTup (ρ' := [("ruler", intsD rl), ("kept", .int (0 : Nat)), ("at", .int (0 : Nat)), ("words", strsD wordsL)]) ra (ds := [.int (0 : Nat), .int (0 : Nat), strsD wordsL]) (ρt := [("kept", .int (0 : Nat)), ("at", .int (0 : Nat)), ("words", strsD wordsL)])
    (.tup (.cons .cint (.cons .cint (.cons (Ev.callF0 ((pf_words G).le (by decide)) hgw hfw) .nil rfl) rfl) rfl) (len_ok (by kernel_rfl!))) (.cons (by walk_at "ownn") (by walk_at "upnot") (.cons (by walk_at "ownn") (by walk_at "upnot") (.cons (by walk_at "ownn") (by walk_at "upnot") .nil))) (by walk_at "upds") (by walk_at "ownt") fun s1 st => ?_
  refine st.forGen (n := 8) G (fun k ρ1 => ∃ (kept at' : Nat) (done : List Nat), ρ1 = ([("ruler", intsD rl), ("kept", .int kept), ("at", .int at'), ("words", strsD wordsL)] : Names) ∧ k ≤ at' ∧ at' ≤ 31 ∧ marksF rl = done ++ mkL rl (gMax - k) k at' ∧ kept = sumPow done)
    (fun ρ1 => gSeq rl 0 ≠ .err ∧ ∀ y ∈ ([("kept", .int (sumPow (marksF rl))), ("words", strsD wordsL)] : Names), y ∈ ρ1) ra rfl (by walk_at "has") (by walk_at "ownn") ⟨0, 0, [], rfl, Nat.le_refl _, by decide, rfl, rfl⟩ (fun k ρ1 ⟨_, _, _, _, h1, h2, _⟩ => by unfold gMax; omega) ?_ ?_ ?_ ?_
  · rintro k i g hq ρ1 ⟨kept, at', done, rfl, h1, h2, h3, rfl⟩
    obtain ⟨m, hm⟩ : ∃ m, gMax - k = m + 1 := ⟨gMax - k - 1, by unfold gMax; omega⟩
    obtain ⟨hi1, hi2⟩ := hgood k i g hq
    rw [hm] at h3
    unfold mkL at h3
    rw [hq] at h3
    dsimp only at h3
    obtain ⟨j, rfl⟩ : ∃ j : Nat, i = j := ⟨i.toNat, by omega⟩
    refine ⟨_, (by walk_at "upd"), fun s₁ σ st E => ?_⟩
    refine st.assign ra (d := .int ((at' + j : Nat) : Int)) (by rw [Int.natCast_add]; exact Ev.bin (x := .int at') (y := .int j) (.nam (by walk_at "has")) (.nam (by walk_at "has")) (.add _ _)) (by walk_at "upd") (by walk_at "owno") (fun s2 st => ?_) (by walk_at "ownn")
    refine st.ifs ra (b := decide ((31 : Int) < ((at' + j : Nat) : Int))) (Tst.cmp (x := .int ((at' + j : Nat) : Int)) (y := .int 31) (.nam (by walk_at "has")) .cint (.gt _ _)) (fun hb s3 st => ?_) (fun hb s3 st => ?_)
    · have hb := of_decide_eq_true hb
      rw [if_pos (by omega)] at h3
      refine wpAny_execs_cons (wpAny_Break ?_)
      refine ⟨_, ⟨gSeq_ok (by rw [hq]; simp), ?_⟩, st⟩
      intro y hy
      rw [h3, List.append_nil] at hy
      simp only [List.mem_cons, List.not_mem_nil, or_false] at hy ⊢
      rcases hy with rfl | rfl <;> simp
    · have hb := of_decide_eq_false hb
      rw [if_neg (by omega)] at h3
      refine wpAny_execs_nil ?_
      refine st.assign ra (d := .int ((sumPow (done ++ [at' + j]) : Nat) : Int)) ?_ (by walk_at "upd") (by walk_at "owno") (fun s4 st => ?_) (by walk_at "ownn")
      · have e1 : ((sumPow (done ++ [at' + j]) : Nat) : Int) = (sumPow done : Nat) + (sumPow [at' + j] : Nat) := by rw [sumPow_app, Int.natCast_add]
        rw [e1]
        refine Ev.bin (x := .int (sumPow done : Nat)) (y := .int (sumPow [at' + j] : Nat)) (.nam (by walk_at "has")) ?_ (.add _ _)
        have e : ((sumPow [at' + j] : Nat) : Int) = (2 : Int) ^ (((at' + j : Nat) : Int)).toNat := by
          have e0 : sumPow [at' + j] = 2 ^ (at' + j) := by simp [sumPow]
          rw [e0, Int.toNat_natCast, Int.natCast_pow]; rfl
        rw [e]
        refine Ev.bin (x := .int 2) (y := .int (at' + j : Nat)) .cint (.nam (by walk_at "has")) (.pow _ _ (by omega) ?_)
        have : Builtin.Int.intBits 2 ≤ 10 := by decide +kernel
        have h5 : Builtin.Int.intBits 2 * (at' + j) ≤ 10 * 31 := Nat.mul_le_mul this (by omega)
        have h6 : (Builtin.Int.intBits 2 : Int) * ((at' + j : Nat) : Int) ≤ 310 := by exact_mod_cast h5
        omega
      · refine wpAny_execs_nil ⟨_, ⟨sumPow (done ++ [at' + j]), at' + j, done ++ [at' + j], rfl, by omega, by omega, ?_, rfl⟩, st.weak (by walk_at "weak")⟩
        rw [h3, List.append_assoc, Int.toNat_natCast]
        have : gMax - (k + 1) = m := by omega
        rw [this]; rfl
  · rintro k ρ1 ⟨kept, at', done, rfl, h1, h2, h3, rfl⟩ hq
    obtain ⟨m, hm⟩ : ∃ m, gMax - k = m + 1 := ⟨gMax - k - 1, by unfold gMax; omega⟩
    rw [hm] at h3
    unfold mkL at h3
    rw [hq] at h3
    refine ⟨gSeq_ok (by rw [hq]; simp), ?_⟩
    intro y hy
    rw [h3, List.append_nil] at hy
    simp only [List.mem_cons, List.not_mem_nil, or_false] at hy ⊢
    rcases hy with rfl | rfl <;> simp
  · intro ρ1 s2 ⟨h0, hBk⟩ st
    obtain ⟨hK, hM⟩ := hlt h0
    have st := st.weak hBk
    refine wpAny_execs_cons (wpAny_Assign_Name ?_ (by with_unfolding_all rfl))
    refine wp_flagD G st ra (by walk_at "has") rfl rfl fun D s3 kvs hD st3 hd hv => ?_
    obtain ⟨o, es, ep, ho, hod⟩ := id hd
    have hDp : D ∉ privA (callEnvC (fdI 20 .none .none doc pm (239 - 1)) L 239) [] := fun q => by
      obtain ⟨_, o', e', _⟩ := st.privs D q
      rw [hD] at e'; cases e'
    have hfr : ∀ l, (A0.deeper (callEnvC (fdI 20 .none .none doc pm (239 - 1)) L 239)).frames = some l → ∀ e ∈ l, e.frame ≠ some D := fun l a e he q => by
      obtain ⟨l', a', b'⟩ := st.live
      rw [a] at a'; cases a'
      obtain ⟨_, L', q2, _, o', _, _, q4, _⟩ := b' e he
      rw [q] at q2; cases q2
      rw [hD] at q4; cases q4
    obtain ⟨stp, e1, e2⟩ := st3.plus ho hDp hfr
    have hD' : ∀ s', Base (C.plus _ st3.rebaseS.1.base D) s' → s'.heap.DictOf (PySem.strKind (C.plus _ st3.rebaseS.1.base D).prog (C.plus _ st3.rebaseS.1.base D).w) D kvs := fun s' B' => ⟨o, es, ep, B'.sub' D o e2 (nt_dict hod.2.1), hod⟩
    have kb := st3.rebaseS.2
    have G' : Glb (C.plus _ st3.rebaseS.1.base D) := G.plus
    have fin : ∀ v s', Kp (C.plus _ st3.rebaseS.1.base D) (s3.sansL (privA (callEnvC (fdI 20 .none .none doc pm (239 - 1)) L 239) [])) s' → RD s'.heap pvc v (intsD ((bitsLt (sumPow (marksF rl)) 32).map fun (k : Nat) => (k : Int))) → Q (.ret v) s' := fun v s' kk r => k h0 v s' (kb.trans kk.unplus) r
    have hp : C.prog = (C.plus _ st3.rebaseS.1.base D).prog := rfl
    have hw : C.w = (C.plus _ st3.rebaseS.1.base D).w := rfl
    revert stp hD' G' fin hp hw
    generalize C.plus _ st3.rebaseS.1.base D = C'
    intro stp hD' G' fin hp hw
    rw [hp, hw]
    refine stp.store (ρ' := [("kept", .int (sumPow (marksF rl))), ("words", strsD wordsL), ("flag", opq D)]) (by walk_at "ownn") (.opq D) (by walk_at "upd") (by walk_at "none") fun s4 st4 => ?_
    have ⟨hgp, hfp⟩ := G'.at 9 108 .none .none (by walk_at "has")
    generalize hKK : sumPow (marksF rl) = K at *
    have hK0 : K ≠ 0 := by
      rw [← hKK]
      cases hm : marksF rl with
      | nil => exact absurd hm hM
      | cons a r =>
        have : 2 ^ a > 0 := Nat.pow_pos (by decide)
        simp [sumPow]
    have hwK : flagWords K = (bitsLt K 32).map wordF := by unfold flagWords; rw [if_neg hK0]
    have hbl : ∀ k ∈ bitsLt K 32, k < 32 := fun k hk => List.mem_range.mp (List.mem_filter.mp hk).1
    have hbn : bitsLt K 32 ≠ [] := bits_ne hK0 hK
    refine st4.ret ra (d := intsD ((bitsLt K 32).map fun (k : Nat) => (k : Int))) ?_ fin
    have e : ((bitsLt K 32).map fun (k : Nat) => (k : Int)).map PyData.int = (bitsLt K 32).flatMap fun (k : Nat) => [PyData.int (k : Int)] := by
      generalize bitsLt K 32 = l
      induction l with
      | nil => rfl
      | cons a r ih => rw [List.map_cons, List.map_cons, List.flatMap_cons, ← ih]; rfl
    show Ev _ _ _ _ _ (.list _)
    rw [e]
    refine Ev.comp (bitsLt K 32) (fun (k : Nat) => .str (wordF k)) (fun (k : Nat) => [PyData.int (k : Int)]) (.list ?_) (ρf := [("flag", opq D)]) (.skip (by decide) (.skip (by decide) (.take (by walk_at "has") (.inl rfl) .nil))) ?_ fun k hk => ?_
    · have e2 : (bitsLt K 32).map (fun (k : Nat) => PyData.str (wordF k)) = (Txt.split (Txt.join sepS (flagWords K)) sepS).map .str := by
        rw [hwK, split_words _ hbl hbn, List.map_map]; rfl
      rw [e2]
      refine Ev.split (Ev.callF (.cons (d := .int K) (.nam (by walk_at "has")) .nil) ((pf_flags G' K hK).le (by decide)) hgp hfp) (by decide +kernel) ?_ (by with_unfolding_all rfl)
      rw [hwK]
      exact join_len _ hbl (by have := bits_len K 32; omega)
    · have := bits_len K 32; omega
    · obtain ⟨t, ht⟩ := hv k (hbl k hk)
      exact ⟨[("word", .str (wordF k))], true, .int k, fun L => .name (by walk_at "ownn"), fun L => rfl, fun _ L => Ev.dsub (by walk_at "has") hD' (.nam (by walk_at "has")) ht, rfl⟩
  · rintro k ρ1 e fl s2 - hq st ex
    exact err k e fl s2 hq st.kp st.live ex
theorem pf_marks (G : Glb C) (rl : List Int) (hgood : ∀ k i g, gSeq rl k = .val i g → 1 ≤ i ∧ i ≤ 1000) (hne : ∀ k, gSeq rl k ≠ .err) (hK : sumPow (marksF rl) < 2 ^ 32) (hM : marksF rl ≠ []) :
    PFn C 11 (.ref 239) [intsD rl] (intsD ((bitsLt (sumPow (marksF rl)) 32).map fun (k : Nat) => (k : Int))) := fun A ra s pv vs B Lv P hv Q E hq => by
  obtain ⟨-, doc, pm, D⟩ := G.fn 20 239 _ _ (by walk_at "has")
  obtain ⟨v, rfl, r⟩ := hv.inv1
  refine wpAny_call (call_start (n := 10) (pvc := pv) (ρ := [("ruler", intsD rl)]) (binds := [("ruler", v)]) D rfl rfl B Lv P ra (.of_eq (by kernel_rfl!)) (by simp) (fun L x hx => ?_) (fun y d i => ?_) fun L s₁ env he ra' st => ?_)
  · simp only [List.map_cons, List.map_nil, List.mem_cons, List.not_mem_nil, or_false] at hx
    subst hx
    exact .inl rfl
  · simp at i; obtain ⟨rfl, rfl⟩ := i; exact ⟨_, List.mem_cons_self, r⟩
  refine marks_body G he ra' st hgood (by rw [he]; rfl) (fun _ v s' k r => hq v s' k r) (fun _ => ⟨hK, hM⟩) fun k e fl s' hk => absurd hk (hne k)
theorem pfx_marks (G : Glb C) (rl : List Int) (h0 : gSeq rl 0 = .err) : PFnX C 11 (.ref 239) [intsD rl] (some gMsg) "ValueError" := by
  obtain ⟨-, doc, pm, D⟩ := G.fn 20 239 _ _ (by walk_at "has")
  refine PFnX.of_def (n := 10) (xs := ["ruler"]) D rfl rfl (by decide) rfl ?_ (by decide +kernel) ?_ fun A s₀ pvc L s env he ra st Q E hE => ?_
  · exact all1 fun v => by kernel_rfl!
  · intro L x hx
    simp only [List.mem_cons, List.not_mem_nil, or_false] at hx
    subst hx; exact .inl rfl
  · refine marks_body G he ra st (fun k i g q => by rw [gSeq_err h0] at q; cases q) (by rw [he]; rfl) (fun q => absurd h0 q) (fun q => absurd h0 q) fun k e fl s' _ k1 l1 x1 => hE e fl s' k1 l1 x1
end
end
section -- F26
open Sem (wp)
theorem ve_base : isSubtype (.type "ValueError") (.type "BaseException") = pure true := by rw [isSubtype_type]; kernel_rfl!
theorem ve_meta : isSubtype (.type ((Manifest.find? "ValueError").elim "type" fun x => x.metatype)) (.type "tuple") = pure false := by rw [show ((Manifest.find? "ValueError").elim "type" fun x => x.metatype) = "type" by decide +kernel, isSubtype_type]; kernel_rfl!
theorem ve_self : isSubtype (.type "ValueError") (.type "ValueError") = pure true := by rw [isSubtype_type]; kernel_rfl!
section
variable {C : Cx} {n : Nat} {A A0 : Around} {s s' s₀ : Shared} {env : Env} {ρ ρ' : Names} {pv pvc : List Addr} {own : Own}
noncomputable def Deed (C : Cx) (n : Nat) (f : Addr) (msg : Str) (s : Shared) : Prop := (∃ o fd, s.heap.get? f = some o ∧ o.data = .func fd) ∧
  ∀ A, Room n A → ∀ s', Kp C s s' → Live C A s' → ∀ Q E, (∀ x fl s'', Kp C s' s'' → Live C A s'' → Exn (some msg) s' s'' x "ValueError" fl → E (.ref x) s'') → wpAny (model C.prog C.w) A (call (.ref f) []) Q E s'
theorem wp_said (G : Glb C) (ra : Room (n + 1) A) {pv : List Addr} {f : Addr} {msg : Str} {Q : Value → Shared → Prop} {E : Value → Shared → Prop} (B : Base C s) (L : Live C A s) (P : ∀ p ∈ pv, ∃ o, s.heap.get? p = some o) (hd : Deed C n f msg s)
    (hQ : ∀ t s', Kp C s s' → Q (.str msg t) s') : wpAny (model C.prog C.w) A (call (.ref 275) [.ref f]) Q E s := by
  obtain ⟨-, doc, pm, D⟩ := G.fn 26 275 _ _ (by walk_at "has")
  have hve := G.bi (Str.ofString "ValueError") (.type "ValueError") (by walk_at "has")
  have hstr := G.bi (Str.ofString "str") (.type "str") (by walk_at "has")
  refine wpAny_call (call_start (n := n) (pvc := pv) (ρ := [("deed", opq f)]) (binds := [("deed", .ref f)]) D rfl rfl B L P ra (.of_eq (by kernel_rfl!)) (by simp) (fun L x hx => ?_) (fun y d i => ?_) fun L s₁ env he ra' st => ?_)
  · simp only [List.map_cons, List.map_nil, List.mem_cons, List.not_mem_nil, or_false] at hx
    subst hx
    exact .inl rfl
  · simp at i; obtain ⟨rfl, rfl⟩ := i; exact ⟨_, List.mem_cons_self, .opq f⟩
  subst he
  obtain ⟨⟨of, fd, hof, hfd⟩, hcall⟩ := hd
  conv in (bdI 26) => whnf
  refine wpAny_execs_cons (wpAny_Try_except ?_)
  refine wpAny_execs_cons (wpAny_Expr_any ?_ (by rfl) (by with_unfolding_all rfl))
  refine wpAny_Call_NameR (Ev.nam (n := n) (d := opq f) (by walk_at "has") (by decide +kernel) (by decide +kernel) _ ra' s₁ _ st.rdy _ _ fun v s2 k2 h2 => ?_)
  have := h2.opq_inv
  subst this
  have st2 := st.kps k2
  refine callWith_function (o := of) (fd := fd) (PySem.evalArgs_none ⟨⟨st2.kp.sub _ _ hof (nt_func hfd), hfd⟩, ?_⟩)
  refine hcall _ ra' s2 st2.kp st2.live _ _ fun x fl s3 k3 l3 f3 => ?_
  have st3 := st2.kps k3
  have f3' := f3.down st2.kp
  refine f3'.note st3.kp st3.live rfl (by decide) fun s4 t4 f4 => ?_
  have st4 := t4.st st3
  refine f4.setf (C := C) fun s5 t5 f5 => ?_
  have st5 := t5.st st4
  have stm : St C ((A.deeper (callEnvC (fdI 26 .none .none doc pm (275 - 1)) L 275)).mark (some (.ref x))) s pv (callEnvC (fdI 26 .none .none doc pm (275 - 1)) L 275) ([("deed", opq f)] : Names) [] s5 := ⟨st5.ok, st5.base, st5.live, st5.kp, st5.priv, st5.fr, st5.nd⟩
  refine wpAny_handleBy_builtin_as ve_base ve_meta ve_self (ev_built stm.rdy rfl hve.1 hve.2 ⟨rfl, f5.typeIs, ?_⟩)
  rw [if_pos rfl]
  refine f5.setf (C := C) fun s6 t6 f6 => ?_
  have stm := t6.st stm
  obtain ⟨a0, ⟨g0, oe, vs, g1, g2, g3, g4, _⟩, t0, tk, rfl, ot, nt, m1, m2, m3⟩ := f6
  obtain ⟨s₁', stR, kR, hgR⟩ := stm.rebase
  have nP : ∀ {b o}, s6.heap.get? b = some o → (∀ es n, o.data ≠ .dict es n) → (∀ v, o.data ≠ .cell v) → s₁'.heap.get? b = some o := fun {b o} e h1 h2 => hgR b o e fun q => by
    rcases privA0 stm q e with ⟨_, _, d⟩ | ⟨_, d⟩
    · exact h1 _ _ d
    · exact h2 _ d
  have hx1 := nP g1 (fun _ _ q => nomatch g3.symm.trans q) (fun _ q => nomatch g3.symm.trans q)
  have ht1 := nP m1 (fun _ _ q => nomatch m3.symm.trans q) (fun _ q => nomatch m3.symm.trans q)
  refine stR.store (ρ' := [("deed", opq f), ("error", opq x)]) (by walk_at "ownn") (.opq x) (by walk_at "upd") (by walk_at "none") fun s7 st7 => ?_
  have st8 := st7.unbase stm.base stm.priv kR
  have ex7 : s7.heap.ExcAt x "ValueError" (.ref t0) := ⟨oe, vs, st7.kp.sub _ _ hx1 (nd_rec g3 g2), g2, g3, g4⟩
  have tu7 : s7.heap.TupAt t0 [.str msg tk] := ⟨ot, nt, st7.kp.sub _ _ ht1 (nt_seq m3), m2, m3⟩
  refine wpAny_execs_cons (wpAny_Return_some ?_)
  refine wpAny_Call_NameR (ev_built st8.rdy rfl hstr.1 hstr.2 ?_)
  refine PySem.callWith_type (star_plain (by rfl) _) (evalArgs_plain (wpAny_items_cons (e := .Name (Str.ofString "error") _) (rest := []) ?_ (by rfl)))
  obtain ⟨v, n1, n2⟩ := st8.rdy.names (Str.ofString "error") (opq x) (by walk_at "has")
  have := n2.opq_inv
  subst this
  refine wpAny_Name (ev_loadName st8.ok n1 (by decide +kernel) (wpAny_items_nil ?_)) (by decide +kernel)
  refine PySem.P.str_of_exc_one (A := (A.deeper (callEnvC (fdI 26 .none .none doc pm (275 - 1)) L 275)).mark (some (.ref x))) PySem.F.excStr_ValueError (Nat.lt_of_le_of_lt (show (A.deeper (callEnvC (fdI 26 .none .none doc pm (275 - 1)) L 275)).units + 2 ≤ (A.deeper (callEnvC (fdI 26 .none .none doc pm (275 - 1)) L 275)).units + 8 * n + 100 by omega) ra'.units) ex7 tu7 ?_
  dsimp only
  obtain ⟨m, cm, F, _⟩ := st8.fr
  refine wpAny_nameGoes rfl F.ns (by rfl) fun h' m' hn' hs' => ?_
  have k9 : Kp C s ({ s7 with heap := h', toks := s7.toks + 1 } : Shared) := st8.kp.same F.new (Pl.nf (.ns F.ns)) hs'
  exact hQ _ _ k9
end
end
section -- F31
open Sem (wp)
noncomputable def loMsg : Str := Str.ofString "lo must be non-negative"
section
variable {C : Cx} {n : Nat} {A A0 : Around} {s s' s₀ : Shared} {env : Env} {ρ ρ' : Names} {pv pvc : List Addr} {own : Own}
theorem pfx_bisect (G : Glb C) (d : PyData) (x : Int) (lo : Int) (hlo : lo < 0) : PFnX C 3 (.ref 57) [d, .int x, .int lo] (some loMsg) "ValueError" := fun A ra s pv vs B L P hv Q E hq => by
  obtain ⟨-, doc, pm, D⟩ := G.fn 5 57 _ _ (by walk_at "has")
  obtain ⟨o, n, t, ho, hs⟩ := G.dflt 49 (by walk_at "has") s B
  obtain ⟨m, hn, hm⟩ := G.kdflt 50 (by walk_at "has") s B
  obtain ⟨v1, v2, v3, rfl, r1, r2, r3⟩ := hv.inv3
  refine wpAny_call (callX_def (n := 2) (binds := [("a", v1), ("x", v2), ("lo", v3), ("hi", .none), ("key", .none)]) (ρ := [("a", d), ("x", .int x), ("lo", .int lo), ("hi", .none), ("key", .none)]) D rfl rfl B L P ra (by decide)
    (binds_left3 ho hs hn hm) (by simp only [List.map_cons, List.map_nil]; decide +kernel) ?_ ?_ ?_ hq)
  · intro L x hx
    simp only [List.map_cons, List.map_nil, List.mem_cons, List.not_mem_nil, or_false] at hx
    rcases hx with rfl | rfl | rfl | rfl | rfl <;> exact .inl rfl
  · intro y d i
    simp only [List.mem_cons, Prod.mk.injEq, List.not_mem_nil, or_false] at i
    rcases i with ⟨rfl, rfl⟩ | ⟨rfl, rfl⟩ | ⟨rfl, rfl⟩ | ⟨rfl, rfl⟩ | ⟨rfl, rfl⟩
    · exact ⟨_, by walk_at "has", r1⟩
    · exact ⟨_, by walk_at "has", r2⟩
    · exact ⟨_, by walk_at "has", r3⟩
    · exact ⟨_, by walk_at "has", .none⟩
    · exact ⟨_, by walk_at "has", .none⟩
  · intro L' s1 env he ra st Q E hE
    subst he
    have hv := G.bi (Str.ofString "ValueError") (.type "ValueError") (by walk_at "has")
    conv in (bdI 5) => whnf
    refine st.skip ra .cstr (fun s1 st => ?_)
    refine st.ifs ra (b := decide (lo < 0)) (Tst.cmp (x := .int lo) (y := .int 0) (.nam (by walk_at "has")) .cint (.lt _ _)) (fun _ s2 st => ?_) (fun q => absurd hlo (of_decide_eq_false q))
    exact st.raiseV ra hv.1 hv.2 fun e s3 st f => hE e _ s3 st.kp st.live f
theorem deed_lam {f c' : Addr} {ctv : Value} {qual msg : Str} {params : Arguments} {body : Expr} {scope : Scope} {clos : List (Str × Addr)} {ρf : Names} (B : Base C s) (hf : s.heap.get? f = some (lamO C qual params body scope clos c' ctv)) (hc : CodeR s.heap c' qual)
    (hcell : ∀ x ∈ scope.names, x.2 ≠ .cell) (hk : scope.kind = .function) (hco : scope.isCoroutine = false) (hgen : scope.isGenerator = false)
    (hbind : ∀ pm cdv ct, bindArgs (kla_fn (Str.ofString "<lambda>") qual params body scope clos pm cdv ct) ⟨[], []⟩ = pure [])
    (hfree : ∀ x d, (x, d) ∈ ρf → scope.names.lookup x = some .free ∧ ∃ c v, clos.lookup x = some c ∧ s.heap.IsCell c (some v) ∧ RD s.heap [] v d)
    (hbody : ∀ L, EvX C n (newEnv scope L mainGlobals clos (qual ++ ".<locals>.") (some f) (.ref c') none builtinsNs) ρf body (some msg) "ValueError") : Deed C (n + 1) f msg s := by
  refine ⟨⟨_, _, hf, rfl⟩, fun A ra s' k L Q E hE => ?_⟩
  have B' := B.mono k
  have hf' := k.sub _ _ hf (nt_func rfl)
  obtain ⟨oc, ovs, ot, c1, c2, c3, c4⟩ := hc
  have hc' : CodeR s'.heap c' qual := ⟨oc, ovs, ot, k.sub _ _ c1 (nd_rec c3 c2), c2, c3, c4⟩
  refine wpAny_call (kla_callFunE (by have := ra.depth; omega) hf' rfl hco hgen rfl hc'.rec' ?_)
  refine PySem.wpAny_of_eq (a := ([] : List (Str × Value))) (hbind _ _ _) ?_
  refine wpAny_newFunctionEnv hcell (by simp) (fun h' hns hsb => ?_) hk
  have keep : ∀ b o, s'.heap.get? b = some o → h'.get? b = some o := fun b o e => hsb.extBut b o (Nat.ne_of_lt (Heap.lt_size e)) (Heap.get?_push_of_some _ e)
  refine ⟨(base_nolimit B' C.nolimit).keeps keep, kla_codeExpr ?_⟩
  have k1 : Kp C s' { s' with heap := h', toks := s'.toks + ([] : List (Str × Value)).length } := Kp.keep keep
  have hL : s'.heap.get? s'.heap.objs.size = none := noObj
  replace hns : ({ s' with heap := h', toks := s'.toks + ([] : List (Str × Value)).length } : Shared).heap.Ns s'.heap.objs.size _ := hns
  generalize ({ s' with heap := h', toks := s'.toks + ([] : List (Str × Value)).length } : Shared) = s1 at k1 hns ⊢
  generalize s'.heap.objs.size = LL at hns hL ⊢
  have ok : EnvOk (newEnv scope LL mainGlobals clos (qual ++ ".<locals>.") (some f) (.ref c') none builtinsNs) := ⟨hk, rfl, rfl⟩
  have L1 : Live C (A.deeper (newEnv scope LL mainGlobals clos (qual ++ ".<locals>.") (some f) (.ref c') none builtinsNs)) s1 := by
    obtain ⟨l, a, b⟩ := L.mono k1
    refine ⟨_ :: l, by show A.frames.map _ = _; rw [a]; rfl, fun e' he => ?_⟩
    rcases List.mem_cons.mp he with rfl | he
    · refine ⟨by rw [ok.kind]; decide, LL, rfl, ?_, .ns hns⟩
      cases q : C.h₁.get? LL with
      | none => rfl
      | some o' => obtain ⟨_, q'⟩ := B'.there _ _ q; rw [hL] at q'; cases q'
    · exact b e' he
  have r : Rdy C (A.deeper (newEnv scope LL mainGlobals clos (qual ++ ".<locals>.") (some f) (.ref c') none builtinsNs)) (newEnv scope LL mainGlobals clos (qual ++ ".<locals>.") (some f) (.ref c') none builtinsNs) ρf [] s1 :=
    ⟨ok, B'.mono k1, L1, fun x d i => (let ⟨hx, c, v, hl, hcl, rd⟩ := hfree x d i; ⟨v, .inr ⟨.inr hx, c, hl, kp_cell (k.trans k1) hcl⟩, rd.kp (k.trans k1)⟩), fun p hp => absurd hp List.not_mem_nil⟩
  refine hbody LL _ (ra.deeper _) s1 [] r _ _ fun x fl s2 k2 f2 => ?_
  exact f2.leave k2 (L1.mono k2) rfl (by decide) fun s3 k3 f3 => hE x _ s3 (k1.trans k3) (L.mono (k1.trans k3)) (f3.down k1)
end
end
section -- F32
open Sem (wp)
section
variable {C : Cx} {n : Nat} {A A0 : Around} {s s' s₀ : Shared} {env : Env} {ρ ρ' : Names} {pv pvc : List Addr} {own : Own}
theorem items_of {h : Heap} {pv : List Addr} : ∀ {vs : List Value} {ns : List Int}, RDs h pv vs (ns.map .int) → ∃ xs : List (Int × Tok), vs = xs.map (fun p => Value.int p.1 p.2) ∧ xs.map (·.1) = ns
  | _, [], x => ⟨[], x.inv0, rfl⟩
  | _, i :: r, x => by
    obtain ⟨v, ws, rfl, a, b⟩ := x.inv
    obtain ⟨t, rfl⟩ := a.int_inv
    obtain ⟨xs, rfl, e⟩ := items_of b
    exact ⟨(i, t) :: xs, rfl, by rw [List.map_cons, e]⟩
theorem ints_items {h : Heap} {pv : List Addr} {vs : Array Value} {ns : List Int} (x : RDs h pv vs.toList (ns.map .int)) : ∃ xs : Array (Int × Tok), vs = intItems xs ∧ xs.toList.map (·.1) = ns := by
  obtain ⟨xs, e1, e2⟩ := items_of x
  refine ⟨xs.toArray, ?_, e2⟩
  rw [← Array.toList_inj, e1]
  simp [intItems]
theorem num_at {xs : Array (Int × Tok)} {ns : List Int} (h : xs.toList.map (·.1) = ns) (i : Nat) : numAt xs i = ns.getD i 0 := by
  subst h
  unfold numAt
  simp [List.getD_eq_getElem?_getD]
theorem pre_sum {f : Nat → Int} {ns : List Int} (h : ∀ i, f i = ns.getD i 0) : ∀ k, k ≤ ns.length → preSum f k = (ns.take k).sum
  | 0, _ => rfl
  | k + 1, hk => by
    have := pre_sum h k (by omega)
    show preSum f k + f k = _
    have e : ns.take (k + 1) = ns.take k ++ [ns[k]] := by rw [List.take_add_one, List.getElem?_eq_getElem (by omega)]; rfl
    rw [this, h, e, List.sum_append, List.getD_eq_getElem?_getD, List.getElem?_eq_getElem (by omega)]
    show _ + ns[k] = _ + (ns[k] + 0)
    omega
theorem sum_bound {ns : List Int} {B : Nat} (h : ∀ x ∈ ns, 0 ≤ x ∧ x ≤ B) : 0 ≤ ns.sum ∧ ns.sum ≤ ns.length * B := by
  induction ns with
  | nil => simp
  | cons a r ih =>
    obtain ⟨h1, h2⟩ := ih fun x hx => h x (List.mem_cons_of_mem _ hx)
    obtain ⟨h3, h4⟩ := h a List.mem_cons_self
    rw [List.sum_cons, List.length_cons]
    refine ⟨by omega, ?_⟩
    rw [Int.natCast_add, Int.add_mul]
    omega
theorem pf_sum (ns : List Int) (h : ∀ x ∈ ns, 0 ≤ x ∧ x ≤ 2 ^ 40) (hl : ns.length ≤ 1000) : PFn C n (.builtin "sum") [intsD ns] (.int ns.sum) := fun A ra s pv vs B L P hv Q E hq => by
  obtain ⟨v, rfl, r⟩ := hv.inv1
  obtain ⟨l, ws, rfl, _, el, er⟩ := r.list_inv
  obtain ⟨xs, rfl, e⟩ := ints_items er
  have hz : xs.size = ns.length := by rw [← e]; simp
  have hb : ∀ k, 0 ≤ (ns.take k).sum ∧ (ns.take k).sum ≤ 1000 * 2 ^ 40 := fun k => by
    obtain ⟨h1, h2⟩ := sum_bound (ns := ns.take k) (B := 2 ^ 40) fun x hx => h x (List.mem_of_mem_take hx)
    refine ⟨h1, Int.le_trans h2 ?_⟩
    have : (ns.take k).length ≤ 1000 := by rw [List.length_take]; omega
    exact Int.mul_le_mul_of_nonneg_right (by omega) (by decide)
  refine sum_intList ra.handled el.isList (fun j hj => ?_) fun h' tk t' hk => ?_
  · rw [num_at e, pre_sum (num_at e) _ (by omega)]
    have h1 := hb (j + 1)
    have h2 : 0 ≤ ns.getD j 0 ∧ ns.getD j 0 ≤ 2 ^ 40 := by
      rw [List.getD_eq_getElem?_getD, List.getElem?_eq_getElem (by omega)]
      exact h _ (List.getElem_mem _)
    unfold InLong
    constructor <;> constructor <;> omega
  · rw [pre_sum (num_at e) _ (by omega), hz, List.take_length]
    exact hq _ _ (Kp.keep hk) (.int _ _)
noncomputable def minIx (ns : List Int) : Nat := argBest (fun i j => decide (ns.getD i 0 < ns.getD j 0)) (ns.length - 1)
theorem pf_min (ns : List Int) (hne : 0 < ns.length) (x : Int) (hx : minIx ns < ns.length → x = ns.getD (minIx ns) 0) : PFn C n (.builtin "min") [intsD ns] (.int x) := fun A ra s pv vs B L P hv Q E hq => by
  obtain ⟨v, rfl, r⟩ := hv.inv1
  obtain ⟨l, ws, rfl, _, el, er⟩ := r.list_inv
  obtain ⟨xs, rfl, e⟩ := ints_items er
  have hz : xs.size = ns.length := by rw [← e]; simp
  refine min_intList ra.handled el.isList (by omega) fun v h' tk hv hk => ?_
  have e1 : argBest (fun i j => decide (numAt xs i < numAt xs j)) (xs.size - 1) = minIx ns := by
    unfold minIx
    rw [hz]
    congr 1
    funext i j
    rw [num_at e, num_at e]
  rw [e1] at hv
  have hi : minIx ns < ns.length := by
    obtain ⟨h1, _⟩ := Array.getElem?_eq_some_iff.mp hv
    have : (intItems xs).size = xs.size := by simp [intItems]
    omega
  obtain ⟨t, rfl⟩ := intItems_at hv
  rw [num_at e, ← hx hi]
  exact hq _ _ (Kp.keep hk) (.int _ _)
theorem Ev.mulT {l r pos} (hl : Ev C n env ρ l (.list [.bool true])) (hr : Ev C n env ρ r (.int 6)) : Ev C n env ρ (.BinOp l .Mult r pos) (.list (List.replicate 6 (.bool true))) := fun A ra s pv rd Q E h => by
  refine wpAny_BinOp (hl A ra s pv rd _ _ fun a s1 k1 h1 => hr A ra s1 pv (rd.kp k1) _ _ fun b s2 k2 h2 => ?_)
  obtain ⟨u, rfl⟩ := h2.int_inv
  obtain ⟨l, ws, rfl, _, ⟨k, el⟩, er⟩ := (h1.kp k2).list_inv
  have hw : ws = #[.bool true] := by
    rw [← Array.toList_inj]
    obtain ⟨v, e, a⟩ := er.inv1
    rw [e, a.bool_inv]
  subst hw
  have rd2 := (rd.kp k1).kp k2
  refine wpAny_binaryOp_repeat_ref (T := "list") (U := "int") (by decide) ⟨_, el, rfl⟩ (fun s' => typeIs_int s' 6 u) noFill_list_mul F.fills_int_mul F.slot_int_rmul repeat_list F.slot_int_index.lookup
    (call_meets F.slot_int_rmul (typeIs_int s2 6 u) F.entry_int_rmul (F.args_int_rmul_2 _ _) (int___rmul___int_list 6 u l #[.bool true] k)
      ⟨el, rfl, ⟨_, el, rfl⟩, call_meets F.slot_list_mul ⟨_, el, rfl⟩ F.entry_list_mul (F.args_list_mul_2 _ _)
        (AutoListH.list___mul___list_int_3 l #[.bool true] k 6 u (by simp [Builtin.List.listFitsIndex]) (by simp) (by simp [Builtin.List.listTooLong, sizeLine]))
        ⟨el, ?_⟩⟩)
  refine h _ _ ((k1.trans k2).trans Kp.push) (.list rd2.new ⟨_, Heap.get?_push_size _ rfl⟩ ?_)
  exact .cons (.bool _) (.cons (.bool _) (.cons (.bool _) (.cons (.bool _) (.cons (.bool _) (.cons (.bool _) .nil)))))
end
end
section -- F33
open Sem (wp)
noncomputable abbrev Trip := Int × Int × Int
noncomputable def ltT (x y : Trip) : Bool := if x.1 = y.1 then (if x.2.1 = y.2.1 then decide (x.2.2 < y.2.2) else decide (x.2.1 < y.2.1)) else decide (x.1 < y.1)
noncomputable def tripD (x : Trip) : PyData := .tuple [.int x.1, .int x.2.1, .int x.2.2]
theorem ltT_iff (x y : Trip) : ltT x y = true ↔ (x.1 < y.1 ∨ (x.1 = y.1 ∧ (x.2.1 < y.2.1 ∨ (x.2.1 = y.2.1 ∧ x.2.2 < y.2.2)))) := by
  unfold ltT
  by_cases h1 : x.1 = y.1
  · by_cases h2 : x.2.1 = y.2.1
    · simp [h1, h2]
    · simp [h1, h2]
  · simp [h1]
theorem ltT_irr (x : Trip) : ltT x x = false := by simp [ltT]
theorem lex_trans {a b c : Int} {P Q R : Prop} (t : P → Q → R) (h : a < b ∨ a = b ∧ P) (k : b < c ∨ b = c ∧ Q) : a < c ∨ a = c ∧ R := by
  rcases h with h | ⟨rfl, h⟩
  · exact .inl (k.elim (Int.lt_trans h) fun e => e.1 ▸ h)
  · exact k.imp_right fun q => ⟨q.1, t h q.2⟩
theorem lex_total {a b : Int} {P Q : Prop} (h : ¬ (a < b ∨ a = b ∧ P)) (t : a = b → ¬ P → Q) : b < a ∨ b = a ∧ Q := by
  rcases Int.lt_trichotomy a b with k | k | k
  · exact absurd (.inl k) h
  · exact .inr ⟨k.symm, t k fun p => h (.inr ⟨k, p⟩)⟩
  · exact .inl k
theorem ltT_trans {x y z : Trip} (h : ltT x y = true) (h' : ltT y z = true) : ltT x z = true :=
  (ltT_iff _ _).mpr (lex_trans (lex_trans Int.lt_trans) ((ltT_iff _ _).mp h) ((ltT_iff _ _).mp h'))
theorem ltT_asym {x y : Trip} (h : ltT x y = true) : ltT y x = false := by
  cases q : ltT y x with
  | false => rfl
  | true => have := ltT_trans h q; rw [ltT_irr] at this; cases this
theorem ltT_total {x y : Trip} (h : ltT x y = false) (hne : x ≠ y) : ltT y x = true := by
  exact (ltT_iff _ _).mpr (lex_total (fun q => Bool.false_ne_true (h.symm.trans ((ltT_iff _ _).mpr q))) fun e1 n1 => lex_total n1 fun e2 n2 => (Int.lt_or_eq_of_le (Int.not_lt.mp n2)).resolve_right fun e3 => hne (Prod.ext e1 (Prod.ext e2 e3.symm)))
theorem sorted_uniq : ∀ {a b : List Trip}, a.Perm b → a.Pairwise (fun x y => ltT x y = true) → b.Pairwise (fun x y => ltT x y = true) → a = b
  | [], b, p, _, _ => p.nil_eq
  | x :: a, [], p, _, _ => absurd p.symm.nil_eq (by simp)
  | x :: a, y :: b, p, ha, hb => by
    have ha' := List.pairwise_cons.mp ha
    have hb' := List.pairwise_cons.mp hb
    have e : x = y := by
      rcases List.mem_cons.mp (p.mem_iff.mp List.mem_cons_self) with q | q
      · exact q
      · rcases List.mem_cons.mp (p.mem_iff.mpr List.mem_cons_self) with r | r
        · exact r.symm
        · have h1 := hb'.1 x q
          have h2 := ha'.1 y r
          rw [ltT_asym h1] at h2; cases h2
    subst e
    rw [sorted_uniq (List.Perm.cons_inv p) ha'.2 hb'.2]
noncomputable def runB {α : Type} (n : Nat) (lt : Nat → Nat → Bool) : KasT α → Option α
  | .ret a => some a
  | .ask i j k => if i < n ∧ j < n then runB n lt (k (lt i j)) else none
theorem runB_congr {α : Type} {n : Nat} {lt lt' : Nat → Nat → Bool} (h : ∀ i j, i < n → j < n → lt i j = lt' i j) : ∀ t : KasT α, runB n lt t = runB n lt' t
  | .ret _ => rfl
  | .ask i j k => by
    unfold runB
    split
    · rename_i hij
      rw [h i j hij.1 hij.2]
      exact runB_congr h _
    · rfl
theorem kasWp_run {α : Type} {n : Nat} {lt : Nat → Nat → Bool} {cmp : Nat → Nat → (Bool → Shared → Prop) → Shared → Prop} {s : Shared} (hc : ∀ i j, i < n → j < n → ∀ C : Bool → Shared → Prop, C (lt i j) s → cmp i j C s) {Q : α → Shared → Prop} {a : α} :
    ∀ t : KasT α, runB n lt t = some a → Q a s → t.kasWp cmp Q s
  | .ret b, h, q => by
    have : b = a := Option.some.inj h
    subst this; exact q
  | .ask i j k, h, q => by
    unfold runB at h
    split at h
    · rename_i hij
      exact hc i j hij.1 hij.2 _ (kasWp_run hc (k (lt i j)) h q)
    · cases h
noncomputable def rankOk (r : List Nat) : Bool := match runB 6 (fun i j => decide (r.getD i 0 < r.getD j 0)) (kas_sort 6) with
  | some p => decide (p.toList.map (fun i => r.getD i 0) = [0, 1, 2, 3, 4, 5]) && p.toList.isPerm (List.range 6)
  | none => false
noncomputable def all6 (f : Nat → Bool) : Bool := (List.range 6).all f
theorem all6_at {f : Nat → Bool} (h : all6 f = true) {i : Nat} (hi : i < 6) : f i = true := List.all_eq_true.mp h i (List.mem_range.mpr hi)
theorem sort6B : (all6 fun a => all6 fun b => b == a || all6 fun c => c == a || (c == b || all6 fun d => d == a || (d == b || (d == c || all6 fun e => e == a || (e == b || (e == c || (e == d || all6 fun f => f == a || (f == b || (f == c || (f == d || (f == e || rankOk [a, b, c, d, e, f]))))))))))) = true := by decide +kernel
theorem orF {x y : Nat} {b : Bool} (h : (x == y || b) = true) (n : x ≠ y) : b = true := by
  rcases (Bool.or_eq_true _ _).mp h with q | q
  · exact absurd (eq_of_beq q) n
  · exact q
theorem sort6 (a : Nat) (ha : a < 6) (b : Nat) (hb : b < 6) (b1 : b ≠ a) (c : Nat) (hc : c < 6) (c1 : c ≠ a) (c2 : c ≠ b) (d : Nat) (hd : d < 6) (d1 : d ≠ a) (d2 : d ≠ b) (d3 : d ≠ c) (e : Nat) (he : e < 6) (e1 : e ≠ a) (e2 : e ≠ b) (e3 : e ≠ c) (e4 : e ≠ d)
    (f : Nat) (hf : f < 6) (f1 : f ≠ a) (f2 : f ≠ b) (f3 : f ≠ c) (f4 : f ≠ d) (f5 : f ≠ e) : rankOk [a, b, c, d, e, f] = true := by
  have h := orF (all6_at (all6_at sort6B ha) hb) b1
  have h := orF (orF (all6_at h hc) c1) c2
  have h := orF (orF (orF (all6_at h hd) d1) d2) d3
  have h := orF (orF (orF (orF (all6_at h he) e1) e2) e3) e4
  exact orF (orF (orF (orF (orF (all6_at h hf) f1) f2) f3) f4) f5
noncomputable def rankF (lt : Nat → Nat → Bool) (i : Nat) : Nat := ((List.range 6).filter fun j => lt j i).length
theorem filter_lt {l : List Nat} {p q : Nat → Bool} (h : ∀ x ∈ l, p x = true → q x = true) {a : Nat} (ha : a ∈ l) (hq : q a = true) (hp : p a = false) : (l.filter p).length < (l.filter q).length := by
  induction l with
  | nil => cases ha
  | cons x r ih =>
    have hr : (r.filter p).length ≤ (r.filter q).length := by
      clear ih ha
      induction r with
      | nil => exact Nat.le_refl _
      | cons y t iht =>
        have h' := iht fun z hz => h z (by rcases List.mem_cons.mp hz with q | q; exact q ▸ List.mem_cons_self; exact List.mem_cons_of_mem _ (List.mem_cons_of_mem _ q))
        have hy := h y (List.mem_cons_of_mem _ List.mem_cons_self)
        rw [List.filter_cons, List.filter_cons]
        cases e1 : p y <;> cases e2 : q y
        · simpa using h'
        · simp; omega
        · rw [e1, e2] at hy; exact absurd (hy rfl) Bool.false_ne_true
        · simpa using h'
    rw [List.filter_cons, List.filter_cons]
    rcases List.mem_cons.mp ha with e | ha'
    · subst e
      rw [hq, hp]
      simp; omega
    · have := ih (fun z hz => h z (List.mem_cons_of_mem _ hz)) ha'
      have hx := h x List.mem_cons_self
      cases e1 : p x <;> cases e2 : q x
      · simpa using this
      · simp; omega
      · rw [e1, e2] at hx; exact absurd (hx rfl) Bool.false_ne_true
      · simpa using this
theorem sort_six {lt : Nat → Nat → Bool} (hirr : ∀ i, lt i i = false) (htr : ∀ i j k, lt i j = true → lt j k = true → lt i k = true) (htot : ∀ i j, i < 6 → j < 6 → i ≠ j → lt i j = false → lt j i = true) :
    ∃ p : Array Nat, runB 6 lt (kas_sort 6) = some p ∧ p.toList.Pairwise (fun i j => lt i j = true) ∧ p.toList.Perm (List.range 6) := by
  have hmono : ∀ i j, i < 6 → j < 6 → lt i j = true → rankF lt i < rankF lt j := fun i j hi hj h =>
    filter_lt (fun k _ hk => htr k i j hk h) (List.mem_range.mpr hi) h (hirr i)
  have hiff : ∀ i j, i < 6 → j < 6 → lt i j = decide (rankF lt i < rankF lt j) := fun i j hi hj => by
    cases h : lt i j with
    | true => exact (decide_eq_true (hmono i j hi hj h)).symm
    | false =>
      refine (decide_eq_false ?_).symm
      by_cases e : i = j
      · subst e; omega
      · have := hmono j i hj hi (htot i j hi hj e h); omega
  have hlt6 : ∀ i, i < 6 → rankF lt i < 6 := fun i hi => by
    have := filter_lt (l := List.range 6) (p := fun j => lt j i) (q := fun _ => true) (fun _ _ _ => rfl) (List.mem_range.mpr hi) rfl (hirr i)
    have e : (List.range 6).filter (fun _ => true) = List.range 6 := List.filter_eq_self.mpr (by simp)
    rw [e, List.length_range] at this
    exact this
  have hne : ∀ i j, i < 6 → j < 6 → i ≠ j → rankF lt j ≠ rankF lt i := fun i j hi hj e q => by
    cases h : lt i j with
    | true => have := hmono i j hi hj h; omega
    | false => have := hmono j i hj hi (htot i j hi hj e h); omega
  have ok := sort6 (rankF lt 0) (hlt6 0 (by decide)) (rankF lt 1) (hlt6 1 (by decide)) (hne 0 1 (by decide) (by decide) (by decide)) (rankF lt 2) (hlt6 2 (by decide)) (hne 0 2 (by decide) (by decide) (by decide)) (hne 1 2 (by decide) (by decide) (by decide))
    (rankF lt 3) (hlt6 3 (by decide)) (hne 0 3 (by decide) (by decide) (by decide)) (hne 1 3 (by decide) (by decide) (by decide)) (hne 2 3 (by decide) (by decide) (by decide))
    (rankF lt 4) (hlt6 4 (by decide)) (hne 0 4 (by decide) (by decide) (by decide)) (hne 1 4 (by decide) (by decide) (by decide)) (hne 2 4 (by decide) (by decide) (by decide)) (hne 3 4 (by decide) (by decide) (by decide))
    (rankF lt 5) (hlt6 5 (by decide)) (hne 0 5 (by decide) (by decide) (by decide)) (hne 1 5 (by decide) (by decide) (by decide)) (hne 2 5 (by decide) (by decide) (by decide)) (hne 3 5 (by decide) (by decide) (by decide)) (hne 4 5 (by decide) (by decide) (by decide))
  have hget : ∀ i, i < 6 → [rankF lt 0, rankF lt 1, rankF lt 2, rankF lt 3, rankF lt 4, rankF lt 5].getD i 0 = rankF lt i := fun i hi => by
    match i, hi with
    | 0, _ => rfl
    | 1, _ => rfl
    | 2, _ => rfl
    | 3, _ => rfl
    | 4, _ => rfl
    | 5, _ => rfl
  unfold rankOk at ok
  rw [runB_congr (lt' := lt) (fun i j hi hj => by rw [hget i hi, hget j hj]; exact (hiff i j hi hj).symm)] at ok
  cases hp : runB 6 lt (kas_sort 6) with
  | none => rw [hp] at ok; cases ok
  | some p =>
    rw [hp] at ok
    simp only [Bool.and_eq_true, decide_eq_true_eq] at ok
    obtain ⟨h1, hperm⟩ := ok
    have hperm := List.isPerm_iff.mp hperm
    have h2 : ∀ i ∈ p.toList, i < 6 := fun i hi => List.mem_range.mp (hperm.mem_iff.mp hi)
    have hr : p.toList.map (rankF lt) = [0, 1, 2, 3, 4, 5] := by
      rw [← h1]
      exact List.map_congr_left fun i hi => (hget i (h2 i hi)).symm
    have hpw : (p.toList.map (rankF lt)).Pairwise (· < ·) := by rw [hr]; decide
    have hpl : p.toList.Pairwise (fun i j => lt i j = true) := by
      refine (List.pairwise_map.mp hpw).imp_of_mem fun {i j} hi hj h => ?_
      rw [hiff i j (h2 i hi) (h2 j hj)]
      exact decide_eq_true h
    exact ⟨p, rfl, hpl, hperm⟩
end
section -- F34
open Sem (wp)
section
variable {C : Cx} {n : Nat} {A A0 : Around} {s s' s₀ : Shared} {env : Env} {ρ ρ' : Names} {pv pvc : List Addr} {own : Own} {prog : Program} {w : World} {E : Value → Shared → Prop}
theorem lex3 {x1 x2 x3 y1 y2 y3 : Int} {t1 t2 t3 u1 u2 u3 : Tok} {Q : Bool → Shared → Prop} (h : Q (ltT (x1, x2, x3) (y1, y2, y3)) s) :
    KatLex prog w A true false Q [(.int x1 t1, .int y1 u1), (.int x2 t2, .int y2 u2), (.int x3 t3, .int y3 u3)] 0 s := by
  unfold ltT at h
  refine kat_cons (wpAny_eqBool_int ?_)
  refine kat_go (fun e1 => kat_yes (kat_cons (wpAny_eqBool_int ?_))) fun e1 => kat_no (oneLt_int ?_)
  · rw [if_pos (by simpa using e1)] at h
    refine kat_go (fun e2 => kat_yes (kat_cons (wpAny_eqBool_int ?_))) fun e2 => kat_no (kat_one _ _ (lt_int ?_))
    · rw [if_pos (by simpa using e2)] at h
      refine kat_go (fun e3 => kat_yes (kat_nil ?_)) fun e3 => kat_no (kat_one _ _ (lt_int h))
      have e3 : x3 = y3 := by simpa using e3
      have e4 : decide (x3 < y3) = false := decide_eq_false (by omega)
      rw [← e4]
      exact h
    · rw [if_neg (by simpa using e2)] at h; exact h
  · rw [if_neg (by simpa using e1)] at h; exact h
theorem trip_lt {x y : Trip} {v v' : Value} {Q : Bool → Shared → Prop} (hv : RD s.heap pv v (tripD x)) (hv' : RD s.heap pv v' (tripD y)) (hq : Q (ltT x y) s) : wpAny (model prog w) A (keyLt' (tuples' true) v v') Q E s := by
  obtain ⟨a, xs, rfl, -, ⟨ox, e1, _, n1, d1⟩, r1⟩ := hv.tuple_inv
  obtain ⟨b, ys, rfl, -, ⟨oy, e2, _, n2, d2⟩, r2⟩ := hv'.tuple_inv
  obtain ⟨p1, p2, p3, ep, q1, q2, q3⟩ := r1.inv3
  obtain ⟨p1', p2', p3', ep', q1', q2', q3'⟩ := r2.inv3
  obtain ⟨t1, rfl⟩ := q1.int_inv
  obtain ⟨t2, rfl⟩ := q2.int_inv
  obtain ⟨t3, rfl⟩ := q3.int_inv
  obtain ⟨u1, rfl⟩ := q1'.int_inv
  obtain ⟨u2, rfl⟩ := q2'.int_inv
  obtain ⟨u3, rfl⟩ := q3'.int_inv
  refine kat_lt e1 d1 e2 d2 ?_
  have hz : decide (xs.size < ys.size) = false := by
    have z1 := congrArg List.length ep
    have z2 := congrArg List.length ep'
    simp at z1 z2
    exact decide_eq_false (by omega)
  rw [hz, ep, ep']
  exact lex3 hq
theorem trips_kat {h : Heap} : ∀ {vs : List Value} {ks : List Trip}, RDs h pv vs (ks.map tripD) → ∃ fs : List Value, KatTups h vs fs ∧ fs.length = ks.length ∧ ∀ v ∈ fs, ∃ i t, v = .int i t
  | _, [], x => ⟨[], by rw [x.inv0]; exact KatTups.nil, rfl, fun v hv => absurd hv List.not_mem_nil⟩
  | _, k :: r, x => by
    obtain ⟨v, ws, rfl, a, b⟩ := x.inv
    obtain ⟨ad, xs, rfl, -, ⟨ox, e1, c1, n1, d1⟩, r1⟩ := a.tuple_inv
    obtain ⟨p1, p2, p3, ep, q1, _, _⟩ := r1.inv3
    obtain ⟨t1, rfl⟩ := q1.int_inv
    obtain ⟨fs, h1, h2, h3⟩ := trips_kat b
    refine ⟨.int k.1 t1 :: fs, KatTups.cons e1 c1 d1 ?_ h1, by simp [h2], fun v hv => ?_⟩
    · have : xs.toList[0]? = some (.int k.1 t1) := by rw [ep]; rfl
      simpa using this
    · rcases List.mem_cons.mp hv with rfl | hv
      · exact ⟨_, _, rfl⟩
      · exact h3 v hv
noncomputable def outOf (p : Array Nat) (vs : List Value) : List Value := p.toList.map fun i => vs.getD i Value.none
theorem rds_getD {h : Heap} {vs : List Value} {ks : List Trip} (x : RDs h pv vs (ks.map tripD)) {i : Nat} (hi : i < ks.length) : RD h pv (vs.getD i .none) (tripD (ks.getD i (0, 0, 0))) := by
  obtain ⟨v, e1, e2⟩ := x.get (i := i) (d := tripD (ks.getD i (0, 0, 0))) (by rw [List.getElem?_map, List.getD_eq_getElem?_getD, List.getElem?_eq_getElem hi]; rfl)
  rw [List.getD_eq_getElem?_getD, e1]; exact e2
theorem list_sort_six {a : Addr} {vs : List Value} {ks : List Trip} {n : Nat} {p : Array Nat} {P : PySem.Fin → Shared → Prop} (ho : s.heap.get? a = some (seqObj "list" vs.toArray n)) (hk6 : ks.length = 6) (hr : RDs s.heap [a] vs (ks.map tripD))
    (hp : runB 6 (fun i j => ltT (ks.getD i (0, 0, 0)) (ks.getD j (0, 0, 0))) (kas_sort 6) = some p) (hp6 : p.size = 6)
    (h : ∀ h' c, (∀ b o, b ≠ a → s.heap.get? b = some o → h'.get? b = some o) → h'.get? a = some (seqObj "list" (outOf p vs).toArray c) → P (.done (.ret .none)) { s with heap := h' }) :
    wpAny (model prog w) A (Builtin.«list.sort» ⟨[.ref a], []⟩) P E s := by
  have hv6 : vs.length = 6 := by rw [hr.length, List.length_map, hk6]
  have hsl : sizeLine = 16777216 := rfl
  obtain ⟨e1, ho1⟩ : ∃ e1, (s.heap.update a (Obj.mapSeq fun _ => (#[] : Array Value))).get? a = some (seqObj "list" #[] e1) := ⟨_, get?_update_seq ho fun _ => #[]⟩
  have keep1 : ∀ b o, b ≠ a → s.heap.get? b = some o → (((s.heap.update a (Obj.mapSeq fun _ => (#[] : Array Value))).push (seqObj "tuple" vs.toArray 0)).push (seqObj "list" #[] 0)).get? b = some o := fun b o hb e =>
    Heap.get?_push_of_some _ (Heap.get?_push_of_some _ ((Heap.get?_update_other _ _ (Ne.symm hb)).trans e))
  have ho3 : (((s.heap.update a (Obj.mapSeq fun _ => (#[] : Array Value))).push (seqObj "tuple" vs.toArray 0)).push (seqObj "list" #[] 0)).get? a = some (seqObj "list" #[] e1) := Heap.get?_push_of_some _ (Heap.get?_push_of_some _ ho1)
  rw [list_sort_plain]
  refine wpAny_bind (listItems_at ho rfl ?_)
  refine wpAny_bind (listUpdate_at ho rfl ?_ (by rw [List.size_toArray]; omega) (Nat.zero_le _))
  refine wpAny_bind (seqEpoch_at ho1 rfl ?_)
  refine wpAny_bind (wpAny_newTuple ?_ (by show vs.length ≤ _; omega))
  refine wpAny_bind (wpAny_newList ?_ (Nat.zero_le _))
  refine wpAny_holding ?_
  show wpAny (model prog w) A _ P E { s with heap := ((s.heap.update a (Obj.mapSeq fun _ => (#[] : Array Value))).push (seqObj "tuple" vs.toArray 0)).push (seqObj "list" #[] 0) }
  generalize ((s.heap.update a (Obj.mapSeq fun _ => (#[] : Array Value))).push (seqObj "tuple" vs.toArray 0)).push (seqObj "list" #[] 0) = H at keep1 ho3 ⊢
  have hrH : RDs ({ s with heap := H } : Shared).heap [a] vs (ks.map tripD) := hr.mono fun b o xs m hb e d => keep1 b o (fun q => hb (by rw [q]; exact List.mem_cons_self)) e
  generalize hs1 : ({ s with heap := H } : Shared) = s1 at hrH ⊢
  have hn2 : ¬ vs.toArray.size < 2 := by rw [List.size_toArray]; omega
  dsimp only
  rw [if_neg hn2, if_neg hn2]
  obtain ⟨fs, ft, fl, fi⟩ := trips_kat hrH
  refine wpAny_bind (kat_kind (T := .type "int") ft (by omega) (fun v hv => ?_) (by decide) ?_)
  · obtain ⟨i, t, rfl⟩ := fi v hv
    exact .now
  rw [show ((Value.type "int") != (Value.type "tuple")) = true by decide]
  have ask : (kas_sort vs.length).kasWp (kas_ask prog w A (tuples' true) vs) (fun p' s'' => p' = p ∧ s'' = s1) s1 := by
    rw [hv6]
    refine kasWp_run (lt := fun i j => ltT (ks.getD i (0, 0, 0)) (ks.getD j (0, 0, 0))) (fun i j hi hj C hC => ?_) _ hp ⟨rfl, rfl⟩
    exact trip_lt (rds_getD hrH (by omega)) (rds_getD hrH (by omega)) hC
  refine wpAny_bind (wpAny_mono (kat_run (Q := fun st' s' => s' = s1 ∧ failedOf st' = none ∧ arrOf st' = p.map (kas_item (vs.toArray.zip vs.toArray))) rfl (by omega) (by omega) (fun p' st' s' a1 a2 a3 a4 => ?_) ask) ?_ fun _ _ e => e)
  · obtain ⟨rfl, rfl⟩ := a4
    exact ⟨rfl, a3, a2⟩
  rintro ⟨⟨⟩, st'⟩ s' ⟨rfl, hf, har⟩
  dsimp only
  have hout := kat_snds rfl har
  have hsz : (List.toArray (p.toList.map fun i => vs.getD i Value.none)).size = 6 := by rw [List.size_toArray, List.length_map, Array.length_toList, hp6]
  rw [hout]
  subst hs1
  obtain ⟨c2, hc2⟩ : ∃ c2, (H.update a (Obj.mapSeq fun _ => List.toArray (p.toList.map fun i => vs.getD i Value.none))).get? a = some (seqObj "list" (List.toArray (p.toList.map fun i => vs.getD i Value.none)) c2) := ⟨_, get?_update_seq ho3 fun _ => List.toArray (p.toList.map fun i => vs.getD i Value.none)⟩
  refine wpAny_bind (seqEpoch_at ho3 rfl ?_)
  refine wpAny_bind (listUpdate_at ho3 rfl ?_ (Nat.zero_le _) (Nat.le_trans (Nat.le_of_eq hsz) (by omega)))
  rw [hf]
  simp only [bne_self_eq_false, Bool.false_eq_true, if_false]
  exact wpAny_pure (h _ c2 (fun b o hb e => (Heap.get?_update_other _ _ (Ne.symm hb)).trans (keep1 b o hb e)) hc2)
theorem rds_map {h : Heap} {vs : List Value} {ks : List Trip} (x : RDs h pv vs (ks.map tripD)) : ∀ (l : List Nat), (∀ i ∈ l, i < ks.length) → RDs h pv (l.map fun i => vs.getD i Value.none) ((l.map fun i => ks.getD i (0, 0, 0)).map tripD)
  | [], _ => .nil
  | i :: l, hl => .cons (rds_getD x (hl i List.mem_cons_self)) (rds_map x l fun j hj => hl j (List.mem_cons_of_mem _ hj))
theorem range_getD {ks : List Trip} : (List.range ks.length).map (fun i => ks.getD i (0, 0, 0)) = ks := by
  refine List.ext_getElem (by simp) fun i h1 h2 => ?_
  rw [List.getElem_map, List.getElem_range, List.getD_eq_getElem?_getD, List.getElem?_eq_getElem h2]; rfl
theorem pf_sorted (ks ks' : List Trip) (h6 : ks.length = 6) (hnd : ks.Nodup) (hperm : ks'.Perm ks) (hs : ks'.Pairwise (fun x y => ltT x y = true)) : PFn C n (.builtin "sorted") [.list (ks.map tripD)] (.list (ks'.map tripD)) := fun A ra s pv vs0 B Lv P hv Q E hq => by
  obtain ⟨v, rfl, r⟩ := hv.inv1
  obtain ⟨l, ws, rfl, hlp, el, er⟩ := r.list_inv
  obtain ⟨p, hp, hpw, hpp⟩ := sort_six (lt := fun i j => ltT (ks.getD i (0, 0, 0)) (ks.getD j (0, 0, 0))) (fun i => ltT_irr _) (fun i j k => ltT_trans) (fun i j hi hj hij h => ltT_total h fun q => by
    rw [List.getD_eq_getElem?_getD, List.getD_eq_getElem?_getD, List.getElem?_eq_getElem (by omega), List.getElem?_eq_getElem (by omega)] at q
    exact hij ((List.getElem_inj hnd).mp q))
  have hp6 : p.size = 6 := by have := hpp.length_eq; simpa using this
  have hlt : ∀ i ∈ p.toList, i < ks.length := fun i hi => by rw [h6]; exact List.mem_range.mp (hpp.mem_iff.mp hi)
  have hks : p.toList.map (fun i => ks.getD i (0, 0, 0)) = ks' := by
    refine sorted_uniq ?_ (List.pairwise_map.mpr hpw) hs
    refine ((hpp.map _).trans ?_).trans hperm.symm
    rw [← h6, range_getD]
  have hv6 : ws.toList.length = 6 := by rw [er.length, List.length_map, h6]
  have hl : s.heap.IsList l ws.toList.toArray := by rw [Array.toArray_toList]; exact el.isList
  have hsl : sizeLine = 16777216 := rfl
  refine Calls.call_function_entry kind_sorted plain_sorted entry_sorted (args_sorted1 _) ?_
  unfold Builtin.«sorted»
  refine wpAny_bind (m := checkCount "sorted" 1 1 _) (wpAny_pure ?_)
  refine wpAny_bind (collect_list hl ?_ (by omega))
  refine wpAny_bind (wpAny_newList ?_ (by omega))
  have hsz : ((s.heap.push (seqObj "list" #[] 0)).update s.heap.objs.size (Obj.mapSeq (· ++ ws.toList.toArray))).objs.size = s.heap.objs.size + 1 := by
    rw [Heap.size_update, size_push']
  have hoL : (((s.heap.push (seqObj "list" #[] 0)).update s.heap.objs.size (Obj.mapSeq (· ++ ws.toList.toArray))).push (seqObj "list" ws.toList.toArray 0)).get? (s.heap.objs.size + 1) = some (seqObj "list" ws.toList.toArray 0) := by
    rw [← hsz]; exact Heap.get?_push_size _ rfl
  show wpAny _ _ _ _ _ { s with heap := ((s.heap.push (seqObj "list" #[] 0)).update s.heap.objs.size (Obj.mapSeq (· ++ ws.toList.toArray))).push (seqObj "list" ws.toList.toArray 0) }
  rw [hsz]
  have keep : ∀ b o, s.heap.get? b = some o → (((s.heap.push (seqObj "list" #[] 0)).update s.heap.objs.size (Obj.mapSeq (· ++ ws.toList.toArray))).push (seqObj "list" ws.toList.toArray 0)).get? b = some o := fun b o e =>
    Heap.get?_push_of_some _ ((Heap.get?_update_other _ _ (Nat.ne_of_gt (Heap.lt_size e))).trans (Heap.get?_push_of_some _ e))
  have hnD : s.heap.get? (s.heap.objs.size + 1) = none := Heap.get?_none_of_le (Nat.le_succ _)
  generalize hD : s.heap.objs.size + 1 = D at hoL hnD ⊢
  generalize ((s.heap.push (seqObj "list" #[] 0)).update s.heap.objs.size (Obj.mapSeq (· ++ ws.toList.toArray))).push (seqObj "list" ws.toList.toArray 0) = H at keep hoL ⊢
  have er1 : RDs s.heap (D :: pv) ws.toList (ks.map tripD) := er.sub fun b o hb e => by
    rcases List.mem_cons.mp hb with rfl | hb
    · rw [hnD] at e; cases e
    · exact hb
  have erH : RDs H (D :: pv) ws.toList (ks.map tripD) := er1.mono fun b o xs m _ e _ => keep b o e
  refine wpAny_bind (wpAny_holding (wpAny_call_entry slot_list_sort ⟨_, hoL, rfl⟩ entry_list_sort (list_sort_six (s := { s with heap := H }) (ks := ks) (p := p) hoL h6 (erH.sub fun b o hb _ => by
    rw [List.mem_singleton.mp hb]; exact List.mem_cons_self) hp hp6 fun h' c hk hc => ⟨_, rfl, ?_⟩) (args_list_sort _)))
  refine wpAny_pure ⟨_, rfl, ?_⟩
  have keep2 : ∀ b o, s.heap.get? b = some o → h'.get? b = some o := fun b o e => hk b o (fun q => by rw [q, hnD] at e; cases e) (keep b o e)
  refine hq _ _ (Kp.keep keep2) (.list (fun q => ?_) ⟨c, hc⟩ ?_)
  · obtain ⟨o, e⟩ := P D q; rw [hnD] at e; cases e
  · have er2 : RDs h' pv ws.toList (ks.map tripD) := er.mono fun b o xs m _ e _ => keep2 b o e
    have := rds_map er2 p.toList hlt
    rw [hks] at this
    exact this
end
end
section -- F35
open Sem (wp)
section
variable {C : Cx} {n : Nat} {A A0 : Around} {s s' s₀ : Shared} {env : Env} {ρ ρ' ρf : Names} {pv pvc : List Addr} {own : Own}
theorem Ev.said (G : Glb C) {np lp cp : Pos} {params : Arguments} {body : Expr} {scope : Scope} {qual msg : Str} {c P : Addr} (M : Mkr C env c P qual) (hf : Frees env ρ scope.names ρf) (nd : (scope.names.map (·.1)).Nodup)
    (hd : defaultsOf params env = ([], [])) (hq : env.qual ++ "<lambda>" = qual) (hcell : ∀ x ∈ scope.names, x.2 ≠ .cell) (hk : scope.kind = .function) (hco : scope.isCoroutine = false) (hgen : scope.isGenerator = false)
    (hbind : ∀ cl pm cdv ct, bindArgs (kla_fn (Str.ofString "<lambda>") qual params body scope cl pm cdv ct) ⟨[], []⟩ = pure [])
    (hbody : ∀ L f c', EvX C n (newEnv scope L mainGlobals (clOf env scope.names []) (qual ++ ".<locals>.") (some f) (.ref c') none builtinsNs) ρf body (some msg) "ValueError")
    (hkn : env.kindOf (Str.ofString "_law_said") = some .globalImplicit)
    (hst : autoParam (starEach [.Lambda params body scope lp] env = (false, eval (.Lambda params body scope lp) env) :: starEach [] env) syR) :
    Ev C (n + 2) env ρ (.Call (.Name (Str.ofString "_law_said") np) [.Lambda params body scope lp] [] cp) (.str msg) := fun A ra s pv r Q E h => by
  have ⟨hg, hfn⟩ := G.at 26 275 .none .none (by walk_at "has")
  refine wpAny_Call_NameR (ev_glob r hkn hg ?_ (by decide +kernel))
  obtain ⟨of, fd, hof, hfd⟩ := hfn s r.base
  refine callWith_function (o := of) (fd := fd) ?_
  suffices key : wpAny (model C.prog C.w) A (spliced (backTo cp (starEach [.Lambda params body scope lp] env))) (fun vs s1 => (s1.heap.get? 275 = some of ∧ of.data = .func fd) ∧ wpAny (model C.prog C.w) A (call (.ref 275) ([] ++ vs) []) Q E s1) E s by
    rw [hst] at key ⊢
    exact evalArgs_plain key
  refine wpAny_items_cons (pos := cp) ?_ hst
  refine ev_lambda M r hd (frees_closure r hf) hq fun f c' ctv s1 k1 hnf hf1 cr => wpAny_items_nil ⟨⟨k1.sub _ _ hof (nt_func hfd), hfd⟩, ?_⟩
  have r1 := r.kp k1
  have dd : Deed C (n + 1) f msg s1 := deed_lam (n := n) r1.base hf1 cr hcell hk hco hgen (fun pm cdv ct => hbind _ pm cdv ct) (fun x d i => by
    obtain ⟨h1, h2⟩ := hf.mem x d i
    obtain ⟨h3, _⟩ := hf.all x h1
    obtain ⟨v, hn, hr⟩ := r1.names x d h2
    rcases hn with ⟨a, _⟩ | ⟨a, c, b, e⟩
    · rcases h3 with h3 | h3 <;> (rw [a] at h3; cases h3)
    · exact ⟨lookup_of_nodup nd h1, c, v, clOf_free b nd h1, e, hr.sub fun _ _ q => absurd q List.not_mem_nil⟩) (fun L => hbody L f c')
  exact wp_said G ra r1.base r1.live r1.priv dd fun t s2 k2 => h _ s2 (k1.trans k2) (.str _ _)
end
end
section -- F36
open Sem (wp)
noncomputable def lawS (i : Nat) : Stmt := (bdI 27).getD i (.Pass default)
noncomputable def valOf : Stmt → Expr | .Assign _ e _ => e | .Return (some e) _ => e | .If t .. => t | _ => .Constant .none 0 default
noncomputable abbrev lawE (doc pm : Value) (L : Addr) : Env := callEnvC (fdI 27 .none .none doc pm (280 - 1)) L 280
noncomputable def sizesN (c0 c1 : Nat) : List Nat := (List.range (1 + c0 % 7)).map fun k => 1 + c1 / 5 ^ k % 5
noncomputable def tailN (c0 : Nat) : List Nat := [[0, 9], [127, 3], []].getD (c0 / 7 % 3) []
noncomputable def rowN (v : Nat) : List Nat := [v % 12, v / 12 % 6, v / 720, 16 * (v / 72 % 5) + v / 360 % 2]
noncomputable def overN (c0 : Nat) : List Nat := [133, 3, 65, 2, 65].take (c0 / 21 % 6)
section
variable {C : Cx} {n : Nat} {A A0 : Around} {s s' s₀ : Shared} {env : Env} {ρ ρ' ρf : Names} {pv pvc : List Addr} {own : Own} {doc pm : Value} {L : Addr}
theorem flat_one {α : Type} (l : List α) (f : α → PyData) : l.map f = l.flatMap fun x => [f x] := by
  induction l with
  | nil => rfl
  | cons a r ih => rw [List.map_cons, List.flatMap_cons, ← ih]; rfl
theorem rangeD_nat (N : Nat) : rangeD 0 1 N = (List.range N).map fun (i : Nat) => PyData.int (i : Int) := by
  unfold rangeD
  exact List.map_congr_left fun i _ => by rw [Int.zero_add, Int.mul_one]
theorem ev_pow5 {l r : Expr} {pos : Pos} {k : Nat} (hl : Ev C n env ρ l (.int 5)) (hr : Ev C n env ρ r (.int k)) (h : k ≤ 6) : Ev C n env ρ (.BinOp l .Pow r pos) (.int ((5 ^ k : Nat) : Int)) := by
  have e : ((5 ^ k : Nat) : Int) = (5 : Int) ^ ((k : Int)).toNat := by rw [Int.toNat_natCast, Int.natCast_pow]; rfl
  rw [e]
  refine Ev.bin (x := .int 5) (y := .int k) hl hr (.pow _ _ (by omega) ?_)
  have h1 : Builtin.Int.intBits 5 ≤ 10 := by decide +kernel
  have h2 : Builtin.Int.intBits 5 * k ≤ 10 * 6 := Nat.mul_le_mul h1 h
  have h3 : (Builtin.Int.intBits 5 : Int) * (k : Int) ≤ 60 := by exact_mod_cast h2
  omega
theorem ev_add {l r : Expr} {pos : Pos} {a b : Nat} (hl : Ev C n env ρ l (.int a)) (hr : Ev C n env ρ r (.int b)) : Ev C n env ρ (.BinOp l .Add r pos) (.int ((a + b : Nat) : Int)) := by
  rw [Int.natCast_add]; exact Ev.bin hl hr (.add _ _)
theorem ev_mul {l r : Expr} {pos : Pos} {a b : Nat} (hl : Ev C n env ρ l (.int a)) (hr : Ev C n env ρ r (.int b)) (h : IntMulOk a b) : Ev C n env ρ (.BinOp l .Mult r pos) (.int ((a * b : Nat) : Int)) := by
  rw [Int.natCast_mul]; exact Ev.bin hl hr (.mul _ _ h)
theorem ev_div {l r : Expr} {pos : Pos} {a b : Nat} (hl : Ev C n env ρ l (.int a)) (hr : Ev C n env ρ r (.int b)) (h : b ≠ 0) (h2 : b < 1073741824) : Ev C n env ρ (.BinOp l .FloorDiv r pos) (.int ((a / b : Nat) : Int)) := by
  rw [← fdiv_nat]; exact Ev.bin (x := .int a) (y := .int b) hl hr (.div _ _ (by omega) (by rw [Int.natAbs_natCast]; exact h2))
theorem ev_mod {l r : Expr} {pos : Pos} {a b : Nat} (hl : Ev C n env ρ l (.int a)) (hr : Ev C n env ρ r (.int b)) (h : b ≠ 0) : Ev C n env ρ (.BinOp l .Mod r pos) (.int ((a % b : Nat) : Int)) := by
  rw [← fmod_nat]; exact Ev.bin (x := .int a) (y := .int b) hl hr (.mod _ _ (by omega))
theorem ev_int {k pos} {a : Nat} : Ev C n env ρ (.Constant (.int a) k pos) (.int (a : Int)) := Ev.cint
theorem ev_sizes (G : Glb C) {c0 c1 : Nat} {r : List Nat} (m : (Str.ofString "cells", .list (natsL (c0 :: c1 :: r))) ∈ ρ) : Ev C n (lawE doc pm L) ρ (valOf (lawS 1)) (.list (natsL (sizesN c0 c1))) := by
  conv in valOf (lawS 1) => whnf
  have e : natsL (sizesN c0 c1) = (List.range (1 + c0 % 7)).flatMap fun k => [PyData.int ((1 + c1 / 5 ^ k % 5 : Nat) : Int)] := by
    rw [← flat_one]; unfold natsL sizesN; rw [List.map_map]; rfl
  rw [e]
  have hcell : ∀ {ρ' env'} (i : Nat) (d : Nat) {ip sp np : Pos} {k : Nat}, (Str.ofString "cells", PyData.list (natsL (c0 :: c1 :: r))) ∈ ρ' → (c0 :: c1 :: r)[i]? = some d → i < 2 → Ev C n env' ρ' (.Subscript (.Name (Str.ofString "cells") np) (.Constant (.int i) k ip) sp) (.int d) := fun {ρ' env'} i d {_ _ _ _} m' hd hi =>
    Ev.itm (.nam m') (i := (i : Nat)) .cint (.list (seqIndex_nat (by simp; omega)) (by rw [List.getElem?_map, hd]; rfl) (by omega) (by omega)) (by intro _ _; with_unfolding_all rfl)
  refine Ev.comp (List.range (1 + c0 % 7)) (fun (i : Nat) => .int (i : Int)) (fun k => [PyData.int ((1 + c1 / 5 ^ k % 5 : Nat) : Int)]) ?_ (ρf := [(Str.ofString "cells", .list (natsL (c0 :: c1 :: r)))]) (.skip (by decide) (.skip (by decide) (.take m (.inl rfl) .nil))) (by simp only [List.length_range]; omega) fun k hk => ?_
  · rw [← rangeD_nat]
    exact EvIt.range1 G.range (ev_add (ev_int (a := 1)) (ev_mod (hcell 0 c0 m rfl (by decide)) (ev_int (a := 7)) (by decide))) (by omega)
  · have hk6 : k ≤ 6 := by have := List.mem_range.mp hk; omega
    refine ⟨[(Str.ofString "k", .int k)], true, _, fun L => .name (by walk_at "ownn"), fun L => rfl, fun _ L => ?_, rfl⟩
    exact ev_add (ev_int (a := 1)) (ev_mod (ev_div (hcell 1 c1 (by walk_at "has") rfl (by decide)) (ev_pow5 .cint (by walk_at "ev") hk6) (Nat.pos_iff_ne_zero.mp (Nat.pow_pos (by decide))) (Nat.lt_of_le_of_lt (Nat.pow_le_pow_right (by decide) hk6) (by decide))) (ev_int (a := 5)) (by decide))
theorem ev_cell {c : List Nat} {env : Env} {ρ : Names} (i d : Nat) {ip sp np : Pos} {k : Nat} (m : (Str.ofString "cells", PyData.list (natsL c)) ∈ ρ) (hd : c[i]? = some d) (hi : i < 1000) : Ev C n env ρ (.Subscript (.Name (Str.ofString "cells") np) (.Constant (.int i) k ip) sp) (.int d) := by
  have hl := (List.getElem?_eq_some_iff.mp hd).1
  exact Ev.itm (.nam m) (i := (i : Nat)) .cint (.list (seqIndex_nat (by simp; omega)) (by rw [List.getElem?_map, hd]; rfl) (by omega) (by omega)) (by intro _ _; with_unfolding_all rfl)
theorem ev_tail (G : Glb C) {c0 : Nat} {r : List Nat} (m : (Str.ofString "cells", .list (natsL (c0 :: r))) ∈ ρ) : Ev C n (lawE doc pm L) ρ (valOf (lawS 2)) (.list (natsL (tailN c0))) := by
  conv in valOf (lawS 2) => whnf
  refine Ev.itm (d := .list [.list (natsL [0, 9]), .list (natsL [127, 3]), .list (natsL [])]) (i := ((c0 / 7 % 3 : Nat) : Int)) (.lst (.cons (.lst (.cons ev_int (.cons ev_int .nil rfl) rfl) (by decide +kernel)) (.cons (.lst (.cons ev_int (.cons ev_int .nil rfl) rfl) (by decide +kernel)) (.cons (.lst .nil (by decide +kernel)) .nil rfl) rfl) rfl) (len_ok (by kernel_rfl!)))
    (ev_mod (ev_div (ev_cell 0 c0 m rfl (by decide)) (ev_int (a := 7)) (by decide) (by decide)) (ev_int (a := 3)) (by decide)) (.list (k := c0 / 7 % 3) (seqIndex_nat (by have := Nat.mod_lt (c0 / 7) (show 3 > 0 by decide); simpa using this)) ?_ (by omega) (by omega)) (by intro _ _; with_unfolding_all rfl)
  have h := Nat.mod_lt (c0 / 7) (show 3 > 0 by decide)
  unfold tailN
  generalize c0 / 7 % 3 = i at h
  match i, h with
  | 0, _ => rfl
  | 1, _ => rfl
  | 2, _ => rfl
theorem Ev.sliceTmp {value u p pos ds} {b : Nat} (hv : Ev C n env ρ value (.list ds)) (hu : Ev C n env ρ u (.int b)) (hsz : ds.length ≤ sizeLine) : Ev C n env ρ (.Subscript value (.Slice none (some u) none p) pos) (.list (ds.take b)) := fun A ra s pv r Q E h => by
  rw [eval_Subscript]
  refine wpAny_bind (hv A ra s pv r _ _ fun a s1 k1 h1 => wpAny_bind (wpAny_holding (wpAny_Slice ?_)))
  refine evalPart_none_step (evalPart_some_step (hu A ra s1 pv (r.kp k1) _ _ fun w s2 k2 h2 => ?_))
  rw [evalPart_none]
  refine wpAny_pure ?_
  obtain ⟨l, vs, rfl, ha1, ha2, ha3⟩ := (h1.kp k2).list_inv
  obtain ⟨t, rfl⟩ := h2.int_inv
  have l1 := ha3.length
  simp only [Array.length_toList] at l1
  refine wpAny_bind (wpAny_standAt ?_)
  have hl3 := ha2.isList.push { cls := .type "slice", data := .fields #[.none, .int b t, .none] }
  have fin : wpAny (model C.prog C.w) A (operate [.ref s2.heap.objs.size, .ref l] (getItem (.ref l) (.ref s2.heap.objs.size))) (fun r s₃ => wpAny (model C.prog C.w) A (letTemporaryGo value (.ref l) r >>= fun _ => pure r) Q E s₃) E { s2 with heap := s2.heap.push { cls := .type "slice", data := .fields #[.none, .int b t, .none] } } := by
    refine wpAny_operating (wpAny_getItem_list_slice (lo := none) (hi := some (b : Int)) (st := none) hl3 (Heap.IsSliceOf.new ..) .none (.int _ _) .none (by simp) (wpAny_bind (wpAny_letTemporaryGo (wpAny_pure ?_))) (by omega))
    rw [Heap.size_push]
    refine h _ _ (((k1.trans k2).trans Kp.push).trans Kp.push) (ev_slice_end ?_ ((r.kp k1).kp k2).new1 _)
    rw [slicePick_upto']
    exact ha3.take b
  have hT : ({ s2 with heap := s2.heap.push { cls := .type "slice", data := .fields #[.none, .int b t, .none] } } : Shared).TypeIs (.ref l) "list" := hl3.typeIs
  refine wpAny_bind ?_
  rw [getitemInPython_of_ne hT.not_modules]
  refine wpAny_bind (wpAny_specialOf hT list_getitem_lookup ?_)
  first
    | exact wpAny_pure (wpAny_bind fin)
    | exact wpAny_bind (wpAny_pure (wpAny_bind fin))
    | exact wpAny_bind fin
theorem ev_over (G : Glb C) {c0 : Nat} {r : List Nat} (m : (Str.ofString "cells", .list (natsL (c0 :: r))) ∈ ρ) : Ev C n (lawE doc pm L) ρ (valOf (lawS 4)) (.list (natsL (overN c0))) := by
  conv in valOf (lawS 4) => whnf
  have e : natsL (overN c0) = (natsL [133, 3, 65, 2, 65]).take (c0 / 21 % 6) := by unfold natsL overN; rw [List.map_take]
  rw [e]
  exact Ev.sliceTmp (.lst (.cons ev_int (.cons ev_int (.cons ev_int (.cons ev_int (.cons ev_int .nil rfl) rfl) rfl) rfl) rfl) (show 5 ≤ _ by decide +kernel))
    (ev_mod (ev_div (ev_cell 0 c0 m rfl (by decide)) (ev_int (a := 21)) (by decide) (by decide)) (ev_int (a := 6)) (by decide)) (show 5 ≤ _ by decide +kernel)
end
end
section -- F37
open Sem (wp)
noncomputable def bothN (v : Nat) : Nat := 16 * (v / 72 % 5) + v / 360 % 2
noncomputable def toldRow (v : Nat) : List PyData := entRow (v % 12) (v / 12 % 6) (v / 720) (bothN v)
noncomputable def toldD (vs : List Nat) : PyData := .list (vs.map fun v => .tuple (toldRow v))
noncomputable def wishN (t v : Nat) : Wish := ⟨((v % 12 * 2 : Nat) : Int), ((v % 12 * 2 + v / 12 % 6 * 2 : Nat) : Int), ((bothN v / 2 : Nat) : Int), bothN v % 2 != 0, (t : Int)⟩
noncomputable def wishesN (vs : List Nat) : List Wish := (List.range 6).map fun t => wishN t (vs.getD t 0)
noncomputable def sumsN (sizes : List Nat) : List Nat := (List.range sizes.length).map fun k => (sizes.take (k + 1)).sum
noncomputable def onN (S last : Nat) (tail : List Nat) : List Nat := ((List.range (32 - (S + 1))).map (S + 1 + ·)).filter fun m => decide (tail.take 1 = [0]) && decide ((m - S) % last = 0)
section
variable {C : Cx} {n : Nat} {A A0 : Around} {s s' s₀ : Shared} {env : Env} {ρ ρ' ρf : Names} {pv pvc : List Addr} {own : Own} {doc pm : Value} {L : Addr}
theorem told_shaped (vs : List Nat) : SeqAt.shaped (toldD vs) = true := shaped_map _ (fun _ => rfl) (fun w => by simp [toldRow, entRow, PyData.depth, PyData.depthAll]) vs
theorem Tst.neSame {l r : Expr} {pos : Pos} {x : PyData} (hl : Ev C n env ρ l x) (hr : Ev C n env ρ r x) (hs : SeqAt.shaped x = true) (hm : autoParam (behindInMarks .NotEq r = false) syU) : Tst C n env ρ (.Compare l [.NotEq] [r] pos) false := by
  have := Tst.cmp (pos := pos) hl hr (.ne x x hs hs) hm
  rw [eqv_shaped hs] at this
  exact this
theorem Ev.eqSame {l r : Expr} {pos : Pos} {x : PyData} (hl : Ev C n env ρ l x) (hr : Ev C n env ρ r x) (hs : SeqAt.shaped x = true) (hm : autoParam (behindInMarks .Eq r = false) syU) : Ev C n env ρ (.Compare l [.Eq] [r] pos) (.bool true) := by
  have := Ev.cmp (pos := pos) hl hr (.eq x x hs hs) hm
  rw [eqv_shaped hs] at this
  exact this
theorem tst_told (G : Glb C) {vs : List Nat} (hv : vs.length ≤ 100) (m : (Str.ofString "drawn", .list ((vs.map rowN).map natsT)) ∈ ρ) (m2 : (Str.ofString "told", toldD vs) ∈ ρ) : Tst C n (lawE doc pm L) ρ (valOf (lawS 6)) false := by
  conv in valOf (lawS 6) => whnf
  refine Tst.neSame (.nam m2) ?_ (told_shaped vs)
  have e1 : (vs.map rowN).map natsT = vs.map fun v => natsT (rowN v) := by rw [List.map_map]; rfl
  rw [e1] at m
  unfold toldD
  rw [flat_one]
  refine Ev.comp vs (fun v => natsT (rowN v)) (fun v => [PyData.tuple (toldRow v)]) (.list (.nam m)) (ρf := []) (.skip (by decide) (.skip (by decide) (.skip (by decide) (.skip (by decide) (.skip (by decide) .nil))))) (by omega) fun v hv => ?_
  have hm : ∀ {b : Nat}, IntMulOk ((2 : Nat) : Int) (b : Int) := IntMulOk.of_left (by decide +kernel)
  refine ⟨[("a", .int (v % 12 : Nat)), ("wide", .int (v / 12 % 6 : Nat)), ("goal", .int (v / 720 : Nat)), ("both", .int (bothN v : Nat))], true, _, fun L => .tup (.cons (by walk_at "ownn") (by walk_at "upnot") (.cons (by walk_at "ownn") (by walk_at "upnot") (.cons (by walk_at "ownn") (by walk_at "upnot") (.cons (by walk_at "ownn") (by walk_at "upnot") .nil)))), fun L => rfl, fun _ L => ?_, rfl⟩
  unfold toldRow entRow
  rw [Nat.mul_comm (v % 12) 2, Nat.mul_comm (v / 12 % 6) 2, Nat.mul_comm (v / 720) 2]
  refine Ev.tup ?_ (show 5 ≤ _ by decide +kernel)
  refine .cons (ev_mul ev_int (.nam (by walk_at "has")) hm) ?_ rfl
  refine .cons (ev_add (ev_mul ev_int (.nam (by walk_at "has")) hm) (ev_mul ev_int (.nam (by walk_at "has")) hm)) ?_ rfl
  refine .cons (ev_mul ev_int (.nam (by walk_at "has")) hm) ?_ rfl
  refine .cons (ev_div (.nam (by walk_at "has")) (ev_int (a := 2)) (by decide) (by decide)) ?_ rfl
  refine .cons ?_ .nil rfl
  have e2 : (bothN v % 2 != 0) = PyData.eqv (.int ((bothN v % 2 : Nat) : Int)) (.int ((1 : Nat) : Int)) := by
    rw [eqv_int]
    have := Nat.mod_lt (bothN v) (show 2 > 0 by decide)
    generalize bothN v % 2 = k at this
    match k, this with
    | 0, _ => rfl
    | 1, _ => rfl
  rw [e2]
  exact Ev.cmp (x := .int ((bothN v % 2 : Nat) : Int)) (y := .int ((1 : Nat) : Int)) (ev_mod (.nam (by walk_at "has")) (ev_int (a := 2)) (by decide)) ev_int (.eq _ _ rfl rfl) (by with_unfolding_all rfl)
theorem natsL_take (xs : List Nat) (k : Nat) : (natsL xs).take k = natsL (xs.take k) := by unfold natsL; rw [List.map_take]
theorem sum_cast (xs : List Nat) : ((xs.map fun (n : Nat) => (n : Int)).sum) = ((xs.sum : Nat) : Int) := by
  induction xs with
  | nil => rfl
  | cons a r ih => rw [List.map_cons, List.sum_cons, List.sum_cons, ih, Int.natCast_add]
theorem ev_sums (G : Glb C) {sizes : List Nat} (hl : sizes.length ≤ 100) (hb : ∀ x ∈ sizes, x ≤ 100) (m : (Str.ofString "sizes", .list (natsL sizes)) ∈ ρ) : Ev C n (lawE doc pm L) ρ (valOf (lawS 8)) (.list (natsL (sumsN sizes))) := by
  have hlen := G.bi (Str.ofString "len") (.builtin "len") (by walk_at "has")
  have hsum := G.bi (Str.ofString "sum") (.builtin "sum") (by walk_at "has")
  conv in valOf (lawS 8) => whnf
  have e : natsL (sumsN sizes) = (List.range sizes.length).flatMap fun k => [PyData.int (((sizes.take (k + 1)).sum : Nat) : Int)] := by
    rw [← flat_one]; unfold natsL sumsN; rw [List.map_map]; rfl
  rw [e]
  refine Ev.comp (List.range sizes.length) (fun (i : Nat) => .int (i : Int)) (fun k => [PyData.int (((sizes.take (k + 1)).sum : Nat) : Int)]) ?_ (ρf := [(Str.ofString "sizes", .list (natsL sizes))]) (by walk_at "frees") (by simp only [List.length_range]; omega) fun k hk => ?_
  · rw [← rangeD_nat]
    refine EvIt.range1 G.range ?_ (by omega)
    have h1 : (natsL sizes).length = sizes.length := List.length_map _
    rw [← h1]
    exact Ev.callB (.cons (d := .list (natsL sizes)) (.nam m) .nil) (pf_len (by rw [h1]; omega)) hlen.1 hlen.2
  · refine ⟨[(Str.ofString "k", .int k)], true, _, fun L => .name (by walk_at "ownn"), fun L => rfl, fun _ L => ?_, rfl⟩
    rw [← sum_cast]
    refine Ev.callB (.cons (d := intsD ((sizes.take (k + 1)).map fun (n : Nat) => (n : Int))) ?_ .nil) (pf_sum _ (fun x hx => ?_) (by rw [List.length_map, List.length_take]; omega)) hsum.1 hsum.2
    · show Ev _ _ _ _ _ (.list _)
      rw [← natsL_ints, ← natsL_take]
      exact Ev.sliceTo (.nam (by walk_at "has")) (ev_add (.nam (by walk_at "has")) ev_int) (by rw [List.length_map]; have : sizeLine = 16777216 := rfl; omega)
    · obtain ⟨y, hy, rfl⟩ := List.mem_map.mp hx
      have := hb y (List.mem_of_mem_take hy)
      omega
theorem EvIt.range2' (hR : RangeIs C) {p e e' pos} {a b : Nat} (he : Ev C n env ρ e (.int a)) (he' : Ev C n env ρ e' (.int b)) (ha : a < 1000) (hb : b < 1000) (hk : autoParam (env.kindOf "range" = some .globalImplicit) syR)
    (hst : autoParam (starEach [e, e'] env = (false, eval e env) :: starEach [e'] env) syR) (hst' : autoParam (starEach [e'] env = (false, eval e' env) :: starEach [] env) syR) (hpl : autoParam ((starEach [e, e'] env).all (fun x => !x.1) = true) syR) :
    EvIt C n env ρ (.Call (.Name "range" p) [e, e'] [] pos) (rangeD a 1 (b - a)) := fun A ra s pv r Q E h => by
  refine wpAny_Call_NameR (ev_built r hk hR.1 hR.2 ?_)
  refine PySem.callWith_type (star_plain hpl pos) (evalArgs_ev ra r (.cons he (.cons he' .nil hst') hst) hst fun vs s1 k1 h1 => ?_)
  obtain ⟨v, w, rfl, g1, g2⟩ := h1.inv2
  obtain ⟨t, rfl⟩ := g1.int_inv
  obtain ⟨u, rfl⟩ := g2.int_inv
  refine call_range_2 ?_
  have kk := k1.trans (Kp.push (C := C) (s := s1) (o := { cls := .type "range", data := .fields #[.int a t, .int b u, .int 1 s1.toks] }))
  have e : Builtin.Range.rangeSize (a : Int) (b : Int) 1 = (b - a : Nat) := by rw [rangeSize_one]; split <;> omega
  refine evIt_range ra.handled (kk.trans (Kp.tok (tk := s1.toks + 1))) ((r.kp kk).kp (Kp.tok (tk := s1.toks + 1))).new (IsRange.new _ _ _ _ _ _ _) ?_ e h
  unfold Builtin.Range.small
  rw [e]
  unfold Builtin.Range.rangeFitsLong
  have h : ∀ {m : Nat}, m < 1000 → (m : Int) < 9223372036854775808 := fun q => Int.lt_trans (Int.ofNat_lt.mpr q) (by decide)
  simp
  exact ⟨⟨⟨h ha, h hb⟩, h (Nat.lt_of_le_of_lt (Nat.sub_le _ _) hb)⟩, .inr (h hb)⟩
theorem seqIndex_last {n : Nat} (h : 0 < n) : seqIndex? (-1) n = some (n - 1) := by
  rcases n with _ | k
  · exact absurd h (Nat.lt_irrefl 0)
  have e : (-1 : Int) + ((k + 1 : Nat) : Int) = (k : Nat) := by rw [Int.natCast_add, Int.add_comm, Int.add_assoc]; exact Int.add_zero _
  have h3 : (k : Int) < ((k + 1 : Nat) : Int) := Int.ofNat_lt.mpr (Nat.lt_succ_self k)
  simp only [seqIndex?, (by decide : (-1 : Int) < 0), e, Int.natCast_nonneg, h3, if_true, decide_true, Bool.and_self]
  rfl
theorem ev_last {x : Str} {xp p q sp : Pos} {k : Nat} {xs : List Nat} {d : Nat} (m : (x, .list (natsL xs)) ∈ ρ) (hd : xs[xs.length - 1]? = some d) (h1 : autoParam ((x == ("__debug__" : Str)) = false) syD) (h2 : autoParam ((x == ("__classdict__" : Str)) = false) syD) :
    Ev C n env ρ (.Subscript (.Name x xp) (.UnaryOp .USub (.Constant (.int 1) k p) q) sp) (.int d) := by
  have hl := (List.getElem?_eq_some_iff.mp hd).1
  refine Ev.itm (.nam m h1 h2) (i := -1) (.neg .cint) (.list (k := xs.length - 1) ?_ (by rw [List.getElem?_map, hd]; rfl) (by decide) (by decide)) (by intro _ _; with_unfolding_all rfl)
  rw [List.length_map]
  exact seqIndex_last (by omega)
end
end
section -- F38
open Sem (wp)
noncomputable def cntD (ks : List Wish) (depth : Int) : Int := ((ks.filter fun w => decide (depth ≤ w.d)).length : Nat)
noncomputable def moreL (kept other : List Wish) : List Int := [0, 8, 16, 24, 32].map fun depth => cntD kept depth - cntD other depth
noncomputable abbrev scCnt : Scope := { kind := .function, names := [(Str.ofString ".0", .local), (Str.ofString "one", .local), (Str.ofString "depth", .free)], isGenerator := false, isCoroutine := false }
section
variable {C : Cx} {n : Nat} {A A0 : Around} {s s' s₀ : Shared} {env : Env} {ρ ρ' ρf : Names} {pv pvc : List Addr} {own : Own} {doc pm : Value} {L : Addr}
theorem wish_at {x : Str} {xp p q : Pos} {z k : Nat} {w : Wish} {d : PyData} (m : (x, wishD w) ∈ ρ) (hd : [PyData.int w.b, .int w.e, .int w.d, .bool w.l, .int w.t][k]? = some d) (hk : k < 5) (h1 : autoParam ((x == ("__debug__" : Str)) = false) syD) (h2 : autoParam ((x == ("__classdict__" : Str)) = false) syD) :
    Ev C n env ρ (.Subscript (.Name x xp) (.Constant (.int k) z p) q) d :=
  Ev.itm (d := wishD w) (i := (k : Nat)) (.nam m h1 h2) .cint (.tuple (seqIndex_nat hk) hd (by omega) (by omega)) (by intro _ _; with_unfolding_all rfl)
theorem ev_cnt (G : Glb C) {x : Str} {ks : List Wish} {dd : Int} {p1 p2 p3 p4 p5 p6 p7 p8 p9 p10 p11 : Pos} (hl : ks.length ≤ 100) (m : (x, wishesD ks) ∈ ρ) (md : (Str.ofString "depth", PyData.int dd) ∈ ρ) (hkd : env.kindOf (Str.ofString "depth") = some .cell) (hk : env.kindOf (Str.ofString "len") = some .globalImplicit)
    (h1 : autoParam ((x == ("__debug__" : Str)) = false) syD) (h2 : autoParam ((x == ("__classdict__" : Str)) = false) syD) :
    Ev C n env ρ (.Call (.Name (Str.ofString "len") p1) [.ListComp (.Constant (.int 1) 0 p2) [⟨.Name (Str.ofString "one") p3, .Name x p4, [.Compare (.Subscript (.Name (Str.ofString "one") p5) (.Constant (.int 2) 0 p6) p7) [.GtE] [.Name (Str.ofString "depth") p8] p9], 0⟩] scCnt p10] [] p11) (.int (cntD ks dd)) := by
  have hlen := G.bi (Str.ofString "len") (.builtin "len") (by walk_at "has")
  have e : cntD ks dd = (((ks.flatMap fun w => if decide (dd ≤ w.d) = true then [PyData.int 1] else []).length : Nat) : Int) := by rw [flat_len]; rfl
  rw [e]
  refine Ev.callB (.cons (Ev.comp ks wishD _ (.list (.nam m h1 h2)) (ρf := [(Str.ofString "depth", .int dd)]) (.skip (by decide) (.skip (by decide) (.take md (.inl hkd) .nil))) (by omega) fun w hw => ?_) .nil) (pf_len (by
      rw [flat_len]; have := List.length_filter_le (fun w : Wish => decide (dd ≤ w.d)) ks; omega)) hlen.1 hlen.2 hk
  exact ⟨[(Str.ofString "one", wishD w)], _, _, fun L => .name (by walk_at "ownn"), fun L => Tst.cmp (x := .int w.d) (y := .int dd) (wish_at (k := 2) (by walk_at "has") rfl (by decide)) (.nam (by walk_at "has")) (.ge _ _), fun _ L => .cint, rfl⟩
end
end
section -- F39
open Sem (wp)
noncomputable def partE (i : Nat) : Expr := match valOf (lawS 16) with | .BoolOp .And es _ => es.getD i (.Constant .none 0 default) | _ => .Constant .none 0 default
noncomputable def tripOf (w : Wish) : Trip := (-w.d, if w.l then -1 - w.t else w.t, w.t)
section
variable {C : Cx} {n : Nat} {A A0 : Around} {s s' s₀ : Shared} {env : Env} {ρ ρ' ρf : Names} {pv pvc : List Addr} {own : Own} {doc pm : Value} {L : Addr}
theorem part_a (G : Glb C) {ms sums on : List Nat} (hA : ms = (sums.filter fun m => decide (m < 32)) ++ on) (hl : sums.length ≤ 100) (hl2 : on.length ≤ 100) (m1 : (Str.ofString "marks", .list (natsL ms)) ∈ ρ) (m2 : (Str.ofString "sums", .list (natsL sums)) ∈ ρ) (m3 : (Str.ofString "on", .list (natsL on)) ∈ ρ) :
    Ev C n (lawE doc pm L) ρ (partE 0) (.bool true) := by
  conv in partE 0 => whnf
  refine Ev.eqSame (.nam m1) ?_ (by rw [natsL_ints]; exact shaped_ints _)
  rw [hA, natsL_app]
  have e : natsL (sums.filter fun m => decide (m < 32)) = sums.flatMap fun (m : Nat) => if decide ((m : Int) < ((32 : Nat) : Int)) = true then [PyData.int (m : Int)] else [] := by
    rw [flat_if]
    have : ∀ m ∈ sums, decide ((m : Int) < ((32 : Nat) : Int)) = decide (m < 32) := fun m _ => decide_eq_decide.mpr (by omega)
    rw [List.filter_congr this]
  rw [e]
  refine Ev.bin (Ev.comp sums (fun (m : Nat) => .int (m : Int)) _ (.list (.nam m2)) (ρf := []) (by walk_at "frees") (by omega) fun m hm => ?_) (.nam m3) (.cat _ _ ?_)
  · exact ⟨[("m", .int m)], _, _, fun L => .name (by walk_at "ownn"), fun L => Tst.cmp (x := .int m) (y := .int (32 : Nat)) (.nam (by walk_at "has")) ev_int (.lt _ _), fun _ L => .nam (by walk_at "has"), rfl⟩
  · rw [← e]
    have h1 := List.length_filter_le (fun m => decide (m < 32)) sums
    have : sizeLine = 16777216 := rfl
    simp only [List.length_map]; omega
theorem part_b (G : Glb C) {line wishes : List Wish} (h6 : wishes.length = 6) (hp : line.Perm wishes) (hnd : (wishes.map tripOf).Nodup) (hs : (line.map tripOf).Pairwise (fun x y => ltT x y = true)) (m1 : (Str.ofString "line", wishesD line) ∈ ρ) (m2 : (Str.ofString "wishes", wishesD wishes) ∈ ρ) :
    Ev C n (lawE doc pm L) ρ (partE 1) (.bool true) := by
  have hso := G.bi (Str.ofString "sorted") (.builtin "sorted") (by walk_at "has")
  have hl6 : line.length = 6 := by rw [hp.length_eq, h6]
  conv in partE 1 => whnf
  refine Ev.eqSame (x := intsD (line.map (·.t))) ?_ ?_ (shaped_ints _)
  · have e : (line.map (·.t)).map PyData.int = line.flatMap fun w => [PyData.int w.t] := by rw [← flat_one, List.map_map]; rfl
    show Ev _ _ _ _ _ (.list _)
    rw [e]
    exact Ev.comp line wishD _ (.list (.nam m1)) (ρf := []) (by walk_at "frees") (by omega) fun w hw => ⟨[("one", wishD w)], true, _, fun L => .name (by walk_at "ownn"), fun L => rfl, fun _ L => wish_at (k := 4) (by walk_at "has") rfl (by decide), rfl⟩
  · have e : (line.map (·.t)).map PyData.int = (line.map tripOf).flatMap fun x => [PyData.int x.2.2] := by rw [← flat_one, List.map_map, List.map_map]; rfl
    show Ev _ _ _ _ _ (.list _)
    rw [e]
    refine Ev.comp (line.map tripOf) tripD _ (.list (Ev.callB (.cons (d := .list ((wishes.map tripOf).map tripD)) ?_ .nil) (pf_sorted _ _ (by rw [List.length_map, h6]) hnd (hp.map _) hs) hso.1 hso.2)) (ρf := []) (by walk_at "frees") (by rw [List.length_map]; omega) fun x hx => ?_
    · have e2 : (wishes.map tripOf).map tripD = wishes.flatMap fun w => [tripD (tripOf w)] := by rw [← flat_one, List.map_map]; rfl
      rw [e2]
      refine Ev.comp wishes wishD _ (.list (.nam m2)) (ρf := []) (by walk_at "frees") (by omega) fun w hw => ?_
      refine ⟨[("one", wishD w)], true, _, fun L => .name (by walk_at "ownn"), fun L => rfl, fun _ L => ?_, rfl⟩
      unfold tripD tripOf
      refine Ev.tup ?_ (show 3 ≤ _ by decide +kernel)
      refine .cons (.neg (wish_at (k := 2) (by walk_at "has") rfl (by decide))) ?_ rfl
      refine .cons (Ev.ite (b := w.l) (Tst.val (wish_at (k := 3) (d := .bool w.l) (by walk_at "has") rfl (by decide)) (.bool _) (by intro _; rfl)) (fun h => ?_) (fun h => ?_)) ?_ rfl
      · simp only [h, if_true]
        exact Ev.bin (x := .int (-1)) (y := .int w.t) (.neg .cint) (wish_at (k := 4) (by walk_at "has") rfl (by decide)) (.sub _ _)
      · simp only [h, Bool.false_eq_true, if_false]
        exact wish_at (k := 4) (by walk_at "has") rfl (by decide)
      · exact .cons (wish_at (k := 4) (by walk_at "has") rfl (by decide)) .nil rfl
    · exact ⟨[("depth", .int x.1), ("order", .int x.2.1), ("t", .int x.2.2)], true, _, fun L => .tup (.cons (by walk_at "ownn") (by walk_at "upnot") (.cons (by walk_at "ownn") (by walk_at "upnot") (.cons (by walk_at "ownn") (by walk_at "upnot") .nil))), fun L => rfl, fun _ L => .nam (by walk_at "has"), rfl⟩
theorem part_c (G : Glb C) {line : List Wish} (h6 : line.length = 6) (m1 : (Str.ofString "line", wishesD line) ∈ ρ) : Ev C n (lawE doc pm L) ρ (partE 2) (.bool true) := by
  conv in partE 2 => whnf
  refine Ev.eqSame (x := .list (List.replicate 6 (.bool true))) ?_ (Ev.mulT (.lst (.cons .cbool .nil rfl) (show 1 ≤ _ by decide +kernel)) .cint) rfl
  have e : List.replicate 6 (PyData.bool true) = line.flatMap fun w => [PyData.bool true] := by
    rw [← flat_one, ← h6]
    clear h6 m1
    induction line with
    | nil => rfl
    | cons a r ih => rw [List.length_cons, List.replicate_succ, ih]; rfl
  rw [e]
  refine Ev.comp line wishD _ (.list (.nam m1)) (ρf := []) (by walk_at "frees") (by omega) fun w hw => ⟨[("one", wishD w)], true, _, fun L => .name (by walk_at "ownn"), fun L => rfl, fun _ L => ?_, rfl⟩
  refine Ev.or2 (Ev.cmp (wish_at (k := 3) (d := .bool w.l) (by walk_at "has") rfl (by decide)) .cbool (.isBool _ true)) (.bool _) (fun h => by rw [h]) fun h => ?_
  have e2 : (w.l == false) = true := by cases hw : w.l <;> simp_all
  have e3 : PyData.bool true = .bool (w.l == false) := by rw [e2]
  rw [e3]
  exact Ev.cmp (wish_at (k := 3) (d := .bool w.l) (by walk_at "has") rfl (by decide)) .cbool (.isBool w.l false)
theorem part_d (G : Glb C) {over : List Nat} (ho : over.length ≤ 10) (ho2 : ∀ r ∈ over, r < 256) (h0 : tblF ((allOct [] ++ over).length + 1) (allOct [] ++ over) = []) (m : (Str.ofString "over", .list (natsL over)) ∈ ρ) : Ev C (n + 8) (lawE doc pm L) ρ (partE 3) (.bool true) := by
  have ⟨hg, hf⟩ := G.at 21 244 .none .none (by walk_at "has")
  conv in partE 3 => whnf
  have key := (pf_table G [] over (by decide) (fun e h => absurd h List.not_mem_nil) ho ho2).le (m := n + 8) (by omega)
  rw [h0] at key
  exact Ev.eqSame (x := .list []) (Ev.callF (.cons (.lst .nil (by decide +kernel)) (.cons (.nam m) .nil rfl) rfl) key hg hf) (.lst .nil (by decide +kernel)) rfl
theorem part_e {more : List Int} (hE : more[0]? = some 0) (m : (Str.ofString "more", intsD more) ∈ ρ) : Ev C n (lawE doc pm L) ρ (partE 4) (.bool true) := by
  conv in partE 4 => whnf
  have hl := (List.getElem?_eq_some_iff.mp hE).1
  exact Ev.eqSame (x := .int 0) (Ev.itm (.nam m) (i := ((0 : Nat) : Int)) .cint (.list (seqIndex_nat (by rw [List.length_map]; exact hl)) (by rw [List.getElem?_map, hE]; rfl) (by omega) (by omega)) (by intro _ _; with_unfolding_all rfl)) .cint rfl
theorem part_f (G : Glb C) {more : List Int} (hF : ∀ x ∈ more, 0 ≤ x) (hne : 0 < more.length) (m : (Str.ofString "more", intsD more) ∈ ρ) : Ev C n (lawE doc pm L) ρ (partE 5) (.bool true) := by
  have hmin := G.bi (Str.ofString "min") (.builtin "min") (by walk_at "has")
  conv in partE 5 => whnf
  have h0 : 0 ≤ more.getD (minIx more) 0 := by
    rw [List.getD_eq_getElem?_getD]
    cases q : more[minIx more]? with
    | none => exact Int.le_refl _
    | some x => exact hF x (List.mem_of_getElem? q)
  have e : PyData.bool true = .bool (decide ((0 : Int) ≤ more.getD (minIx more) 0)) := by rw [decide_eq_true h0]
  rw [e]
  exact Ev.cmp (x := .int (more.getD (minIx more) 0)) (y := .int 0) (Ev.callB (.cons (d := intsD more) (.nam m) .nil) (pf_min more hne _ fun _ => rfl) hmin.1 hmin.2) .cint (.ge _ _)
end
end
section -- F40
open Sem (wp)
noncomputable def wordsOr (l : List Nat) : List Str := if l = [] then [Str.ofString "0x0"] else l.map wordF
section
variable {C : Cx} {n : Nat} {A A0 : Around} {s s' s₀ : Shared} {env : Env} {ρ ρ' ρf : Names} {pv pvc : List Addr} {own : Own} {doc pm : Value} {L : Addr}
theorem J_all {N : Nat} (h1 : 44 < N) : ∀ (ws : List (List Nat)), (∀ w ∈ ws, ∀ c ∈ w, c < N) → ∀ c ∈ J ws, c < N
  | [], _, c, hc => absurd hc List.not_mem_nil
  | [w], h, c, hc => h w List.mem_cons_self c hc
  | w :: w2 :: r, h, c, hc => by
    rw [J_cons (by simp)] at hc
    rcases List.mem_append.mp hc with hc | hc
    · rcases List.mem_append.mp hc with hc | hc
      · exact h w List.mem_cons_self c hc
      · simp at hc; omega
    · exact J_all h1 (w2 :: r) (fun z hz => h z (List.mem_cons_of_mem _ hz)) c hc
theorem word_cps : ∀ k < 32, ∀ c ∈ (wordF k).cps.toList, c < 0x110000 := by decide +kernel
theorem shaped_join {l : List Nat} (hl : ∀ k ∈ l, k < 32) : SeqAt.shaped (.str (Txt.join sepS (wordsOr l))) = true := by
  have e : Txt.join sepS (wordsOr l) = Str.join sepS (wordsOr l) := StrLaws.glued_eq_join _ _
  have h : PySem.PyData.strOk (Txt.join sepS (wordsOr l)) = true := by
    unfold PySem.PyData.strOk
    rw [← Array.all_toList, e, join_J, List.all_eq_true]
    intro c hc
    refine decide_eq_true (J_all (by decide) _ (fun w hw c hc => ?_) c hc)
    obtain ⟨z, hz, rfl⟩ := List.mem_map.mp hw
    unfold wordsOr at hz
    split at hz
    · rw [List.mem_singleton.mp hz] at hc
      have : ∀ c ∈ (Str.ofString "0x0").cps.toList, c < 0x110000 := by decide +kernel
      exact this c hc
    · obtain ⟨k, hk, rfl⟩ := List.mem_map.mp hz
      exact word_cps k (hl k hk) c hc
  show (PySem.PyData.strOk _ && _) = true
  rw [h]; rfl
theorem ev_pow2 {l r : Expr} {pos : Pos} {k : Nat} (hl : Ev C n env ρ l (.int 2)) (hr : Ev C n env ρ r (.int k)) (h : k ≤ 31) : Ev C n env ρ (.BinOp l .Pow r pos) (.int ((2 ^ k : Nat) : Int)) := by
  have e : ((2 ^ k : Nat) : Int) = (2 : Int) ^ ((k : Int)).toNat := by rw [Int.toNat_natCast, Int.natCast_pow]; rfl
  rw [e]
  refine Ev.bin (x := .int 2) (y := .int k) hl hr (.pow _ _ (by omega) ?_)
  have h1 : Builtin.Int.intBits 2 ≤ 10 := by decide +kernel
  have h2 : Builtin.Int.intBits 2 * k ≤ 10 * 31 := Nat.mul_le_mul h1 h
  have h3 : (Builtin.Int.intBits 2 : Int) * (k : Int) ≤ 310 := by exact_mod_cast h2
  omega
theorem flags_ev (G : Glb C) {lefts : List Nat} {x : Str} {p1 p2 p3 p4 p5 p6 p7 p8 p9 p10 : Pos} {sc : Scope} (hl : ∀ k ∈ lefts, k < 32) (hlen : lefts.length ≤ 32) (hK : sumPow lefts < 2 ^ 32) {W : List Str} (hW : flagWords (sumPow lefts) = W) (m : (x, .list (natsL lefts)) ∈ ρ) (hsc : sc = { kind := .function, names := [(Str.ofString ".0", .local), (Str.ofString "mark", .local)], isGenerator := false, isCoroutine := false })
    (hk1 : env.kindOf (Str.ofString "pretty_flags") = some .globalImplicit) (hk2 : env.kindOf (Str.ofString "sum") = some .globalImplicit)
    (h1 : autoParam ((x == ("__debug__" : Str)) = false) syD) (h2 : autoParam ((x == ("__classdict__" : Str)) = false) syD) :
    Ev C (n + 3) env ρ (.Call (.Name (Str.ofString "pretty_flags") p1) [.Call (.Name (Str.ofString "sum") p2) [.ListComp (.BinOp (.Constant (.int 2) 0 p3) .Pow (.Name (Str.ofString "mark") p4) p5) [⟨.Name (Str.ofString "mark") p6, .Name x p7, [], 0⟩] sc p8] [] p9] [] p10) (.str (Txt.join sepS W)) := by
  subst hsc hW
  have hsum := G.bi (Str.ofString "sum") (.builtin "sum") (by walk_at "has")
  have ⟨hg, hf⟩ := G.at 9 108 .none .none (by walk_at "has")
  refine Ev.callF (.cons (d := .int (sumPow lefts)) ?_ .nil) ((pf_flags G _ hK).le (by omega)) hg hf hk1
  have e0 : ((sumPow lefts : Nat) : Int) = ((lefts.map (2 ^ ·)).map fun (n : Nat) => (n : Int)).sum := by rw [sum_cast]; rfl
  rw [e0]
  refine Ev.callB (.cons (d := intsD ((lefts.map (2 ^ ·)).map fun (n : Nat) => (n : Int))) ?_ .nil) (pf_sum _ (fun y hy => ?_) (by rw [List.length_map, List.length_map]; omega)) hsum.1 hsum.2 hk2
  · have e : ((lefts.map (2 ^ ·)).map fun (n : Nat) => (n : Int)).map PyData.int = lefts.flatMap fun k => [PyData.int ((2 ^ k : Nat) : Int)] := by rw [← flat_one, List.map_map, List.map_map]; rfl
    show Ev _ _ _ _ _ (.list _)
    rw [e]
    refine Ev.comp lefts (fun (k : Nat) => .int (k : Int)) _ (.list (.nam m h1 h2)) (ρf := []) (.skip (by decide) (.skip (by decide) .nil)) (by omega) fun k hk => ?_
    exact ⟨[("mark", .int k)], true, _, fun L => .name (by walk_at "ownn"), fun L => rfl, fun _ L => ev_pow2 .cint (.nam (by walk_at "has")) (by have := hl k hk; omega), rfl⟩
  · obtain ⟨z, hz, rfl⟩ := List.mem_map.mp hy
    obtain ⟨k, hk, rfl⟩ := List.mem_map.mp hz
    have h3 : 2 ^ k ≤ 2 ^ 31 := Nat.pow_le_pow_right (by decide) (by have := hl k hk; omega)
    have h4 : (2 : Nat) ^ 31 = 2147483648 := by decide
    show (0 : Int) ≤ ((2 ^ k : Nat) : Int) ∧ ((2 ^ k : Nat) : Int) ≤ 2 ^ 40
    refine ⟨Int.natCast_nonneg _, ?_⟩
    have : ((2 ^ k : Nat) : Int) ≤ ((2 ^ 31 : Nat) : Int) := Int.ofNat_le.mpr h3
    rw [h4] at this
    exact Int.le_trans this (by decide)
theorem names_ev (G : Glb C) {lefts ms : List Nat} {kept : List Wish} {x : Str} {p1 p2 p3 p4 p5 p6 p7 p8 p9 p10 p11 p12 p13 p14 p15 : Pos} {kz kz2 : Nat} {sc : Scope} (hl : ∀ k ∈ lefts, k < 32) (hlen : lefts.length ≤ 32) (hkl : kept.length ≤ 100) (hml : ms.length ≤ 100)
    (hnob : nobody kept (ms.map fun (n : Nat) => (n : Int)) = lefts.map fun (n : Nat) => (n : Int)) (m1 : (x, wishesD kept) ∈ ρ) (m2 : (Str.ofString "marks", .list (natsL ms)) ∈ ρ) (m3 : (Str.ofString "names", strsD wordsL) ∈ ρ)
    (hsc : sc = { kind := .function, names := [(Str.ofString ".0", .local), (Str.ofString "mark", .local), (Str.ofString "names", .free)], isGenerator := false, isCoroutine := false })
    (hk1 : env.kindOf (Str.ofString "_law_nobody") = some .globalImplicit) (hkn : env.kindOf (Str.ofString "names") = some .cell)
    (hbase : attributeBase (.Constant (.str (Str.ofString ", ")) kz p1) "join" env (eval (.Constant (.str (Str.ofString ", ")) kz p1) env) = eval (.Constant (.str (Str.ofString ", ")) kz p1) env)
    (hline : (p2.endLine == p15.line) = true)
    (h1 : autoParam ((x == ("__debug__" : Str)) = false) syD) (h2 : autoParam ((x == ("__classdict__" : Str)) = false) syD) :
    Ev C (n + 3) env ρ (.Call (.Attribute (.Constant (.str (Str.ofString ", ")) kz p1) (Str.ofString "join") p2) [.BoolOp .Or [.ListComp (.Subscript (.Name (Str.ofString "names") p3) (.Name (Str.ofString "mark") p4) p5) [⟨.Name (Str.ofString "mark") p6, .Call (.Name (Str.ofString "_law_nobody") p7) [.Name x p8, .Name (Str.ofString "marks") p9] [] p10, [], 0⟩] sc p11, .List [.Constant (.str (Str.ofString "0x0")) kz2 p12] p13] p14] [] p15)
      (.str (Txt.join sepS (wordsOr lefts))) := by
  subst hsc
  have ⟨hg, hf⟩ := G.at 25 268 .none .none (by walk_at "has")
  have hwl : ∀ y ∈ wordsOr lefts, y.length ≤ 30 := fun y hy => by
    unfold wordsOr at hy
    split at hy
    · rw [List.mem_singleton.mp hy]; decide +kernel
    · obtain ⟨k, hk, rfl⟩ := List.mem_map.mp hy; exact word_len k (hl k hk)
  have hwn : (wordsOr lefts).length ≤ 32 := by
    unfold wordsOr
    split
    · decide
    · rw [List.length_map]; exact hlen
  refine Ev.joinS (sep := sepS) (ys := wordsOr lefts) ?_ ?_ hbase (by rfl) hline (by rfl)
  · refine Ev.or2 (d := .list ((lefts.map wordF).map .str)) (b := !((lefts.map wordF).map PyData.str).isEmpty) ?_ (.list _ (by rw [List.length_map, List.length_map]; omega)) (fun h => ?_) (fun h => ?_)
    · have e : (lefts.map wordF).map PyData.str = lefts.flatMap fun k => [PyData.str (wordF k)] := by rw [← flat_one, List.map_map]; rfl
      rw [e]
      refine Ev.comp lefts (fun (k : Nat) => .int (k : Int)) _ (.list ?_) (ρf := [(Str.ofString "names", strsD wordsL)]) (.skip (by decide) (.skip (by decide) (.take m3 (.inl hkn) .nil))) (by omega) fun k hk => ?_
      · have e2 : natsL lefts = (nobody kept (ms.map fun (n : Nat) => (n : Int))).map PyData.int := by rw [hnob, natsL_ints]
        show Ev _ _ _ _ _ (.list (natsL lefts))
        rw [e2]
        rw [natsL_ints] at m2
        exact Ev.callF (.cons (.nam m1 h1 h2) (.cons (.nam m2) .nil rfl) rfl) ((pf_nobody G kept _ hkl (by rw [List.length_map]; exact hml)).le (by omega)) hg hf hk1
      · refine ⟨[("mark", .int k)], true, _, fun L => .name (by walk_at "ownn"), fun L => rfl, fun _ L => ?_, rfl⟩
        have hk32 := hl k hk
        exact Ev.itm (d := strsD wordsL) (.nam (by walk_at "has")) (i := (k : Nat)) (.nam (by walk_at "has")) (.list (seqIndex_nat (by simp [wordsL]; exact hk32)) (by simp [wordsL, hk32]) (by omega) (by omega)) (by intro _ _; with_unfolding_all rfl)
    · unfold wordsOr
      rw [if_neg]
      intro q
      rw [q] at h
      simp at h
    · have : lefts = [] := by
        cases lefts with
        | nil => rfl
        | cons a r => simp at h
      unfold wordsOr
      rw [if_pos this]
      exact .lst (.cons .cstr .nil rfl) (show 1 ≤ _ by decide +kernel)
  · have h3 : ((wordsOr lefts).map (·.length)).sum ≤ 30 * (wordsOr lefts).length := by
      clear hwn
      generalize wordsOr lefts = l at hwl
      induction l with
      | nil => simp
      | cons a r ih =>
        have := ih fun y hy => hwl y (List.mem_cons_of_mem _ hy)
        have := hwl a List.mem_cons_self
        simp only [List.map_cons, List.sum_cons, List.length_cons]
        omega
    rw [sep_len]
    omega
theorem part_g (G : Glb C) {lefts ms : List Nat} {kept : List Wish} (hl : ∀ k ∈ lefts, k < 32) (hlen : lefts.length ≤ 32) (hK : sumPow lefts < 2 ^ 32) (hW : flagWords (sumPow lefts) = wordsOr lefts) (hkl : kept.length ≤ 100) (hml : ms.length ≤ 100)
    (hnob : nobody kept (ms.map fun (n : Nat) => (n : Int)) = lefts.map fun (n : Nat) => (n : Int)) (m0 : (Str.ofString "left", .list (natsL lefts)) ∈ ρ) (m1 : (Str.ofString "kept", wishesD kept) ∈ ρ) (m2 : (Str.ofString "marks", .list (natsL ms)) ∈ ρ) (m3 : (Str.ofString "names", strsD wordsL) ∈ ρ) :
    Ev C (n + 3) (lawE doc pm L) ρ (partE 6) (.bool true) := by
  conv in partE 6 => whnf
  refine Ev.eqSame (flags_ev G hl hlen hK hW m0 rfl rfl rfl) ?_ (shaped_join hl)
  exact names_ev G hl hlen hkl hml hnob m1 m2 m3 rfl rfl rfl (by with_unfolding_all rfl) (by rfl)
theorem part_h (G : Glb C) {lefts ms : List Nat} {kept : List Wish} (hl : ∀ k ∈ lefts, k < 32) (hlen : lefts.length ≤ 32) (hK : sumPow lefts < 2 ^ 32) (hW : flagWords (sumPow lefts) = wordsOr lefts) (hkl : kept.length ≤ 100) (hml : ms.length ≤ 100)
    (hnob : nobody kept (ms.map fun (n : Nat) => (n : Int)) = lefts.map fun (n : Nat) => (n : Int)) (m0 : (Str.ofString "rest", .list (natsL lefts)) ∈ ρ) (m1 : (Str.ofString "other", wishesD kept) ∈ ρ) (m2 : (Str.ofString "marks", .list (natsL ms)) ∈ ρ) (m3 : (Str.ofString "names", strsD wordsL) ∈ ρ) :
    Ev C (n + 3) (lawE doc pm L) ρ (partE 7) (.bool true) := by
  conv in partE 7 => whnf
  refine Ev.eqSame (flags_ev G hl hlen hK hW m0 rfl rfl rfl) ?_ (shaped_join hl)
  exact names_ev G hl hlen hkl hml hnob m1 m2 m3 rfl rfl rfl (by with_unfolding_all rfl) (by rfl)
end
end
section -- F41
open Sem (wp)
section
variable {C : Cx} {n : Nat} {A A0 : Around} {s s' s₀ : Shared} {env : Env} {ρ ρ' ρf : Names} {pv pvc : List Addr} {own : Own} {doc pm : Value} {L : Addr}
theorem ms_cast {ms : List Nat} : PyData.list (natsL ms) = intsD (ms.map fun (n : Nat) => (n : Int)) := by rw [natsL_ints]
theorem part_i (G : Glb C) {ms : List Nat} {line kept : List Wish} (hl : line.length ≤ 100) (hm : ms.length ≤ 100) (hr : ∀ w ∈ line, InR w) (hI : winOf line (ms.map fun (n : Nat) => (n : Int)) = kept)
    (m0 : (Str.ofString "line", wishesD line) ∈ ρ) (m1 : (Str.ofString "kept", wishesD kept) ∈ ρ) (m2 : (Str.ofString "marks", .list (natsL ms)) ∈ ρ) : Ev C (n + 3) (lawE doc pm L) ρ (partE 8) (.bool true) := by
  have ⟨hg, hf⟩ := G.at 24 263 .none .none (by walk_at "has")
  conv in partE 8 => whnf
  rw [ms_cast] at m2
  refine Ev.eqSame (.nam m1) ?_ (shaped_wishes _)
  rw [← hI]
  exact Ev.callF (.cons (.nam m0) (.cons (.nam m2) .nil rfl) rfl) ((pf_windows G line _ hl (by rw [List.length_map]; exact hm) hr).le (by omega)) hg hf
theorem part_j (G : Glb C) {ms : List Nat} {line kept : List Wish} (hl : line.length ≤ 100) (hm : ms.length ≤ 100) (hr : ∀ w ∈ line, InR w) (hI : winOf line (ms.map fun (n : Nat) => (n : Int)) = kept)
    (m0 : (Str.ofString "wishes", wishesD line) ∈ ρ) (m1 : (Str.ofString "other", wishesD kept) ∈ ρ) (m2 : (Str.ofString "marks", .list (natsL ms)) ∈ ρ) : Ev C (n + 3) (lawE doc pm L) ρ (partE 9) (.bool true) := by
  have ⟨hg, hf⟩ := G.at 24 263 .none .none (by walk_at "has")
  conv in partE 9 => whnf
  rw [ms_cast] at m2
  refine Ev.eqSame (.nam m1) ?_ (shaped_wishes _)
  rw [← hI]
  exact Ev.callF (.cons (.nam m0) (.cons (.nam m2) .nil rfl) rfl) ((pf_windows G line _ hl (by rw [List.length_map]; exact hm) hr).le (by omega)) hg hf
theorem part_k (G : Glb C) {sizes ms : List Nat} (hl : sizes.length ≤ 100) (m0 : (Str.ofString "sizes", .list (natsL sizes)) ∈ ρ) (m1 : (Str.ofString "marks", .list (natsL ms)) ∈ ρ) : Ev C (11 + 2) (lawE doc pm L) ρ (partE 10) (.bool true) := by
  have ⟨hg, hf⟩ := G.at 20 239 .none .none (by walk_at "has")
  have ⟨hg2, hf2⟩ := G.at 5 57 (.ref 49) (.ref 50) (by walk_at "has")
  conv in partE 10 => whnf
  refine Ev.eqSame (x := .list [.str gMsg, .str loMsg]) (.lst (.cons ?_ (.cons ?_ .nil rfl) rfl) (show 2 ≤ _ by decide +kernel)) (.lst (.cons .cstr (.cons .cstr .nil rfl) rfl) (show 2 ≤ _ by decide +kernel)) (by decide +kernel)
  · refine Ev.said (n := 11) G (G.maker 279 277 (Str.ofString "law.<locals>.<lambda>") (by walk_at "has") rfl (by decide) (by decide +kernel)) (ρf := [(Str.ofString "sizes", .list (natsL sizes))]) (.take m0 (.inl rfl) (.skip (by decide) .nil)) (by decide +kernel) (by kernel_rfl!) (by kernel_rfl!) (by decide) rfl rfl rfl (fun cl pm cdv ct => by rfl) (fun L f c' => ?_) rfl
    refine EvX.callF (.cons (d := intsD ((0 :: sizes).map fun (n : Nat) => (n : Int))) ?_ .nil) (pfx_marks G _ rfl) hg hf
    rw [← ms_cast]
    exact Ev.bin (x := .list (natsL [0])) (y := .list (natsL sizes)) (.lst (.cons ev_int .nil rfl) (show 1 ≤ _ by decide +kernel)) (.nam (by walk_at "has")) (.cat _ _ (by have : sizeLine = 16777216 := rfl; simp only [List.length_map, List.length_cons, List.length_nil]; omega))
  · refine Ev.said (n := 11) G (G.maker 279 277 (Str.ofString "law.<locals>.<lambda>") (by walk_at "has") rfl (by decide) (by decide +kernel)) (ρf := [(Str.ofString "marks", .list (natsL ms))]) (.take m1 (.inl rfl) (.skip (by decide) .nil)) (by decide +kernel) (by kernel_rfl!) (by kernel_rfl!) (by decide) rfl rfl rfl (fun cl pm cdv ct => by rfl) (fun L f c' => ?_) rfl
    exact EvX.callF (.cons (.nam (by walk_at "has")) (.cons (d := .int 3) .cint (.cons (d := .int (-1)) (.neg .cint) .nil rfl) rfl)) ((pfx_bisect G _ 3 (-1) (by decide)).le (by omega)) hg2 hf2
end
end
section -- F43
open Sem (wp)
section
variable {C : Cx}
noncomputable def ifsOf : Expr → List Expr | .ListComp _ (⟨_, _, i, _⟩ :: _) _ _ => i | _ => []
noncomputable def eltOf : Expr → Expr | .ListComp e _ _ _ => e | _ => .Constant .none 0 default
noncomputable def itOf : Expr → Expr | .ListComp _ (⟨_, it, _, _⟩ :: _) _ _ => it | _ => .Constant .none 0 default
theorem drawn_it {n : Nat} {ρ : Names} {doc pm : Value} {L : Addr} {c0 c1 : Nat} {vs : List Nat} (hv : vs.length ≤ 100) (m : (Str.ofString "cells", .list (natsL (c0 :: c1 :: vs))) ∈ ρ) : Ev C n (lawE doc pm L) ρ (itOf (valOf (lawS 3))) (.list (vs.map fun (v : Nat) => PyData.int (v : Int))) := by
  conv in itOf (valOf (lawS 3)) => whnf
  exact Ev.sliceFrom (ds := natsL (c0 :: c1 :: vs)) (a := 2) (.nam m) (ev_int (a := 2)) (by simp) (by simp; have : sizeLine = 16777216 := rfl; omega)
theorem drawn_turn {n : Nat} {doc pm : Value} {L : Addr} {p : Pos} (v : Nat) : TurnC C n { kind := .function, names := [(Str.ofString ".0", .local), (Str.ofString "v", .local)], isGenerator := false, isCoroutine := false } (lawE doc pm L) [] (.Name (Str.ofString "v") p) [] (eltOf (valOf (lawS 3))) (.int (v : Int)) [natsT (rowN v)] := by
  conv in eltOf (valOf (lawS 3)) => whnf
  refine ⟨[(Str.ofString "v", .int v)], true, _, fun L => .name (by walk_at "ownn"), fun L => rfl, fun _ L => ?_, rfl⟩
  refine Ev.tup ?_ (show 4 ≤ _ by decide +kernel)
  have hm : ∀ {b : Nat}, IntMulOk ((16 : Nat) : Int) (b : Int) := IntMulOk.of_left (by decide +kernel)
  refine .cons (ev_mod (.nam (by walk_at "has")) (ev_int (a := 12)) (by decide)) ?_ rfl
  refine .cons (ev_mod (ev_div (.nam (by walk_at "has")) (ev_int (a := 12)) (by decide) (by decide)) (ev_int (a := 6)) (by decide)) ?_ rfl
  refine .cons (ev_div (.nam (by walk_at "has")) (ev_int (a := 720)) (by decide) (by decide)) ?_ rfl
  refine .cons (ev_add (ev_mul (ev_int (a := 16)) (ev_mod (ev_div (.nam (by walk_at "has")) (ev_int (a := 72)) (by decide) (by decide)) (ev_int (a := 5)) (by decide)) hm) (ev_mod (ev_div (.nam (by walk_at "has")) (ev_int (a := 360)) (by decide) (by decide)) (ev_int (a := 2)) (by decide))) ?_ rfl
  exact .nil
noncomputable def onB (S last i : Nat) (tail : List Nat) : Bool := PyData.eqv (.list (natsL (tail.take 1))) (.list (natsL [0])) && PyData.eqv (.int (((S + 1 + i - S) % last : Nat) : Int)) (.int ((0 : Nat) : Int))
theorem on_eq (S last : Nat) (tail : List Nat) : natsL (onN S last tail) = (List.range (32 - (S + 1))).flatMap fun i => if onB S last i tail = true then [PyData.int ((S + 1 + i : Nat) : Int)] else [] := by
  have e1 := flat_if (List.range (32 - (S + 1))) (fun i => onB S last i tail) (fun i => PyData.int ((S + 1 + i : Nat) : Int))
  rw [e1]
  unfold natsL onN
  rw [List.filter_map, List.map_map]
  have e2 : ∀ i, ((fun m => decide (tail.take 1 = [0]) && decide ((m - S) % last = 0)) ∘ (fun x => S + 1 + x)) i = onB S last i tail := fun i => by
    unfold onB
    rw [eqv_int]
    show (decide (tail.take 1 = [0]) && decide ((S + 1 + i - S) % last = 0)) = _
    congr 1
    · cases tail with
      | nil => rfl
      | cons x r =>
        show decide ([x] = [0]) = (PyData.eqv (.int (x : Int)) (.int ((0 : Nat) : Int)) && true)
        rw [eqv_int, Bool.and_true]
        simp
    · exact decide_eq_decide.mpr Int.ofNat_inj.symm
  rw [List.filter_congr (fun i _ => e2 i)]
  rfl
theorem on_it {n : Nat} {ρ : Names} {doc pm : Value} {L : Addr} (G : Glb C) {sums : List Nat} {S : Nat} (hS : sums[sums.length - 1]? = some S) (hS2 : S ≤ 900) (m2 : (Str.ofString "sums", .list (natsL sums)) ∈ ρ) : EvIt C n (lawE doc pm L) ρ (itOf (valOf (lawS 9))) ((List.range (32 - (S + 1))).map fun (i : Nat) => PyData.int ((S + 1 + i : Nat) : Int)) := by
  conv in itOf (valOf (lawS 9)) => whnf
  have e3 : (List.range (32 - (S + 1))).map (fun (i : Nat) => PyData.int ((S + 1 + i : Nat) : Int)) = rangeD ((S + 1 : Nat) : Int) 1 (32 - (S + 1)) := by
    unfold rangeD
    exact List.map_congr_left fun i _ => by congr 1; omega
  rw [e3]
  exact EvIt.range2' G.range (ev_add (ev_last m2 hS) ev_int) (ev_int (a := 32)) (by omega) (by decide)
noncomputable abbrev scOn : Scope := { kind := .function, names := [(Str.ofString ".0", .local), (Str.ofString "m", .local), (Str.ofString "sizes", .free), (Str.ofString "sums", .free), (Str.ofString "tail", .free)], isGenerator := false, isCoroutine := false }
theorem on_turn {n : Nat} {doc pm : Value} {L : Addr} {p : Pos} {sizes sums tail : List Nat} {S last : Nat} (hS : sums[sums.length - 1]? = some S) (hla : sizes[sizes.length - 1]? = some last) (h0 : 0 < last) (ht : tail.length ≤ 10) (i : Nat) :
    TurnC C n scOn (lawE doc pm L) [(Str.ofString "sizes", .list (natsL sizes)), (Str.ofString "sums", .list (natsL sums)), (Str.ofString "tail", .list (natsL tail))] (.Name (Str.ofString "m") p) (ifsOf (valOf (lawS 9))) (eltOf (valOf (lawS 9))) (.int ((S + 1 + i : Nat) : Int)) (if onB S last i tail = true then [PyData.int ((S + 1 + i : Nat) : Int)] else []) := by
  conv in ifsOf (valOf (lawS 9)) => whnf
  conv in eltOf (valOf (lawS 9)) => whnf
  refine ⟨[(Str.ofString "m", .int (S + 1 + i : Nat))], onB S last i tail, _, fun L => .name (by walk_at "ownn"), fun L => ?_, fun _ L => .nam (by walk_at "has"), rfl⟩
  unfold onB
  rw [← Bool.and_true (PyData.eqv (.int (((S + 1 + i - S) % last : Nat) : Int)) (.int ((0 : Nat) : Int)))]
  refine Tst.and (TAll.cons (Tst.cmp (x := .list (natsL (tail.take 1))) (y := .list (natsL [0])) ?_ (.lst (.cons ev_int .nil rfl) (show 1 ≤ _ by decide +kernel)) (.eq _ _ ?_ rfl)) fun _ => TAll.cons (Tst.cmp (x := .int (((S + 1 + i - S) % last : Nat) : Int)) (y := .int ((0 : Nat) : Int)) (ev_mod ?_ (ev_last (by walk_at "has") hla) (by omega)) ev_int (.eq _ _ rfl rfl)) fun _ => TAll.nil)
  · rw [← natsL_take]
    exact Ev.sliceTo (.nam (by walk_at "has")) ev_int (by rw [List.length_map]; have : sizeLine = 16777216 := rfl; omega)
  · rw [natsL_ints]; exact shaped_ints _
  · have e4 : ((S + 1 + i - S : Nat) : Int) = ((S + 1 + i : Nat) : Int) - ((S : Nat) : Int) := Int.ofNat_sub (Nat.le_trans (Nat.le_add_right S 1) (Nat.le_add_right _ i))
    rw [e4]
    exact Ev.bin (x := .int ((S + 1 + i : Nat) : Int)) (y := .int (S : Nat)) (.nam (by walk_at "has")) (ev_last (by walk_at "has") hS) (.sub _ _)
noncomputable abbrev scWi : Scope := { kind := .function, names := [(Str.ofString ".0", .local), (Str.ofString "t", .local), (Str.ofString "told", .free)], isGenerator := false, isCoroutine := false }
theorem wishes_it {n : Nat} {ρ : Names} {doc pm : Value} {L : Addr} (G : Glb C) : EvIt C n (lawE doc pm L) ρ (itOf (valOf (lawS 10))) ((List.range 6).map fun (i : Nat) => PyData.int (i : Int)) := by
  conv in itOf (valOf (lawS 10)) => whnf
  rw [← rangeD_nat]
  exact EvIt.range1 G.range (ev_int (a := 6)) (by decide)
theorem wishes_turn {n : Nat} {doc pm : Value} {L : Addr} {p : Pos} {vs : List Nat} (hv : vs.length = 6) {t : Nat} (ht6 : t < 6) : TurnC C n scWi (lawE doc pm L) [(Str.ofString "told", toldD vs)] (.Name (Str.ofString "t") p) [] (eltOf (valOf (lawS 10))) (.int (t : Int)) [wishD (wishN t (vs.getD t 0))] := by
  conv in eltOf (valOf (lawS 10)) => whnf
  refine ⟨[("t", .int t)], true, _, fun L => .name (by walk_at "ownn"), fun L => rfl, fun _ L => ?_, rfl⟩
  have hrow : ∀ {ρ' : Names} {env' : Env} (k : Nat) (d : PyData) {p1 p2 p3 p4 p5 : Pos} {z : Nat}, (Str.ofString "told", toldD vs) ∈ ρ' → (Str.ofString "t", PyData.int t) ∈ ρ' → (toldRow (vs.getD t 0))[k]? = some d → k < 5 →
      Ev C n env' ρ' (.Subscript (.Subscript (.Name (Str.ofString "told") p1) (.Name (Str.ofString "t") p2) p3) (.Constant (.int k) z p4) p5) d := fun {ρ' env'} k d {_ _ _ _ _ _} h1 h2 h3 h4 => by
    have hrl : (toldRow (vs.getD t 0)).length = 5 := rfl
    refine Ev.itm (d := .tuple (toldRow (vs.getD t 0))) (i := (k : Nat)) (Ev.itm (.nam h1) (i := (t : Nat)) (.nam h2) (.list (seqIndex_nat (by rw [List.length_map, hv]; exact ht6)) ?_ (by omega) (by omega)) (by intro _ _; with_unfolding_all rfl)) .cint (.tuple (seqIndex_nat (by rw [hrl]; exact h4)) h3 (by omega) (by omega)) (by intro _ _; with_unfolding_all rfl)
    rw [List.getElem?_map, List.getD_eq_getElem?_getD, List.getElem?_eq_getElem (by omega)]; rfl
  unfold wishD wishN
  refine Ev.tup ?_ (show 5 ≤ _ by decide +kernel)
  refine .cons (hrow 0 _ (by walk_at "has") (by walk_at "has") rfl (by decide)) ?_ rfl
  refine .cons (hrow 1 _ (by walk_at "has") (by walk_at "has") rfl (by decide)) ?_ rfl
  refine .cons (hrow 3 _ (by walk_at "has") (by walk_at "has") rfl (by decide)) ?_ rfl
  refine .cons (hrow 4 _ (by walk_at "has") (by walk_at "has") rfl (by decide)) ?_ rfl
  exact .cons (.nam (by walk_at "has")) .nil rfl
noncomputable abbrev scMo : Scope := { kind := .function, names := [(Str.ofString ".0", .local), (Str.ofString "depth", .cell), (Str.ofString "len", .globalImplicit), (Str.ofString "kept", .free), (Str.ofString "other", .free)], isGenerator := false, isCoroutine := false }
theorem more_it {n : Nat} {ρ : Names} {doc pm : Value} {L : Addr} : EvIt C n (lawE doc pm L) ρ (itOf (valOf (lawS 15))) (([0, 8, 16, 24, 32] : List Int).map fun (i : Int) => PyData.int i) := by
  conv in itOf (valOf (lawS 15)) => whnf
  exact .tuple (Ev.tup (ds := [.int 0, .int 8, .int 16, .int 24, .int 32]) (by walk_at "evs") (show 5 ≤ _ by decide +kernel))
theorem more_turn {n : Nat} {doc pm : Value} {L : Addr} {p : Pos} (G : Glb C) {kept other : List Wish} (hk : kept.length ≤ 100) (ho : other.length ≤ 100) (t : Int) : TurnC C n scMo (lawE doc pm L) [(Str.ofString "kept", wishesD kept), (Str.ofString "other", wishesD other)] (.Name (Str.ofString "depth") p) [] (eltOf (valOf (lawS 15))) (.int t) [PyData.int (cntD kept t - cntD other t)] := by
  conv in eltOf (valOf (lawS 15)) => whnf
  refine ⟨[(Str.ofString "depth", .int t)], true, _, fun L => .name (by walk_at "ownn"), fun L => rfl, fun _ L => ?_, rfl⟩
  exact Ev.bin (ev_cnt G hk (by walk_at "has") (by walk_at "has") rfl rfl) (ev_cnt G ho (by walk_at "has") (by walk_at "has") rfl rfl) (.sub _ _)
end
end
section -- F42
open Sem (wp)
noncomputable def own8 : List Int := [86, 36956, 3710, 50944, 494, 880, 46419, 45756]
noncomputable abbrev castL (l : List Nat) : List Int := l.map fun (n : Nat) => (n : Int)
structure LawOk (script : List Int) (c0 c1 : Nat) (vs ms sizes sums tail over lefts rests : List Nat) (S last : Nat) (line kept other : List Wish) : Prop where
  hs : script.length ≤ 100
  hc : cellsN own8 script (script.take 60).length = castL (c0 :: c1 :: vs)
  hv : vs.length = 6
  esz : sizes = sizesN c0 c1
  eta : tail = tailN c0
  eov : over = overN c0
  esu : sums = sumsN sizes
  hT : tblF ((allOct (vs.map rowN) ++ over).length + 1) (allOct (vs.map rowN) ++ over) = vs.map toldRow
  hT0 : tblF ((allOct [] ++ over).length + 1) (allOct [] ++ over) = []
  hgood : ∀ k i g, gSeq (castL (sizes ++ tail)) k = .val i g → 1 ≤ i ∧ i ≤ 1000
  hne : ∀ k, gSeq (castL (sizes ++ tail)) k ≠ .err
  hK : sumPow (marksF (castL (sizes ++ tail))) < 2 ^ 32
  hM : marksF (castL (sizes ++ tail)) ≠ []
  hms : bitsLt (sumPow (marksF (castL (sizes ++ tail)))) 32 = ms
  hml : ms.length ≤ 32
  hsl : sizes.length ≤ 7
  hsb : ∀ x ∈ sizes, x ≤ 5
  hS : sums[sums.length - 1]? = some S
  hla : sizes[sizes.length - 1]? = some last
  h0 : 0 < last
  hS2 : S ≤ 900
  hA : ms = (sums.filter fun m => decide (m < 32)) ++ onN S last tail
  eline : line = lineOf (wishesN vs)
  hp : line.Perm (wishesN vs)
  hnd : ((wishesN vs).map tripOf).Nodup
  hsort : (line.map tripOf).Pairwise (fun x y => ltT x y = true)
  ekept : (keptOf line (castL ms)).2.1 = kept
  eleft : (keptOf line (castL ms)).2.2 = castL lefts
  eother : (keptOf (wishesN vs) (castL ms)).2.1 = other
  erest : (keptOf (wishesN vs) (castL ms)).2.2 = castL rests
  hkl : kept.length ≤ 6
  hol : other.length ≤ 6
  hE : (moreL kept other)[0]? = some 0
  hF : ∀ x ∈ moreL kept other, 0 ≤ x
  l1 : ∀ k ∈ lefts, k < 32
  l2 : lefts.length ≤ 32
  l3 : sumPow lefts < 2 ^ 32
  l4 : flagWords (sumPow lefts) = wordsOr lefts
  l5 : nobody kept (castL ms) = castL lefts
  r1 : ∀ k ∈ rests, k < 32
  r2 : rests.length ≤ 32
  r3 : sumPow rests < 2 ^ 32
  r4 : flagWords (sumPow rests) = wordsOr rests
  r5 : nobody other (castL ms) = castL rests
  hr : ∀ w ∈ wishesN vs, InR w
  hI : winOf line (castL ms) = kept
  hJ : winOf (wishesN vs) (castL ms) = other
theorem over_ok (c0 : Nat) : (overN c0).length ≤ 10 ∧ ∀ r ∈ overN c0, r < 256 := by
  unfold overN
  refine ⟨Nat.le_trans (List.length_take_le _ _) (by omega), fun r hr => ?_⟩
  have := List.mem_of_mem_take hr
  simp at this
  omega
theorem tail_ok (c0 : Nat) : (tailN c0).length ≤ 10 := by
  unfold tailN
  have h := Nat.mod_lt (c0 / 7) (show 3 > 0 by decide)
  generalize c0 / 7 % 3 = i at h
  match i, h with
  | 0, _ => decide
  | 1, _ => decide
  | 2, _ => decide
theorem on_len (S last : Nat) (tail : List Nat) : (onN S last tail).length ≤ 32 := by
  unfold onN
  refine Nat.le_trans (List.length_filter_le _ _) ?_
  rw [List.length_map, List.length_range]; omega
section
variable {C : Cx}
theorem evLe {n m : Nat} {env : Env} {ρ : Names} {e : Expr} {d : PyData} (h : Ev C n env ρ e d) (hm : n ≤ m) : Ev C m env ρ e d := fun A ra => h A (ra.le hm)
set_option maxHeartbeats 4000000 in
theorem pf_law (G : Glb C) {script : List Int} {c0 c1 : Nat} {vs ms sizes sums tail over lefts rests : List Nat} {S last : Nat} {line kept other : List Wish} (H : LawOk script c0 c1 vs ms sizes sums tail over lefts rests S last line kept other) :
    PFn C 21 (.ref 280) [intsD script] (.bool true) := by
  obtain ⟨-, doc, pm, D⟩ := G.fn 27 280 _ _ (by walk_at "has")
  have ⟨g18, f18⟩ := G.at 18 229 .none .none (by walk_at "has")
  have ⟨g21, f21⟩ := G.at 21 244 .none .none (by walk_at "has")
  have ⟨g20, f20⟩ := G.at 20 239 .none .none (by walk_at "has")
  have ⟨g22, f22⟩ := G.at 22 251 .none .none (by walk_at "has")
  have ⟨g23, f23⟩ := G.at 23 258 .none .none (by walk_at "has")
  have ⟨g19, f19⟩ := G.at 19 234 .none .none (by walk_at "has")
  have hw6 : (wishesN vs).length = 6 := by unfold wishesN; rw [List.length_map, List.length_range]
  have hl6 : line.length = 6 := by rw [H.hp.length_eq, hw6]
  refine PFn.of_def (xs := ["script"]) D rfl rfl rfl ?_ (by decide +kernel) ?_ ?_
  · exact all1 fun v => by kernel_rfl!
  · intro L x hx
    simp only [List.mem_cons, List.not_mem_nil, or_false] at hx
    subst hx; exact .inl rfl
  · intro A s₀ pvc L s env he ra st Q E k
    subst he
    have st : St C A s₀ pvc _ [("script", intsD script)] [] s := st
    conv in (bdI 27) => whnf
    refine st.assign ra (d := .list (natsL (c0 :: c1 :: vs))) ?_ (by walk_at "upd") (by walk_at "owno") (fun s1 st => ?_) (by walk_at "ownn")
    · rw [ms_cast, show ((c0 :: c1 :: vs).map fun (n : Nat) => (n : Int)) = castL (c0 :: c1 :: vs) from rfl, ← H.hc]
      exact Ev.callF (.cons (d := intsD own8) (.lst (by unfold own8; walk_at "evs") (show 8 ≤ _ by decide +kernel)) (.cons (.nam (by walk_at "has")) .nil rfl) rfl) ((pf_cells G own8 script (by decide) (by decide) H.hs).le (by decide)) g18 f18
    refine st.assign ra (d := .list (natsL sizes)) (H.esz ▸ ev_sizes G (by walk_at "has")) (by walk_at "upd") (by walk_at "owno") (fun s2 st => ?_) (by walk_at "ownn")
    refine st.assign ra (d := .list (natsL tail)) (H.eta ▸ ev_tail G (by walk_at "has")) (by walk_at "upd") (by walk_at "owno") (fun s3 st => ?_) (by walk_at "ownn")
    have edr : (vs.map rowN).map natsT = vs.flatMap fun v => [natsT (rowN v)] := by rw [← flat_one, List.map_map]; rfl
    refine st.assignComp (ρf := []) (xs := vs) (enc := fun (v : Nat) => .int (v : Int)) (g := fun v => [natsT (rowN v)]) ra (.list (drawn_it (by rw [H.hv]; decide) (by walk_at "has"))) (.skip (by decide) (.skip (by decide) .nil)) (by rw [H.hv]; decide) (fun v _ => drawn_turn v) (by walk_at "upd") (by walk_at "owno") (fun s4 st => ?_) (by walk_at "ownn")
    rw [← edr] at st
    refine st.assign ra (d := .list (natsL over)) (H.eov ▸ ev_over G (by walk_at "has")) (by walk_at "upd") (by walk_at "owno") (fun s5 st => ?_) (by walk_at "ownn")
    have ho := over_ok c0
    rw [← H.eov] at ho
    refine st.assign ra (d := toldD vs) ?_ (by walk_at "upd") (by walk_at "owno") (fun s6 st => ?_) (by walk_at "ownn")
    · have key := pf_table G (vs.map rowN) over (by rw [List.length_map, H.hv]; decide) (fun e he => by
        obtain ⟨v, _, rfl⟩ := List.mem_map.mp he
        exact ⟨by unfold rowN; simp, by unfold rowN; simp⟩) ho.1 ho.2
      rw [H.hT] at key
      have e : PyData.list ((vs.map toldRow).map .tuple) = toldD vs := by unfold toldD; rw [List.map_map]; rfl
      rw [e] at key
      exact Ev.callF (.cons (.nam (by walk_at "has")) (.cons (.nam (by walk_at "has")) .nil rfl) rfl) (key.le (m := 20) (by decide)) g21 f21
    refine st.ifs ra (b := false) (tst_told G (vs := vs) (by rw [H.hv]; decide) (by walk_at "has") (by walk_at "has")) (fun h => nomatch h) (fun _ s7 st => wpAny_execs_nil ?_)
    have hto := tail_ok c0
    rw [← H.eta] at hto
    refine st.assign ra (d := .list (natsL ms)) ?_ (by walk_at "upd") (by walk_at "owno") (fun s8 st => ?_) (by walk_at "ownn")
    · have key := pf_marks G (castL (sizes ++ tail)) H.hgood H.hne H.hK H.hM
      rw [H.hms, ← ms_cast (ms := ms)] at key
      refine Ev.callF (.cons (d := intsD (castL (sizes ++ tail))) ?_ .nil) (key.le (m := 20) (by decide)) g20 f20
      have e : intsD (castL (sizes ++ tail)) = .list (natsL sizes ++ natsL tail) := by rw [← natsL_app, ms_cast]
      rw [e]
      exact Ev.bin (.nam (by walk_at "has")) (.nam (by walk_at "has")) (.cat _ _ (by have : sizeLine = 16777216 := rfl; have := H.hsl; simp only [List.length_map]; omega))
    refine st.assign ra (d := .list (natsL sums)) (H.esu ▸ ev_sums G (by have := H.hsl; omega) (fun x hx => Nat.le_trans (H.hsb x hx) (by decide)) (by walk_at "has")) (by walk_at "upd") (by walk_at "owno") (fun s9 st => ?_) (by walk_at "ownn")
    refine st.assignComp (ρf := [(Str.ofString "sizes", .list (natsL sizes)), (Str.ofString "sums", .list (natsL sums)), (Str.ofString "tail", .list (natsL tail))]) (xs := List.range (32 - (S + 1))) (enc := fun (i : Nat) => .int ((S + 1 + i : Nat) : Int)) (g := fun i => if onB S last i tail = true then [PyData.int ((S + 1 + i : Nat) : Int)] else []) ra (on_it G H.hS H.hS2 (by walk_at "has")) (.skip (by decide) (.skip (by decide) (.take (by walk_at "has") (.inl rfl) (.take (by walk_at "has") (.inl rfl) (.take (by walk_at "has") (.inl rfl) .nil))))) (by simp only [List.length_range]; omega) (fun i _ => on_turn H.hS H.hla H.h0 hto i) (by walk_at "upd") (by walk_at "owno") (fun s10 st => ?_) (by walk_at "ownn")
    rw [← on_eq] at st
    have ewi : (wishesN vs).map wishD = (List.range 6).flatMap fun t => [wishD (wishN t (vs.getD t 0))] := by
      rw [← flat_one]; unfold wishesN; rw [List.map_map]; rfl
    refine st.assignComp (ρf := [(Str.ofString "told", toldD vs)]) (xs := List.range 6) (enc := fun (i : Nat) => .int (i : Int)) (g := fun t => [wishD (wishN t (vs.getD t 0))]) ra (wishes_it G) (.skip (by decide) (.skip (by decide) (.take (by walk_at "has") (.inl rfl) .nil))) (by simp only [List.length_range]; decide) (fun t ht => wishes_turn H.hv (List.mem_range.mp ht)) (by walk_at "upd") (by walk_at "owno") (fun s11 st => ?_) (by walk_at "ownn")
    rw [← ewi] at st
    refine st.assign ra (d := wishesD line) (H.eline ▸ Ev.callF (.cons (.nam (by walk_at "has")) .nil) ((pf_line G (wishesN vs) (by rw [hw6]; decide)).le (by decide)) g22 f22) (by walk_at "upd") (by walk_at "owno") (fun s12 st => ?_) (by walk_at "ownn")
    have hm100 : (castL ms).length ≤ 100 := by rw [List.length_map]; have := H.hml; omega
    refine st.assignTup ra (ds := [wishesD kept, .list (natsL lefts)]) (ρt := [("kept", wishesD kept), ("left", .list (natsL lefts))]) ?_ (.cons (by walk_at "ownn") (by walk_at "upnot") (.cons (by walk_at "ownn") (by walk_at "upnot") .nil)) (by walk_at "upds") (by walk_at "ownt") fun s13 st => ?_
    · have key := pf_kept G line (castL ms) (by rw [hl6]; decide) hm100
      rw [H.ekept, H.eleft, ← ms_cast, ← ms_cast] at key
      exact Ev.callF (.cons (.nam (by walk_at "has")) (.cons (.nam (by walk_at "has")) .nil rfl) rfl) (key.le (m := 20) (by decide)) g23 f23
    refine st.assignTup ra (ds := [wishesD other, .list (natsL rests)]) (ρt := [("other", wishesD other), ("rest", .list (natsL rests))]) ?_ (.cons (by walk_at "ownn") (by walk_at "upnot") (.cons (by walk_at "ownn") (by walk_at "upnot") .nil)) (by walk_at "upds") (by walk_at "ownt") fun s14 st => ?_
    · have key := pf_kept G (wishesN vs) (castL ms) (by rw [hw6]; decide) hm100
      rw [H.eother, H.erest, ← ms_cast, ← ms_cast] at key
      exact Ev.callF (.cons (.nam (by walk_at "has")) (.cons (.nam (by walk_at "has")) .nil rfl) rfl) (key.le (m := 20) (by decide)) g23 f23
    refine st.assign ra (d := strsD wordsL) (Ev.callF0 ((pf_words G).le (by decide)) g19 f19) (by walk_at "upd") (by walk_at "owno") (fun s15 st => ?_) (by walk_at "ownn")
    have emo : (moreL kept other).map PyData.int = ([0, 8, 16, 24, 32] : List Int).flatMap fun depth => [PyData.int (cntD kept depth - cntD other depth)] := by
      rw [← flat_one]; unfold moreL; rw [List.map_map]; rfl
    refine st.assignComp (ρf := [(Str.ofString "kept", wishesD kept), (Str.ofString "other", wishesD other)]) (xs := ([0, 8, 16, 24, 32] : List Int)) (enc := fun (i : Int) => .int i) (g := fun depth => [PyData.int (cntD kept depth - cntD other depth)]) ra more_it (.skip (by decide) (.skip (by decide) (.skip (by decide) (.take (by walk_at "has") (.inl rfl) (.take (by walk_at "has") (.inl rfl) .nil))))) (by decide) (fun t _ => more_turn G (by have := H.hkl; omega) (by have := H.hol; omega) t) (by walk_at "upd") (by walk_at "owno") (fun s16 st => ?_) (by walk_at "ownn")
    rw [← emo] at st
    have hm32 := H.hml
    have hk6 := H.hkl
    have ho6 := H.hol
    have hsu : sums.length ≤ 100 := by rw [H.esu]; unfold sumsN; rw [List.length_map, List.length_range]; have := H.hsl; omega
    have hlr : ∀ w ∈ line, InR w := fun w hw => H.hr w (H.hp.mem_iff.mp hw)
    refine st.ret ra (d := .bool true) (Ev.andT ?_) fun v s' k' r => k _ v s' (.inl rfl) k' r
    refine AndT.cons (part_a G H.hA hsu (Nat.le_trans (on_len _ _ _) (by decide)) (by walk_at "has") (by walk_at "has") (by walk_at "has")) ?_
    refine AndT.cons (part_b G hw6 H.hp H.hnd H.hsort (by walk_at "has") (by walk_at "has")) ?_
    refine AndT.cons (part_c G hl6 (by walk_at "has")) ?_
    refine AndT.cons (part_d (n := 12) G ho.1 ho.2 H.hT0 (by walk_at "has")) ?_
    refine AndT.cons (part_e H.hE (by walk_at "has")) ?_
    refine AndT.cons (part_f G H.hF (by unfold moreL; rw [List.length_map]; decide) (by walk_at "has")) ?_
    refine AndT.cons (part_g (n := 17) G H.l1 H.l2 H.l3 H.l4 (by omega) (by omega) H.l5 (by walk_at "has") (by walk_at "has") (by walk_at "has") (by walk_at "has")) ?_
    refine AndT.cons (part_h (n := 17) G H.r1 H.r2 H.r3 H.r4 (by omega) (by omega) H.r5 (by walk_at "has") (by walk_at "has") (by walk_at "has") (by walk_at "has")) ?_
    refine AndT.cons (part_i (n := 17) G (by omega) (by omega) hlr H.hI (by walk_at "has") (by walk_at "has") (by walk_at "has")) ?_
    refine AndT.cons (part_j (n := 17) G (by omega) (by omega) H.hr H.hJ (by walk_at "has") (by walk_at "has") (by walk_at "has")) ?_
    refine AndT.one (evLe (n := 11 + 2) ?_ (by decide))
    exact part_k G (sizes := sizes) (ms := ms) (by have := H.hsl; omega) (by walk_at "has") (by walk_at "has")
end
end
section -- H1
theorem said_quick : PySem.W.Fast.tw9446332074065402090 PySem.Challenge.rw_kl0448_01 = true := by decide +kernel
theorem said_law : PySem.Challenge.rw_kl0448_01.wellSaid = true := (congrFun PySem.W.Fast.te9446332074065402090 _).trans said_quick
noncomputable abbrev pL : Program := PySem.Challenge.rw_kl0448_01.row.prog
noncomputable def viewL : Program := view pL [27]
noncomputable def stL : Stmt := pL.main.body.getD 27 (.Pass default)
noncomputable def defL : DefRec := match stL with | .FunctionDef n ps b _ _ _ sc _ _ pos => ⟨n, ps, b, sc, pos⟩ | _ => ⟨default, ⟨[], [], none, [], [], none, []⟩, [], { kind := .function, names := [], isGenerator := false, isCoroutine := false, more := [] }, default⟩
theorem def_of : defOf viewL PySem.Challenge.rw_kl0448_01.row.name = some (defL, []) := by kernel_rfl!
theorem the_def : pL.theDef PySem.Challenge.rw_kl0448_01.row.name = some (defL.params, defL.body, defL.scope) := by kernel_rfl!
theorem kw_def : kwWritten? defL.params.kwonlyargs defL.params.kw_defaults = some [] := by kernel_rfl!
theorem ok_law : (chainsOk viewL && opensWell pL && (frees PySem.Challenge.rw_kl0448_01.row.toRowW && PySem.Challenge.rw_kl0448_01.row.within.isEmpty)) = true := by decide +kernel
theorem bare_law : pL.bare := ⟨rfl, rfl, rfl, rfl, rfl, by decide +kernel⟩
theorem prom_law : PySem.Challenge.rw_kl0448_01.row.toRowW.promised := by w_witness2
theorem write_law : (!PySem.Challenge.rw_kl0448_01.row.writes || PySem.Challenge.rw_kl0448_01.row.records.isEmpty) = true := by kernel_rfl!
noncomputable def looseL : List Str := (pL.main.body.filterMap fun st => match st with | .FunctionDef n .. => some n | .ClassDef n .. => some n | .Assign [.Name n _] .. => some n | _ => none).filter fun n => !(n == PySem.Challenge.rw_kl0448_01.row.name || n == "__name__")
noncomputable def topRunG (ok : Thread → Bool) (st : SharedT → Thread → Option (SharedT × Thread)) : Nat → SharedT → Thread → Option SharedT
  | 0, _, _ => none
  | n + 1, s, t => match through t with
    | true => some s
    | false => match ok t with
      | false => none
      | true => match st s t with
        | some (s', t') => topRunG ok st n s' t'
        | none => none
theorem topRunG_of {tb : String → Option Builtin} {p : Program} {w : World} {n₀ : Nat} {ann : Option Value} : ∀ {n : Nat} {s s' : SharedT} {t : Thread}, topRunG (stepOk n₀ ann) (stepT (denote tb) p w) n s t = some s' → topRun tb p w n₀ ann n s.abs t = some s'.abs
  | 0, _, _, _, h => by cases h
  | n + 1, s, s', t, h => by
    unfold topRunG at h
    unfold topRun
    cases he : through t with
    | true => rw [he] at h; cases h; rfl
    | false =>
      rw [he] at h
      cases hk : stepOk n₀ ann t with
      | false => rw [hk] at h; cases h
      | true =>
        rw [hk] at h
        cases hs : stepT (denote tb) p w s t with
        | none => rw [hs] at h; cases h
        | some r => obtain ⟨s₂, t₂⟩ := r; rw [hs] at h; dsimp only; rw [stepT_spec hs]; exact topRunG_of h
noncomputable def bootT (P : Params) : BT := ((boot_heap P).objs.toList.foldl (fun (x : BT × Nat) o => (x.1.ins x.2 o, x.2 + 1)) (.nil, 0)).1
theorem bootT_abs (P : Params) : absHeap (bootT P) 11 {} = boot_heap P := by kernel_rfl!
noncomputable def S0 (w : World) (os : OsState) : SharedT := ⟨bootT w.params, 11, {}, #[], boot_drawn, boot_toks, os⟩
theorem boot_facts (w : World) : ((boot_heap w.params).isNs mainGlobals && (#[] : Array GenState).size == 0, (boot_heap w.params).objs.size, (boot_heap w.params).nsMap mainGlobals "__annotations__") = (true, 11, some (.ref 6)) := by kernel_rfl!
noncomputable abbrev qOk : Thread → Bool := PySem.W.Fast.tw6613529449190102663 11 (some (.ref 6))
noncomputable abbrev qStep (w : World) : SharedT → Thread → Option (SharedT × Thread) := PySem.W.Fast.tw10156331382660048174 (PySem.W.Fast.tw11892475500146522536 PySem.W.Fast.tw14364793385576792824) pL w
theorem qOk_eq : stepOk 11 (some (.ref 6)) = qOk := by rw [PySem.W.Fast.te6613529449190102663]
theorem qStep_eq (w : World) : stepT (denote treeTable) pL w = qStep w := by
  unfold qStep
  rw [← PySem.W.Fast.te10156331382660048174, ← PySem.W.Fast.te11892475500146522536, ← PySem.W.Fast.te14364793385576792824]
theorem open_law : ∀ w : World, (fencedOpening treeTable pL w 5600).map (fun s => (s.heap, s.gens, s.drawn, s.toks)) = some (boot_heap w.params, Array.mk [], boot_drawn, boot_toks) :=
  boot_open rfl (by decide +kernel) fun s => by rfl
theorem S0_abs (w : World) (os : OsState) : (S0 w os).abs = ⟨boot_heap w.params, #[], boot_drawn, boot_toks, os⟩ := by
    show (⟨absHeap (bootT w.params) 11 {}, #[], boot_drawn, boot_toks, os⟩ : Shared) = _
    rw [bootT_abs]
theorem boot_four {hp : Heap} {gs : Array GenState} {d : Drawn} {k : Nat} {w : World} (e' : (hp, gs, d, k) = (boot_heap w.params, Array.mk [], boot_drawn, boot_toks)) : hp = boot_heap w.params ∧ gs = Array.mk [] ∧ d = boot_drawn ∧ k = boot_toks := by simpa using e'
theorem top_from (w : World) (sT : SharedT) {os N} (z1 : ((boot_heap w.params).isNs mainGlobals && (#[] : Array GenState).size == 0) = true) (z2 : (boot_heap w.params).objs.size = 11) (z3 : (boot_heap w.params).nsMap mainGlobals "__annotations__" = some (.ref 6)) (l1 : (staticsOk (importedModules pL.main.body) (boot_heap w.params) sT.abs.heap && namesBound pL sT.abs.heap && gensDone sT.abs && laidKept (boot_heap w.params) sT.abs.heap) = true)
   (r : topRun treeTable pL w 11 (some (Value.ref 6)) N ⟨boot_heap w.params, #[], boot_drawn, boot_toks, os⟩ (topStub pL) = some sT.abs) : topFrom treeTable pL w N ⟨boot_heap w.params, Array.mk [], boot_drawn, boot_toks, os⟩ = some sT.abs := by
    unfold topFrom
    dsimp only
    rw [z1, z2, z3, r]
    show (match staticsOk (importedModules pL.main.body) (boot_heap w.params) sT.abs.heap && namesBound pL sT.abs.heap && gensDone sT.abs && laidKept (boot_heap w.params) sT.abs.heap with | true => _ | false => _) = _
    rw [l1]
theorem ends_of {α : Type} {Xt : Shared → Bool} {Yf : Shared → α} {Ya : World → α} (w : World) (sT : SharedT) (s0 : Shared) (e : fencedOpening treeTable pL w 5600 = some s0)
  (t : topFrom treeTable pL w 5600 s0 = some sT.abs) (l2 : PySem.W.Fast.tw4187177175401517315 viewL looseL (importedModules pL.main.body) Xt true sT.abs = openGood viewL looseL) (l3 : Yf sT.abs = Ya w) : (openEnds treeTable pL w 5600).map (fun s => (openSeen viewL looseL (importedModules pL.main.body) Xt true s, Yf s)) = some (openGood viewL looseL, Ya w) := by
  unfold openEnds
  rw [e]
  show ((topFrom treeTable pL w 5600 _).map _) = _
  rw [t]
  show some (openSeen viewL looseL (importedModules pL.main.body) Xt true sT.abs, Yf sT.abs) = _
  rw [PySem.W.Fast.te4187177175401517315, l2, l3]
theorem run_of {N w os} {sT : SharedT} (r : topRunG qOk (qStep w) N (S0 w os) (topStub pL) = some sT) : topRun treeTable pL w 11 (some (Value.ref 6)) N (S0 w os).abs (topStub pL) = some sT.abs := by
  rw [← qOk_eq, ← qStep_eq] at r
  exact topRunG_of r
theorem run_more {N w ann s0 st sT} (hN : Nat.ble N 5600 = true) (r : topRun treeTable pL w 11 ann N s0 st = some sT) : topRun treeTable pL w 11 ann 5600 s0 st = some sT := by
  have r := topRun_mono (5600 - N) _ _ _ _ r
  rw [show N + (5600 - N) = 5600 by have := Nat.le_of_ble_eq_true hN; omega] at r
  exact r
theorem left_of {α : Type} {Xt : Shared → Bool} {Yf : Shared → α} {Ya : World → α} {N : Nat} (hN : Nat.ble N 5600 = true)
    (h : ∀ w os, (topRunG qOk (qStep w) N (S0 w os) (topStub pL)).map (fun s => ((staticsOk (importedModules pL.main.body) (boot_heap w.params) s.abs.heap && namesBound pL s.abs.heap && gensDone s.abs && laidKept (boot_heap w.params) s.abs.heap), PySem.W.Fast.tw4187177175401517315 viewL looseL (importedModules pL.main.body) Xt true s.abs, Yf s.abs)) = some (true, openGood viewL looseL, Ya w)) :
    LeftO pL viewL looseL Xt Yf Ya 5600 := fun w => by
  obtain ⟨⟨hp, gs, d, k, os⟩, e, e'⟩ := Option.map_eq_some_iff.mp (open_law w)
  obtain ⟨rfl, rfl, rfl, rfl⟩ := boot_four e'
  obtain ⟨z1, z2, z3⟩ : _ ∧ _ ∧ _ := by simpa only [Prod.mk.injEq] using boot_facts w
  obtain ⟨sT, r, l⟩ := Option.map_eq_some_iff.mp (h w os)
  obtain ⟨l1, l2, l3⟩ : _ ∧ _ ∧ _ := by simpa only [Prod.mk.injEq] using l
  have r := run_more hN (run_of r)
  rw [S0_abs] at r
  exact ends_of w sT _ e (top_from w sT z1 z2 z3 l1 r) l2 l3
end
section -- H2
noncomputable def notTab (o : Obj) : Bool := match o.cls, o.data with | .none, .fields _ => false | _, _ => true
theorem notTab_not {o : Obj} (h : notTab o = true) : ¬ IsTabO o := fun ⟨ps, e, _⟩ => by subst e; exact nomatch h
theorem lookup_mem {K : Frag} {a : Addr} {o : Obj} (h : K.lookup a = some o) : (a, o) ∈ K := by
  induction K with
  | nil => cases h
  | cons p r ih =>
    obtain ⟨b, x⟩ := p
    simp only [List.lookup] at h
    split at h
    · rename_i q; cases h; rw [beq_iff_eq.mp q]; exact List.mem_cons_self
    · exact List.mem_cons_of_mem _ (ih h)
noncomputable def rowAt (h : Heap) (a : Addr) : Option (Addr × Obj) := (h.get? a).bind fun o => if notTab o then some (a, o) else none
noncomputable def fragOf (h : Heap) : Frag := (List.range h.objs.size).filterMap (rowAt h)
theorem row_at {h : Heap} {a b : Addr} {o : Obj} (e : rowAt h a = some (b, o)) : h.get? b = some o ∧ notTab o = true := by
  unfold rowAt at e
  obtain ⟨x, h1, h2⟩ := Option.bind_eq_some_iff.mp e
  split at h2
  · rename_i q; cases h2; exact ⟨h1, q⟩
  · cases h2
theorem frag_in (h : Heap) : (fragOf h).In h := fun a o e => by
  obtain ⟨b, _, q⟩ := List.mem_filterMap.mp (lookup_mem e)
  exact (row_at q).1
theorem frag_tab (h : Heap) : (fragOf h).all (fun p => notTab p.2) = true := List.all_eq_true.mpr fun p hp => by
  obtain ⟨b, _, q⟩ := List.mem_filterMap.mp hp
  exact (row_at q).2
noncomputable def strip (fd : FuncData) : FuncData := { fd with doc := .none, pyModule := .none }
noncomputable def intV : Value → Option Int | .int k _ => some k | _ => none
noncomputable def strV : Value → Option Str | .str y _ => some y | _ => none
noncomputable def noV : Value → Option Unit | .none => some () | _ => none
noncomputable def typeV : Value → Option String | .type n => some n | _ => none
noncomputable def seqO : Data → Option (List Value) | .seq vs _ => some vs.toList | _ => none
noncomputable def dictO : Data → Option (Array DictEntry) | .dict es _ => some es | _ => none
noncomputable def fldO : Data → Option (Array Value) | .fields vs => some vs | _ => none
noncomputable def fnO : Data → Option FuncData | .func fd => some fd | _ => none
theorem intV_eq {v : Value} {k : Int} (h : intV v = some k) : ∃ t, v = .int k t := by cases v <;> cases h; exact ⟨_, rfl⟩
theorem strV_eq {v : Value} {k : Str} (h : strV v = some k) : ∃ t, v = .str k t := by cases v <;> cases h; exact ⟨_, rfl⟩
theorem noV_eq {v : Value} {k : Unit} (h : noV v = some k) : v = .none := by cases v <;> cases h; rfl
theorem typeV_eq {v : Value} {k : String} (h : typeV v = some k) : v = .type k := by cases v <;> cases h; rfl
theorem seqO_eq {d : Data} {l : List Value} (h : seqO d = some l) : ∃ vs n, d = .seq vs n ∧ vs.toList = l := by cases d <;> cases h; exact ⟨_, _, rfl, rfl⟩
theorem dictO_eq {d : Data} {l : Array DictEntry} (h : dictO d = some l) : ∃ n, d = .dict l n := by cases d <;> cases h; exact ⟨_, rfl⟩
theorem fldO_eq {d : Data} {l : Array Value} (h : fldO d = some l) : d = .fields l := by cases d <;> cases h; rfl
theorem fnO_eq {d : Data} {l : FuncData} (h : fnO d = some l) : d = .func l := by cases d <;> cases h; rfl
noncomputable def funcO (o : Obj) : Option FuncData := (fnO o.data).map strip
noncomputable def qualO (o : Obj) : Option Str := (fldO o.data).bind fun vs => vs[1]?.bind strV
noncomputable def clsO (o : Obj) : Value × Option Addr × Data × Option Value := (o.cls, o.dict, o.data, (o.slots[4]?).join)
noncomputable def isChm (x : Option (Option Value)) : Bool := (x.join.bind intV) == some 127
noncomputable def fdflt (o : Obj) : Bool := match seqO o.data with | some [a, b] => intV a == some 0 && (noV b).isSome | _ => false
noncomputable def fkey (o : Obj) : Bool := ((dictO o.data).map fun es => (es.toList.all fun e => (strV e.key).isSome) && ((nsFind es "key").bind noV).isSome) == some true
noncomputable def sameFlag (e : DictEntry) (x : Int × Str) : Bool := intV e.key == some x.1 && (strV e.val == some x.2 && e.hash == hashInt x.1)
noncomputable def sameFlags : List DictEntry → List (Int × Str) → Bool
  | [], [] => true
  | e :: r, x :: t => sameFlag e x && sameFlags r t
  | _, _ => false
noncomputable def fflags (o : Obj) : Bool := typeV o.cls == some "dict" && (o.dict.isNone && (o.slots.size == 0 && ((dictO o.data).map fun es => sameFlags es.toList flagT) == some true))
noncomputable def atK (K : Frag) (f : Obj → Bool) (a : Addr) : Bool := (K.lookup a).map f == some true
theorem atK_eq {K : Frag} {f : Obj → Bool} {a : Addr} (h : atK K f a = true) : ∃ o, K.lookup a = some o ∧ f o = true := Option.map_eq_some_iff.mp (beq_iff_eq.mp h)
noncomputable def isNo (x : Option (Option Value)) : Bool := x.map Option.isNone == some true
noncomputable def chkK (K : Frag) : Bool :=
  isChm (nsIn K mainGlobals (Str.ofString "CHAR_MAX")) && mkrList.all (fun x => codeHdIn K x.1 x.2.1) && biList.all (fun x => isNo (nsIn K mainGlobals x.1)) &&
    ([22, 31, 40, 49] : List Addr).all (atK K fdflt) && ([23, 32, 41, 50] : List Addr).all (atK K fkey) && atK K fflags 101 && readsIn K 198 (.type "type") && keepIn K (.ref 198)
noncomputable abbrev DefO : Type := Option (Option Value) × Option FuncData × Option Str
noncomputable def defO (K : Frag) (x : Nat × Addr × Value × Value) : DefO := (nsIn K mainGlobals (nmI x.1), (K.lookup x.2.1).bind funcO, (K.lookup (x.2.1 - 1)).bind qualO)
noncomputable def defV (x : Nat × Addr × Value × Value) : DefO := (some (some (.ref x.2.1)), some (fdI x.1 x.2.2.1 x.2.2.2 .none .none (x.2.1 - 1)), some (nmI x.1))
noncomputable abbrev ClsT : Type := Value × Option Addr × Data × Option Value
noncomputable abbrev ObsT : Type := Bool × List DefO × DefO × Option ClsT × Option ClsT × Option CFound × Option (List Value) × List (Option (Option Value)) × Option Bool
noncomputable def obsK (K : Frag) : ObsT := (chkK K, defList.map (defO K), (nsIn K mainGlobals (Str.ofString "_ExceptionTableEntry"), (K.lookup 126).bind funcO, (K.lookup 125).bind qualO), (K.lookup 198).map clsO, (K.lookup 185).map clsO,
  findCls K (.ref 198) (.type "type") "__new__", recIn K 186 "staticmethod",
  [nsIn K mainGlobals (Str.ofString "COMPILER_FLAG_NAMES"), specialIn K (.ref 198) "__call__", findIn K (.ref 198) "__init__", findIn K (.ref 198) "__getitem__"], instIn K (.ref 198) (.type "type"))
noncomputable def valK : ObsT := (true, defList.map defV, (some (some (.ref 198)), some (fdNew .none .none), some (Str.ofString "_ExceptionTableEntryBase.__new__")), some (.type "type", none, .cls cd198, some .none), some (.type "type", none, .cls cd185, some .none),
  some (.get (.builtin "staticmethod.__get__") (.ref 186) .none (.ref 198)), some [.ref 126],
  [some (some (.ref 101)), some (some (.builtin "type.__call__")), some (some (.builtin "object.__init__")), some (some (.builtin "tuple.__getitem__"))], some true)
noncomputable def tabsL : List Addr := [253, 246, 241, 277]
noncomputable def obsL (s : Shared) : ObsT × List (Option Obj) := (obsK (fragOf s.heap), tabsL.map s.heap.get?)
noncomputable def valL : ObsT × List (Option Obj) := (valK, tabsL.map fun _ => some (tabObj #[]))
noncomputable def SaysL (_ : World) (h : Heap) : Prop := ∃ K : Frag, K.In h ∧ K.all (fun p => notTab p.2) = true ∧ obsK K = valK ∧ ∀ P ∈ tabsL, h.get? P = some (tabObj #[])
theorem says_of (w : World) (s : Shared) (e : obsL s = valL) : SaysL w s.heap :=
  ⟨fragOf s.heap, frag_in _, frag_tab _, (Prod.mk.inj e).1, List.map_inj_left.mp (Prod.mk.inj e).2⟩
theorem says_keeps (w : World) (h h' : Heap) (x : SaysL w h) (k : ∀ b o, h.get? b = some o → h'.get? b = some o) : SaysL w h' :=
  let ⟨K, a, b, c, d⟩ := x; ⟨K, a.keeps k, b, c, fun P hP => k _ _ (d P hP)⟩
noncomputable abbrev seenL (w : World) (s : SharedT) := ((staticsOk (importedModules pL.main.body) (boot_heap w.params) s.abs.heap && namesBound pL s.abs.heap && gensDone s.abs && laidKept (boot_heap w.params) s.abs.heap), PySem.W.Fast.tw4187177175401517315 viewL looseL (importedModules pL.main.body) (fun s => recOk PySem.Challenge.rw_kl0448_01.row.records s) true s.abs, obsL s.abs)
theorem runF (w : World) (os : OsState) : (topRunG qOk (qStep (w.withFollow "special-get-raises" false)) 2800 (S0 (w.withFollow "special-get-raises" false) os) (topStub pL)).map (seenL (w.withFollow "special-get-raises" false)) = some (true, openGood viewL looseL, valL) := by kernel_rfl!
theorem runT (w : World) (os : OsState) : (topRunG qOk (qStep (w.withFollow "special-get-raises" true)) 2800 (S0 (w.withFollow "special-get-raises" true) os) (topStub pL)).map (seenL (w.withFollow "special-get-raises" true)) = some (true, openGood viewL looseL, valL) := by kernel_rfl!
theorem left_law : LeftO pL viewL looseL (fun s => recOk PySem.Challenge.rw_kl0448_01.row.records s) obsL (fun _ => valL) 5600 :=
  left_of (N := 2800) (by decide +kernel) fun w => byRow2 "special-get-raises" (P := fun w => ∀ os, (topRunG qOk (qStep w) 2800 (S0 w os) (topStub pL)).map (seenL w) = some (true, openGood viewL looseL, valL)) runF runT w
theorem hd_law (call : WalkO viewL looseL (fun _ _ => True) SaysL PySem.Challenge.rw_kl0448_01.row.toRowW defL [] fun f vs => PySem.call f vs) : PySem.Challenge.rw_kl0448_01.Holds :=
  holds_law said_law fun said => holds_open left_law (fun w s e => says_of w s e) says_keeps (fun _ _ => trivial) (fun _ _ _ _ _ => trivial) def_of the_def kw_def (fun s e => recFacts_of e) write_law said ok_law bare_law prom_law call
end
section -- H3
noncomputable abbrev lawCx (w : World) (h : Heap) (mg mb : Str → Option Value) (g : h.Ns mainGlobals mg) (b : h.Ns builtinsNs mb) (nl : h.NoLimit) : Cx :=
  { prog := pL, w := w, h₁ := h, mg := mg, mb := mb, g := g, b := b, nolimit := nl, mkr := mkrList }
theorem same_flag {e : DictEntry} {x : Int × Str} (h : sameFlag e x = true) : ∃ t1 t2, e.key = .int x.1 t1 ∧ e.val = .str x.2 t2 ∧ e.hash = hashInt x.1 := by
  have h := Bool.and_eq_true_iff.mp h
  have k := Bool.and_eq_true_iff.mp h.2
  obtain ⟨t1, e1⟩ := intV_eq (beq_iff_eq.mp h.1)
  obtain ⟨t2, e2⟩ := strV_eq (beq_iff_eq.mp k.1)
  exact ⟨t1, t2, e1, e2, beq_iff_eq.mp k.2⟩
theorem same_get (k : Int) : ∀ (es : List DictEntry) (T : List (Int × Str)), sameFlags es T = true → match T.lookup k with
    | some nm => ∃ t, (es.find? fun e => Value.isInt k e.key).map (·.val) = some (.str nm t)
    | none => (es.find? fun e => Value.isInt k e.key).map (·.val) = none := by
  intro es
  induction es with
  | nil => intro T h; cases T with | nil => rfl | cons x t => cases h
  | cons e r ih =>
    intro T h
    cases T with
    | nil => cases h
    | cons x t =>
      obtain ⟨h1, h2⟩ := Bool.and_eq_true_iff.mp (h : (sameFlag e x && sameFlags r t) = true)
      obtain ⟨t1, t2, e1, e2, _⟩ := same_flag h1
      rw [List.lookup_cons, List.find?_cons, e1]
      by_cases q : k = x.1
      · subst q
        simp [Value.isInt, e2]
      · have q1 : (k == x.1) = false := by simpa using q
        have q2 : Value.isInt k (.int x.1 t1) = false := by simp [Value.isInt, Ne.symm q]
        rw [q1, q2]
        exact ih t h2
theorem same_keys {prog : Program} {w : World} : ∀ (es : List DictEntry) (T : List (Int × Str)), sameFlags es T = true → ∀ e ∈ es, ∃ k, (intKind prog w).is k e.key = true ∧ e.hash = (intKind prog w).hash k := by
  intro es
  induction es with
  | nil => intro T _ e he; exact absurd he List.not_mem_nil
  | cons e r ih =>
    intro T h y hy
    cases T with
    | nil => cases h
    | cons x t =>
      obtain ⟨h1, h2⟩ := Bool.and_eq_true_iff.mp (h : (sameFlag e x && sameFlags r t) = true)
      rcases List.mem_cons.mp hy with rfl | hy
      · obtain ⟨t1, t2, e1, e2, e3⟩ := same_flag h1
        refine ⟨x.1, ?_, e3⟩
        rw [e1]
        simp [intKind, Value.isInt]
      · exact ih t h2 y hy
structure Chk (K : Frag) : Prop where
  c1 : isChm (nsIn K mainGlobals (Str.ofString "CHAR_MAX")) = true
  c2 : mkrList.all (fun x => codeHdIn K x.1 x.2.1) = true
  c3 : biList.all (fun x => isNo (nsIn K mainGlobals x.1)) = true
  c4 : ([22, 31, 40, 49] : List Addr).all (atK K fdflt) = true
  c5 : ([23, 32, 41, 50] : List Addr).all (atK K fkey) = true
  c6 : atK K fflags 101 = true
  c7 : readsIn K 198 (.type "type") = true
  c8 : keepIn K (.ref 198) = true
theorem chk_of {K : Frag} (h : chkK K = true) : Chk K := by
  unfold chkK at h
  have a1 := Bool.and_eq_true_iff.mp h
  have a2 := Bool.and_eq_true_iff.mp a1.1
  have a3 := Bool.and_eq_true_iff.mp a2.1
  have a4 := Bool.and_eq_true_iff.mp a3.1
  have a5 := Bool.and_eq_true_iff.mp a4.1
  have a6 := Bool.and_eq_true_iff.mp a5.1
  have a7 := Bool.and_eq_true_iff.mp a6.1
  exact ⟨a7.1, a7.2, a6.2, a5.2, a4.2, a3.2, a2.2, a1.2⟩
theorem strip_eq {fd fd' : FuncData} (h : strip fd = fd') : fd = { fd' with doc := fd.doc, pyModule := fd.pyModule } := by
  subst h; rfl
theorem qual_code {K : Frag} {h : Heap} {c : Addr} {q : Str} (X : K.In h) (e : (K.lookup c).bind qualO = some q) : h.CodeRec (.ref c) q := by
  obtain ⟨o, h1, h2⟩ := Option.bind_eq_some_iff.mp e
  obtain ⟨vs, h3, h4⟩ := Option.bind_eq_some_iff.mp h2
  obtain ⟨v, h5, h6⟩ := Option.bind_eq_some_iff.mp h4
  obtain ⟨t, h7⟩ := strV_eq h6
  exact ⟨c, o, vs, t, rfl, X _ _ h1, fldO_eq h3, h7 ▸ h5⟩
theorem func_at {K : Frag} {a : Addr} {fd' : FuncData} (e : (K.lookup a).bind funcO = some fd') : ∃ o fd, K.lookup a = some o ∧ o.data = .func fd ∧ strip fd = fd' := by
  obtain ⟨o, h1, h2⟩ := Option.bind_eq_some_iff.mp e
  obtain ⟨fd, h3, h4⟩ := Option.map_eq_some_iff.mp h2
  exact ⟨o, fd, h1, fnO_eq h3, h4⟩
theorem def_at {C : Cx} {K : Frag} {a c : Addr} {fd : FuncData} (X : ∀ s, Base C s → K.In s.heap) {q : Str} (hf : (K.lookup a).bind funcO = some fd) (hq : (K.lookup c).bind qualO = some q) (eq : fd.qualname = q) (hc : fd.code = .ref c) (h1 : fd.globals = mainGlobals) (h2 : fd.builtins = builtinsNs)
    (h3 : fd.closure = []) (h4 : fd.scope.kind = .function) (h5 : fd.scope.isCoroutine = false) : ∃ doc pm, DefAt C a { fd with doc := doc, pyModule := pm } := by
  obtain ⟨o, fd0, ho, hd, e⟩ := func_at hf
  have e' := strip_eq e
  refine ⟨fd0.doc, fd0.pyModule, ⟨fun s B => ⟨o, X s B _ _ ho, e' ▸ hd⟩, fun s B => ?_, h1, h2, h3, h4, h5⟩⟩
  show s.heap.CodeRec fd.code fd.qualname
  rw [hc, eq]
  exact qual_code (X s B) hq
theorem def_side : ∀ x ∈ defList, (fdI x.1 x.2.2.1 x.2.2.2 .none .none (x.2.1 - 1)).scope.kind = .function ∧ (fdI x.1 x.2.2.1 x.2.2.2 .none .none (x.2.1 - 1)).scope.isCoroutine = false := by
  unfold defList
  repeat' (first | exact (fun _ h => absurd h List.not_mem_nil) | refine List.forall_mem_cons.mpr ⟨⟨by kernel_rfl!, by kernel_rfl!⟩, ?_⟩)
theorem bi_boot : ∀ x ∈ biList, x.1 ≠ "__name__" ∧ bootBuiltins x.1 = some x.2 := by
  unfold biList
  repeat' (first | exact (fun _ h => absurd h List.not_mem_nil) | refine List.forall_mem_cons.mpr ⟨⟨by decide +kernel, by kernel_rfl!⟩, ?_⟩)
theorem cls_at {K : Frag} {a : Addr} {cd : ClassData} (e : (K.lookup a).map clsO = some (.type "type", none, .cls cd, some .none)) : ∃ sl, K.lookup a = some ⟨.type "type", none, .cls cd, sl⟩ ∧ (sl[4]?).join = some .none := by
  obtain ⟨o, h1, h2⟩ := Option.map_eq_some_iff.mp e
  obtain ⟨c, d, dt, sl⟩ := o
  unfold clsO at h2
  simp only [Prod.mk.injEq] at h2
  obtain ⟨rfl, rfl, rfl, h⟩ := h2
  exact ⟨sl, h1, h⟩
theorem in_base {C : Cx} {K : Frag} (X : K.In C.h₁) (hn : K.all (fun p => notTab p.2) = true) (s : Shared) (B : Base C s) : K.In s.heap := fun a o e =>
  B.sub' a o (X a o e) (notTab_not (List.all_eq_true.mp hn _ (lookup_mem e)))
theorem glb_of {w : World} {h : Heap} {mg mb : Str → Option Value} {g : h.Ns mainGlobals mg} {b : h.Ns builtinsNs mb} {nl : h.NoLimit} (Y : SaysL w h)
    (bmain : ∃ bm ob, mg "__builtins__" = some (.ref bm) ∧ bm ≠ builtinsNs ∧ h.get? bm = some ob ∧ ob.cls = .type "module" ∧ ob.dict = some builtinsNs ∧ ob.data = .plain)
    (hb : ∀ x : Str, x ≠ "__name__" → mb x = bootBuiltins x) : Glb (lawCx w h mg mb g b nl) := by
  obtain ⟨K, KX, hn, ek, hT⟩ := Y
  have XB : ∀ s, Base (lawCx w h mg mb g b nl) s → K.In s.heap := fun s B => in_base (C := lawCx w h mg mb g b nl) KX hn s B
  have c := chk_of (congrArg (·.1) ek : chkK K = true)
  have ed : defList.map (defO K) = defList.map defV := congrArg (fun x : ObsT => x.2.1) ek
  have en := congrArg (fun x : ObsT => x.2.2.1) ek
  have el := congrArg (fun x : ObsT => x.2.2.2.2.2.2.2.1) ek
  have el1 : nsIn K mainGlobals (Str.ofString "COMPILER_FLAG_NAMES") = some (some (.ref 101)) := (List.cons.inj el).1
  have el2 : specialIn K (.ref 198) "__call__" = some (some (.builtin "type.__call__")) := (List.cons.inj (List.cons.inj el).2).1
  have el3 : findIn K (.ref 198) "__init__" = some (some (.builtin "object.__init__")) := (List.cons.inj (List.cons.inj (List.cons.inj el).2).2).1
  have el4 : findIn K (.ref 198) "__getitem__" = some (some (.builtin "tuple.__getitem__")) := (List.cons.inj (List.cons.inj (List.cons.inj (List.cons.inj el).2).2).2).1
  refine {
    ent := ⟨K, XB, ⟨cls_at (congrArg (fun x : ObsT => x.2.2.2.1) ek), cls_at (congrArg (fun x : ObsT => x.2.2.2.2.1) ek), c.c7, congrArg (fun x : ObsT => x.2.2.2.2.2.1) ek, congrArg (fun x : ObsT => x.2.2.2.2.2.2.1) ek, el2, congrArg (fun x : ObsT => x.2.2.2.2.2.2.2.2) ek, el3, c.c8, el4⟩⟩
    entC := mg_of KX g (congrArg (fun x : DefO => x.1) en)
    entF := def_at XB (congrArg (fun x : DefO => x.2.1) en) (congrArg (fun x : DefO => x.2.2) en) rfl rfl rfl rfl rfl rfl rfl
    chm := ?_
    cfn := ⟨mg_of KX g el1, fun s B => ?_⟩
    mkr := rfl
    mhd := fun x hx s B => codeHd_of_K (XB s B) (List.all_eq_true.mp c.c2 x hx)
    mbu := fun x hx s B => ?_
    bi := fun x v hx => ?_
    fn := fun i a dV kV hx => ?_
    dflt := fun T hT' s B => ?_
    kdflt := fun T hT' s B => ?_ }
  · obtain ⟨v, e, i⟩ := Option.bind_eq_some_iff.mp (beq_iff_eq.mp c.c1)
    obtain ⟨t, q⟩ := intV_eq i
    exact ⟨t, mg_of KX g (q ▸ Option.join_eq_some_iff.mp e)⟩
  · obtain ⟨o, ho, k⟩ := atK_eq c.c6
    obtain ⟨k1, k⟩ := Bool.and_eq_true_iff.mp k
    obtain ⟨k2, k⟩ := Bool.and_eq_true_iff.mp k
    obtain ⟨k3, k⟩ := Bool.and_eq_true_iff.mp k
    obtain ⟨es, k4, k5⟩ := Option.map_eq_some_iff.mp (beq_iff_eq.mp k)
    obtain ⟨n, hd⟩ := dictO_eq k4
    have hc := typeV_eq (beq_iff_eq.mp k1)
    have hn := Option.isNone_iff_eq_none.mp k2
    have hsl := Array.eq_empty_of_size_eq_zero (beq_iff_eq.mp k3)
    refine ⟨fun k => findBy (intKind pL w).is es k, ⟨_, es, n, XB s B _ _ ho, ⟨hc, hn, hsl⟩, hd, fun e he => same_keys _ _ k5 e (by simpa using he), fun _ => rfl⟩, fun i => ?_⟩
    have := same_get i _ _ k5
    simp only [Array.find?_toList] at this
    exact this
  · obtain ⟨bm, ob, h1, h2, h3, h4, h5, h6⟩ := bmain
    refine ⟨bm, ob, h1, h2, fun q => ?_, fun q => ?_, B.sub' bm ob h3 fun ⟨ps, e, _⟩ => by (rw [e] at h4; cases h4), h4, h5, h6⟩
    · obtain ⟨o, es, ep, ho, hd, _⟩ := g
      rw [q, ho] at h3
      cases h3
      rw [hd] at h6
      exact nomatch h6
    · have := hT x.2.1 (by
        unfold mkrList at hx
        simp only [List.mem_cons, List.not_mem_nil, or_false] at hx
        rcases hx with rfl | rfl | rfl | rfl <;> decide)
      rw [q, this] at h3
      cases h3
      exact nomatch h6
  · have k := List.all_eq_true.mp c.c3 (x, v) hx
    have ⟨b1, b2⟩ := bi_boot (x, v) hx
    refine ⟨?_, (hb x b1).trans b2⟩
    obtain ⟨u, e, q⟩ := Option.map_eq_some_iff.mp (beq_iff_eq.mp k)
    exact mg_none_of KX g (Option.isNone_iff_eq_none.mp q ▸ e)
  · have e := List.map_inj_left.mp ed (i, a, dV, kV) hx
    have ⟨s1, s2⟩ := def_side (i, a, dV, kV) hx
    obtain ⟨dc, pm, D⟩ := def_at XB (congrArg (fun x : DefO => x.2.1) e) (congrArg (fun x : DefO => x.2.2) e) rfl rfl rfl rfl rfl s1 s2
    exact ⟨mg_of KX g (congrArg (fun x : DefO => x.1) e), dc, pm, D⟩
  · obtain ⟨o, ho, k⟩ := atK_eq (List.all_eq_true.mp c.c4 T hT')
    unfold fdflt at k
    split at k
    · rename_i a b hl
      obtain ⟨vs, n, hd, hv⟩ := seqO_eq hl
      obtain ⟨k1, k2⟩ := Bool.and_eq_true_iff.mp k
      obtain ⟨t, e1⟩ := intV_eq (beq_iff_eq.mp k1)
      obtain ⟨u, e⟩ := Option.isSome_iff_exists.mp k2
      have e2 := noV_eq e
      refine ⟨o, n, t, XB s B _ _ ho, ?_⟩
      rw [hd]
      congr 1
      exact Array.toList_inj.mp (by rw [hv, e1, e2])
    · cases k
  · obtain ⟨o, ho, k⟩ := atK_eq (List.all_eq_true.mp c.c5 T hT')
    obtain ⟨es, e, k⟩ := Option.map_eq_some_iff.mp (beq_iff_eq.mp k)
    obtain ⟨n, hd⟩ := dictO_eq e
    obtain ⟨k1, k2⟩ := Bool.and_eq_true_iff.mp k
    refine ⟨nsFind es, ⟨o, es, n, XB s B _ _ ho, hd, fun e he => ?_, fun _ => rfl⟩, ?_⟩
    · obtain ⟨x, q⟩ := Option.isSome_iff_exists.mp (List.all_eq_true.mp k1 e (by simpa using he))
      obtain ⟨t, q⟩ := strV_eq q
      exact ⟨x, t, q⟩
    · obtain ⟨u, q⟩ := Option.isSome_iff_exists.mp k2
      obtain ⟨v, q1, q2⟩ := Option.bind_eq_some_iff.mp q
      exact noV_eq q2 ▸ q1
end
section -- L1
theorem cells_nat (script : List Int) : ∀ i, ∃ c : List Nat, cellsN own8 script i = castL c
  | 0 => ⟨[86, 36956, 3710, 50944, 494, 880, 46419, 45756], rfl⟩
  | i + 1 => by
    obtain ⟨c, hc⟩ := cells_nat script i
    unfold cellsN cellStep
    rw [hc]
    have hx : 0 ≤ (script.getD i 0).fmod 1000000 := by rw [Int.fmod_eq_emod_of_nonneg _ (by decide)]; exact Int.emod_nonneg _ (by decide)
    obtain ⟨y, hy⟩ : ∃ y : Nat, (script.getD i 0).fmod 1000000 = y := ⟨_, (Int.toNat_of_nonneg hx).symm⟩
    refine ⟨c.set (i % c.length) (c.getD (i % c.length) 0 + y), ?_⟩
    rw [hy]
    unfold castL
    rw [List.map_set, List.length_map]
    congr 1
    rw [Int.natCast_add, List.getD_eq_getElem?_getD, List.getD_eq_getElem?_getD, List.getElem?_map]
    cases c[i % c.length]? <;> rfl
theorem cells_eight (script : List Int) (i : Nat) : ∃ c0 c1 vs, cellsN own8 script i = castL (c0 :: c1 :: vs) ∧ vs.length = 6 := by
  obtain ⟨c, hc⟩ := cells_nat script i
  have hl : c.length = 8 := by
    have h1 := congrArg List.length hc
    rw [cellsN_len, List.length_map] at h1
    exact h1.symm
  match c, hl, hc with
  | c0 :: c1 :: vs, hl, hc => exact ⟨c0, c1, vs, hc, by simpa using hl⟩
noncomputable def hitsN (j i : Nat) : Nat := Nat.rec 0 (fun i h => if i % 8 = j then h + 1 else h) i
theorem hits_mono (j i m : Nat) : hitsN j i ≤ hitsN j (i + m) := by
  induction m with
  | zero => exact Nat.le_refl _
  | succ m ih =>
    refine Nat.le_trans ih ?_
    show _ ≤ if (i + m) % 8 = j then hitsN j (i + m) + 1 else hitsN j (i + m)
    split
    · exact Nat.le_succ _
    · exact Nat.le_refl _
theorem hits_sixty : ∀ j < 8, hitsN j 60 ≤ 8 := by decide +kernel
theorem own_low : ∀ k < 8, own8.getD k 0 ≤ 50944 := by decide +kernel
theorem cells_bound (script : List Int) (i : Nat) {j : Nat} (hj : j < 8) : (cellsN own8 script i).getD j 0 ≤ 50944 + 1000000 * (hitsN j i : Int) := by
  induction i with
  | zero => exact own_low j hj
  | succ i ih =>
    have hl8 : (cellsN own8 script i).length = 8 := cellsN_len own8 script i
    have hx : (script.getD i 0).fmod 1000000 ≤ 1000000 := by rw [Int.fmod_eq_emod_of_nonneg _ (by decide)]; exact Int.le_of_lt (Int.emod_lt_of_pos _ (by decide))
    unfold cellsN cellStep
    rw [hl8]
    rw [List.getD_eq_getElem?_getD] at ih ⊢
    show _ ≤ 50944 + 1000000 * (((if i % 8 = j then hitsN j i + 1 else hitsN j i : Nat)) : Int)
    by_cases hij : i % 8 = j
    · subst hij
      rw [List.getElem?_set_self (hl8.symm ▸ hj), List.getD_eq_getElem?_getD, if_pos rfl, Int.natCast_add, Int.mul_add, ← Int.add_assoc]
      exact Int.add_le_add ih hx
    · rw [List.getElem?_set_ne hij, if_neg hij]
      exact ih
theorem cells_top {script : List Int} {n : Nat} (hn : n ≤ 60) {j : Nat} (hj : j < 8) : (cellsN own8 script n).getD j 0 ≤ 8050944 := by
  have h : hitsN j n ≤ 8 := Nat.le_trans (Nat.add_sub_cancel' hn ▸ hits_mono j n (60 - n)) (hits_sixty j hj)
  exact Int.le_trans (cells_bound script n hj) (Int.add_le_add_left (Int.mul_le_mul_of_nonneg_left (Int.ofNat_le.mpr h) (by decide)) _)
end
section -- L2
theorem over_none (c0 : Nat) : tblF ((allOct [] ++ overN c0).length + 1) (allOct [] ++ overN c0) = [] := by
  unfold overN
  have h := Nat.mod_lt (c0 / 21) (show 6 > 0 by decide)
  generalize c0 / 21 % 6 = k at h
  match k, h with
  | 0, _ => rfl
  | 1, _ => rfl
  | 2, _ => rfl
  | 3, _ => rfl
  | 4, _ => rfl
  | 5, _ => rfl
theorem and63 (b : Nat) : b &&& 63 = b % 64 := Nat.and_two_pow_sub_one_eq_mod b 6
theorem t64 (i : Nat) : Nat.testBit 64 i = decide (6 = i) := by
  have := @Nat.testBit_two_pow 6 i
  rw [← this]
theorem and64 (b : Nat) : b &&& 64 = 0 ↔ b / 64 % 2 = 0 := by
  have e : b &&& 64 = if b.testBit 6 then 64 else 0 := by
    refine Nat.eq_of_testBit_eq fun i => ?_
    rw [Nat.testBit_and, t64]
    by_cases hi : 6 = i
    · subst hi
      cases hb : b.testBit 6
      · simp
      · simp [t64]
    · cases hb : b.testBit 6
      · simp [hi]
      · simp [hi, t64]
  rw [e, Nat.testBit_eq_decide_div_mod_eq]
  have := Nat.mod_two_eq_zero_or_one (b / 64)
  rcases this with h1 | h1 <;> simp [h1]
theorem shl_or {a d : Nat} (h : d < 64) : (a <<< 6) ||| d = a * 64 + d := by
  rw [Nat.shiftLeft_eq, Nat.mul_comm]
  exact (Nat.two_pow_add_eq_or_of_lt (i := 6) h a).symm ▸ by rw [Nat.mul_comm]
noncomputable def digs (x : Nat) : Nat → List Nat | 0 => [] | k + 1 => octK x k :: digs x k
theorem oct_all : ∀ b ∈ [0, 64], ∀ c ∈ [0, 128], ∀ r < 64, (b + r + c) % 64 = r ∧ ((b + r + c) / 64 % 2 = 0 ↔ b = 0) := by decide +kernel
noncomputable def hiN (k : Nat) : Nat := if 0 < k then 64 else 0
theorem hi_mem (k : Nat) : hiN k ∈ [0, 64] := by unfold hiN; split <;> decide
theorem hi_zero (k : Nat) : hiN k = 0 ↔ k = 0 := by
  cases k with
  | zero => decide
  | succ k => exact Iff.intro (fun h => absurd (show (64 : Nat) = 0 from h) (by decide)) (fun h => absurd h (Nat.succ_ne_zero k))
theorem oct_at (x k : Nat) {c : Nat} (hc : c ∈ [0, 128]) : (octK x k + c) % 64 = x / 64 ^ k % 64 ∧ ((octK x k + c) / 64 % 2 = 0 ↔ k = 0) := by
  have h := oct_all _ (hi_mem k) c hc (x / 64 ^ k % 64) (Nat.mod_lt _ (by decide))
  exact ⟨h.1, h.2.trans (hi_zero k)⟩
theorem vLoop_digs (x : Nat) (rest : List Nat) : ∀ (k b : Nat), (b / 64 % 2 = 0 ↔ k = 0) → vLoop (x / 64 ^ k) b (digs x k ++ rest) = some (x, rest)
  | 0, b, h => by
    have h0 := (and64 b).mpr (h.mpr rfl)
    cases rest with
    | nil => unfold digs vLoop; simp [h0]
    | cons r t => unfold digs; rw [List.nil_append]; unfold vLoop; simp [h0]
  | k + 1, b, h => by
    have h0 : ¬ (b &&& 64 = 0) := fun q => absurd (h.mp ((and64 b).mp q)) (Nat.succ_ne_zero k)
    unfold digs
    rw [List.cons_append]
    unfold vLoop
    rw [if_neg h0]
    have hd : octK x k &&& 63 = x / 64 ^ k % 64 := by
      rw [and63]; exact (oct_at x k (c := 0) (by decide)).1
    rw [hd, shl_or (Nat.mod_lt _ (by decide))]
    have e : x / 64 ^ (k + 1) * 64 + x / 64 ^ k % 64 = x / 64 ^ k := by
      rw [Nat.pow_succ, ← Nat.div_div_eq_div_mul, Nat.mul_comm]; exact Nat.div_add_mod _ 64
    rw [e]
    refine vLoop_digs x rest k _ ?_
    exact (oct_at x k (c := 0) (by decide)).2
theorem digs_range (x : Nat) : ∀ n, digs x n = (List.range n).map fun i => octK x (n - 1 - i)
  | 0 => rfl
  | n + 1 => by
    rw [List.range_succ_eq_map, List.map_cons, List.map_map]
    unfold digs
    rw [digs_range x n]
    congr 1
    exact List.map_congr_left fun i _ => by show octK x (n - 1 - i) = octK x (n + 1 - 1 - (i + 1)); congr 1; omega
theorem octN_digs (x : Nat) : octN x = octK x (moreOf x) :: digs x (moreOf x) := by
  have : octN x = digs x (moreOf x + 1) := by rw [digs_range]; rfl
  rw [this]; rfl
theorem more_lt {x : Nat} (h : x < 64 ^ 4) : x < 64 ^ (moreOf x + 1) := by
  unfold moreOf
  by_cases h1 : 64 ^ 1 ≤ x <;> by_cases h2 : 64 ^ 2 ≤ x <;> by_cases h3 : 64 ^ 3 ≤ x <;> simp [List.filter_cons, h1, h2, h3] <;> omega
theorem varint_oct {x : Nat} (h : x < 64 ^ 4) {c : Nat} (hc : c ∈ [0, 128]) (rest : List Nat) : varint ((octK x (moreOf x) + c) :: (digs x (moreOf x) ++ rest)) = some (x, rest) := by
  unfold varint
  have hl := more_lt h
  generalize moreOf x = m at hl ⊢
  have hd : x / 64 ^ m < 64 := by
    rw [Nat.div_lt_iff_lt_mul (Nat.pow_pos (by decide)), Nat.mul_comm]
    rw [Nat.pow_succ] at hl; omega
  have h63 : (octK x m + c) &&& 63 = x / 64 ^ m := by
    rw [and63, (oct_at x m hc).1, Nat.mod_eq_of_lt hd]
  dsimp only
  rw [h63]
  exact vLoop_digs x rest m _ (oct_at x m hc).2
noncomputable def liftE (e : List Nat) : List Nat := match e.flatMap octN with | [] => [] | h :: t => (h + 128) :: t
theorem enc_eq (os : List Nat) {e : List Nat} (he : e ≠ []) : encEntry os e = os ++ liftE e := by
  unfold encEntry liftE
  dsimp only
  cases hq : e.flatMap octN with
  | nil =>
    exfalso
    cases e with
    | nil => exact he rfl
    | cons x r => rw [List.flatMap_cons, octN_digs] at hq; simp at hq
  | cons h t =>
    rw [List.set_append_right _ _ (Nat.le_refl _), Nat.sub_self, List.set_cons_zero, List.getD_eq_getElem?_getD, List.getElem?_append_right (Nat.le_refl _), Nat.sub_self]
    rfl
theorem all_eq : ∀ (es : List (List Nat)) (os : List Nat), (∀ e ∈ es, e ≠ []) → es.foldl encEntry os = os ++ es.flatMap liftE
  | [], os, _ => by simp
  | e :: r, os, h => by
    rw [List.foldl_cons, enc_eq os (h e List.mem_cons_self), all_eq r _ fun x hx => h x (List.mem_cons_of_mem _ hx), List.flatMap_cons, List.append_assoc]
theorem varint_octN {x : Nat} (h : x < 64 ^ 4) (rest : List Nat) : varint (octN x ++ rest) = some (x, rest) := by
  rw [octN_digs, List.cons_append]
  exact varint_oct h (c := 0) (by decide) rest
theorem lift_four (a w g b : Nat) (rest : List Nat) : liftE [a, w, g, b] ++ rest = (octK a (moreOf a) + 128) :: (digs a (moreOf a) ++ (octN w ++ (octN g ++ (octN b ++ rest)))) := by
  unfold liftE
  have : [a, w, g, b].flatMap octN = octK a (moreOf a) :: (digs a (moreOf a) ++ (octN w ++ (octN g ++ octN b))) := by
    show octN a ++ (octN w ++ (octN g ++ (octN b ++ []))) = _
    rw [octN_digs a, List.append_nil, List.cons_append]
  rw [this]
  simp only [List.cons_append, List.append_assoc]
theorem tbl_rows {over : List Nat} (ho : tblF (over.length + 1) over = []) : ∀ (vs : List Nat) (f : Nat), (∀ v ∈ vs, v < 64 ^ 4) → ((vs.map rowN).flatMap liftE ++ over).length < f → tblF f ((vs.map rowN).flatMap liftE ++ over) = vs.map toldRow
  | [], f, _, hf => by
    have hf' : over.length < f := hf
    have := tblF_fuel (g := over.length + 1) hf' (Nat.lt_succ_self _)
    exact this.trans ho
  | _ :: _, 0, _, hf => absurd hf (Nat.not_lt_zero _)
  | v :: vs, f + 1, hb, hf => by
    have hv := hb v List.mem_cons_self
    have e : ((v :: vs).map rowN).flatMap liftE ++ over = (octK (v % 12) (moreOf (v % 12)) + 128) :: (digs (v % 12) (moreOf (v % 12)) ++ (octN (v / 12 % 6) ++ (octN (v / 720) ++ (octN (bothN v) ++ ((vs.map rowN).flatMap liftE ++ over))))) := by
      rw [List.map_cons, List.flatMap_cons, List.append_assoc]
      exact lift_four _ _ _ _ _
    rw [e] at hf ⊢
    have h1 : v % 12 < 64 ^ 4 := Nat.lt_of_lt_of_le (Nat.mod_lt _ (by decide)) (by decide)
    have h2 : v / 12 % 6 < 64 ^ 4 := Nat.lt_of_lt_of_le (Nat.mod_lt _ (by decide)) (by decide)
    have h3 : v / 720 < 64 ^ 4 := Nat.lt_of_le_of_lt (Nat.div_le_self _ _) hv
    have h4 : bothN v < 64 ^ 4 := by
      unfold bothN
      exact Nat.lt_of_le_of_lt (Nat.add_le_add (Nat.mul_le_mul_left 16 (Nat.le_of_lt (Nat.mod_lt (v / 72) (show 5 > 0 by decide)))) (Nat.le_of_lt (Nat.mod_lt (v / 360) (show 2 > 0 by decide)))) (by decide)
    rw [tblF_some (varint_oct h1 (c := 128) (by decide) _) (varint_octN h2 _) (varint_octN h3 _) (varint_octN h4 _), List.map_cons]
    rw [tbl_rows ho vs f (fun x hx => hb x (List.mem_cons_of_mem _ hx)) (by
      simp only [List.length_cons, List.length_append] at hf ⊢
      omega)]
    rfl
theorem law_table (c0 : Nat) {vs : List Nat} (hb : ∀ v ∈ vs, v < 64 ^ 4) : tblF ((allOct (vs.map rowN) ++ overN c0).length + 1) (allOct (vs.map rowN) ++ overN c0) = vs.map toldRow := by
  have e : allOct (vs.map rowN) = (vs.map rowN).flatMap liftE := by
    unfold allOct
    rw [all_eq _ _ fun e he => by obtain ⟨v, _, rfl⟩ := List.mem_map.mp he; unfold rowN; simp]
    rfl
  rw [e]
  exact tbl_rows (over_none c0) vs _ hb (Nat.lt_succ_self _)
end
section -- L3
theorem bitsLt_low {x n : Nat} : ∀ {i}, i ≤ n → bitsLt (2 ^ n + x) i = bitsLt x i := fun {i} hi => by
  unfold bitsLt
  refine List.filter_congr fun j hj => ?_
  have := List.mem_range.mp hj
  exact Nat.testBit_two_pow_add_gt (by omega) x
theorem sumPow_bits : ∀ (n : Nat) (l : List Nat), l.Pairwise (· < ·) → (∀ k ∈ l, k < n) → sumPow l < 2 ^ n ∧ bitsLt (sumPow l) n = l
  | 0, l, _, h => by
    cases l with
    | nil => exact ⟨by decide, rfl⟩
    | cons a r => exact absurd (h a List.mem_cons_self) (Nat.not_lt_zero _)
  | n + 1, l, hp, h => by
    by_cases hn : n ∈ l
    · obtain ⟨a, b, e⟩ := List.append_of_mem hn
      have hb : b = [] := by
        cases b with
        | nil => rfl
        | cons y r =>
          rw [e] at hp h
          have h1 := (List.pairwise_append.mp hp).2.1
          have h2 := (List.pairwise_cons.mp h1).1 y List.mem_cons_self
          have h3 := h y (List.mem_append_right _ (List.mem_cons_of_mem _ List.mem_cons_self))
          omega
      subst hb
      subst e
      have hp' := List.pairwise_append.mp hp
      obtain ⟨i1, i2⟩ := sumPow_bits n a hp'.1 fun k hk => hp'.2.2 k hk n List.mem_cons_self
      have es : sumPow (a ++ [n]) = 2 ^ n + sumPow a := by rw [sumPow_app]; simp [sumPow]; omega
      rw [es]
      refine ⟨by rw [Nat.pow_succ]; omega, ?_⟩
      rw [bitsLt_succ, bitsLt_low (Nat.le_refl _), i2, Nat.testBit_two_pow_add_eq, Nat.testBit_lt_two_pow i1]
      rfl
    · obtain ⟨i1, i2⟩ := sumPow_bits n l hp fun k hk => by
        have := h k hk
        have : k ≠ n := fun q => hn (q ▸ hk)
        omega
      refine ⟨by rw [Nat.pow_succ]; omega, ?_⟩
      rw [bitsLt_succ, i2, Nat.testBit_lt_two_pow i1]
      simp
theorem flags_words {l : List Nat} (hp : l.Pairwise (· < ·)) (h : ∀ k ∈ l, k < 32) : flagWords (sumPow l) = wordsOr l := by
  obtain ⟨h1, h2⟩ := sumPow_bits 32 l hp h
  unfold flagWords wordsOr
  by_cases hl : l = []
  · subst hl
    rw [if_pos rfl, if_pos (by rfl)]
    decide +kernel
  · rw [if_neg hl, if_neg, h2]
    cases l with
    | nil => exact absurd rfl hl
    | cons a r =>
      have : 2 ^ a > 0 := Nat.pow_pos (by decide)
      simp [sumPow]
end
section -- L4
theorem castL_get (l : List Nat) (k : Nat) : (castL l)[k]? = l[k]?.map fun (n : Nat) => (n : Int) := List.getElem?_map
theorem gOne_val {i : Nat} {last : Option Int} {x : Nat} (h0 : 1 ≤ x) (h1 : x ≤ 5) : gOne i last (x : Int) = .val x (.at (i + 1) x) := by
  unfold gOne
  rw [if_neg (by omega), if_neg (by omega)]
theorem gSeq_sizes {sizes tail : List Nat} (hs : ∀ x ∈ sizes, 1 ≤ x ∧ x ≤ 5) : ∀ (k : Nat) x, sizes[k]? = some x → gSeq (castL (sizes ++ tail)) k = .val x (.at (k + 1) x)
  | 0, x, hx => by
    have hm := hs x (List.mem_of_getElem? hx)
    unfold gSeq gFrom
    rw [castL_get, List.getElem?_append_left (List.getElem?_eq_some_iff.mp hx).1, hx]
    exact gOne_val hm.1 hm.2
  | k + 1, x, hx => by
    have hm := hs x (List.mem_of_getElem? hx)
    have hl := (List.getElem?_eq_some_iff.mp hx).1
    have hk : sizes[k]? = some sizes[k] := List.getElem?_eq_getElem (by omega)
    unfold gSeq
    rw [gSeq_sizes hs k _ hk]
    show gFrom _ (k + 1) _ = _
    unfold gFrom
    rw [castL_get, List.getElem?_append_left hl, hx]
    exact gOne_val hm.1 hm.2
theorem gSeq_succ (rl : List Int) (k : Nat) : gSeq rl (k + 1) = match gSeq rl k with | .val _ g => gNext rl g | o => o := rfl
noncomputable def tailGo (tail : List Nat) (last : Nat) : GO := if tail.take 1 = [0] then .val last (.rep last) else .fin
theorem gSeq_end {sizes tail : List Nat} {last : Nat} (hs : ∀ x ∈ sizes, 1 ≤ x ∧ x ≤ 5) (ht : tail = [0, 9] ∨ tail = [127, 3] ∨ tail = []) (hl : sizes[sizes.length - 1]? = some last) : ∀ k, gSeq (castL (sizes ++ tail)) (sizes.length + k) = tailGo tail last
  | 0 => by
    have hlen := (List.getElem?_eq_some_iff.mp hl).1
    have e : sizes.length + 0 = (sizes.length - 1) + 1 := sub_one (Nat.lt_of_le_of_lt (Nat.zero_le _) hlen)
    rw [e, gSeq_succ, gSeq_sizes hs _ _ hl]
    show gFrom _ (sizes.length - 1 + 1) _ = _
    rw [← e, Nat.add_zero]
    unfold gFrom
    rw [castL_get, List.getElem?_append_right (Nat.le_refl _), Nat.sub_self]
    rcases ht with rfl | rfl | rfl <;> rfl
  | k + 1 => by
    rw [← Nat.add_assoc, gSeq_succ, gSeq_end hs ht hl k]
    rcases ht with rfl | rfl | rfl <;> rfl
end
section -- Q1
theorem bisGo_eq (less : Nat → Bool) {p : Nat} (k : Nat) : ∀ lo hi : Nat, hi - lo ≤ k → lo ≤ p → p ≤ hi → (∀ i, lo ≤ i → i < p → less i = true) → (∀ i, p ≤ i → i < hi → less i = false) → bisGo less k lo hi = p := by
  induction k with
  | zero => intro lo hi _ a b _ _; show lo = p; omega
  | succ k ih =>
    intro lo hi h a b c d
    rw [bisGo_succ]
    split
    · by_cases q : (lo + hi) / 2 < p
      · rw [if_pos (c _ (by omega) q)]
        exact ih _ _ (by omega) (by omega) b (fun i x y => c i (by omega) y) d
      · rw [if_neg (by rw [d _ (by omega) (by omega)]; exact nofun)]
        exact ih _ _ (by omega) a (by omega) c (fun i x y => d i x (by omega))
    · omega
theorem bisLoop_eq (less : Nat → Bool) {p : Nat} (lo hi : Nat) (a : lo ≤ p) (b : p ≤ hi) (c : ∀ i, lo ≤ i → i < p → less i = true) (d : ∀ i, p ≤ i → i < hi → less i = false) : bisLoop less lo hi = p := bisGo_eq _ _ _ _ (Nat.le_refl _) a b c d
theorem bisI_split {A P S B : List Int} {x : Int} (hP : ∀ p ∈ P, p < x) (hS : ∀ s ∈ S, x ≤ s) :
    bisI (A ++ (P ++ S) ++ B) x A.length (A.length + (P ++ S).length) = A.length + P.length := by
  unfold bisI
  refine bisLoop_eq _ _ _ (by omega) (by simp) (fun i h1 h2 => ?_) (fun i h1 h2 => ?_)
  · obtain ⟨j, rfl⟩ : ∃ j, i = A.length + j := ⟨i - A.length, by omega⟩
    have hj : j < P.length := Nat.lt_of_add_lt_add_left h2
    rw [List.getD_eq_getElem?_getD, List.append_assoc, List.getElem?_append_right (by omega), show A.length + j - A.length = j by omega, List.append_assoc, List.getElem?_append_left hj, List.getElem?_eq_getElem hj]
    exact decide_eq_true (hP _ (List.getElem_mem hj))
  · obtain ⟨j, rfl⟩ : ∃ j, i = A.length + (P.length + j) := ⟨i - A.length - P.length, by rw [Nat.sub_sub, ← Nat.add_assoc]; exact sub_back h1⟩
    have hj : j < S.length := by rw [List.length_append] at h2; exact Nat.lt_of_add_lt_add_left (Nat.lt_of_add_lt_add_left h2)
    rw [List.getD_eq_getElem?_getD, List.append_assoc, List.getElem?_append_right (by omega), show A.length + (P.length + j) - A.length = P.length + j by omega, List.append_assoc, List.getElem?_append_right (by omega), show P.length + j - P.length = j by omega, List.getElem?_append_left hj, List.getElem?_eq_getElem hj]
    have := hS _ (List.getElem_mem hj)
    simp only [Option.getD_some]
    exact decide_eq_false (Int.not_lt.mpr this)
theorem cut_at {F : List Int} (hF : F.Pairwise (· < ·)) (x : Int) : ∃ P S, F = P ++ S ∧ (∀ p ∈ P, p < x) ∧ ∀ s ∈ S, x ≤ s := by
  induction F with
  | nil => exact ⟨[], [], rfl, by simp, by simp⟩
  | cons a r ih =>
    have hp := List.pairwise_cons.mp hF
    by_cases ha : a < x
    · obtain ⟨P, S, e, h1, h2⟩ := ih hp.2
      exact ⟨a :: P, S, by rw [e]; rfl, List.forall_mem_cons.mpr ⟨ha, h1⟩, h2⟩
    · exact ⟨[], a :: r, rfl, by simp, List.forall_mem_cons.mpr ⟨by omega, fun s hs => by have := hp.1 s hs; omega⟩⟩
inductive Gr : List Wish → List Int → List Int → Prop
  | nil {F} : Gr [] F F
  | cons {w r P m S L} : (∀ p ∈ P, p < w.b) → w.b ≤ m → m < w.e → Gr r (P ++ S) L → Gr (w :: r) (P ++ m :: S) L
noncomputable def Row (A F B : List Int) (st : List Int × Nat × Nat) : Prop := st = (A ++ F ++ B, A.length, A.length + F.length)
theorem seat_split {A F B : List Int} {w : Wish} (hF : F.Pairwise (· < ·)) (hw : w.b ≤ w.e) :
    (∃ P m S A' B', F = P ++ m :: S ∧ (∀ p ∈ P, p < w.b) ∧ w.b ≤ m ∧ m < w.e ∧ Row A' (P ++ S) B' (seatStep (A ++ F ++ B, A.length, A.length + F.length) w)) ∨
    ((∀ m ∈ F, ¬ (w.b ≤ m ∧ m < w.e)) ∧ seatStep (A ++ F ++ B, A.length, A.length + F.length) w = (A ++ F ++ B, A.length, A.length + F.length)) := by
  obtain ⟨P, S, rfl, hP, hS⟩ := cut_at hF w.b
  have b1 := bisI_split (A := A) (B := B) hP hS
  have hpw := List.pairwise_append.mp hF
  cases S with
  | nil =>
    refine .inr ⟨fun m hm => by have := hP m (by simpa using hm); omega, ?_⟩
    have b2 := bisI_split (A := A) (P := P) (S := []) (B := B) (x := w.e) (fun p hp => by have := hP p hp; omega) (by simp)
    unfold seatStep
    rw [if_neg]
    dsimp only
    rw [b1, b2]; omega
  | cons m S =>
    have hm := hS m List.mem_cons_self
    by_cases he : m < w.e
    · obtain ⟨P3, S3, rfl, h1, h2⟩ := cut_at (List.pairwise_cons.mp hpw.2.1).2 w.e
      have b2 := bisI_split (A := A) (P := P ++ m :: P3) (S := S3) (B := B) (x := w.e) (fun p hp => by
        rcases List.mem_append.mp hp with hp | hp
        · have := hP p hp; omega
        · rcases List.mem_cons.mp hp with rfl | hp
          · exact he
          · exact h1 p hp) h2
      rw [show P ++ m :: P3 ++ S3 = P ++ m :: (P3 ++ S3) by simp] at b2
      refine .inl ⟨P, m, P3 ++ S3, if w.l then A ++ [m] else A, if w.l then B else B ++ [m], rfl, hP, hm, he, ?_⟩
      have eE : (A ++ (P ++ m :: (P3 ++ S3)) ++ B).eraseIdx (A.length + P.length) = A ++ (P ++ (P3 ++ S3)) ++ B := by
        rw [List.append_assoc, List.eraseIdx_append_of_length_le (by omega), show A.length + P.length - A.length = P.length by omega, List.append_assoc, List.eraseIdx_append_of_length_le (by omega), Nat.sub_self, List.cons_append, List.eraseIdx_cons_zero]
        simp
      have eG : (A ++ (P ++ m :: (P3 ++ S3)) ++ B).getD (A.length + P.length) 0 = m := by
        rw [List.getD_eq_getElem?_getD, List.append_assoc, List.getElem?_append_right (by omega), show A.length + P.length - A.length = P.length by omega, List.append_assoc, List.getElem?_append_right (by omega), Nat.sub_self]
        rfl
      have hs : seatStep (A ++ (P ++ m :: (P3 ++ S3)) ++ B, A.length, A.length + (P ++ m :: (P3 ++ S3)).length) w =
          (insD (A ++ (P ++ (P3 ++ S3)) ++ B) (if w.l then A.length else (A ++ (P ++ (P3 ++ S3)) ++ B).length) m, if w.l then (A.length + 1, A.length + (P ++ m :: (P3 ++ S3)).length) else (A.length, A.length + (P ++ m :: (P3 ++ S3)).length - 1)) := by
        unfold seatStep
        rw [if_pos (by
          dsimp only
          rw [b1, b2]
          simp only [List.length_append, List.length_cons]
          omega)]
        rw [b1, eE, eG]
      rw [hs]
      unfold Row insD
      cases w.l
      · simp only [Bool.false_eq_true, if_false, List.take_length, List.drop_length]
        simp
        omega
      · simp
        omega
    · refine .inr ⟨fun x hx => ?_, ?_⟩
      · rcases List.mem_append.mp hx with hx | hx
        · have := hP x hx; omega
        · rcases List.mem_cons.mp hx with rfl | hx
          · omega
          · have := (List.pairwise_cons.mp hpw.2.1).1 x hx
            omega
      · have b2 := bisI_split (A := A) (P := P) (S := m :: S) (B := B) (x := w.e) (fun p hp => by have := hP p hp; omega) (List.forall_mem_cons.mpr ⟨by omega, fun x hx => by have := (List.pairwise_cons.mp hpw.2.1).1 x hx; omega⟩)
        unfold seatStep
        rw [if_neg]
        dsimp only
        rw [b1, b2]; omega
theorem pair_del {P S : List Int} {m : Int} (h : (P ++ m :: S).Pairwise (· < ·)) : (P ++ S).Pairwise (· < ·) :=
  h.sublist (List.Sublist.append_left (List.sublist_cons_self _ _) _)
theorem seats_gr : ∀ (ws : List Wish) (A F B : List Int), F.Pairwise (· < ·) → (∀ w ∈ ws, w.b ≤ w.e) →
    ∃ A' L B', Row A' L B' (ws.foldl seatStep (A ++ F ++ B, A.length, A.length + F.length)) ∧ F.length ≤ L.length + ws.length ∧
      (L.length + ws.length = F.length → Gr ws F L) ∧ ∀ L', Gr ws F L' → L.length + ws.length = F.length
  | [], A, F, B, hF, hw => ⟨A, F, B, rfl, by simp, fun _ => .nil, fun _ _ => by simp⟩
  | w :: r, A, F, B, hF, hw => by
    have hw' := List.forall_mem_cons.mp hw
    rcases seat_split (A := A) (B := B) hF hw'.1 with ⟨P, m, S, A', B', rfl, h1, h2, h3, h4⟩ | ⟨h1, h2⟩
    · obtain ⟨A2, L, B2, g1, g2, g3, g4⟩ := seats_gr r A' (P ++ S) B' (pair_del hF) hw'.2
      refine ⟨A2, L, B2, ?_, ?_, fun q => .cons h1 h2 h3 (g3 ?_), fun L' hL => ?_⟩
      · rw [List.foldl_cons, h4]; exact g1
      · simp at g2 ⊢; omega
      · simp at q ⊢; omega
      · have : ∃ L2, Gr r (P ++ S) L2 := by
          generalize hF2 : P ++ m :: S = F2 at hL hF
          cases hL with
          | @cons _ _ P' m' S' _ k1 k2 k3 k4 =>
            have hp := List.pairwise_append.mp hF
            have hq : (P ++ m :: S).Pairwise (· < ·) := hF2 ▸ hF
            have hq := List.pairwise_append.mp hq
            have e : P = P' ∧ m = m' ∧ S = S' := by
              rcases List.append_eq_append_iff.mp hF2 with ⟨as, e1, e2⟩ | ⟨as, e1, e2⟩
              · cases as with
                | nil => simp at e1 e2; exact ⟨e1.symm, e2.1, e2.2⟩
                | cons a as =>
                  simp at e2
                  have := k1 a (by rw [e1]; simp)
                  rw [← e2.1] at this; omega
              · cases as with
                | nil => simp at e1 e2; exact ⟨e1, e2.1.symm, e2.2.symm⟩
                | cons a as =>
                  simp at e2
                  have := h1 a (by rw [e1]; simp)
                  rw [← e2.1] at this; omega
            obtain ⟨rfl, rfl, rfl⟩ := e
            exact ⟨_, k4⟩
        obtain ⟨L2, hL2⟩ := this
        have := g4 L2 hL2
        simp at this ⊢; omega
    · obtain ⟨A2, L, B2, g1, g2, g3, g4⟩ := seats_gr r A F B hF hw'.2
      refine ⟨A2, L, B2, by rw [List.foldl_cons, h2]; exact g1, by simp; omega, fun q => by simp at q; omega, fun L' hL => ?_⟩
      cases hL with
      | cons k1 k2 k3 k4 => exact absurd ⟨k2, k3⟩ (h1 _ (by simp))
end
section -- Q2
noncomputable def mIn (F : List Int) (l h : Int) : Nat := (F.filter fun m => decide (l ≤ m) && decide (m < h)).length
noncomputable def Hall (ws : List Wish) (F : List Int) : Prop := ∀ l h, cntIn ws l h ≤ mIn F l h
theorem cntIn_cons (w : Wish) (r : List Wish) (l h : Int) : cntIn (w :: r) l h = (if l ≤ w.b ∧ w.e ≤ h then 1 else 0) + cntIn r l h := by
  unfold cntIn
  rw [List.filter_cons]
  by_cases q : l ≤ w.b ∧ w.e ≤ h
  · rw [if_pos q, if_pos (by simp [q.1, q.2]), List.length_cons]; omega
  · rw [if_neg q, if_neg (by simpa using q)]; omega
theorem cntIn_app (a b : List Wish) (l h : Int) : cntIn (a ++ b) l h = cntIn a l h + cntIn b l h := by
  unfold cntIn; rw [List.filter_append, List.length_append]
theorem cntIn_perm {a b : List Wish} (p : a.Perm b) (l h : Int) : cntIn a l h = cntIn b l h := (p.filter _).length_eq
theorem mIn_app (a b : List Int) (l h : Int) : mIn (a ++ b) l h = mIn a l h + mIn b l h := by
  unfold mIn; rw [List.filter_append, List.length_append]
theorem mIn_cons (m : Int) (r : List Int) (l h : Int) : mIn (m :: r) l h = (if l ≤ m ∧ m < h then 1 else 0) + mIn r l h := by
  unfold mIn
  rw [List.filter_cons]
  by_cases q : l ≤ m ∧ m < h
  · rw [if_pos q, if_pos (by simp [q.1, q.2]), List.length_cons]; omega
  · rw [if_neg q, if_neg (by simpa using q)]; omega
theorem cntIn_zero {a : List Wish} {l h : Int} (H : ∀ w ∈ a, ¬ (l ≤ w.b ∧ w.e ≤ h)) : cntIn a l h = 0 := by
  unfold cntIn
  rw [List.length_eq_zero_iff, List.filter_eq_nil_iff]
  intro w hw
  simpa using H w hw
theorem mIn_zero {a : List Int} {l h : Int} (H : ∀ m ∈ a, ¬ (l ≤ m ∧ m < h)) : mIn a l h = 0 := by
  unfold mIn
  rw [List.length_eq_zero_iff, List.filter_eq_nil_iff]
  intro w hw
  simpa using H w hw
theorem mIn_mono {a : List Int} {l h l' h' : Int} (h1 : l' ≤ l) (h2 : h ≤ h') : mIn a l h ≤ mIn a l' h' := by
  induction a with
  | nil => simp [mIn]
  | cons m r ih =>
    rw [mIn_cons, mIn_cons]
    by_cases q : l ≤ m ∧ m < h
    · rw [if_pos q, if_pos ⟨by omega, by omega⟩]; omega
    · rw [if_neg q]; omega
theorem cntIn_mono {a : List Wish} {l h l' h' : Int} (h1 : l' ≤ l) (h2 : h ≤ h') : cntIn a l h ≤ cntIn a l' h' := by
  induction a with
  | nil => simp [cntIn]
  | cons m r ih =>
    rw [cntIn_cons, cntIn_cons]
    by_cases q : l ≤ m.b ∧ m.e ≤ h
    · rw [if_pos q, if_pos ⟨by omega, by omega⟩]; omega
    · rw [if_neg q]; omega
theorem gr_hall {ws F L} (h : Gr ws F L) : Hall ws F := by
  induction h with
  | nil => intro l h; simp [cntIn]
  | @cons w r P m S L h1 h2 h3 h4 ih =>
    intro l h
    have := ih l h
    rw [mIn_app] at this ⊢
    rw [cntIn_cons, mIn_cons]
    by_cases q : l ≤ w.b ∧ w.e ≤ h
    · rw [if_pos q, if_pos ⟨by omega, by omega⟩]; omega
    · rw [if_neg q]; omega
theorem hall_gr : ∀ (ws : List Wish) (F : List Int), F.Pairwise (· < ·) → ws.Pairwise (fun u v => u.e ≤ v.e) → (∀ w ∈ ws, w.b ≤ w.e) → Hall ws F → ∃ L, Gr ws F L
  | [], F, _, _, _, _ => ⟨F, .nil⟩
  | w :: r, F, hF, hw, hb, H => by
    obtain ⟨P, S, rfl, hP, hS⟩ := cut_at hF w.b
    have hw' := List.pairwise_cons.mp hw
    have hb' := List.forall_mem_cons.mp hb
    have hp := List.pairwise_append.mp hF
    have H0 := H w.b w.e
    rw [cntIn_cons, if_pos ⟨by omega, by omega⟩, mIn_app, mIn_zero (a := P) (fun p hp => by have := hP p hp; omega)] at H0
    cases S with
    | nil => simp [mIn] at H0
    | cons m S =>
      have hm := hS m List.mem_cons_self
      have hmS := List.pairwise_cons.mp hp.2.1
      have he : m < w.e := by
        by_cases q : m < w.e
        · exact q
        · rw [mIn_zero (a := m :: S) (List.forall_mem_cons.mpr ⟨by omega, fun x hx => by have := hmS.1 x hx; omega⟩)] at H0
          omega
      obtain ⟨L, hL⟩ := hall_gr r (P ++ S) (pair_del hF) hw'.2 hb'.2 fun l h => by
        have H1 := H l h
        rw [mIn_app] at H1 ⊢
        rw [cntIn_cons, mIn_cons] at H1
        by_cases q : l ≤ w.b ∧ w.e ≤ h
        · rw [if_pos q, if_pos ⟨by omega, by omega⟩] at H1; omega
        · by_cases qm : l ≤ m ∧ m < h
          · rw [if_neg q, if_pos qm] at H1
            by_cases qe : w.e ≤ h
            · have H2 := H w.b h
              rw [mIn_app, cntIn_cons, if_pos ⟨by omega, qe⟩, mIn_cons, if_pos ⟨hm, qm.2⟩, mIn_zero (a := P) (fun p hp => by have := hP p hp; omega)] at H2
              have H3 : mIn S w.b h ≤ mIn S l h := by
                unfold mIn
                refine Nat.le_of_eq (congrArg List.length (List.filter_congr fun x hx => ?_))
                have := hmS.1 x hx
                congr 1
                rw [decide_eq_true (by omega : w.b ≤ x), decide_eq_true (by omega : l ≤ x)]
              have H4 : cntIn r l h ≤ cntIn r w.b h := cntIn_mono (by omega) (by omega)
              omega
            · rw [cntIn_zero (fun u hu => by have := hw'.1 u hu; omega)]; omega
          · rw [if_neg q, if_neg qm] at H1; omega
      exact ⟨L, .cons hP hm he hL⟩
noncomputable def mLt (F : List Int) (x : Int) : Nat := (F.filter fun m => decide (m < x)).length
noncomputable def cLe (ws : List Wish) (x : Int) : Nat := (ws.filter fun w => decide (w.b ≤ x)).length
theorem mLt_app (a b : List Int) (x) : mLt (a ++ b) x = mLt a x + mLt b x := by unfold mLt; rw [List.filter_append, List.length_append]
theorem mLt_cons (m : Int) (b : List Int) (x) : mLt (m :: b) x = (if m < x then 1 else 0) + mLt b x := by
  unfold mLt
  rw [List.filter_cons]
  by_cases q : m < x
  · rw [if_pos q, if_pos (by simp [q]), List.length_cons]; omega
  · rw [if_neg q, if_neg (by simpa using q)]; omega
theorem cLe_cons (w : Wish) (b : List Wish) (x) : cLe (w :: b) x = (if w.b ≤ x then 1 else 0) + cLe b x := by
  unfold cLe
  rw [List.filter_cons]
  by_cases q : w.b ≤ x
  · rw [if_pos q, if_pos (by simp [q]), List.length_cons]; omega
  · rw [if_neg q, if_neg (by simpa using q)]; omega
theorem gr_sub {ws F L} (h : Gr ws F L) : L.Sublist F := by
  induction h with
  | nil => exact List.Sublist.refl _
  | cons h1 h2 h3 h4 ih => exact ih.trans (List.Sublist.append_left (List.sublist_cons_self _ _) _)
theorem gr_low {ws F L} (h : Gr ws F L) (x : Int) : mLt F x ≤ mLt L x + cLe ws x := by
  induction h with
  | nil => omega
  | @cons w r P m S L h1 h2 h3 h4 ih =>
    rw [mLt_app] at ih ⊢
    rw [mLt_cons, cLe_cons]
    by_cases q : m < x
    · rw [if_pos q, if_pos (by omega)]; omega
    · rw [if_neg q]; omega
theorem gr_mono {ws F L} (h : Gr ws F L) (x : Int) : mLt L x ≤ mLt F x := (List.Sublist.filter _ (gr_sub h)).length_le
theorem gr_free {ws F L} (h : Gr ws F L) : F.Pairwise (· < ·) → ∀ m ∈ F, (m ∈ L → mLt F m = mLt L m + cLe ws m) ∧ (m ∉ L → mLt F m < mLt L m + cLe ws m) := by
  induction h with
  | nil => intro hF m hm; exact ⟨fun _ => by simp [cLe], fun q => absurd hm q⟩
  | @cons w r P m0 S L h1 h2 h3 h4 ih =>
    intro hF m hm
    have ih := ih (pair_del hF)
    have hp := List.pairwise_append.mp hF
    have hS := List.pairwise_cons.mp hp.2.1
    have hL := gr_sub h4
    rw [mLt_app, mLt_cons, cLe_cons]
    have hm : m = m0 ∨ m ∈ P ++ S := by
      rcases List.mem_append.mp hm with h | h
      · exact .inr (List.mem_append_left _ h)
      · rcases List.mem_cons.mp h with h | h
        · exact .inl h
        · exact .inr (List.mem_append_right _ h)
    rcases hm with rfl | hm
    · have hn : m ∉ P ++ S := fun q => by
        rcases List.mem_append.mp q with q | q
        · exact absurd (hp.2.2 m q m List.mem_cons_self) (Int.lt_irrefl _)
        · exact absurd (hS.1 m q) (Int.lt_irrefl _)
      have hn' : m ∉ L := fun q => hn (hL.subset q)
      refine ⟨fun q => absurd q hn', fun _ => ?_⟩
      have := gr_low h4 m
      rw [mLt_app] at this
      rw [if_neg (Int.lt_irrefl _), if_pos h2]; omega
    · have ihm := ih m hm
      rw [mLt_app] at ihm
      have e : (if m0 < m then 1 else 0) = (if w.b ≤ m then 1 else 0) := by
        rcases List.mem_append.mp hm with h | h
        · have := h1 m h
          have := hp.2.2 m h m0 List.mem_cons_self
          rw [if_neg (by omega), if_neg (by omega)]
        · have := hS.1 m h
          rw [if_pos (by omega), if_pos (by omega)]
      rw [e]
      exact ⟨fun q => by have := ihm.1 q; omega, fun q => by have := ihm.2 q; omega⟩
theorem cLe_perm {a b : List Wish} (p : a.Perm b) (x : Int) : cLe a x = cLe b x := (p.filter _).length_eq
theorem filt_le {a : List Int} {m : Int} : ∀ {L : List Int}, L.Pairwise (· < ·) → (∀ x ∈ L, (x ∈ a ↔ x < m)) → L.filter (fun x => decide (x ∈ a ++ [m])) = L.filter (fun x => decide (x ∈ a)) ++ if m ∈ L then [m] else []
  | [], _, _ => rfl
  | y :: r, hp, hx => by
    have hp' := List.pairwise_cons.mp hp
    have hx' := List.forall_mem_cons.mp hx
    have ih := filt_le hp'.2 hx'.2
    by_cases q : y ∈ a
    · have hy := hx'.1.mp q
      have c1 : decide (y ∈ a ++ [m]) = true := by simp [q]
      have c2 : decide (y ∈ a) = true := by simp [q]
      have c3 : (m ∈ y :: r) ↔ (m ∈ r) := ⟨fun h => (List.mem_cons.mp h).elim (fun k => by omega) id, List.mem_cons_of_mem _⟩
      simp only [List.filter_cons, c1, c2, ih, c3, if_true, List.cons_append]
    · have hy : ¬ y < m := fun h => q (hx'.1.mpr h)
      have hr : m ∉ r := fun h => by have := hp'.1 m h; omega
      have hz : r.filter (fun x => decide (x ∈ a)) = [] := by
        rw [List.filter_eq_nil_iff]
        intro x h
        have h1 := hp'.1 x h
        have h2 := hx'.2 x h
        have : x ∉ a := fun k => by have := h2.mp k; omega
        simpa using this
      have c2 : decide (y ∈ a) = false := by simp [q]
      rw [if_neg hr, hz] at ih
      by_cases e : y = m
      · have c1 : decide (y ∈ a ++ [m]) = true := by simp [e]
        have c3 : m ∈ y :: r := by simp [e]
        simp only [List.filter_cons, c1, c2, ih, hz, if_pos c3]; rw [e]; rfl
      · have c1 : decide (y ∈ a ++ [m]) = false := by simp [q, e]
        have c3 : m ∉ y :: r := fun h => (List.mem_cons.mp h).elim (fun k => e k.symm) hr
        simp only [List.filter_cons, c1, c2, ih, hz, if_neg c3]; rfl
theorem nob_go {ks : List Wish} {F L : List Int} (hF : F.Pairwise (· < ·)) (hs : L.Sublist F) (H : ∀ m ∈ F, (m ∈ L → mLt F m = mLt L m + cLe ks m) ∧ (m ∉ L → mLt F m < mLt L m + cLe ks m)) (hmono : ∀ x, mLt L x ≤ mLt F x) :
    ∀ (b a : List Int), F = a ++ b → ∀ st : Int × List Int, st.1 = (a.length : Int) - ((L.filter fun m => decide (m ∈ a)).length : Nat) → st.2 = L.filter (fun m => decide (m ∈ a)) →
      (b.foldl (nobStep ks) st).2 = L
  | [], a, e, st, h1, h2 => by
    rw [List.foldl_nil, h2]
    refine List.filter_eq_self.mpr fun x hx => ?_
    have := hs.subset hx
    rw [e] at this
    simpa using this
  | m :: b, a, e, st, h1, h2 => by
    rw [List.foldl_cons]
    have hp := List.pairwise_append.mp (e ▸ hF)
    have hmb := List.pairwise_cons.mp hp.2.1
    have hm : m ∈ F := by rw [e]; simp
    have ea : ∀ x ∈ F, (x ∈ a ↔ x < m) := fun x hx => by
      rw [e] at hx
      rcases List.mem_append.mp hx with h | h
      · exact ⟨fun _ => hp.2.2 x h m List.mem_cons_self, fun _ => h⟩
      · refine ⟨fun q => hp.2.2 x q m List.mem_cons_self, fun q => ?_⟩
        rcases List.mem_cons.mp h with rfl | h
        · exact absurd q (Int.lt_irrefl _)
        · have := hmb.1 x h; omega
    have eL : (L.filter fun x => decide (x ∈ a)).length = mLt L m := by
      unfold mLt
      refine congrArg List.length (List.filter_congr fun x hx => ?_)
      have := ea x (hs.subset hx)
      simp [this]
    have eF : a.length = mLt F m := by
      rw [e, mLt_app, mLt_cons, if_neg (Int.lt_irrefl _)]
      have z : mLt b m = 0 := by
        unfold mLt
        rw [List.length_eq_zero_iff, List.filter_eq_nil_iff]
        intro x hx
        have := hmb.1 x hx
        simp; omega
      have y : mLt a m = a.length := by
        unfold mLt
        refine congrArg List.length (List.filter_eq_self.mpr fun x hx => ?_)
        simpa using hp.2.2 x hx m List.mem_cons_self
      omega
    have key := H m hm
    have hc : ((ks.filter fun w => decide (w.b ≤ m)).length) = cLe ks m := rfl
    have hmn := hmono m
    have eL2 := filt_le (hF.sublist hs) fun x hx => ea x (hs.subset hx)
    rw [eL, eF] at h1
    refine nob_go hF hs H hmono b (a ++ [m]) (by rw [e]; simp) _ ?_ ?_
    · unfold nobStep
      dsimp only
      rw [hc, h1, eL2, List.length_append, List.length_append, eL, eF]
      by_cases q : m ∈ L
      · have := key.1 q
        simp only [if_pos q]
        rw [if_neg (by omega)]; simp; omega
      · have := key.2 q
        simp only [if_neg q]
        rw [if_pos (by omega)]; simp; omega
    · unfold nobStep
      dsimp only
      rw [hc, h1, h2, eL2]
      by_cases q : m ∈ L
      · have := key.1 q
        rw [if_pos q, if_pos (by omega)]
      · have := key.2 q
        rw [if_neg q, if_neg (by omega)]
theorem nob_eq {ws ks : List Wish} {F L : List Int} (hF : F.Pairwise (· < ·)) (h : Gr ws F L) (p : ks.Perm ws) : nobody ks F = L := by
  unfold nobody
  refine nob_go hF (gr_sub h) (fun m hm => ?_) (gr_mono h) F [] rfl _ ?_ ?_
  · rw [cLe_perm p]
    exact gr_free h hF m hm
  · have : L.filter (fun m => decide (m ∈ ([] : List Int))) = [] := by rw [List.filter_eq_nil_iff]; simp
    rw [this]; rfl
  · have : L.filter (fun m => decide (m ∈ ([] : List Int))) = [] := by rw [List.filter_eq_nil_iff]; simp
    rw [this]
end
section -- Q3
theorem cut_le {kf : Wish → Int} {ws : List Wish} (hs : ws.Pairwise fun u v => kf u ≤ kf v) (x : Int) : ∃ P S, ws = P ++ S ∧ (∀ p ∈ P, kf p ≤ x) ∧ ∀ s ∈ S, x < kf s := by
  induction ws with
  | nil => exact ⟨[], [], rfl, by simp, by simp⟩
  | cons a r ih =>
    have hp := List.pairwise_cons.mp hs
    by_cases ha : kf a ≤ x
    · obtain ⟨P, S, e, h1, h2⟩ := ih hp.2
      exact ⟨a :: P, S, by rw [e]; rfl, List.forall_mem_cons.mpr ⟨ha, h1⟩, h2⟩
    · exact ⟨[], a :: r, rfl, by simp, List.forall_mem_cons.mpr ⟨by omega, fun s hs => by have := hp.1 s hs; omega⟩⟩
theorem cut_lt {kf : Wish → Int} {ws : List Wish} (hs : ws.Pairwise fun u v => kf u ≤ kf v) (x : Int) : ∃ P S, ws = P ++ S ∧ (∀ p ∈ P, kf p < x) ∧ ∀ s ∈ S, x ≤ kf s := by
  induction ws with
  | nil => exact ⟨[], [], rfl, by simp, by simp⟩
  | cons a r ih =>
    have hp := List.pairwise_cons.mp hs
    by_cases ha : kf a < x
    · obtain ⟨P, S, e, h1, h2⟩ := ih hp.2
      exact ⟨a :: P, S, by rw [e]; rfl, List.forall_mem_cons.mpr ⟨ha, h1⟩, h2⟩
    · exact ⟨[], a :: r, rfl, by simp, List.forall_mem_cons.mpr ⟨by omega, fun s hs => by have := hp.1 s hs; omega⟩⟩
theorem insD_at {P S : List Wish} (w : Wish) : insD (P ++ S) P.length w = P ++ w :: S := by unfold insD; simp
theorem getD_left {P S : List Wish} {i : Nat} (h : i < P.length) : (P ++ S).getD i noWish = P[i] := by
  rw [List.getD_eq_getElem?_getD, List.getElem?_append_left h, List.getElem?_eq_getElem h]; rfl
theorem getD_right {P S : List Wish} {i : Nat} (h : P.length ≤ i) (h' : i < (P ++ S).length) : (P ++ S).getD i noWish = S[i - P.length]'(by simp at h'; omega) := by
  have : i - P.length < S.length := by simp at h'; omega
  rw [List.getD_eq_getElem?_getD, List.getElem?_append_right h, List.getElem?_eq_getElem this]; rfl
theorem ins_right {kf : Wish → Int} {ws : List Wish} (hs : ws.Pairwise fun u v => kf u ≤ kf v) (w : Wish) : ∃ P S, ws = P ++ S ∧ (∀ p ∈ P, kf p ≤ kf w) ∧ (∀ s ∈ S, kf w < kf s) ∧ insD ws (posRight kf ws w) w = P ++ w :: S := by
  obtain ⟨P, S, rfl, h1, h2⟩ := cut_le hs (kf w)
  refine ⟨P, S, rfl, h1, h2, ?_⟩
  have : posRight kf (P ++ S) w = P.length := by
    unfold posRight
    refine bisLoop_eq _ _ _ (Nat.zero_le _) (by simp) (fun i _ h => ?_) (fun i h h' => ?_)
    · rw [getD_left h]
      have := h1 _ (List.getElem_mem h)
      simpa using this
    · rw [getD_right h h']
      have := h2 _ (List.getElem_mem (by simp at h'; omega : i - P.length < S.length))
      simpa using this
  rw [this, insD_at]
theorem ins_left {kf : Wish → Int} {ws : List Wish} (hs : ws.Pairwise fun u v => kf u ≤ kf v) (w : Wish) : ∃ P S, ws = P ++ S ∧ (∀ p ∈ P, kf p < kf w) ∧ (∀ s ∈ S, kf w ≤ kf s) ∧ insD ws (posLeft kf ws w) w = P ++ w :: S := by
  obtain ⟨P, S, rfl, h1, h2⟩ := cut_lt hs (kf w)
  refine ⟨P, S, rfl, h1, h2, ?_⟩
  have : posLeft kf (P ++ S) w = P.length := by
    unfold posLeft
    refine bisLoop_eq _ _ _ (Nat.zero_le _) (by simp) (fun i _ h => ?_) (fun i h h' => ?_)
    · rw [getD_left h]
      have := h1 _ (List.getElem_mem h)
      simpa using this
    · rw [getD_right h h']
      have := h2 _ (List.getElem_mem (by simp at h'; omega : i - P.length < S.length))
      simpa using this
  rw [this, insD_at]
theorem perm_mid {P S : List Wish} {w : Wish} : (P ++ w :: S).Perm (w :: (P ++ S)) := List.perm_middle
theorem sort_mid {kf : Wish → Int} {P S : List Wish} {w : Wish} (hs : (P ++ S).Pairwise fun u v => kf u ≤ kf v) (h1 : ∀ p ∈ P, kf p ≤ kf w) (h2 : ∀ s ∈ S, kf w ≤ kf s) : (P ++ w :: S).Pairwise fun u v => kf u ≤ kf v := by
  have h := List.pairwise_append.mp hs
  refine List.pairwise_append.mpr ⟨h.1, List.pairwise_cons.mpr ⟨h2, h.2.1⟩, fun a ha b hb => ?_⟩
  rcases List.mem_cons.mp hb with rfl | hb
  · exact h1 a ha
  · exact h.2.2 a ha b hb
theorem mIn_cat {F : List Int} {a b c : Int} (h1 : a ≤ b) (h2 : b ≤ c) : mIn F a c = mIn F a b + mIn F b c := by
  induction F with
  | nil => rfl
  | cons m r ih =>
    rw [mIn_cons, mIn_cons, mIn_cons, ih]
    by_cases q1 : a ≤ m ∧ m < c
    · by_cases q2 : m < b
      · rw [if_pos q1, if_pos ⟨q1.1, q2⟩, if_neg (by omega)]; omega
      · rw [if_pos q1, if_neg (by omega), if_pos ⟨by omega, q1.2⟩]; omega
    · rw [if_neg q1, if_neg (by omega), if_neg (by omega)]; omega
theorem mIn_one {F : List Int} (hF : F.Pairwise (· < ·)) (k : Int) : mIn F k (k + 1) = if k ∈ F then 1 else 0 := by
  induction F with
  | nil => rfl
  | cons m r ih =>
    have hp := List.pairwise_cons.mp hF
    rw [mIn_cons, ih hp.2]
    by_cases q : m = k
    · subst q
      have : m ∉ r := fun h => absurd (hp.1 m h) (Int.lt_irrefl _)
      rw [if_pos (by omega), if_neg this, if_pos List.mem_cons_self]
    · rw [if_neg (by omega)]
      have : k ∈ m :: r ↔ k ∈ r := ⟨fun h => (List.mem_cons.mp h).elim (fun e => absurd e.symm q) id, List.mem_cons_of_mem _⟩
      simp only [this]; omega
theorem belowN_eq {F : List Int} (hF : F.Pairwise (· < ·)) : ∀ k : Nat, belowN F k = mIn F 0 k
  | 0 => by
    rw [mIn_zero (fun m _ => by omega)]; rfl
  | k + 1 => by
    rw [belowN_succ, belowN_eq hF k, mIn_cat (a := 0) (b := k) (c := (k + 1 : Nat)) (by omega) (by omega)]
    congr 1
    have : ((k + 1 : Nat) : Int) = (k : Int) + 1 := by omega
    rw [this, mIn_one hF]
    have : F.any (· == (k : Int)) = true ↔ (k : Int) ∈ F := by simp
    simp only [this]
theorem below_sub {F : List Int} (hF : F.Pairwise (· < ·)) {l h : Int} (h1 : 0 ≤ l) (h2 : l ≤ h) : (belowN F h.toNat : Int) - belowN F l.toNat = mIn F l h := by
  rw [belowN_eq hF, belowN_eq hF, Int.toNat_of_nonneg h1, Int.toNat_of_nonneg (by omega), mIn_cat (a := 0) (b := l) (c := h) h1 h2]
  omega
noncomputable def Okw (w : Wish) : Prop := InR w ∧ w.b ≤ w.e
theorem full_mem {ms ks w} : (fullOf ms ks w).isEmpty = false ↔ ∃ l ∈ lowsOf ks w, ∃ h ∈ highsOf ks w, (belowN ms h.toNat : Int) - belowN ms l.toNat ≤ cntIn ks l h := by
  rw [Bool.eq_false_iff, Ne, List.isEmpty_iff]
  unfold fullOf
  rw [List.flatMap_eq_nil_iff]
  constructor
  · intro H
    refine Classical.byContradiction fun K => H fun l hl => ?_
    rw [List.flatMap_eq_nil_iff]
    intro h hh
    rw [if_neg]
    intro q
    exact K ⟨l, hl, h, hh, of_decide_eq_true q⟩
  · rintro ⟨l, hl, h, hh, q⟩ H
    have := List.flatMap_eq_nil_iff.mp (H l hl) h hh
    rw [if_pos (decide_eq_true q)] at this
    exact nomatch this
noncomputable def Full (F : List Int) (ks : List Wish) (w : Wish) : Prop := ∃ l h, l ≤ w.b ∧ w.e ≤ h ∧ mIn F l h ≤ cntIn ks l h
theorem full_iff {F : List Int} (hF : F.Pairwise (· < ·)) {ks : List Wish} {w : Wish} (hk : ∀ u ∈ ks, Okw u) (hw : Okw w) (H : Hall ks F) : ((fullOf F ks w).isEmpty = false → Full F ks w) ∧ ((fullOf F ks w).isEmpty = true → Hall (ks ++ [w]) F) := by
  have hall : ∀ u ∈ ks ++ [w], Okw u := fun u hu => by
    rcases List.mem_append.mp hu with h | h
    · exact hk u h
    · rw [List.mem_singleton.mp h]; exact hw
  constructor
  · intro q
    obtain ⟨l, hl, h, hh, k⟩ := full_mem.mp q
    obtain ⟨u, hu, rfl⟩ := List.mem_map.mp hl
    obtain ⟨v, hv, rfl⟩ := List.mem_map.mp hh
    have hu' := List.mem_filter.mp hu
    have hv' := List.mem_filter.mp hv
    have e1 : u.b ≤ w.b := of_decide_eq_true hu'.2
    have e2 : w.e ≤ v.e := of_decide_eq_true hv'.2
    have := (hall u hu'.1).1.1
    have := hw.2
    rw [below_sub hF (by omega) (by omega)] at k
    exact ⟨_, _, e1, e2, by omega⟩
  · intro q l h
    rw [cntIn_app, cntIn_cons]
    have e0 : cntIn [] l h = 0 := rfl
    rw [e0]
    have H1 := H l h
    by_cases c : l ≤ w.b ∧ w.e ≤ h
    · rw [if_pos c]
      -- the tightest stretch around
      have low : ∃ u ∈ ks ++ [w], l ≤ u.b ∧ u.b ≤ w.b ∧ u.e ≤ h ∧ ∀ v ∈ ks, l ≤ v.b → v.e ≤ h → u.b ≤ v.b := by
        clear q H H1 e0 hall
        induction ks with
        | nil => exact ⟨w, by simp, c.1, by omega, c.2, by simp⟩
        | cons x r ih =>
          obtain ⟨u, hu, a1, a2, a3, a4⟩ := ih fun u hu => hk u (List.mem_cons_of_mem _ hu)
          by_cases d : l ≤ x.b ∧ x.e ≤ h ∧ x.b < u.b
          · exact ⟨x, by simp, d.1, by omega, d.2.1, List.forall_mem_cons.mpr ⟨fun _ _ => by omega, fun v hv p1 p2 => by have := a4 v hv p1 p2; omega⟩⟩
          · exact ⟨u, List.mem_cons_of_mem _ hu, a1, a2, a3, List.forall_mem_cons.mpr ⟨fun _ _ => by omega, a4⟩⟩
      have high : ∃ u ∈ ks ++ [w], l ≤ u.b ∧ w.e ≤ u.e ∧ u.e ≤ h ∧ ∀ v ∈ ks, l ≤ v.b → v.e ≤ h → v.e ≤ u.e := by
        clear q H H1 e0 hall low
        induction ks with
        | nil => exact ⟨w, by simp, c.1, by omega, c.2, by simp⟩
        | cons x r ih =>
          obtain ⟨u, hu, a1, a2, a3, a4⟩ := ih fun u hu => hk u (List.mem_cons_of_mem _ hu)
          by_cases d : l ≤ x.b ∧ x.e ≤ h ∧ u.e < x.e
          · exact ⟨x, by simp, d.1, by omega, d.2.1, List.forall_mem_cons.mpr ⟨fun _ _ => by omega, fun v hv p1 p2 => by have := a4 v hv p1 p2; omega⟩⟩
          · exact ⟨u, List.mem_cons_of_mem _ hu, a1, a2, a3, List.forall_mem_cons.mpr ⟨fun _ _ => by omega, a4⟩⟩
      obtain ⟨u, hu, a1, a2, a3, a4⟩ := low
      obtain ⟨v, hv, b1, b2, b3, b4⟩ := high
      have ne : ¬ ((belowN F v.e.toNat : Int) - belowN F u.b.toNat ≤ cntIn ks u.b v.e) := fun k => by
        have := full_mem.mpr ⟨u.b, List.mem_map.mpr ⟨u, List.mem_filter.mpr ⟨hu, decide_eq_true a2⟩, rfl⟩, v.e, List.mem_map.mpr ⟨v, List.mem_filter.mpr ⟨hv, decide_eq_true b2⟩, rfl⟩, k⟩
        rw [q] at this; exact nomatch this
      have := hw.2
      rw [below_sub hF (hall u hu).1.1 (by omega)] at ne
      have e1 : cntIn ks l h ≤ cntIn ks u.b v.e := by
        unfold cntIn
        refine Nat.le_of_eq (congrArg List.length (List.filter_congr fun x hx => ?_))
        have p1 := a4 x hx
        have p2 := b4 x hx
        by_cases d : l ≤ x.b ∧ x.e ≤ h
        · rw [decide_eq_true d.1, decide_eq_true d.2, decide_eq_true (p1 d.1 d.2), decide_eq_true (p2 d.1 d.2)]
        · have d' : ¬ (u.b ≤ x.b ∧ x.e ≤ v.e) := by omega
          rw [← Bool.decide_and, ← Bool.decide_and, decide_eq_false d, decide_eq_false d']
      have e2 : mIn F u.b v.e ≤ mIn F l h := mIn_mono (by omega) (by omega)
      omega
    · rw [if_neg c]; omega
theorem full_hall {F : List Int} {ks : List Wish} {w : Wish} (h : Full F ks w) : ¬ Hall (ks ++ [w]) F := fun H => by
  obtain ⟨l, h', h1, h2, h3⟩ := h
  have := H l h'
  rw [cntIn_app, cntIn_cons, if_pos ⟨h1, h2⟩] at this
  omega
structure Alike (F : List Int) (st : List Wish × List Wish × List Int) (ks : List Wish) : Prop where
  e : st.2.1 = ks
  p : st.1.Perm ks
  srt : st.1.Pairwise fun u v => u.e ≤ v.e
  ok : ∀ u ∈ ks, Okw u
  g : Gr st.1 F st.2.2
theorem alike_step {F : List Int} (hF : F.Pairwise (· < ·)) {st ks} (K : Alike F st ks) {w : Wish} (hw : Okw w) : Alike F (keptStep F st w) (winStep F ks w) := by
  obtain ⟨P, S, e, h1, h2, h3⟩ := ins_right (kf := Wish.e) K.srt w
  have srt' : (P ++ w :: S).Pairwise fun u v => u.e ≤ v.e := sort_mid (kf := Wish.e) (e ▸ K.srt) h1 fun s hs => by have := h2 s hs; omega
  have p' : (P ++ w :: S).Perm (ks ++ [w]) := (perm_mid.trans ((e ▸ K.p : (P ++ S).Perm ks).cons w)).trans (List.perm_append_singleton w ks).symm
  have ok' : ∀ u ∈ ks ++ [w], Okw u := fun u hu => by
    rcases List.mem_append.mp hu with h | h
    · exact K.ok u h
    · rw [List.mem_singleton.mp h]; exact hw
  obtain ⟨A, L, B, g1, g2, g3, g4⟩ := seats_gr (P ++ w :: S) [] F [] hF fun u hu => (ok' u (p'.subset hu)).2
  rw [List.nil_append, List.append_nil, List.length_nil, Nat.zero_add] at g1
  have hall0 : Hall ks F := fun l h => by rw [← cntIn_perm K.p]; exact gr_hall K.g l h
  have fi := full_iff hF K.ok hw hall0
  unfold keptStep winStep
  rw [h3]
  unfold seats
  rw [g1]
  dsimp only
  cases q : (fullOf F ks w).isEmpty
  · have nh := full_hall (fi.1 q)
    rw [if_neg, if_neg (by decide)]
    · exact K
    · intro c
      have := gr_hall (g3 (by omega))
      exact nh fun l h => by rw [← cntIn_perm p']; exact this l h
  · have hh := fi.2 q
    obtain ⟨L', hL⟩ := hall_gr _ F hF srt' (fun u hu => (ok' u (p'.subset hu)).2) fun l h => by rw [cntIn_perm p']; exact hh l h
    have c := g4 L' hL
    rw [if_pos (by omega), if_pos rfl]
    refine ⟨by rw [K.e], p', srt', ok', ?_⟩
    have : ((A ++ L ++ B).drop A.length).take (A.length + L.length - A.length) = L := by
      rw [List.append_assoc, List.drop_left, show A.length + L.length - A.length = L.length by omega, List.take_left]
    dsimp only
    rw [this]
    exact g3 c
theorem alike_all {F : List Int} (hF : F.Pairwise (· < ·)) : ∀ (line : List Wish) {st ks}, Alike F st ks → (∀ w ∈ line, Okw w) → Alike F (line.foldl (keptStep F) st) (line.foldl (winStep F) ks)
  | [], _, _, K, _ => K
  | w :: r, _, _, K, h => alike_all hF r (alike_step hF K (h w List.mem_cons_self)) fun u hu => h u (List.mem_cons_of_mem _ hu)
theorem alike {F : List Int} (hF : F.Pairwise (· < ·)) {line : List Wish} (h : ∀ w ∈ line, Okw w) : Alike F (keptOf line F) (winOf line F) :=
  alike_all hF line ⟨rfl, List.Perm.refl _, List.Pairwise.nil, by simp, .nil⟩ h
end
section -- Q4
theorem nodup_le {α : Type} [DecidableEq α] : ∀ {A B : List α}, A.Nodup → (∀ x ∈ A, x ∈ B) → A.length ≤ B.length
  | [], _, _, _ => Nat.zero_le _
  | a :: A, B, hn, hs => by
    have hn' := List.nodup_cons.mp hn
    have hs' := List.forall_mem_cons.mp hs
    have := nodup_le (B := B.erase a) hn'.2 fun x hx => (List.mem_erase_of_ne (fun e => by subst e; exact hn'.1 hx)).mpr (hs'.2 x hx)
    rw [List.length_erase_of_mem hs'.1] at this
    have := List.length_pos_of_mem hs'.1
    rw [List.length_cons]; omega
theorem nodup_all {α : Type} [DecidableEq α] {A B : List α} (hn : A.Nodup) (hs : ∀ x ∈ A, x ∈ B) (hl : B.length ≤ A.length) : ∀ x ∈ B, x ∈ A := fun x hx => by
  refine Classical.byContradiction fun q => ?_
  have := nodup_le (A := x :: A) (B := B) (List.nodup_cons.mpr ⟨q, hn⟩) (List.forall_mem_cons.mpr ⟨hx, hs⟩)
  rw [List.length_cons] at this; omega
structure Mat (F : List Int) (ks : List Wish) (P : List (Wish × Int)) : Prop where
  p : (P.map (·.1)).Perm ks
  n : (P.map (·.2)).Nodup
  w : ∀ x ∈ P, x.1.b ≤ x.2 ∧ x.2 < x.1.e ∧ x.2 ∈ F
theorem sorted_nodup {F : List Int} (hF : F.Pairwise (· < ·)) : F.Nodup := hF.imp fun h e => by omega
theorem gr_mat {ws F L} (h : Gr ws F L) : F.Pairwise (· < ·) → ∃ P, Mat F ws P := by
  induction h with
  | nil => intro _; exact ⟨[], List.Perm.refl _, List.Pairwise.nil, by simp⟩
  | @cons w r P m S L h1 h2 h3 h4 ih =>
    intro hF
    obtain ⟨P', M⟩ := ih (pair_del hF)
    have hn : m ∉ P ++ S := fun q => by
      have hp := List.pairwise_append.mp hF
      have hS := List.pairwise_cons.mp hp.2.1
      rcases List.mem_append.mp q with q | q
      · exact absurd (hp.2.2 m q m List.mem_cons_self) (Int.lt_irrefl _)
      · exact absurd (hS.1 m q) (Int.lt_irrefl _)
    refine ⟨(w, m) :: P', ?_, ?_, ?_⟩
    · exact M.p.cons w
    · refine List.nodup_cons.mpr ⟨fun q => ?_, M.n⟩
      obtain ⟨x, hx, e⟩ := List.mem_map.mp q
      have e : x.2 = m := e
      exact hn (e ▸ (M.w x hx).2.2)
    · refine List.forall_mem_cons.mpr ⟨⟨h2, h3, by simp⟩, fun x hx => ?_⟩
      have := M.w x hx
      refine ⟨this.1, this.2.1, ?_⟩
      rcases List.mem_append.mp this.2.2 with h | h
      · exact List.mem_append_left _ h
      · exact List.mem_append_right _ (List.mem_cons_of_mem _ h)
theorem Mat.filter {F ks P} (M : Mat F ks P) (f : Wish → Bool) : Mat F (ks.filter f) (P.filter fun x => f x.1) := by
  refine ⟨?_, M.n.sublist (List.filter_sublist.map _), fun x hx => M.w x (List.mem_filter.mp hx).1⟩
  have := M.p.filter f
  rw [List.filter_map] at this
  exact this
open Classical in
theorem rank_le {F : List Int} (hF : F.Nodup) {K J : List Wish} {PK PJ} (MK : Mat F K PK) (MJ : Mat F J PJ) (hK : K.Nodup) (hJ : J.Nodup)
    (cov : ∀ w ∈ J, w ∉ K → Full F K w) : J.length ≤ K.length := by
  have s1 : (J.filter fun w => decide (Full F K w)).length ≤ (F.filter fun m => decide (∃ l h, l ≤ m ∧ m < h ∧ mIn F l h ≤ cntIn K l h)).length := by
    have M := MJ.filter fun w => decide (Full F K w)
    rw [← M.p.length_eq, List.length_map, ← List.length_map (f := (·.2))]
    refine nodup_le M.n fun x hx => ?_
    obtain ⟨y, hy, rfl⟩ := List.mem_map.mp hx
    have hw := M.w y hy
    obtain ⟨l, h, a1, a2, a3⟩ := of_decide_eq_true (List.mem_filter.mp hy).2
    exact List.mem_filter.mpr ⟨hw.2.2, decide_eq_true ⟨l, h, Int.le_trans a1 hw.1, Int.lt_of_lt_of_le hw.2.1 a2, a3⟩⟩
  have s2 : (F.filter fun m => decide (∃ l h, l ≤ m ∧ m < h ∧ mIn F l h ≤ cntIn K l h)).length ≤ (K.filter fun w => decide (Full F K w)).length := by
    have M := MK.filter fun w => decide (Full F K w)
    have e : (K.filter fun w => decide (Full F K w)).length = ((PK.filter fun x => decide (Full F K x.1)).map (·.2)).length := by rw [List.length_map, ← M.p.length_eq, List.length_map]
    rw [e]
    refine nodup_le (hF.sublist List.filter_sublist) fun m hm => ?_
    have hm' := List.mem_filter.mp hm
    obtain ⟨l, h, a1, a2, a3⟩ := of_decide_eq_true hm'.2
    have M' := MK.filter fun w => decide (l ≤ w.b) && decide (w.e ≤ h)
    have key := nodup_all (A := (PK.filter fun x => decide (l ≤ x.1.b) && decide (x.1.e ≤ h)).map (·.2)) (B := F.filter fun m => decide (l ≤ m) && decide (m < h)) M'.n (fun x hx => by
      obtain ⟨y, hy, rfl⟩ := List.mem_map.mp hx
      have hw := M'.w y hy
      have hd := (List.mem_filter.mp hy).2
      rw [Bool.and_eq_true, decide_eq_true_iff, decide_eq_true_iff] at hd
      exact List.mem_filter.mpr ⟨hw.2.2, by rw [Bool.and_eq_true, decide_eq_true_iff, decide_eq_true_iff]; exact ⟨Int.le_trans hd.1 hw.1, Int.lt_of_lt_of_le hw.2.1 hd.2⟩⟩) (by
      rw [List.length_map, ← List.length_map (f := fun (x : Wish × Int) => x.1), M'.p.length_eq]
      exact a3) m (List.mem_filter.mpr ⟨hm'.1, by rw [Bool.and_eq_true, decide_eq_true_iff, decide_eq_true_iff]; exact ⟨a1, a2⟩⟩)
    obtain ⟨y, hy, rfl⟩ := List.mem_map.mp key
    have hy' := List.mem_filter.mp hy
    have hd := hy'.2
    rw [Bool.and_eq_true, decide_eq_true_iff, decide_eq_true_iff] at hd
    exact List.mem_map.mpr ⟨y, List.mem_filter.mpr ⟨hy'.1, decide_eq_true ⟨l, h, hd.1, hd.2, a3⟩⟩, rfl⟩
  have s3 : (J.filter fun w => !decide (Full F K w)).length ≤ (K.filter fun w => !decide (Full F K w)).length := by
    refine nodup_le (hJ.sublist List.filter_sublist) fun w hw => ?_
    have hw' := List.mem_filter.mp hw
    refine List.mem_filter.mpr ⟨Classical.byContradiction fun q => ?_, hw'.2⟩
    have := cov w hw'.1 q
    rw [decide_eq_true this] at hw'
    exact absurd hw'.2 (by decide)
  have t : ∀ l : List Wish, l.length = (l.filter fun w => decide (Full F K w)).length + (l.filter fun w => !decide (Full F K w)).length := fun l => by
    induction l with
    | nil => rfl
    | cons a r ih =>
      by_cases q : Full F K a
      · simp only [List.filter_cons, decide_eq_true q, Bool.not_true, if_true, List.length_cons, ih, Bool.false_eq_true, if_false]; exact Nat.add_right_comm _ _ _
      · simp only [List.filter_cons, decide_eq_false q, Bool.not_false, if_true, List.length_cons, ih, Bool.false_eq_true, if_false]; rfl
  rw [t J, t K]
  exact Nat.add_le_add (Nat.le_trans s1 s2) s3
theorem win_grow (F : List Int) : ∀ (ws acc : List Wish), acc.Sublist (ws.foldl (winStep F) acc) ∧ (ws.foldl (winStep F) acc).Sublist (acc ++ ws)
  | [], acc => ⟨List.Sublist.refl _, by simp⟩
  | w :: r, acc => by
    have ih := win_grow F r (winStep F acc w)
    have h : acc.Sublist (winStep F acc w) ∧ (winStep F acc w ++ r).Sublist (acc ++ w :: r) := by
      unfold winStep
      split
      · exact ⟨List.sublist_append_left _ _, by simp⟩
      · exact ⟨List.Sublist.refl _, List.Sublist.append_left (List.sublist_cons_self _ _) _⟩
    exact ⟨h.1.trans ih.1, ih.2.trans h.2⟩
theorem win_out (F : List Int) {w : Wish} : ∀ (ws acc : List Wish), w ∈ ws → w ∉ ws.foldl (winStep F) acc → ∃ a b, ws = a ++ w :: b ∧ (fullOf F (a.foldl (winStep F) acc) w).isEmpty = false
  | x :: r, acc, hm, hn => by
    rw [List.foldl_cons] at hn
    by_cases e : x = w
    · subst e
      refine ⟨[], r, rfl, ?_⟩
      cases q : (fullOf F acc x).isEmpty
      · exact q
      · refine absurd ((win_grow F r _).1.subset ?_) hn
        unfold winStep
        rw [if_pos q]; simp
    · have hm : w ∈ r := (List.mem_cons.mp hm).elim (fun h => absurd h.symm e) id
      obtain ⟨a, b, rfl, h⟩ := win_out F r _ hm hn
      exact ⟨x :: a, b, rfl, h⟩
theorem out_full {F : List Int} (hF : F.Pairwise (· < ·)) {ws : List Wish} (h : ∀ w ∈ ws, Okw w) {w : Wish} (hm : w ∈ ws) (hn : w ∉ winOf ws F) : ∃ a b, ws = a ++ w :: b ∧ Full F (winOf a F) w ∧ (winOf a F).Sublist (winOf ws F) := by
  obtain ⟨a, b, rfl, hf⟩ := win_out F ws [] hm hn
  have ha : ∀ u ∈ a, Okw u := fun u hu => h u (List.mem_append_left _ hu)
  have K := alike hF ha
  refine ⟨a, b, rfl, (full_iff hF K.ok (h w hm) fun l h => ?_).1 hf, ?_⟩
  · rw [← cntIn_perm K.p]; exact gr_hall K.g l h
  · unfold winOf
    rw [List.foldl_append]
    exact (win_grow F _ _).1
theorem cntIn_sub {a b : List Wish} (h : a.Sublist b) (l h') : cntIn a l h' ≤ cntIn b l h' := (h.filter _).length_le
theorem Full.sub {F : List Int} {a b : List Wish} {w : Wish} (H : Full F a w) (h : a.Sublist b) : Full F b w := by
  obtain ⟨l, h', h1, h2, h3⟩ := H
  exact ⟨l, h', h1, h2, Nat.le_trans h3 (cntIn_sub h l h')⟩
theorem win_mat {F : List Int} (hF : F.Pairwise (· < ·)) {ws : List Wish} (h : ∀ w ∈ ws, Okw w) : ∃ P, Mat F (winOf ws F) P := by
  have K := alike hF h
  obtain ⟨P, M⟩ := gr_mat K.g hF
  exact ⟨P, M.p.trans K.p, M.n, M.w⟩
theorem win_subl (F : List Int) (ws : List Wish) : (winOf ws F).Sublist ws := (win_grow F ws []).2
theorem rank_all {F : List Int} (hF : F.Pairwise (· < ·)) {ws line : List Wish} (h : ∀ w ∈ ws, Okw w) (p : line.Perm ws) (hn : ws.Nodup) : (winOf line F).length ≤ (winOf ws F).length := by
  obtain ⟨P1, M1⟩ := win_mat hF h
  have h' : ∀ w ∈ line, Okw w := fun w hw => h w (p.subset hw)
  obtain ⟨P2, M2⟩ := win_mat hF h'
  refine rank_le (sorted_nodup hF) M1 M2 (hn.sublist (win_subl F ws)) ((p.nodup_iff.mpr hn).sublist (win_subl F line)) fun w hw hq => ?_
  obtain ⟨a, b, _, hf, hs⟩ := out_full hF h (p.subset ((win_subl F line).subset hw)) hq
  exact hf.sub hs
theorem rank_deep {F : List Int} (hF : F.Pairwise (· < ·)) {ws line : List Wish} (h : ∀ w ∈ ws, Okw w) (p : line.Perm ws) (hn : ws.Nodup) (hd : line.Pairwise fun u v => v.d ≤ u.d) (d : Int) :
    ((winOf ws F).filter fun w => decide (d ≤ w.d)).length ≤ ((winOf line F).filter fun w => decide (d ≤ w.d)).length := by
  obtain ⟨P1, M1⟩ := win_mat hF h
  have h' : ∀ w ∈ line, Okw w := fun w hw => h w (p.subset hw)
  obtain ⟨P2, M2⟩ := win_mat hF h'
  have n1 := hn.sublist (win_subl F ws)
  have n2 := (p.nodup_iff.mpr hn).sublist (win_subl F line)
  refine rank_le (sorted_nodup hF) (M2.filter fun w => decide (d ≤ w.d)) (M1.filter fun w => decide (d ≤ w.d)) (n2.sublist List.filter_sublist) (n1.sublist List.filter_sublist) fun w hw hq => ?_
  have hw' := List.mem_filter.mp hw
  have hdw : d ≤ w.d := of_decide_eq_true hw'.2
  have hq' : w ∉ winOf line F := fun q => hq (List.mem_filter.mpr ⟨q, hw'.2⟩)
  obtain ⟨a, b, e, hf, hs⟩ := out_full hF h' (p.symm.subset ((win_subl F ws).subset hw'.1)) hq'
  refine hf.sub ?_
  have ef : (winOf a F).filter (fun w => decide (d ≤ w.d)) = winOf a F := List.filter_eq_self.mpr fun u hu => by
    have hu := (win_subl F a).subset hu
    have := (List.pairwise_append.mp (e ▸ hd)).2.2 u hu w List.mem_cons_self
    exact decide_eq_true (by omega)
  rw [← ef]
  exact hs.filter _
/-! the line -/
theorem line_step {l : List Wish} {w : Wish} (h1 : (l.map tripOf).Pairwise (fun x y => ltT x y = true)) (ht : ∀ u ∈ l, 0 ≤ u.t ∧ u.t < w.t) : ((lineStep l w).map tripOf).Pairwise (fun x y => ltT x y = true) ∧ (lineStep l w).Perm (w :: l) := by
  have hsrt : l.Pairwise fun u v => negD u ≤ negD v := by
    have := List.pairwise_map.mp h1
    refine this.imp fun {u v} h => ?_
    unfold tripOf ltT at h
    unfold negD
    dsimp only at h
    split at h
    · omega
    · have := of_decide_eq_true h; omega
  unfold lineStep
  cases hl : w.l
  · obtain ⟨P, S, rfl, a1, a2, a3⟩ := ins_right (kf := negD) hsrt w
    rw [if_neg (by decide), a3]
    refine ⟨?_, perm_mid⟩
    have hp := List.pairwise_append.mp (List.pairwise_map.mp h1)
    refine List.pairwise_map.mpr (List.pairwise_append.mpr ⟨hp.1, List.pairwise_cons.mpr ⟨fun s hs => ?_, hp.2.1⟩, fun u hu v hv => ?_⟩)
    · have := a2 s hs
      unfold negD at this
      unfold tripOf ltT
      dsimp only
      rw [if_neg (by omega)]
      exact decide_eq_true (by omega)
    · rcases List.mem_cons.mp hv with rfl | hv
      · have q := a1 u hu
        have q2 := ht u (List.mem_append_left _ hu)
        unfold negD at q
        unfold tripOf ltT
        dsimp only
        rw [hl]
        by_cases e : -u.d = -v.d
        · rw [if_pos e]
          cases u.l
          · simp only [Bool.false_eq_true, if_false]
            rw [if_neg (by omega)]
            exact decide_eq_true (by omega)
          · simp only [Bool.false_eq_true, if_false, if_true]
            rw [if_neg (by omega)]
            exact decide_eq_true (by omega)
        · rw [if_neg e]
          exact decide_eq_true (by omega)
      · exact hp.2.2 u hu v hv
  · obtain ⟨P, S, rfl, a1, a2, a3⟩ := ins_left (kf := negD) hsrt w
    rw [if_pos rfl, a3]
    refine ⟨?_, perm_mid⟩
    have hp := List.pairwise_append.mp (List.pairwise_map.mp h1)
    refine List.pairwise_map.mpr (List.pairwise_append.mpr ⟨hp.1, List.pairwise_cons.mpr ⟨fun u hu => ?_, hp.2.1⟩, fun u hu v hv => ?_⟩)
    · have q := a2 u hu
      have q2 := ht u (List.mem_append_right _ hu)
      unfold negD at q
      unfold tripOf ltT
      dsimp only
      rw [hl]
      by_cases e : -w.d = -u.d
      · rw [if_pos e]
        cases u.l
        · simp only [Bool.false_eq_true, if_false, if_true]
          rw [if_neg (by omega)]
          exact decide_eq_true (by omega)
        · simp only [if_true]
          rw [if_neg (by omega)]
          exact decide_eq_true (by omega)
      · rw [if_neg e]
        exact decide_eq_true (by omega)
    · rcases List.mem_cons.mp hv with rfl | hv
      · have := a1 u hu
        unfold negD at this
        unfold tripOf ltT
        dsimp only
        rw [if_neg (by omega)]
        exact decide_eq_true (by omega)
      · exact hp.2.2 u hu v hv
theorem line_all : ∀ (ws l : List Wish), (l.map tripOf).Pairwise (fun x y => ltT x y = true) → (∀ u ∈ l, 0 ≤ u.t) → (∀ w ∈ ws, 0 ≤ w.t) → (∀ u ∈ l, ∀ w ∈ ws, u.t < w.t) → ws.Pairwise (fun u v => u.t < v.t) →
    ((ws.foldl lineStep l).map tripOf).Pairwise (fun x y => ltT x y = true) ∧ (ws.foldl lineStep l).Perm (l ++ ws)
  | [], l, h, _, _, _, _ => ⟨h, by simp⟩
  | w :: r, l, h, h0, h1, h2, h3 => by
    have h3' := List.pairwise_cons.mp h3
    have h1' := List.forall_mem_cons.mp h1
    obtain ⟨s1, s2⟩ := line_step h fun u hu => ⟨h0 u hu, h2 u hu w List.mem_cons_self⟩
    have mem : ∀ u ∈ lineStep l w, u = w ∨ u ∈ l := fun u hu => List.mem_cons.mp (s2.subset hu)
    obtain ⟨g1, g2⟩ := line_all r (lineStep l w) s1 (fun u hu => (mem u hu).elim (fun e => e ▸ h1'.1) (h0 u)) h1'.2
      (fun u hu v hv => (mem u hu).elim (fun e => e ▸ h3'.1 v hv) fun k => h2 u k v (List.mem_cons_of_mem _ hv)) h3'.2
    refine ⟨g1, g2.trans ?_⟩
    exact (s2.append_right r).trans (List.perm_middle.symm)
end
section -- Q5
theorem mkL_sorted {rl : List Int} (hg : ∀ k i g, gSeq rl k = .val i g → 1 ≤ i) : ∀ f k a, (mkL rl f k a).Pairwise (· < ·) ∧ ∀ m ∈ mkL rl f k a, a < m ∧ m < 32
  | 0, k, a => ⟨List.Pairwise.nil, fun m h => nomatch h⟩
  | f + 1, k, a => by
    unfold mkL
    split
    · rename_i i g hi
      have h1 := hg k i g hi
      split
      · exact ⟨List.Pairwise.nil, fun m h => nomatch h⟩
      · have ih := mkL_sorted hg f (k + 1) (a + i.toNat)
        refine ⟨List.pairwise_cons.mpr ⟨fun m hm => (ih.2 m hm).1, ih.1⟩, List.forall_mem_cons.mpr ⟨⟨by omega, by omega⟩, fun m hm => ?_⟩⟩
        have := ih.2 m hm
        exact ⟨by omega, this.2⟩
    · exact ⟨List.Pairwise.nil, fun m h => nomatch h⟩
theorem step_none {S last a m : Nat} (h0 : S ≤ a) (h1 : (a - S) % last = 0) (h2 : a < m) (h3 : m < a + last) : (m - S) % last ≠ 0 := by
  obtain ⟨q, hq⟩ := Nat.dvd_of_mod_eq_zero h1
  rw [← Nat.sub_add_sub_cancel (Nat.le_of_lt h2) h0, Nat.add_comm, hq, Nat.mul_add_mod, Nat.mod_eq_of_lt (Nat.sub_lt_left_of_lt_add (Nat.le_of_lt h2) h3)]
  exact Nat.sub_ne_zero_of_lt h2
theorem mkL_rep {rl : List Int} {last n S : Nat} (hl : 0 < last) (hr : ∀ k, n ≤ k → gSeq rl k = .val last (.rep last)) :
    ∀ f k a, n ≤ k → 32 ≤ f + a → S ≤ a → (a - S) % last = 0 → mkL rl f k a = (List.range' (a + 1) (31 - a)).filter fun m => decide ((m - S) % last = 0)
  | 0, k, a, _, h1, _, _ => by
    rw [show 31 - a = 0 from Nat.sub_eq_zero_of_le (Nat.le_of_succ_le (Nat.zero_add a ▸ h1))]; rfl
  | f + 1, k, a, hk, h1, h2, h3 => by
    unfold mkL
    rw [hr k hk]
    dsimp only
    by_cases q : (31 : Int) < (a : Int) + (last : Int)
    · rw [if_pos q]
      refine (List.filter_eq_nil_iff.mpr fun m hm => ?_).symm
      have := List.mem_range'_1.mp hm
      have h4 : 32 ≤ a + last := Int.ofNat_lt.mp q
      have := step_none h2 h3 (m := m) this.1 (by omega)
      simpa using this
    · rw [if_neg q]
      have q' : a + last ≤ 31 := Int.ofNat_le.mp (Int.not_lt.mp q)
      have e1 : List.range' (a + 1) (31 - a) = List.range' (a + 1) (last - 1) ++ (a + last) :: List.range' (a + last + 1) (31 - (a + last)) := by
        have e2 : (a + last) :: List.range' (a + last + 1) (31 - (a + last)) = List.range' (a + last) (32 - (a + last)) := by
          rw [show 32 - (a + last) = (31 - (a + last)) + 1 from Nat.succ_sub q', List.range'_succ]
        rw [e2, show a + last = a + 1 + (last - 1) by rw [Nat.add_assoc, Nat.add_sub_cancel' hl], List.range'_append_1]
        congr 1; omega
      have e3 : (List.range' (a + 1) (last - 1)).filter (fun m => decide ((m - S) % last = 0)) = [] := List.filter_eq_nil_iff.mpr fun m hm => by
        have := List.mem_range'_1.mp hm
        have := step_none h2 h3 (m := m) this.1 (by rw [Nat.add_assoc, Nat.add_sub_cancel' hl] at this; exact this.2)
        simpa using this
      have e4 : (a + last - S) % last = 0 := by
        rw [Nat.sub_add_comm h2, Nat.add_mod_right]; exact h3
      rw [e1, List.filter_append, e3, List.nil_append, List.filter_cons, if_pos (decide_eq_true e4), Int.toNat_natCast, mkL_rep hl hr f (k + 1) (a + last) (Nat.le_succ_of_le hk) (by omega) (Nat.le_trans h2 (Nat.le_add_right _ _)) e4]
theorem take_mono (l : List Nat) {i j : Nat} (h : i ≤ j) : (l.take i).sum ≤ (l.take j).sum := by
  obtain ⟨d, rfl⟩ : ∃ d, j = i + d := ⟨j - i, by omega⟩
  rw [List.take_add, List.sum_append]; omega
theorem mkL_sizes {sizes tail : List Nat} {last : Nat} (hs : ∀ x ∈ sizes, 1 ≤ x ∧ x ≤ 5) (ht : tail = [0, 9] ∨ tail = [127, 3] ∨ tail = []) (hl : sizes[sizes.length - 1]? = some last) :
    ∀ j k f a, k + j = sizes.length → a = (sizes.take k).sum → a < 32 → 32 ≤ f + a →
      mkL (castL (sizes ++ tail)) f k a = ((List.range' k j).map fun i => (sizes.take (i + 1)).sum).filter (fun m => decide (m < 32)) ++ onN sizes.sum last tail
  | 0, k, f, a, hk, ha, h1, h2 => by
    have hlast := hs last (List.mem_of_getElem? hl)
    have hk : k = sizes.length := by omega
    subst hk
    rw [List.take_length] at ha
    subst ha
    rw [List.range'_zero, List.map_nil, List.filter_nil, List.nil_append]
    unfold onN
    rw [← List.range'_eq_map_range]
    by_cases q : tail.take 1 = [0]
    · rw [mkL_rep (S := sizes.sum) (n := sizes.length) (last := last) (by omega) (fun k' hk' => ?_) f sizes.length sizes.sum (Nat.le_refl _) h2 (Nat.le_refl _) (by rw [Nat.sub_self, Nat.zero_mod])]
      · rw [show 32 - (sizes.sum + 1) = 31 - sizes.sum by omega]
        refine List.filter_congr fun m _ => ?_
        rw [decide_eq_true q, Bool.true_and]
      · have := gSeq_end hs ht hl (k' - sizes.length)
        rw [show sizes.length + (k' - sizes.length) = k' by omega] at this
        rw [this]
        unfold tailGo
        rw [if_pos q]
    · have := gSeq_end hs ht hl 0
      unfold tailGo at this
      rw [if_neg q, Nat.add_zero] at this
      have e : mkL (castL (sizes ++ tail)) f sizes.length sizes.sum = [] := by
        cases f with
        | zero => rfl
        | succ f => unfold mkL; rw [this]
      rw [e]
      refine (List.filter_eq_nil_iff.mpr fun m _ => ?_).symm
      rw [decide_eq_false q, Bool.false_and]; exact Bool.false_ne_true
  | j + 1, k, 0, a, hk, ha, h1, h2 => absurd h2 (by omega)
  | j + 1, k, f + 1, a, hk, ha, h1, h2 => by
    have hkl : k < sizes.length := by omega
    have hx := hs sizes[k] (List.getElem_mem hkl)
    unfold mkL
    rw [gSeq_sizes hs k _ (List.getElem?_eq_getElem hkl)]
    dsimp only
    have ha' : (sizes.take (k + 1)).sum = a + sizes[k] := by
      rw [List.take_add_one, List.getElem?_eq_getElem hkl, List.sum_append, ha]; simp
    rw [List.range'_succ, List.map_cons, List.filter_cons, ha']
    by_cases q : (31 : Int) < (a : Int) + (sizes[k] : Int)
    · rw [if_pos q, if_neg (by simp; omega)]
      have eS : a + sizes[k] ≤ sizes.sum := by
        rw [← ha']
        have := take_mono sizes (i := k + 1) (j := sizes.length) (by omega)
        rwa [List.take_length] at this
      have e1 : onN sizes.sum last tail = [] := by
        unfold onN
        rw [show 32 - (sizes.sum + 1) = 0 by omega]; rfl
      rw [e1, List.append_nil]
      refine (List.filter_eq_nil_iff.mpr fun m hm => ?_).symm
      obtain ⟨i, hi, rfl⟩ := List.mem_map.mp hm
      have hi := List.mem_range'_1.mp hi
      have := take_mono sizes (i := k + 1) (j := i + 1) (by omega)
      have : ¬ (sizes.take (i + 1)).sum < 32 := by omega
      simpa using this
    · rw [if_neg q, if_pos (decide_eq_true (by omega)), List.cons_append, Int.toNat_natCast, mkL_sizes hs ht hl j (k + 1) f (a + sizes[k]) (by omega) ha'.symm (by omega) (by omega)]
theorem marks_eq {sizes tail : List Nat} {last : Nat} (hs : ∀ x ∈ sizes, 1 ≤ x ∧ x ≤ 5) (ht : tail = [0, 9] ∨ tail = [127, 3] ∨ tail = []) (hl : sizes[sizes.length - 1]? = some last) :
    marksF (castL (sizes ++ tail)) = ((sumsN sizes).filter fun m => decide (m < 32)) ++ onN sizes.sum last tail := by
  unfold marksF sumsN
  rw [mkL_sizes hs ht hl sizes.length 0 gMax 0 (by omega) (by simp) (by omega) (by unfold gMax; omega), ← List.range_eq_range']
theorem good_of {sizes tail : List Nat} {last : Nat} (hs : ∀ x ∈ sizes, 1 ≤ x ∧ x ≤ 5) (ht : tail = [0, 9] ∨ tail = [127, 3] ∨ tail = []) (hl : sizes[sizes.length - 1]? = some last) (k : Nat) :
    gSeq (castL (sizes ++ tail)) k ≠ .err ∧ ∀ i g, gSeq (castL (sizes ++ tail)) k = .val i g → 1 ≤ i ∧ i ≤ 1000 := by
  have hlast := hs last (List.mem_of_getElem? hl)
  by_cases hk : k < sizes.length
  · have hx := hs sizes[k] (List.getElem_mem hk)
    rw [gSeq_sizes hs k _ (List.getElem?_eq_getElem hk)]
    refine ⟨fun h => (nomatch h), fun i g h => ?_⟩
    injection h with h1 h2
    omega
  · have := gSeq_end hs ht hl (k - sizes.length)
    rw [show sizes.length + (k - sizes.length) = k by omega] at this
    rw [this]
    unfold tailGo
    split
    · refine ⟨fun h => (nomatch h), fun i g h => ?_⟩
      injection h with h1 h2
      omega
    · exact ⟨fun h => (nomatch h), fun i g h => nomatch h⟩
end
section -- Q6
theorem cast_pw {l : List Nat} : (castL l).Pairwise (· < ·) ↔ l.Pairwise (· < ·) := by
  unfold castL
  rw [List.pairwise_map]
  exact ⟨fun h => h.imp fun q => by omega, fun h => h.imp fun q => by omega⟩
theorem cast_back {l : List Int} {m : List Nat} (h : l.Sublist (castL m)) : castL (l.map Int.toNat) = l := by
  unfold castL
  rw [List.map_map]
  conv => rhs; rw [← List.map_id l]
  refine List.map_congr_left fun x hx => ?_
  obtain ⟨n, _, rfl⟩ := List.mem_map.mp (h.subset hx)
  simp
theorem left_ok {ms : List Nat} (hp : ms.Pairwise (· < ·)) (h32 : ∀ m ∈ ms, m < 32) {ws : List Wish} (hw : ∀ w ∈ ws, Okw w) : ∃ lefts : List Nat, (keptOf ws (castL ms)).2.2 = castL lefts ∧ (∀ k ∈ lefts, k < 32) ∧ lefts.length ≤ 32 ∧ sumPow lefts < 2 ^ 32 ∧ flagWords (sumPow lefts) = wordsOr lefts ∧ nobody (winOf ws (castL ms)) (castL ms) = castL lefts := by
  have hF := cast_pw.mpr hp
  have K := alike hF hw
  have hs := gr_sub K.g
  have e := cast_back hs
  have h1 : ∀ k ∈ ((keptOf ws (castL ms)).2.2.map Int.toNat), k < 32 := fun k hk => by
    obtain ⟨x, hx, rfl⟩ := List.mem_map.mp hk
    obtain ⟨n, hn, rfl⟩ := List.mem_map.mp (hs.subset hx)
    simpa using h32 n hn
  have h2 : ((keptOf ws (castL ms)).2.2.map Int.toNat).Pairwise (· < ·) := cast_pw.mp (e.symm ▸ hF.sublist hs)
  have h3 := sumPow_bits 32 _ h2 h1
  refine ⟨_, e.symm, h1, ?_, h3.1, flags_words h2 h1, ?_⟩
  · have := nodup_le (A := (keptOf ws (castL ms)).2.2.map Int.toNat) (B := List.range 32) (h2.imp fun q => by omega) fun x hx => List.mem_range.mpr (h1 x hx)
    simpa using this
  · rw [e]
    exact nob_eq hF K.g K.p.symm
theorem sumN_le {l : List Nat} {b : Nat} (h : ∀ x ∈ l, x ≤ b) : l.sum ≤ l.length * b := by
  induction l with
  | nil => simp
  | cons a r ih =>
    have h' := List.forall_mem_cons.mp h
    have := ih h'.2
    rw [List.sum_cons, List.length_cons, Nat.succ_mul, Nat.add_comm]; exact Nat.add_le_add this h'.1
theorem wish_ok (t v : Nat) : Okw (wishN t v) := by
  have h1 := Nat.mod_lt v (show 12 > 0 by decide)
  have h2 := Nat.mod_lt (v / 12) (show 6 > 0 by decide)
  refine ⟨⟨?_, ?_, ?_, ?_⟩, ?_⟩ <;> unfold wishN <;> dsimp only <;> omega
theorem wish_d (t v : Nat) : 0 ≤ (wishN t v).d := by unfold wishN; dsimp only; omega
theorem cnt_all {ks : List Wish} (h : ∀ w ∈ ks, 0 ≤ w.d) : cntD ks 0 = ks.length := by
  unfold cntD
  rw [List.filter_eq_self.mpr fun w hw => decide_eq_true (h w hw)]
theorem law_ok (script : List Int) (hl : script.length ≤ 100) : ∃ c0 c1 vs ms sizes sums tail over lefts rests S last line kept other, LawOk script c0 c1 vs ms sizes sums tail over lefts rests S last line kept other := by
  obtain ⟨c0, c1, vs, hc, hv⟩ := cells_eight script (script.take 60).length
  have hv4 : ∀ v ∈ vs, v < 64 ^ 4 := fun v hm => by
    obtain ⟨j, hj, rfl⟩ := List.mem_iff_getElem.mp hm
    have hb := cells_top (script := script) (n := (script.take 60).length) (List.length_take ▸ Nat.min_le_left _ _) (j := j + 2) (by rw [hv] at hj; exact Nat.add_lt_add_right hj 2)
    rw [hc] at hb
    have hg : (castL (c0 :: c1 :: vs)).getD (j + 2) 0 = (vs[j] : Int) := by
      rw [List.getD_eq_getElem?_getD, castL_get]
      show ((vs[j]?).map _).getD 0 = _
      rw [List.getElem?_eq_getElem hj]; rfl
    rw [hg] at hb
    exact Nat.lt_of_le_of_lt (Int.ofNat_le.mp hb) (by decide)
  have hsz : ∀ x ∈ sizesN c0 c1, 1 ≤ x ∧ x ≤ 5 := fun x hx => by
    obtain ⟨k, _, rfl⟩ := List.mem_map.mp hx
    exact ⟨Nat.le_add_right _ _, Nat.add_le_add_left (Nat.le_of_lt_succ (Nat.mod_lt (c1 / 5 ^ k) (show 5 > 0 by decide))) 1⟩
  have hsl : (sizesN c0 c1).length = 1 + c0 % 7 := by unfold sizesN; rw [List.length_map, List.length_range]
  have hsl7 : (sizesN c0 c1).length ≤ 7 := by rw [hsl]; exact Nat.add_le_add_left (Nat.le_of_lt_succ (Nat.mod_lt c0 (show 7 > 0 by decide))) 1
  have hs0 : 0 < (sizesN c0 c1).length := by rw [hsl]; exact Nat.lt_of_lt_of_le Nat.zero_lt_one (Nat.le_add_right _ _)
  have hta : tailN c0 = [0, 9] ∨ tailN c0 = [127, 3] ∨ tailN c0 = [] := by
    unfold tailN
    have h := Nat.mod_lt (c0 / 7) (show 3 > 0 by decide)
    generalize c0 / 7 % 3 = i at h
    match i, h with
    | 0, _ => exact .inl rfl
    | 1, _ => exact .inr (.inl rfl)
    | 2, _ => exact .inr (.inr rfl)
  obtain ⟨last, hla⟩ : ∃ last, (sizesN c0 c1)[(sizesN c0 c1).length - 1]? = some last := ⟨_, List.getElem?_eq_getElem (Nat.sub_lt hs0 Nat.one_pos)⟩
  have hlast := hsz last (List.mem_of_getElem? hla)
  have good := good_of hsz hta hla
  have hmk := mkL_sorted (rl := castL (sizesN c0 c1 ++ tailN c0)) (fun k i g h => ((good k).2 i g h).1) gMax 0 0
  have hme := marks_eq hsz hta hla
  have hbits := sumPow_bits 32 (marksF (castL (sizesN c0 c1 ++ tailN c0))) hmk.1 fun m hm => (hmk.2 m hm).2
  have h32 : ∀ m ∈ marksF (castL (sizesN c0 c1 ++ tailN c0)), m < 32 := fun m hm => (hmk.2 m hm).2
  have hpw : (marksF (castL (sizesN c0 c1 ++ tailN c0))).Pairwise (· < ·) := hmk.1
  have hne : marksF (castL (sizesN c0 c1 ++ tailN c0)) ≠ [] := fun q => by
    have h1 := hsz _ (List.getElem_mem hs0)
    have : (sizesN c0 c1)[0] ∈ marksF (castL (sizesN c0 c1 ++ tailN c0)) := by
      rw [hme]
      refine List.mem_append_left _ (List.mem_filter.mpr ⟨List.mem_map.mpr ⟨0, List.mem_range.mpr hs0, ?_⟩, decide_eq_true (Nat.lt_of_le_of_lt h1.2 (by decide))⟩)
      rw [List.take_add_one, List.getElem?_eq_getElem hs0]; simp
    rw [q] at this; exact nomatch this
  generalize hms : marksF (castL (sizesN c0 c1 ++ tailN c0)) = ms at hme hbits h32 hpw hne
  have hF := cast_pw.mpr hpw
  have hwo : ∀ w ∈ wishesN vs, Okw w := fun w hw => by
    obtain ⟨t, _, rfl⟩ := List.mem_map.mp hw
    exact wish_ok _ _
  have hwd : ∀ w ∈ wishesN vs, 0 ≤ w.d := fun w hw => by
    obtain ⟨t, _, rfl⟩ := List.mem_map.mp hw
    exact wish_d _ _
  have hwt : (wishesN vs).Pairwise (fun u v => u.t < v.t) := by
    unfold wishesN
    rw [List.pairwise_map]
    refine List.pairwise_lt_range.imp fun {a b} h => ?_
    show ((a : Nat) : Int) < ((b : Nat) : Int)
    omega
  have hwt0 : ∀ w ∈ wishesN vs, 0 ≤ w.t := fun w hw => by
    obtain ⟨t, _, rfl⟩ := List.mem_map.mp hw
    exact Int.natCast_nonneg t
  have hnd : (wishesN vs).Nodup := hwt.imp fun {u v} h e => by rw [e] at h; exact absurd h (Int.lt_irrefl _)
  obtain ⟨hsort, hperm⟩ := line_all (wishesN vs) [] List.Pairwise.nil (by simp) hwt0 (by simp) hwt
  rw [List.nil_append] at hperm
  have hsort : ((lineOf (wishesN vs)).map tripOf).Pairwise (fun x y => ltT x y = true) := hsort
  have hperm : (lineOf (wishesN vs)).Perm (wishesN vs) := hperm
  have hlo : ∀ w ∈ lineOf (wishesN vs), Okw w := fun w hw => hwo w (hperm.subset hw)
  have hld : (lineOf (wishesN vs)).Pairwise fun u v => v.d ≤ u.d := by
    refine (List.pairwise_map.mp hsort).imp fun {u v} h => ?_
    unfold tripOf ltT at h
    dsimp only at h
    split at h
    · omega
    · have := of_decide_eq_true h; omega
  obtain ⟨lefts, a0, a1, a2, a3, a4, a5⟩ := left_ok hpw h32 hlo
  obtain ⟨rests, b0, b1, b2, b3, b4, b5⟩ := left_ok hpw h32 hwo
  have K1 := alike hF hlo
  have K2 := alike hF hwo
  have hw6 : (wishesN vs).length = 6 := by unfold wishesN; rw [List.length_map, List.length_range]
  have hl6 : (lineOf (wishesN vs)).length = 6 := by rw [hperm.length_eq, hw6]
  have eqlen : (winOf (lineOf (wishesN vs)) (castL ms)).length = (winOf (wishesN vs) (castL ms)).length :=
    Nat.le_antisymm (rank_all hF hwo hperm hnd) (rank_all hF hlo hperm.symm (hperm.nodup_iff.mpr hnd))
  have hk0 : ∀ w ∈ winOf (lineOf (wishesN vs)) (castL ms), 0 ≤ w.d := fun w hw => hwd w (hperm.subset ((win_subl _ _).subset hw))
  have ho0 : ∀ w ∈ winOf (wishesN vs) (castL ms), 0 ≤ w.d := fun w hw => hwd w ((win_subl _ _).subset hw)
  have hS : (sizesN c0 c1).sum ≤ 900 := by
    exact Nat.le_trans (sumN_le fun x hx => (hsz x hx).2) (Nat.le_trans (Nat.mul_le_mul_right 5 hsl7) (by decide))
  refine ⟨c0, c1, vs, ms, sizesN c0 c1, sumsN (sizesN c0 c1), tailN c0, overN c0, lefts, rests, (sizesN c0 c1).sum, last, lineOf (wishesN vs), winOf (lineOf (wishesN vs)) (castL ms), winOf (wishesN vs) (castL ms), ?_⟩
  exact {
    hs := hl, hc := hc, hv := hv, esz := rfl, eta := rfl, eov := rfl, esu := rfl
    hT := law_table c0 hv4
    hT0 := over_none c0
    hgood := fun k i g h => (good k).2 i g h
    hne := fun k => (good k).1
    hK := hms ▸ hbits.1
    hM := hms ▸ hne
    hms := by rw [hms]; exact hbits.2
    hml := by
      have := nodup_le (A := ms) (B := List.range 32) (hpw.imp fun q => by omega) fun x hx => List.mem_range.mpr (h32 x hx)
      simpa using this
    hsl := hsl7
    hsb := fun x hx => (hsz x hx).2
    hS := by
      have e : (sumsN (sizesN c0 c1)).length = (sizesN c0 c1).length := by unfold sumsN; rw [List.length_map, List.length_range]
      rw [e]
      unfold sumsN
      rw [List.getElem?_map, List.getElem?_range (Nat.sub_lt hs0 Nat.one_pos)]
      show some (((sizesN c0 c1).take ((sizesN c0 c1).length - 1 + 1)).sum) = _
      rw [← sub_one hs0, List.take_length]
    hla := hla
    h0 := hlast.1
    hS2 := hS
    hA := hme
    eline := rfl
    hp := hperm
    hnd := by
      rw [List.nodup_iff_pairwise_ne, List.pairwise_map]
      refine hwt.imp fun {u v} h e => ?_
      have : u.t = v.t := congrArg (fun x : Trip => x.2.2) e
      omega
    hsort := hsort
    ekept := K1.e
    eleft := a0
    eother := K2.e
    erest := b0
    hkl := by have := (win_subl (castL ms) (lineOf (wishesN vs))).length_le; omega
    hol := by have := (win_subl (castL ms) (wishesN vs)).length_le; omega
    hE := by
      show some (cntD _ 0 - cntD _ 0) = some 0
      rw [cnt_all hk0, cnt_all ho0, eqlen, Int.sub_self]
    hF := fun x hx => by
      obtain ⟨d, _, rfl⟩ := List.mem_map.mp hx
      have := rank_deep hF hwo hperm hnd hld d
      unfold cntD
      omega
    l1 := a1, l2 := a2, l3 := a3, l4 := a4, l5 := a5
    r1 := b1, r2 := b2, r3 := b3, r4 := b4, r5 := b5
    hr := fun w hw => (hwo w hw).1
    hI := rfl
    hJ := rfl }
end
section -- T1
theorem base_one {w : World} {s : Shared} {mg mb : Str → Option Value} {g : s.heap.Ns mainGlobals mg} {b : s.heap.Ns builtinsNs mb} {nl : s.heap.NoLimit}
    (hT : ∀ P ∈ tabsL, s.heap.get? P = some (tabObj #[])) : Base (lawCx w s.heap mg mb g b nl) s where
  sub' := fun b o e _ => e
  there := fun b o e => ⟨o, e⟩
  tabs := fun x hx => by
    refine ⟨#[], hT x.2.1 ?_, trivial, fun pos v e => nomatch e⟩
    have hx : x ∈ mkrList := hx
    unfold mkrList at hx
    simp only [List.mem_cons, List.not_mem_nil, or_false] at hx
    rcases hx with rfl | rfl | rfl | rfl <;> decide
  known := fun x hx => absurd hx List.not_mem_nil
theorem ints_rd {h : Heap} {vs : List Value} {ns : List Int} (x : IntsAre vs ns) : RDs h [] vs (ns.map .int) := by
  induction x with
  | nil => exact .nil
  | cons => rename_i ih; exact .cons (.int _ _) ih
theorem well_ls {P : Params} {h : Heap} {a : Addr} {vs : List Value} {ds : List PyData} (w : Well P h (.ref a) (ofPy (.list ds))) (hL : h.IsList a vs.toArray) : LsAt h a vs.toArray := by
  have e : ∃ us : List Value, h.get? a = some { cls := .type "list", data := .seq us.toArray } := by
    generalize hd : ofPy (.list ds) = d at w
    cases w with
    | list e _ => exact ⟨_, e⟩
    | _ => cases hd
  obtain ⟨us, e⟩ := e
  obtain ⟨o, h1, h2, n, h3⟩ := hL
  rw [e] at h1
  cases h1
  cases h3
  exact ⟨_, e⟩
theorem old_kept {w : World} {h : Heap} {mg mb : Str → Option Value} {g : h.Ns mainGlobals mg} {b : h.Ns builtinsNs mb} {nl : h.NoLimit} {s s' : Shared} (hh : s.heap = h)
    (hd : ∀ x ∈ mkrList, CodeHd h x.1 x.2.1) (k : Kp (lawCx w h mg mb g b nl) s s') : OldK h s'.heap := by
  subst hh
  refine ⟨fun p o e => ?_, fun p o e => k.there e⟩
  by_cases q : IsTabO o
  · obtain ⟨ps, rfl, t⟩ := q
    rcases k.tab p ps e t with h1 | ⟨⟨x, hx, ex⟩, more, h1, _⟩
    · exact .inl h1
    · obtain ⟨oc, vs, _, _, _, _, _, _, _, c1, c2, c3, c4, _⟩ := hd x hx
      exact .inr (.inl ⟨⟨x.1, oc, vs, c1, c2, c3, ex ▸ c4⟩, rfl, ps, more, rfl, h1⟩)
  · obtain ⟨sl, h1, rfl | ⟨h2, _⟩⟩ := k.sub' p o e q
    · exact .inl h1
    · have h2 : s.heap.get? p = none := h2
      rw [h2] at e; cases e
theorem kp_live {C : Cx} (s : Shared) : Live C callerA s := ⟨[], rfl, fun _ h => absurd h List.not_mem_nil⟩
theorem room_law : Room 21 callerA := ⟨rfl, by decide +kernel, by decide +kernel⟩
set_option maxHeartbeats 4000000 in
theorem all_done : PySem.Challenge.rw_kl0448_01.Holds := hd_law (by
  intro w s₀ s₁ mg mb G Y fa o pm cd doc dV kV ho hd hcd hD hmg hg args vals as hpre hlay hrd hwl hlo
  refine Ground.open G ?_
  intro T B D TE TW
  wrow_args hpre hlay hrd hwl hlo
  rename_i ns hs hlay0 hL1 hr1 hl2 as4 as3 a vs as0 hL ra w1 r0 hI hr hc1 hc2
  obtain ⟨K, KX, hn, ek, hT⟩ := Y
  have Gl : Glb (lawCx w s₁.heap mg mb T.g T.b T.nolimit) := glb_of ⟨K, KX, hn, ek, hT⟩ T.bmain T.builtins
  have Bs : Base (lawCx w s₁.heap mg mb T.g T.b T.nolimit) s₁ := base_one hT
  have e280 := (Gl.at 27 280 .none .none (by simp [defList])).1
  have e280 : mg defL.name = some (.ref 280) := e280
  rw [hmg] at e280
  cases e280
  obtain ⟨c0, c1, xs, ms, sizes, sums, tail, over, lefts, rests, S, last, line, kept, other, H⟩ := law_ok ns (by omega)
  refine pf_law Gl H callerA room_law s₁ [] [.ref a] Bs (kp_live s₁) (fun _ h => absurd h List.not_mem_nil) (.cons (.list List.not_mem_nil (well_ls w1 hL) (ints_rd hI)) .nil) _ _ fun v s' k r => ?_
  cases r
  refine ⟨.inl ⟨_, .bool true, [], rfl, fun _ => rfl, .bool true, by kernel_rfl!, fun _ => ⟨List.Pairwise.nil, fun _ h => absurd h List.not_mem_nil⟩⟩, old_kept rfl (fun x hx => Gl.mhd x hx s₁ Bs) k, k.os, k.gens.2 ?_⟩
  rw [hg]
  intro i x
  simp at x)
end
end Mine.Internal

theorem PySem.Challenge.cw_kl0448_01_holds : PySem.Challenge.rw_kl0448_01.Holds :=
  Mine.Internal.all_done
