/-
  'Rows.FnGivenIsFirstOfSinglesSaid', PROVED. The frame is the guide's own way for arguments that lead to memory ('Below'), at three pointers to strings.
-/
import Derived.Test.Qxb6617197aModsLaw3
namespace Go.Proofs.Qxb6617197aMods.fnGivenIsFirstOfSingles
open Go.ChangeShapes Go.WideShapes Go.ChangeAt Go.RowKit
open Go.ChangeMaps (open_string shut_string)
set_option linter.unusedVariables false

theorem own : ownKnob Trym.prog.godebug = none := by kernel_rfl
theorem laidOut : laidOutB Trym.prog = true := by kernel_rfl
theorem cells9 : Trym.prog.cellsOf 9 = 1 := by kernel_rfl

/-- A pointer to a string, opened. -/
theorem open_str {H : Type} {enc : TypeId × Value → H} {w : World} {base b0 : Nat} {r : Reach} {spare : Nat → Bool} {held : Bool} {v : Value} {d : DataW H} {ps : List MemPlace}
    (hval : Value.okWide Trym.prog w r b0 22 v) (hd : DataW.Trod enc Trym.prog w base spare held 22 v d ps) : IsStr w v := by
  rcases ChangeShapes.open_ptr Trym.underlying22 (by rw [cells9]; omega) hval hd with ⟨h, _⟩ | ⟨b, off, cs, y, fuel, rfl, rfl, rfl, _, hcell, hy⟩
  · exact .inl h
  · obtain ⟨s, rfl, _, hs⟩ := DataW.trod_string Trym.underlying9 hy
    have := hcell 0 (by rw [cells9]; omega)
    exact .inr ⟨b, off, s, rfl, by simpa using this, hs⟩

set_option maxRecDepth 100000 in
theorem lifted (os : Os) (started : os.Started) (H : Type) (enc : TypeId × Value → H) :
    ReturnsInHanded {} Trym.checked os 3 .any (Rows.fnGivenIsFirstOfSinglesSpec.pre6 enc Trym.prog Trym.f3 Rows.fnGivenIsFirstOfSinglesRow.domain false) (Rows.fnGivenIsFirstOfSinglesSpec.post enc Trym.prog Trym.f3 false true false false) := by
  refine returnsInHanded_of_change (C := Trym.checked) own started (by kernel_rfl) Trym.func3
    (ChangeSpec.witness6 (enc := enc) (C := Trym.checked) false ⟨#[], #[.pointer none, .pointer none, .pointer none], []⟩ 8 (by kernel_rfl) (by kernel_rfl) (by kernel_rfl) (by kernel_rfl)) ?_
  intro W base args ds gs before hval0 hW hcnd _
  have hval : ∀ (j : Nat) t v, Trym.f3.params[j]? = some t → args[j]? = some v → Value.okWide Trym.prog W .any base t v := hval0
  have hW' := hW
  obtain ⟨p, q, hA0, hV, rfl, hfz, hnd⟩ := hW
  have hA : DataW.TrodAll enc Trym.prog W 0 (fun _ => true) true Trym.f3.params.toList args.toList ds p := hA0
  rw [Trym.params3] at hA hval
  obtain ⟨v0, vs0, d0, ds0, p0, q0, hargs, rfl, rfl, h0, r0⟩ := trodAll_cons hA
  obtain ⟨v1, vs1, d1, ds1, p1, q1, rfl, rfl, rfl, h1, r1⟩ := trodAll_cons r0
  obtain ⟨v2, vs2, d2, ds2, p2, q2, rfl, rfl, rfl, h2, r2⟩ := trodAll_cons r1
  obtain ⟨rfl, rfl, rfl⟩ := trodAll_nil r2
  obtain rfl : args = #[v0, v1, v2] := by cases args; simp_all
  obtain ⟨rfl, rfl⟩ := trodVars_none hV
  have lt0 : ∀ x ∈ p0, x.block < W.heap.size := by obtain ⟨m, hm⟩ := h0; exact DataW.trod_lt m _ _ _ hm
  have lt1 : ∀ x ∈ p1, x.block < W.heap.size := by obtain ⟨m, hm⟩ := h1; exact DataW.trod_lt m _ _ _ hm
  have lt2 : ∀ x ∈ p2, x.block < W.heap.size := by obtain ⟨m, hm⟩ := h2; exact DataW.trod_lt m _ _ _ hm
  have i0 := open_str (hval 0 22 v0 rfl rfl) h0
  have i1 := open_str (hval 1 22 v1 rfl rfl) h1
  have i2 := open_str (hval 2 22 v2 rfl rfl) h2
  clear hA0 hval0
  refine (law3 W v0 v1 v2 i0 i1 i2).mono fun e W' ⟨he, bel⟩ => ?_
  subst he
  exact ⟨_, rfl, _, _, _, [], _, [], hW', trodAll_mk1 (shut_bool Trym.underlying4 _), (trodAll_cons_mk (Below.trod laidOut (by kernel_rfl) (of_decide_eq_true (by kernel_rfl)) h0 bel lt0) (trodAll_cons_mk (Below.trod laidOut (by kernel_rfl) (of_decide_eq_true (by kernel_rfl)) h1 bel lt1) (trodAll_cons_mk (Below.trod laidOut (by kernel_rfl) (of_decide_eq_true (by kernel_rfl)) h2 bel lt2) trodAll_mk0))), rfl, bel.frame _, fun h => by cases h⟩

theorem over : Rows.fnGivenIsFirstOfSinglesRow.holds Trym.pinned (OpenSpec.ofChange Rows.fnGivenIsFirstOfSinglesSpec) :=
  OpenClaim.holds_of_wide 3 Trym.f3 rfl rfl rfl rfl rfl rfl rfl ⟨rfl, rfl, rfl, rfl, rfl⟩ rfl rfl rfl rfl rfl (by kernel_rfl) Trym.func3 (by kernel_rfl)
    (of_decide_eq_true (by kernel_rfl)) (by unfold Func.isWrapper; first | (rw [if_pos (by decide +kernel)]; kernel_rfl) | (rw [if_neg (by decide +kernel)]; exact ⟨rfl, rfl⟩))
    (fun os started H enc _ => lifted os started H enc)

/-- THE STATEMENT -/
theorem proved : Rows.FnGivenIsFirstOfSinglesSaid :=
  over
#print axioms proved
end Go.Proofs.Qxb6617197aMods.fnGivenIsFirstOfSingles
