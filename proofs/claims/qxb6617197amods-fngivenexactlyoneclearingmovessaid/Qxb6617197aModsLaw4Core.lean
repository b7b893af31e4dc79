import Derived.Test.Qxb6617197aModsWalks
namespace Go.Proofs.Qxb6617197aMods
open Go.ChangeShapes Go.WideShapes Go.ChangeAt Go.RowKit

set_option maxHeartbeats 4000000 in
theorem law4_core (w : World) (b0 o0 b1 o1 b2 o2 : Nat) (s0 s1 s2 : ByteArray) (c0 : w.cell? ⟨b0, o0, none⟩ = some (.string s0)) (c1 : w.cell? ⟨b1, o1, none⟩ = some (.string s1)) (c2 : w.cell? ⟨b2, o2, none⟩ = some (.string s2))
    (m0 : s0.size ≤ 262144) (m1 : s1.size ≤ 262144) (m2 : s2.size ≤ 262144) :
    Calls Trym.prog 4 #[.pointer (some ⟨b0, o0, none⟩), .pointer (some ⟨b1, o1, none⟩), .pointer (some ⟨b2, o2, none⟩)] w fun e w' => e = .returned (.bool true) ∧ Below w.heap.size w w' := by
  have l0 := World.block_lt_of_cell? _ _ c0
  have l1 := World.block_lt_of_cell? _ _ c1
  have l2 := World.block_lt_of_cell? _ _ c2
  simp only at l0 l1 l2
  have lR := listR
  have lT := listT
  have lS := listS
  have lN := listN
  have lE := empN
  have g1 := giv1
  have g2 := giv2
  have g3 := giv3
  have g4 := giv4
  cases h0 : s0.toList.isEmpty <;> cases h1 : s1.toList.isEmpty <;> cases h2 : s2.toList.isEmpty
  all_goals
    go_enter Trym.func4, Trym.ntmps4
    go_wp2_with fail
    refine (bytes8_true _ _ _ _ _ _ _ _ _ _ c0 c1 c2 m0 m1 m2).mono ?_
    rintro e w' ⟨rfl, rfl⟩
    go_wp2_with fail
    refine (given _ _ _ _ _ _ _ s0 s1 s2 (by simp [go_sem]) (by simp [go_sem]) (by simp [go_sem])).mono ?_
    rintro e w1 ⟨rfl, ⟨x1, rfl⟩⟩
    go_wp2_with fail
    refine (given _ _ _ _ _ _ _ ⟨#[]⟩ s1 s2 (by simp [go_sem]) (by simp [go_sem]) (by simp [go_sem])).mono ?_
    rintro e w1 ⟨rfl, ⟨x2, rfl⟩⟩
    go_wp2_with fail
    refine (given _ _ _ _ _ _ _ s0 ⟨#[]⟩ s2 (by simp [go_sem]) (by simp [go_sem]) (by simp [go_sem])).mono ?_
    rintro e w1 ⟨rfl, ⟨x3, rfl⟩⟩
    go_wp2_with fail
    refine (given _ _ _ _ _ _ _ s0 s1 ⟨#[]⟩ (by simp [go_sem]) (by simp [go_sem]) (by simp [go_sem])).mono ?_
    rintro e w1 ⟨rfl, ⟨x4, rfl⟩⟩
    go_wp2
    go_ret
    exact ⟨rfl, by repeat' (first | exact Below.refl _ _ | refine Below.alloc ?_ ?_ _ | (simp only [World.size_alloc]; omega) | exact Nat.le_refl _)⟩

end Go.Proofs.Qxb6617197aMods
