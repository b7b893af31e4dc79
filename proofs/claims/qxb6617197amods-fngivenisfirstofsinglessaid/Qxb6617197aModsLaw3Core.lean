import Derived.Test.Qxb6617197aModsWalks
namespace Go.Proofs.Qxb6617197aMods
open Go.ChangeShapes Go.WideShapes Go.ChangeAt Go.RowKit

theorem litR : (⟨#[114, 101, 115, 111, 108, 118, 101, 114]⟩ : ByteArray).toList = [114, 101, 115, 111, 108, 118, 101, 114] := by decide +kernel
theorem litT : (⟨#[116, 114, 117, 115, 116, 45, 97, 110, 99, 104, 111, 114]⟩ : ByteArray).toList = [116, 114, 117, 115, 116, 45, 97, 110, 99, 104, 111, 114] := by decide +kernel
theorem litS : (⟨#[115, 101, 114, 118, 101, 114]⟩ : ByteArray).toList = [115, 101, 114, 118, 101, 114] := by decide +kernel

set_option maxHeartbeats 1000000 in
theorem bytes5 (v0 v1 v2 : Value) (w : World) (h0 : IsStr w v0) (h1 : IsStr w v1) (h2 : IsStr w v2) :
    Calls Trym.prog 5 #[v0, v1, v2] w fun e w' => (∃ b, e = .returned (.bool b)) ∧ w' = w := by
  rcases h0 with rfl | ⟨b0, o0, s0, rfl, c0, m0⟩ <;> rcases h1 with rfl | ⟨b1, o1, s1, rfl, c1, m1⟩ <;> rcases h2 with rfl | ⟨b2, o2, s2, rfl, c2, m2⟩
  all_goals
    (try unfold maxLen at m0); (try unfold maxLen at m1); (try unfold maxLen at m2)
    go_enter Trym.func5, Trym.ntmps5
    go_wp2
    all_goals (go_ret; exact ⟨⟨_, rfl⟩, rfl⟩)

set_option maxHeartbeats 1000000 in
theorem bytes5_true (w : World) (b0 o0 b1 o1 b2 o2 : Nat) (s0 s1 s2 : ByteArray) (c0 : w.cell? ⟨b0, o0, none⟩ = some (.string s0)) (c1 : w.cell? ⟨b1, o1, none⟩ = some (.string s1)) (c2 : w.cell? ⟨b2, o2, none⟩ = some (.string s2))
    (m0 : s0.size ≤ 262144) (m1 : s1.size ≤ 262144) (m2 : s2.size ≤ 262144) :
    Calls Trym.prog 5 #[.pointer (some ⟨b0, o0, none⟩), .pointer (some ⟨b1, o1, none⟩), .pointer (some ⟨b2, o2, none⟩)] w fun e w' => e = .returned (.bool true) ∧ w' = w := by
  go_enter Trym.func5, Trym.ntmps5
  go_wp2
  go_ret; exact ⟨rfl, rfl⟩

set_option maxHeartbeats 4000000 in
theorem law3_core (w : World) (b0 o0 b1 o1 b2 o2 : Nat) (s0 s1 s2 : ByteArray) (c0 : w.cell? ⟨b0, o0, none⟩ = some (.string s0)) (c1 : w.cell? ⟨b1, o1, none⟩ = some (.string s1)) (c2 : w.cell? ⟨b2, o2, none⟩ = some (.string s2))
    (m0 : s0.size ≤ 262144) (m1 : s1.size ≤ 262144) (m2 : s2.size ≤ 262144) :
    Calls Trym.prog 3 #[.pointer (some ⟨b0, o0, none⟩), .pointer (some ⟨b1, o1, none⟩), .pointer (some ⟨b2, o2, none⟩)] w fun e w' => e = .returned (.bool true) ∧ Below w.heap.size w w' := by
  have l0 := World.block_lt_of_cell? _ _ c0
  have l1 := World.block_lt_of_cell? _ _ c1
  have l2 := World.block_lt_of_cell? _ _ c2
  simp only at l0 l1 l2
  have lR := listR
  have lT := listT
  have lS := listS
  have lN := listN
  have lE := empN
  have kR := litR
  have kT := litT
  have kS := litS
  have g1 := giv1
  have g2 := giv2
  have g3 := giv3
  have g4 := giv4
  cases h0 : s0.toList.isEmpty <;> cases h1 : s1.toList.isEmpty <;> cases h2 : s2.toList.isEmpty
  all_goals
    go_enter Trym.func3, Trym.ntmps3
    go_wp2_with fail
    refine (bytes5_true _ _ _ _ _ _ _ _ _ _ c0 c1 c2 m0 m1 m2).mono ?_
    rintro e w' ⟨rfl, rfl⟩
    go_wp2_with fail
    refine (given _ _ _ _ _ _ _ s0 s1 s2 (by simp [go_sem]) (by simp [go_sem]) (by simp [go_sem])).mono ?_
    rintro e w1 ⟨rfl, ⟨x1, rfl⟩⟩
    go_wp2_with fail
    refine (given _ _ _ _ _ _ _ s0 ⟨#[]⟩ ⟨#[]⟩ (by simp [go_sem]) (by simp [go_sem]) (by simp [go_sem])).mono ?_
    rintro e w1 ⟨rfl, ⟨x2, rfl⟩⟩
    go_wp2_with fail
    refine (given _ _ _ _ _ _ _ ⟨#[]⟩ s1 ⟨#[]⟩ (by simp [go_sem]) (by simp [go_sem]) (by simp [go_sem])).mono ?_
    rintro e w1 ⟨rfl, ⟨x3, rfl⟩⟩
    go_wp2_with fail
    refine (given _ _ _ _ _ _ _ ⟨#[]⟩ ⟨#[]⟩ s2 (by simp [go_sem]) (by simp [go_sem]) (by simp [go_sem])).mono ?_
    rintro e w1 ⟨rfl, ⟨x4, rfl⟩⟩
    go_wp2
    go_ret
    exact ⟨rfl, by repeat' (first | exact Below.refl _ _ | refine Below.alloc ?_ ?_ _ | (simp only [World.size_alloc]; omega) | exact Nat.le_refl _)⟩

end Go.Proofs.Qxb6617197aMods
