import Derived.Test.Qxb6614793aModsRows
import Derived.WalkKit
import Derived.ProofKit
import Derived.OpenShut
import Derived.Outline
import Derived.WalkLawsBesides
namespace Go.Proofs.Qxb6614793aMods
open Go.ChangeShapes Go.WideShapes Go.ChangeAt Go.RowKit

set_option maxHeartbeats 1000000 in
theorem weight (s : Int) (h0 : 2 ≤ s) (h1 : s ≤ 262144) (w : World) :
    Calls Trym.prog 5 #[.int .i64 s] w fun e w' => e = .returned (.int .i64 (1 + (s - 2) * 9999 / 262142)) ∧ w' = w := by
  go_enter Trym.func5, Trym.ntmps5
  go_wp2
  go_ret
  exact ⟨rfl, rfl⟩

set_option maxHeartbeats 1000000 in
theorem law3 (s : Int) (w : World) :
    Calls Trym.prog 3 #[.int .i64 s] w fun e w' => e = .returned (.bool true) ∧ w' = w := by
  by_cases h : 2 ≤ s ∧ s < 262144
  · obtain ⟨h0, h1⟩ := h
    obtain ⟨a, ha⟩ : ∃ a, a = 1 + (s - 2) * 9999 / 262142 := ⟨_, rfl⟩
    obtain ⟨b, hb⟩ : ∃ b, b = 1 + (s + 1 - 2) * 9999 / 262142 := ⟨_, rfl⟩
    have k1 : (a - 1) * 262142 ≤ (s - 2) * 9999 := by omega
    have k2 : (s - 2) * 9999 < a * 262142 := by omega
    have k3 : b = a ∨ b = a + 1 := by omega
    have k4 : 1 ≤ a := by omega
    have k5 : a ≤ 10000 := by omega
    have HA : Hid (a = 1 + (s - 2) * 9999 / 262142) := ha
    have HB : Hid (b = 1 + (s + 1 - 2) * 9999 / 262142) := hb
    clear ha hb
    rcases k3 with k3 | k3
    · subst k3
      go_enter Trym.func3, Trym.ntmps3
      go_wp2_with fail
      refine (weight s h0 (by omega) _).mono ?_
      rw [← HA.out]
      rintro e w' ⟨rfl, rfl⟩
      go_wp2_with fail
      refine (weight (s + 1) (by omega) (by omega) _).mono ?_
      rw [← HB.out]
      rintro e w' ⟨rfl, rfl⟩
      go_wp2
      go_ret
      exact ⟨rfl, rfl⟩
    · have k6 : (b == a) = false := by rw [beq_eq_false_iff_ne]; omega
      have k7 : (b == a + 1) = true := by rw [beq_iff_eq]; exact k3
      have k8 : b ≤ 10001 := by omega
      have k9 : 1 ≤ b := by omega
      clear k3
      go_enter Trym.func3, Trym.ntmps3
      go_wp2_with fail
      refine (weight s h0 (by omega) _).mono ?_
      rw [← HA.out]
      rintro e w' ⟨rfl, rfl⟩
      go_wp2_with fail
      refine (weight (s + 1) (by omega) (by omega) _).mono ?_
      rw [← HB.out]
      rintro e w' ⟨rfl, rfl⟩
      go_wp2
      go_ret
      exact ⟨rfl, rfl⟩
  · by_cases h0 : s < 2
    · go_enter Trym.func3, Trym.ntmps3
      go_wp2
      go_ret
      exact ⟨rfl, rfl⟩
    · have h1 : 262144 ≤ s := by omega
      clear h
      go_enter Trym.func3, Trym.ntmps3
      go_wp2
      go_ret
      exact ⟨rfl, rfl⟩
end Go.Proofs.Qxb6614793aMods
