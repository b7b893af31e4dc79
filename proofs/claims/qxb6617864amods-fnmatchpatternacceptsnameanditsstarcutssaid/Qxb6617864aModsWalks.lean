import Derived.Test.Qxb6617864aModsRows
import Derived.Test.Qxb6617864aModsMatch
import Derived.WalkKit
import Derived.ProofKit
import Derived.OpenShut
import Derived.Below
import Derived.Outline
import Derived.WalkLawsBesides
import Derived.WalkSpells
import Derived.Deep.QuietTactic
import Derived.BigQuiet
namespace Go.Proofs.Qxb6617864aMods
open Go.ChangeShapes Go.WideShapes Go.ChangeAt Go.RowKit

/-- A letter in lower case. -/
def low (b : Int) : Int := if 65 ≤ b ∧ b ≤ 90 then b + 32 else b
theorem low_up {b : Int} (h : 65 ≤ b) (h' : b ≤ 90) : low b = b + 32 := if_pos ⟨h, h'⟩
theorem low_no {b : Int} (h : ¬ (65 ≤ b ∧ b ≤ 90)) : low b = b := if_neg h
theorem low_bd {b : Int} (h : 0 ≤ b) (h' : b ≤ 255) : 0 ≤ low b ∧ low b ≤ 255 := by unfold low; split <;> omega

theorem ret_u8 {a b : Int} (h : a = b) : Ending.returned (.int .u8 a) = .returned (.int .u8 b) := by rw [h]
theorem ret_bool {a b : Bool} (h : a = b) : Ending.returned (.bool a) = .returned (.bool b) := by rw [h]

set_option maxHeartbeats 1000000 in
theorem lower (b : Int) (h0 : 0 ≤ b) (h1 : b ≤ 255) (w : World) :
    Calls Trym.prog 15 #[.int .u8 b] w fun e w' => e = .returned (.int .u8 (low b)) ∧ w' = w := by
  by_cases h : 65 ≤ b ∧ b ≤ 90
  · obtain ⟨k0, k1⟩ := h
    go_enter Trym.func15, Trym.ntmps15
    go_wp2
    go_ret
    exact ⟨ret_u8 (low_up k0 k1).symm, rfl⟩
  · by_cases k0 : 65 ≤ b
    · have k1 : 90 < b := by omega
      go_enter Trym.func15, Trym.ntmps15
      go_wp2
      go_ret
      exact ⟨ret_u8 (low_no h).symm, rfl⟩
    · have k1 : b < 65 := by omega
      go_enter Trym.func15, Trym.ntmps15
      go_wp2
      go_ret
      exact ⟨ret_u8 (low_no h).symm, rfl⟩

set_option maxHeartbeats 1000000 in
theorem zzlower (b : Int) (h0 : 0 ≤ b) (h1 : b ≤ 255) (w : World) :
    Calls Trym.prog 12 #[.int .u8 b] w fun e w' => e = .returned (.int .u8 (low b)) ∧ w' = w := by
  go_enter Trym.func12, Trym.ntmps12
  go_wp2_with fail
  refine (lower b h0 h1 _).mono ?_
  rintro e w' ⟨rfl, rfl⟩
  go_wp2
  go_ret
  exact ⟨rfl, rfl⟩

/-- The two letters are one, or the two cases of one. -/
def feq (a b : Int) : Bool := low a == low b

theorem feq_true {a b : Int} (h : low a = low b) : true = feq a b := by unfold feq; rw [h]; simp
theorem feq_false {a b : Int} (h : ¬ low a = low b) : false = feq a b := by unfold feq; symm; rw [beq_eq_false_iff_ne]; exact h

set_option maxHeartbeats 2000000 in
theorem fold (a b : Int) (h0 : 0 ≤ a) (h1 : a ≤ 255) (h2 : 0 ≤ b) (h3 : b ≤ 255) (w : World) :
    Calls Trym.prog 13 #[.int .u8 a, .int .u8 b] w fun e w' => e = .returned (.bool (feq a b)) ∧ w' = w := by
  go_enter Trym.func13, Trym.ntmps13
  go_wp2
  all_goals
    go_ret
    first
    | exact ⟨ret_bool (feq_true (by simp only [beq_iff_eq, beq_eq_false_iff_ne, ne_eq] at *; unfold low; split <;> split <;> omega)), rfl⟩
    | exact ⟨ret_bool (feq_false (by simp only [beq_eq_false_iff_ne, ne_eq] at *; unfold low; split <;> split <;> omega)), rfl⟩

theorem low_low (b : Int) : low b = low (low b) := by
  by_cases h : 65 ≤ b ∧ b ≤ 90
  · rw [low_up h.1 h.2, low_no (by omega)]
  · rw [low_no h, low_no h]

theorem low_not_up {b : Int} (h : 65 ≤ low b) : 90 < low b := by
  revert h; unfold low; split <;> omega

set_option maxHeartbeats 2000000 in
theorem law5 (b : Int) (h0 : 0 ≤ b) (h1 : b ≤ 255) (w : World) :
    Calls Trym.prog 5 #[.int .u8 b] w fun e w' => e = .returned (.bool true) ∧ w' = w := by
  have hl := low_bd h0 h1
  have hf : feq b (low b) = true := (feq_true (low_low b)).symm
  obtain ⟨l, hl2⟩ : ∃ l, l = low b := ⟨_, rfl⟩
  have HL : Hid (l = low b) := hl2
  rw [← hl2] at hl hf
  have hu : 65 ≤ l → 90 < l := by rw [hl2]; exact low_not_up
  have hn : l < 65 ∨ 90 < l := by omega
  clear hl2 hu
  rcases hn with hn | hn
  all_goals
    go_enter Trym.func5, Trym.ntmps5
    go_wp2_with fail
    refine (zzlower b h0 h1 _).mono ?_
    rw [← HL.out]
    rintro e w' ⟨rfl, rfl⟩
    go_wp2_with fail
    refine (fold b l h0 h1 hl.1 hl.2 _).mono ?_
    rw [hf]
    rintro e w' ⟨rfl, rfl⟩
    go_wp2_with fail
    go_loop [4] (fun i => ∃ k : Nat, (k : Int) ≤ 256 ∧ i = .int .i64 k) (fun i => 256 - (intOf i).toNat)
    case atStart => exact ⟨0, by omega, rfl⟩
    case round =>
      obtain ⟨k, hk, rfl⟩ := hrel
      by_cases hlt : (k : Int) < 256
      · have hq : (low (k : Int) == l) = feq b (k : Int) := by rw [HL.out]; unfold feq; rw [Bool.beq_comm]
        go_wp2_with fail
        refine (zzlower k (by omega) (by omega) _).mono ?_
        rintro e w' ⟨rfl, rfl⟩
        go_wp2_with fail
        refine (fold b k h0 h1 (by omega) (by omega) _).mono ?_
        rintro e w' ⟨rfl, rfl⟩
        go_wp2
        go_round
        case rel => exact ⟨k + 1, by omega, by go_num⟩
        case measure => simp [intOf]; omega
      · go_wp2
        go_ret
        exact ⟨rfl, rfl⟩
end Go.Proofs.Qxb6617864aMods
