import Derived.Test.Qxb6617782aModsName
namespace Go.Proofs.Qxb6617782aMods
open Go.ChangeShapes Go.WideShapes Go.ChangeAt Go.RowKit
open Plain

theorem invI1 : invI 11400714819323198485 6 = ((i1 : Nat) : Int) := by decide +kernel
theorem invI2 : invI 13787848793156543929 6 = ((i2 : Nat) : Int) := by decide +kernel
theorem inv_m1 (w : World) : Calls Trym.prog 10 #[.int .u64 11400714819323198485] w fun e w' => e = .returned (.int .u64 ((i1 : Nat) : Int)) ∧ w' = w := by
  rw [← invI1]; exact invOdd _ w
theorem inv_m2 (w : World) : Calls Trym.prog 10 #[.int .u64 13787848793156543929] w fun e w' => e = .returned (.int .u64 ((i2 : Nat) : Int)) ∧ w' = w := by
  rw [← invI2]; exact invOdd _ w
theorem unmix_any (z : Nat) (hz : z < W64) (w : World) :
    Calls Trym.prog 11 #[.int .u64 z, .int .u64 ((i1 : Nat) : Int)] w fun e w' => e = .returned (.int .u64 ((unmix z : Nat) : Int)) ∧ w' = w :=
  unmixW z i1 w (by unfold W64 at hz; omega)

theorem back_short (s : ByteArray) (seed : Nat) (hs : s.size < 8) (h0 : seed ^^^ s.size < W64) : nameHash s seed * i2 % W64 = run (seed ^^^ s.size) (bytesTo s s.size) := by
  have h := hash_back h0 (bytesTo s s.size) (l := 0) W64_pos
  rw [nameHash, if_pos hs]
  rwa [Nat.xor_zero] at h
theorem back_long (s : ByteArray) (seed : Nat) (hs : 8 ≤ s.size) (h0 : seed ^^^ s.size < W64) {j : Nat} (hj : (s.size - 1) / 8 = j) :
    bits .xor .u64 ((nameHash s seed * i2 % W64 : Nat) : Int) ((wrd s (s.size - 8) : Nat) : Int) = ((run (seed ^^^ s.size) (wordsTo s j) : Nat) : Int) := by
  rw [xor_eq (mod_lt _) (wrd_lt _ _), nameHash, if_neg (by omega), hash_back h0 _ (wrd_lt _ _), hj]

set_option maxHeartbeats 1000000 in
theorem seed_short (s : ByteArray) (seed : Nat) (hs : (s.size : Int) < 8) (hseed : (seed : Int) ≤ 18446744073709551615) (w : World) :
    Calls Trym.prog 7 #[.string s, .int .u64 ((nameHash s seed : Nat) : Int)] w fun e w' => e = .returned (.int .u64 seed) ∧ ∃ n, w' = w.drewN n := by
  have H0 : Hid (seed ^^^ s.size < W64) := xor_lt (seed_lt hseed) (size_lt (by omega))
  have HS : Hid (seed < W64) := seed_lt hseed
  go_enter Trym.func7, Trym.ntmps7
  go_wp2_with fail
  refine (inv_m1 _).mono ?_
  rintro e w' ⟨rfl, rfl⟩
  go_wp2_with fail
  refine (inv_m2 _).mono ?_
  rintro e w' ⟨rfl, rfl⟩
  go_wp2_with fail
  go_loopw [7, 8] (fun h i wr => ∃ t n : Nat, t ≤ s.size ∧ i = .int .i64 ((t : Int) - 1) ∧ h = .int .u64 ((run (seed ^^^ s.size) (bytesTo s t) : Nat) : Int) ∧ wr = w'.drewN n) (fun _ i _ => (intOf i + 1).toNat)
  case atStart => exact ⟨s.size, 0, by omega, rfl, by rw [mul_eq, back_short s seed (by omega) H0.out], rfl⟩
  case round =>
    obtain ⟨t, n, ht, rfl, rfl, hwr⟩ := hrel
    have HW : Hid (wr = w'.drewN n) := hwr
    clear hwr
    cases t with
    | zero =>
      go_wp2
      go_ret
      exact ⟨ret_u64 (by rw [show run (seed ^^^ s.size) (bytesTo s 0) = seed ^^^ s.size from rfl, xor_eq H0.out (size_lt (by omega)), xor_back]), n, HW.out⟩
    | succ t =>
      have e1 : (((t + 1 : Nat) : Int) - 1) = (t : Int) := by omega
      rw [e1]
      have ht1 : (t : Int) < (s.size : Int) := by omega
      go_wp2
      go_quiet ((go_at_call 11; exact Calls.quiet_of_same (unmix_any _ (run_lt H0.out _) _)))
      go_wp2
      go_roundw
      case rel => exact ⟨t, n + nq, by omega, rfl, by rw [byt_get, u64_wrap_id (x := ((byt s t : Nat) : Int)) (by omega) (by have := byt_lt s t; omega), xor_eq (unmix_lt _) (by have := byt_lt s t; unfold W64; omega), bytesTo_succ, run_snoc, stp, unmix_mix (xor_lt (run_lt H0.out _) (by have := byt_lt s t; unfold W64; omega)), xor_back], by rw [HW.out, World.drewN_drewN]⟩
      case measure => simp [intOf]

theorem zword8 (s : ByteArray) (t : Nat) (h : 8 * t + 8 ≤ s.size) (hs : s.size ≤ 1048576) (w : World) :
    Calls Trym.prog 12 #[.string s, .int .i64 (8 * (t : Int))] w fun e w' => e = .returned (.int .u64 ((wrd s (8 * t) : Nat) : Int)) ∧ w' = w := by
  rw [show (8 * (t : Int)) = ((8 * t : Nat) : Int) by omega]
  exact zword s (8 * t) h hs w

set_option maxHeartbeats 1000000 in
theorem seed_long (s : ByteArray) (seed : Nat) (hs : 8 ≤ s.size) (hm : s.size ≤ 1048576) (hseed : (seed : Int) ≤ 18446744073709551615) (w : World) :
    Calls Trym.prog 7 #[.string s, .int .u64 ((nameHash s seed : Nat) : Int)] w fun e w' => e = .returned (.int .u64 seed) ∧ w' = w := by
  have H0 : Hid (seed ^^^ s.size < W64) := xor_lt (seed_lt hseed) (size_lt (by omega))
  go_enter Trym.func7, Trym.ntmps7
  go_wp2_with fail
  refine (inv_m1 _).mono ?_
  rintro e w' ⟨rfl, rfl⟩
  go_wp2_with fail
  refine (inv_m2 _).mono ?_
  rintro e w' ⟨rfl, rfl⟩
  go_wp2_with fail
  have ez : ((s.size : Int) - 8) = ((s.size - 8 : Nat) : Int) := by omega
  rw [ez]
  refine (zword s (s.size - 8) (by omega) hm _).mono ?_
  rintro e w' ⟨rfl, rfl⟩
  clear ez
  go_wp2_with fail
  go_loop [9, 10] (fun c k => ∃ j : Nat, 8 * j < s.size ∧ c = .int .i64 j ∧ k = .int .i64 ((8 * j : Nat) : Int)) (fun c _ => s.size - (intOf c).toNat)
  case atStart => exact ⟨0, by omega, rfl, rfl⟩
  case round =>
    obtain ⟨j, hj, rfl, rfl⟩ := hrel
    by_cases hlt : 8 * j + 8 < s.size
    · go_wp2
      go_round
      case rel => exact ⟨j + 1, by omega, by go_num, by go_num⟩
      case measure => simp [intOf]; omega
    · have ej : (s.size - 1) / 8 = j := by omega
      have EJ : Hid ((s.size - 1) / 8 = j) := ej
      clear ej
      go_wp2_with fail
      go_loop [7, 11] (fun h i => ∃ t : Nat, t ≤ j ∧ i = .int .i64 ((t : Int) - 1) ∧ h = .int .u64 ((run (seed ^^^ s.size) (wordsTo s t) : Nat) : Int)) (fun _ i => (intOf i + 1).toNat)
      case atStart => exact ⟨j, by omega, rfl, by rw [mul_eq, back_long s seed hs H0.out EJ.out]⟩
      case round =>
        obtain ⟨t, ht, rfl, rfl⟩ := hrel
        cases t with
        | zero =>
          go_wp2
          go_ret
          exact ⟨ret_u64 (by rw [show run (seed ^^^ s.size) (wordsTo s 0) = seed ^^^ s.size from rfl, xor_eq H0.out (size_lt (by omega)), xor_back]), rfl⟩
        | succ t =>
          have e1 : (((t + 1 : Nat) : Int) - 1) = (t : Int) := by omega
          rw [e1]
          go_wp2_with fail
          refine (unmix_any _ (run_lt H0.out _) _).mono ?_
          rintro e w' ⟨rfl, rfl⟩
          go_wp2_with fail
          refine (zword8 s t (by omega) hm _).mono ?_
          rintro e w' ⟨rfl, rfl⟩
          go_wp2
          go_round
          case rel => exact ⟨t, by omega, rfl, by rw [xor_eq (unmix_lt _) (wrd_lt _ _), wordsTo_succ, run_snoc, stp, unmix_mix (xor_lt (run_lt H0.out _) (wrd_lt _ _)), xor_back]⟩
          case measure => simp [intOf]

theorem seed_any (s : ByteArray) (seed : Nat) (hm : s.size ≤ 1048576) (hseed : (seed : Int) ≤ 18446744073709551615) (w : World) :
    Calls Trym.prog 7 #[.string s, .int .u64 ((nameHash s seed : Nat) : Int)] w fun e w' => e = .returned (.int .u64 seed) ∧ ∃ n, w' = w.drewN n := by
  by_cases h : s.size < 8
  · exact seed_short s seed (by omega) hseed w
  · exact (seed_long s seed (by omega) hm hseed w).mono fun e w' ⟨he, hw⟩ => ⟨he, 0, hw⟩

set_option maxHeartbeats 1000000 in
theorem bytes5 (s : ByteArray) (x : Int) (hs : s.size ≤ maxLen) (w : World) :
    Calls Trym.prog 5 #[.string s, .int .u64 x] w fun e w' => e = .returned (.bool (decide ((s.size : Int) ≤ 1048576))) ∧ w' = w := by
  unfold maxLen at hs
  by_cases h : (s.size : Int) ≤ 1048576
  · go_enter Trym.func5, Trym.ntmps5
    go_wp2
    go_ret
    exact ⟨by simp [h], rfl⟩
  · go_enter Trym.func5, Trym.ntmps5
    go_wp2
    go_ret
    exact ⟨by simp [h], rfl⟩

theorem grown_drewN {w w' : World} (h : Grown w w') (n : Nat) : Grown w (w'.drewN n) := h

set_option maxHeartbeats 1000000 in
theorem law3 (s : ByteArray) (seed : Nat) (hs : s.size ≤ maxLen) (hseed : (seed : Int) ≤ 18446744073709551615) (w : World) :
    Calls Trym.prog 3 #[.string s, .int .u64 seed] w fun e w' => e = .returned (.bool true) ∧ Grown w w' := by
  by_cases h : (s.size : Int) ≤ 1048576
  · have hd : decide ((s.size : Int) ≤ 1048576) = true := decide_eq_true h
    go_enter Trym.func3, Trym.ntmps3
    go_wp2_with fail
    refine (bytes5 s seed hs _).mono ?_
    rw [hd]
    rintro e w' ⟨rfl, rfl⟩
    go_wp2_with fail
    refine (zzname s seed (by omega) hseed _).mono ?_
    rintro e w1 ⟨rfl, n, rfl⟩
    go_wp2_with fail
    refine (seed_any s seed (by omega) hseed _).mono ?_
    rintro e w1 ⟨rfl, n1, rfl⟩
    go_wp2
    go_ret
    exact ⟨rfl, grown_drewN (Grown.refl _) _⟩
  · have hd : decide ((s.size : Int) ≤ 1048576) = false := decide_eq_false h
    go_enter Trym.func3, Trym.ntmps3
    go_wp2_with fail
    refine (bytes5 s seed hs _).mono ?_
    rw [hd]
    rintro e w' ⟨rfl, rfl⟩
    go_wp2
    go_ret
    exact ⟨rfl, Grown.refl _⟩
end Go.Proofs.Qxb6617782aMods
