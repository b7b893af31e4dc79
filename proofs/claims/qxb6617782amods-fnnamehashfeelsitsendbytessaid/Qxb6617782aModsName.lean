import Derived.Test.Qxb6617782aModsWalks
import Derived.Lib.IndexBytes
namespace Go.Proofs.Qxb6617782aMods
open Go.ChangeShapes Go.WideShapes Go.ChangeAt Go.RowKit
open Plain

def bytesTo (s : ByteArray) (k : Nat) : List Nat := (List.range k).map (byt s)
def wordsTo (s : ByteArray) (k : Nat) : List Nat := (List.range k).map (fun j => wrd s (8 * j))
theorem bytesTo_succ (s : ByteArray) (k : Nat) : bytesTo s (k + 1) = bytesTo s k ++ [byt s k] := by simp [bytesTo, List.range_succ]
theorem wordsTo_succ (s : ByteArray) (k : Nat) : wordsTo s (k + 1) = wordsTo s k ++ [wrd s (8 * k)] := by simp [wordsTo, List.range_succ]

/-- The hash of a name. -/
def nameHash (s : ByteArray) (seed : Nat) : Nat :=
  if s.size < 8 then hash (seed ^^^ s.size) (bytesTo s s.size) 0 else hash (seed ^^^ s.size) (wordsTo s ((s.size - 1) / 8)) (wrd s (s.size - 8))

/-! ### The walk's arithmetic, step by step -/
theorem byt_extract (s : ByteArray) (a i : Nat) : byt (s.extract a s.size) i = byt s (a + i) := by
  unfold byt
  rw [Lib.extract_to_end, List.getD_eq_getElem?_getD, List.getD_eq_getElem?_getD, List.getElem?_drop]
theorem wrd_extract (s : ByteArray) (a : Nat) : wrd (s.extract a s.size) 0 = wrd s a := by
  simp only [wrd, byt_extract, Nat.add_zero, Nat.zero_add]
theorem extract_next (s : ByteArray) (k : Nat) : (s.extract (8 * k) s.size).extract 8 (s.size - 8 * k) = s.extract (8 * (k + 1)) s.size := by
  have h : ((s.extract (8 * k) s.size).extract 8 (s.size - 8 * k)).data = (s.extract (8 * (k + 1)) s.size).data := by
    apply Array.toList_inj.1
    rw [Lib.extract_data, Lib.extract_to_end, Lib.extract_to_end, List.drop_drop, List.take_of_length_le (by simp; omega)]
    rfl
  exact ByteArray.ext h
theorem xor_eq {h b : Nat} (hh : h < W64) (hb : b < W64) : bits .xor .u64 (h : Int) (b : Int) = ((h ^^^ b : Nat) : Int) :=
  bits_xor_u64_nat h b hh hb
theorem mul_eq (h m : Nat) : IntKind.u64.wrap ((h : Int) * (m : Int)) = ((h * m % W64 : Nat) : Int) := by
  rw [IntKind.wrap_u64]
  show _ = ((h * m % 18446744073709551616 : Nat) : Int)
  omega
theorem stp_eq {h b : Nat} (hh : h < W64) (hb : b < W64) :
    bits .xor .u64 (IntKind.u64.wrap (bits .xor .u64 (h : Int) (b : Int) * 11400714819323198485)) (IntKind.u64.wrap (bits .xor .u64 (h : Int) (b : Int) * 11400714819323198485) / 4294967296) = ((stp h b : Nat) : Int) := by
  rw [xor_eq hh hb, show (11400714819323198485 : Int) = ((m1 : Nat) : Int) from rfl, mul_eq]
  exact xorShift_u64 ((h ^^^ b) * m1 % W64) 4294967296 (mod_lt _)
theorem stp_eq8 {h b : Nat} (hh : h < W64) (hb : b < 256) :
    bits .xor .u64 (IntKind.u64.wrap (bits .xor .u64 (h : Int) (IntKind.u64.wrap (b : Int)) * 11400714819323198485)) (IntKind.u64.wrap (bits .xor .u64 (h : Int) (IntKind.u64.wrap (b : Int)) * 11400714819323198485) / 4294967296) = ((stp h b : Nat) : Int) := by
  rw [u64_wrap_id (x := (b : Int)) (by omega) (by omega)]
  exact stp_eq hh (by unfold W64; omega)
theorem fin_eq {h l : Nat} (hh : h < W64) (hl : l < W64) : IntKind.u64.wrap (bits .xor .u64 (h : Int) (l : Int) * 13787848793156543929) = (((h ^^^ l) * m2 % W64 : Nat) : Int) := by
  rw [xor_eq hh hl, show (13787848793156543929 : Int) = ((m2 : Nat) : Int) from rfl, mul_eq]
theorem fin_eq0 (h : Nat) : IntKind.u64.wrap ((h : Int) * 13787848793156543929) = (((h ^^^ 0) * m2 % W64 : Nat) : Int) := by
  rw [Nat.xor_zero, show (13787848793156543929 : Int) = ((m2 : Nat) : Int) from rfl, mul_eq]
theorem size_lt {n : Nat} (h : n ≤ 1048576) : n < W64 := by unfold W64; omega
theorem seed_lt {n : Nat} (h : (n : Int) ≤ 18446744073709551615) : n < W64 := by unfold W64; omega

theorem eight_at (s : ByteArray) (a : Nat) (h : a + 8 ≤ s.size) (hs : s.size ≤ 1048576) (w : World) :
    Calls Trym.prog 13 #[.string (s.extract a s.size)] w fun e w' => e = .returned (.int .u64 ((wrd s a : Nat) : Int)) ∧ ∃ n, w' = w.drewN n := by
  have hz : (s.extract a s.size).size = s.size - a := by simp
  rw [← wrd_extract]
  exact eight _ (by omega) (by omega) w

set_option maxHeartbeats 1000000 in
theorem name_short (s : ByteArray) (seed : Nat) (hs : (s.size : Int) < 8) (hseed : (seed : Int) ≤ 18446744073709551615) (w : World) :
    Calls Trym.prog 9 #[.string s, .int .u64 seed] w fun e w' => e = .returned (.int .u64 ((nameHash s seed : Nat) : Int)) ∧ w' = w := by
  have H0 : Hid (seed ^^^ s.size < W64) := xor_lt (seed_lt hseed) (size_lt (by omega))
  go_enter Trym.func9, Trym.ntmps9
  go_wp2
  go_loop [5, 18] (fun h c => ∃ k : Nat, k ≤ s.size ∧ c = .int .i64 k ∧ h = .int .u64 ((run (seed ^^^ s.size) (bytesTo s k) : Nat) : Int)) (fun _ c => s.size - (intOf c).toNat)
  case atStart => exact ⟨0, by omega, rfl, by rw [xor_eq (seed_lt hseed) (size_lt (by omega))]; rfl⟩
  case round =>
    obtain ⟨k, hk, rfl, rfl⟩ := hrel
    by_cases hlt : k < s.size
    · go_wp2
      go_round
      case rel => exact ⟨k + 1, by omega, by go_num, by rw [byt_get, stp_eq8 (run_lt H0.out _) (byt_lt _ _), bytesTo_succ, run_snoc]⟩
      case measure => simp [intOf]; omega
    · obtain rfl : k = s.size := by omega
      go_wp2
      go_ret
      exact ⟨ret_u64 (by rw [fin_eq0, nameHash, if_pos (by omega)]; rfl), rfl⟩

set_option maxHeartbeats 1000000 in
theorem name_long (s : ByteArray) (seed : Nat) (hs : 8 ≤ s.size) (hm : s.size ≤ 1048576) (hseed : (seed : Int) ≤ 18446744073709551615) (w : World) :
    Calls Trym.prog 9 #[.string s, .int .u64 seed] w fun e w' => e = .returned (.int .u64 ((nameHash s seed : Nat) : Int)) ∧ ∃ n, w' = w.drewN n := by
  have H0 : Hid (seed ^^^ s.size < W64) := xor_lt (seed_lt hseed) (size_lt (by omega))
  go_enter Trym.func9, Trym.ntmps9
  go_wp2
  go_loopw [5, 7] (fun h r wr => ∃ k n : Nat, 8 * k < s.size ∧ r = .string (s.extract (8 * k) s.size) ∧ h = .int .u64 ((run (seed ^^^ s.size) (wordsTo s k) : Nat) : Int) ∧ wr = w.drewN n) (fun _ r _ => match r with | .string x => x.size | _ => 0)
  case atStart => exact ⟨0, 0, by omega, by simp, by rw [xor_eq (seed_lt hseed) (size_lt (by omega))]; rfl, rfl⟩
  case round =>
    obtain ⟨k, n, hk, rfl, rfl, rfl⟩ := hrel
    by_cases hlt : 8 * k + 8 < s.size
    · go_wp2_with fail
      refine (eight_at s (8 * k) (by omega) hm _).mono ?_
      rintro e w1 ⟨rfl, n1, rfl⟩
      go_wp2
      go_roundw
      case rel => exact ⟨k + 1, _, by omega, by rw [extract_next s k], by rw [stp_eq (run_lt H0.out _) (wrd_lt _ _), wordsTo_succ, run_snoc], rfl⟩
      case measure => simp; omega
    · go_wp2_with fail
      refine (eight_at s (s.size - 8) (by omega) hm _).mono ?_
      rintro e w1 ⟨rfl, n1, rfl⟩
      go_wp2
      go_ret
      have ek : (s.size - 1) / 8 = k := by omega
      exact ⟨ret_u64 (by rw [fin_eq (run_lt H0.out _) (wrd_lt _ _), nameHash, if_neg (by omega), ek]; rfl), _, rfl⟩

theorem nameHash_lt (s : ByteArray) (seed : Nat) : nameHash s seed < W64 := by
  unfold nameHash; split <;> exact hash_lt _ _ _

/-- nameHash, and ZZnameHash, which hands on to it. -/
theorem name_any (s : ByteArray) (seed : Nat) (hm : s.size ≤ 1048576) (hseed : (seed : Int) ≤ 18446744073709551615) (w : World) :
    Calls Trym.prog 9 #[.string s, .int .u64 seed] w fun e w' => e = .returned (.int .u64 ((nameHash s seed : Nat) : Int)) ∧ ∃ n, w' = w.drewN n := by
  by_cases h : s.size < 8
  · exact (name_short s seed (by omega) hseed w).mono fun e w' ⟨he, hw⟩ => ⟨he, 0, hw⟩
  · exact name_long s seed (by omega) hm hseed w

set_option maxHeartbeats 1000000 in
theorem zzname (s : ByteArray) (seed : Nat) (hm : s.size ≤ 1048576) (hseed : (seed : Int) ≤ 18446744073709551615) (w : World) :
    Calls Trym.prog 6 #[.string s, .int .u64 seed] w fun e w' => e = .returned (.int .u64 ((nameHash s seed : Nat) : Int)) ∧ ∃ n, w' = w.drewN n := by
  go_enter Trym.func6, Trym.ntmps6
  go_wp2_with fail
  refine (name_any s seed hm hseed _).mono ?_
  rintro e w' ⟨rfl, n, rfl⟩
  go_wp2
  go_ret
  exact ⟨rfl, _, rfl⟩
end Go.Proofs.Qxb6617782aMods
