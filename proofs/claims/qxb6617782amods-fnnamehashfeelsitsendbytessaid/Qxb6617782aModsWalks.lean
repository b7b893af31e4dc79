import Derived.Test.Qxb6617782aModsRows
import Derived.Test.Qxb6617782aModsHash
import Derived.WalkKit
import Derived.ProofKit
import Derived.Below
import Derived.Outline
import Derived.WalkLawsBesides
import Derived.WalkSpells
import Derived.Laws.Bits64
import Derived.Laws.BitsAllLaws
import Derived.Lib.EndianBits
import Derived.Deep.QuietTactic
import Derived.BigQuiet
namespace Go.Proofs.Qxb6617782aMods
open Go.ChangeShapes Go.WideShapes Go.ChangeAt Go.RowKit
open Plain

/-- Byte i of s (0 beyond its end). -/
def byt (s : ByteArray) (i : Nat) : Nat := (s.data.toList.getD i 0).toNat
theorem byt_lt (s : ByteArray) (i : Nat) : byt s i < 256 := UInt8.toNat_lt _
theorem byt_get (s : ByteArray) (i : Nat) (h : i < s.size) : (s[i]'h).toNat = byt s i := by
  have h' : i < s.data.toList.length := by simpa using h
  have : s.data.toList.getD i 0 = s[i]'h := by
    rw [List.getD_eq_getElem?_getD, List.getElem?_eq_getElem h']; rfl
  unfold byt; rw [this]

/-- The eight bytes of s from k on, the least first. -/
def wrd (s : ByteArray) (k : Nat) : Nat := byt s k + byt s (k + 1) * 256 + byt s (k + 2) * 65536 + byt s (k + 3) * 16777216 + byt s (k + 4) * 4294967296 + byt s (k + 5) * 1099511627776 + byt s (k + 6) * 281474976710656 + byt s (k + 7) * 72057594037927936
theorem wrd_lt (s : ByteArray) (k : Nat) : wrd s k < W64 := by
  have h0 := byt_lt s k
  have h1 := byt_lt s (k + 1)
  have h2 := byt_lt s (k + 2)
  have h3 := byt_lt s (k + 3)
  have h4 := byt_lt s (k + 4)
  have h5 := byt_lt s (k + 5)
  have h6 := byt_lt s (k + 6)
  have h7 := byt_lt s (k + 7)
  unfold wrd W64; omega

theorem ret_u64 {a b : Int} (h : a = b) : Ending.returned (.int .u64 a) = .returned (.int .u64 b) := by rw [h]

theorem or8 {a0 a1 a2 a3 a4 a5 a6 a7 : Nat} (h0 : a0 < 256) (h1 : a1 < 256) (h2 : a2 < 256) (h3 : a3 < 256) (h4 : a4 < 256) (h5 : a5 < 256) (h6 : a6 < 256) (h7 : a7 < 256) :
    bits .or .u64 (bits .or .u64 (bits .or .u64 (bits .or .u64 (bits .or .u64 (bits .or .u64 (bits .or .u64 (IntKind.u64.wrap (a0 : Int)) (IntKind.u64.wrap (IntKind.u64.wrap (a1 : Int) * 256)))
      (IntKind.u64.wrap (IntKind.u64.wrap (a2 : Int) * 65536))) (IntKind.u64.wrap (IntKind.u64.wrap (a3 : Int) * 16777216))) (IntKind.u64.wrap (IntKind.u64.wrap (a4 : Int) * 4294967296)))
      (IntKind.u64.wrap (IntKind.u64.wrap (a5 : Int) * 1099511627776))) (IntKind.u64.wrap (IntKind.u64.wrap (a6 : Int) * 281474976710656))) (IntKind.u64.wrap (IntKind.u64.wrap (a7 : Int) * 72057594037927936))
    = ((a0 + a1 * 256 + a2 * 65536 + a3 * 16777216 + a4 * 4294967296 + a5 * 1099511627776 + a6 * 281474976710656 + a7 * 72057594037927936 : Nat) : Int) := by
  simp (disch := omega) only [u64_wrap_id, u64_or8, u64_or16, u64_or24, u64_or32, u64_or40, u64_or48, u64_or56]
  omega

set_option maxHeartbeats 1000000 in
theorem eight (s : ByteArray) (h : 8 ≤ s.size) (hs : s.size ≤ 1048576) (w : World) :
    Calls Trym.prog 13 #[.string s] w fun e w' => e = .returned (.int .u64 ((wrd s 0 : Nat) : Int)) ∧ ∃ n, w' = w.drewN n := by
  have q0 : 0 < s.size := by omega
  have q1 : (1 : Int) < (s.size : Int) := by omega
  have q2 : (2 : Int) < (s.size : Int) := by omega
  have q3 : (3 : Int) < (s.size : Int) := by omega
  have q4 : (4 : Int) < (s.size : Int) := by omega
  have q5 : (5 : Int) < (s.size : Int) := by omega
  have q6 : (6 : Int) < (s.size : Int) := by omega
  have q7 : (7 : Int) < (s.size : Int) := by omega
  go_enter Trym.func13, Trym.ntmps13
  go_wp2
  go_quiet (fail)
  go_wp2
  go_ret
  refine ⟨ret_u64 ?_, _, rfl⟩
  simp only [byt_get]
  exact or8 (byt_lt _ _) (byt_lt _ _) (byt_lt _ _) (byt_lt _ _) (byt_lt _ _) (byt_lt _ _) (byt_lt _ _) (byt_lt _ _)

/-! ### zzWord -/
/-- What has been gathered behind d rounds: bytes k + 7, k + 6, .. -/
def part (s : ByteArray) (k : Nat) : Nat → Nat
  | 0 => 0
  | d + 1 => part s k d * 256 + byt s (k + (7 - d))
theorem part_lt (s : ByteArray) (k : Nat) : ∀ d, part s k d < 256 ^ d
  | 0 => by simp [part]
  | d + 1 => by
    have h := part_lt s k d
    have hb := byt_lt s (k + (7 - d))
    show part s k d * 256 + byt s (k + (7 - d)) < 256 ^ d * 256
    omega
theorem part_all (s : ByteArray) (k : Nat) : part s k 8 = wrd s k := by
  simp only [part, wrd, Nat.reduceSub, Nat.add_zero]
  omega
theorem or_step {p b : Nat} (hp : p < 72057594037927936) (hb : b < 256) : bits .or .u64 (IntKind.u64.wrap ((p : Int) * 256)) (IntKind.u64.wrap (b : Int)) = ((p * 256 + b : Nat) : Int) := by
  rw [u64_wrap_id (x := (p : Int) * 256) (by omega) (by omega), u64_wrap_id (x := (b : Int)) (by omega) (by omega)]
  have e : ((p : Int) * 256) = ((p * 256 : Nat) : Int) := by omega
  rw [e, u64_or_nat _ _ (by omega) (by omega), nat_join 8 _ _ (by omega) (by omega)]

set_option maxHeartbeats 1000000 in
theorem zword (s : ByteArray) (k : Nat) (h : k + 8 ≤ s.size) (hs : s.size ≤ 1048576) (w : World) :
    Calls Trym.prog 12 #[.string s, .int .i64 k] w fun e w' => e = .returned (.int .u64 ((wrd s k : Nat) : Int)) ∧ w' = w := by
  go_enter Trym.func12, Trym.ntmps12
  go_wp2
  go_loop [5, 6] (fun v j => ∃ t : Nat, t ≤ 8 ∧ j = .int .i64 ((t : Int) - 1) ∧ v = .int .u64 ((part s k (8 - t) : Nat) : Int)) (fun _ j => (intOf j + 1).toNat)
  case atStart => exact ⟨8, by omega, rfl, rfl⟩
  case round =>
    obtain ⟨t, ht, rfl, rfl⟩ := hrel
    cases t with
    | zero =>
      go_wp2
      go_ret
      exact ⟨ret_u64 (by rw [part_all]), rfl⟩
    | succ t =>
      have e1 : (((t + 1 : Nat) : Int) - 1) = (t : Int) := by omega
      rw [e1]
      have hp : part s k (7 - t) < 72057594037927936 := Nat.lt_of_lt_of_le (part_lt s k (7 - t)) (Nat.le_trans (Nat.pow_le_pow_right (by omega) (show 7 - t ≤ 7 by omega)) (by decide))
      have HP : Hid (part s k (7 - t) < 72057594037927936) := hp
      clear hp
      go_wp2
      go_round
      case rel =>
        refine ⟨t, by omega, rfl, ?_⟩
        rw [byt_get, or_step HP.out (byt_lt _ _), show 8 - t = (7 - t) + 1 by omega]
        show _ = Value.int .u64 ((part s k (7 - t) * 256 + byt s (k + (7 - (7 - t))) : Nat) : Int)
        rw [show 7 - (7 - t) = t by omega]
      case measure => simp [intOf]

/-! ### zzInvOdd, zzUnmix -/
def invI (x : Int) : Nat → Int
  | 0 => x
  | k + 1 => IntKind.u64.wrap (invI x k * IntKind.u64.wrap (2 - IntKind.u64.wrap (x * invI x k)))

set_option maxHeartbeats 1000000 in
theorem invOdd (x : Int) (w : World) :
    Calls Trym.prog 10 #[.int .u64 x] w fun e w' => e = .returned (.int .u64 (invI x 6)) ∧ w' = w := by
  go_enter Trym.func10, Trym.ntmps10
  go_wp2
  go_loop [3, 4] (fun v i => ∃ k : Nat, k ≤ 6 ∧ i = .int .i64 k ∧ v = .int .u64 (invI x k)) (fun _ i => 6 - (intOf i).toNat)
  case atStart => exact ⟨0, by omega, rfl, rfl⟩
  case round =>
    obtain ⟨k, hk, rfl, rfl⟩ := hrel
    by_cases hlt : k < 6
    · go_wp2
      go_round
      case rel => exact ⟨k + 1, by omega, by go_num, rfl⟩
      case measure => simp [intOf]; omega
    · obtain rfl : k = 6 := by omega
      go_wp2
      go_ret
      exact ⟨rfl, rfl⟩

set_option maxHeartbeats 1000000 in
theorem unmixW (z i : Nat) (w : World) (hz : (z : Int) ≤ 18446744073709551615) :
    Calls Trym.prog 11 #[.int .u64 z, .int .u64 i] w fun e w' => e = .returned (.int .u64 (((z ^^^ z / 4294967296) * i % 18446744073709551616 : Nat) : Int)) ∧ w' = w := by
  go_enter Trym.func11, Trym.ntmps11
  go_wp2
  go_ret
  exact ⟨ret_u64 (mixStep_u64 z 4294967296 i (by omega)), rfl⟩
end Go.Proofs.Qxb6617782aMods
