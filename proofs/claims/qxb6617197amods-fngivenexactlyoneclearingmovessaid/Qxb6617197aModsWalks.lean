import Derived.Test.Qxb6617197aModsRows
import Derived.WalkKit
import Derived.ProofKit
import Derived.OpenShut
import Derived.ShutString
import Derived.ChangeOld
import Derived.Below
import Derived.Outline
import Derived.WalkLawsBesides
namespace Go.Proofs.Qxb6617197aMods
open Go.ChangeShapes Go.WideShapes Go.ChangeAt Go.RowKit

/-- What the walk is told of a pointer to a string that came in: nil, or it leads to a cell that holds a string. -/
def IsStr (w : World) (v : Value) : Prop :=
  v = .pointer none ∨ ∃ (b off : Nat) (s : ByteArray), v = .pointer (some ⟨b, off, none⟩) ∧ w.cell? ⟨b, off, none⟩ = some (.string s) ∧ s.size ≤ maxLen

set_option maxHeartbeats 1000000 in
theorem bytes8 (v0 v1 v2 : Value) (w : World) (h0 : IsStr w v0) (h1 : IsStr w v1) (h2 : IsStr w v2) :
    Calls Trym.prog 8 #[v0, v1, v2] w fun e w' => (∃ b, e = .returned (.bool b)) ∧ w' = w := by
  rcases h0 with rfl | ⟨b0, o0, s0, rfl, c0, m0⟩ <;> rcases h1 with rfl | ⟨b1, o1, s1, rfl, c1, m1⟩ <;> rcases h2 with rfl | ⟨b2, o2, s2, rfl, c2, m2⟩
  all_goals
    (try unfold maxLen at m0); (try unfold maxLen at m1); (try unfold maxLen at m2)
    go_enter Trym.func8, Trym.ntmps8
    go_wp2
    all_goals (go_ret; exact ⟨⟨_, rfl⟩, rfl⟩)

def nameR : ByteArray := ⟨#[114, 101, 115, 111, 108, 118, 101, 114]⟩
def nameT : ByteArray := ⟨#[116, 114, 117, 115, 116, 45, 97, 110, 99, 104, 111, 114]⟩
def nameS : ByteArray := ⟨#[115, 101, 114, 118, 101, 114]⟩
def nameN : ByteArray := ⟨#[]⟩

theorem ret_str {a b : ByteArray} (h : a = b) : Ending.returned (.string a) = .returned (.string b) := by rw [h]

/-- What 'given' answers, by which of the three strings are empty. -/
def giv : Bool → Bool → Bool → ByteArray
  | false, _, _ => nameR
  | true, false, _ => nameT
  | true, true, false => nameS
  | true, true, true => nameN
theorem giv1 (b c : Bool) : giv false b c = nameR := rfl
theorem giv2 (c : Bool) : giv true false c = nameT := rfl
theorem giv3 : giv true true false = nameS := rfl
theorem giv4 : giv true true true = nameN := rfl

set_option maxHeartbeats 1000000 in
theorem given (w : World) (b0 o0 b1 o1 b2 o2 : Nat) (s0 s1 s2 : ByteArray) (c0 : w.cell? ⟨b0, o0, none⟩ = some (.string s0)) (c1 : w.cell? ⟨b1, o1, none⟩ = some (.string s1)) (c2 : w.cell? ⟨b2, o2, none⟩ = some (.string s2)) :
    Calls Trym.prog 6 #[.pointer (some ⟨b0, o0, none⟩), .pointer (some ⟨b1, o1, none⟩), .pointer (some ⟨b2, o2, none⟩)] w fun e w' =>
      e = .returned (.string (giv s0.toList.isEmpty s1.toList.isEmpty s2.toList.isEmpty)) ∧ ∃ c, w' = w.alloc (.cells c 27) := by
  have l0 := World.block_lt_of_cell? _ _ c0
  have l1 := World.block_lt_of_cell? _ _ c1
  have l2 := World.block_lt_of_cell? _ _ c2
  simp only at l0 l1 l2
  go_enter Trym.func6, Trym.ntmps6
  go_wp2
  · have h0 : s0.toList.isEmpty = false := by simpa using ‹(!s0.toList.isEmpty) = true›
    go_ret
    exact ⟨ret_str (by rw [h0]; rfl), _, rfl⟩
  · have h0 : s0.toList.isEmpty = true := by simpa using ‹(!s0.toList.isEmpty) = false›
    have h1 : s1.toList.isEmpty = false := by simpa using ‹(!s1.toList.isEmpty) = true›
    go_ret
    exact ⟨ret_str (by rw [h0, h1]; rfl), _, rfl⟩
  · have h0 : s0.toList.isEmpty = true := by simpa using ‹(!s0.toList.isEmpty) = false›
    have h1 : s1.toList.isEmpty = true := by simpa using ‹(!s1.toList.isEmpty) = false›
    have h2 : s2.toList.isEmpty = false := by simpa using ‹(!s2.toList.isEmpty) = true›
    go_ret
    exact ⟨ret_str (by rw [h0, h1, h2]; rfl), _, rfl⟩
  · have h0 : s0.toList.isEmpty = true := by simpa using ‹(!s0.toList.isEmpty) = false›
    have h1 : s1.toList.isEmpty = true := by simpa using ‹(!s1.toList.isEmpty) = false›
    have h2 : s2.toList.isEmpty = true := by simpa using ‹(!s2.toList.isEmpty) = false›
    go_ret
    exact ⟨ret_str (by rw [h0, h1, h2]; rfl), _, rfl⟩

theorem empN : (⟨#[]⟩ : ByteArray).toList.isEmpty = true := by decide +kernel
theorem listN : nameN.toList = [] := by decide +kernel
theorem listR : nameR.toList = [114, 101, 115, 111, 108, 118, 101, 114] := by decide +kernel
theorem listT : nameT.toList = [116, 114, 117, 115, 116, 45, 97, 110, 99, 104, 111, 114] := by decide +kernel
theorem listS : nameS.toList = [115, 101, 114, 118, 101, 114] := by decide +kernel

set_option maxHeartbeats 1000000 in
theorem bytes8_true (w : World) (b0 o0 b1 o1 b2 o2 : Nat) (s0 s1 s2 : ByteArray) (c0 : w.cell? ⟨b0, o0, none⟩ = some (.string s0)) (c1 : w.cell? ⟨b1, o1, none⟩ = some (.string s1)) (c2 : w.cell? ⟨b2, o2, none⟩ = some (.string s2))
    (m0 : s0.size ≤ 262144) (m1 : s1.size ≤ 262144) (m2 : s2.size ≤ 262144) :
    Calls Trym.prog 8 #[.pointer (some ⟨b0, o0, none⟩), .pointer (some ⟨b1, o1, none⟩), .pointer (some ⟨b2, o2, none⟩)] w fun e w' => e = .returned (.bool true) ∧ w' = w := by
  go_enter Trym.func8, Trym.ntmps8
  go_wp2
  go_ret; exact ⟨rfl, rfl⟩

end Go.Proofs.Qxb6617197aMods
