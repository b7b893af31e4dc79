import Derived.Test.Qxb6617197aModsLaw3Core
namespace Go.Proofs.Qxb6617197aMods
open Go.ChangeShapes Go.WideShapes Go.ChangeAt Go.RowKit

/-- Any of them too long: the law says true at once. -/
theorem bytes5_any (w : World) (b0 o0 b1 o1 b2 o2 : Nat) (s0 s1 s2 : ByteArray) (c0 : w.cell? ⟨b0, o0, none⟩ = some (.string s0)) (c1 : w.cell? ⟨b1, o1, none⟩ = some (.string s1)) (c2 : w.cell? ⟨b2, o2, none⟩ = some (.string s2))
    (m0 : s0.size ≤ maxLen) (m1 : s1.size ≤ maxLen) (m2 : s2.size ≤ maxLen) :
    Calls Trym.prog 5 #[.pointer (some ⟨b0, o0, none⟩), .pointer (some ⟨b1, o1, none⟩), .pointer (some ⟨b2, o2, none⟩)] w fun e w' => (∃ b, e = .returned (.bool b)) ∧ w' = w :=
  bytes5 _ _ _ w (.inr ⟨_, _, _, rfl, c0, m0⟩) (.inr ⟨_, _, _, rfl, c1, m1⟩) (.inr ⟨_, _, _, rfl, c2, m2⟩)

set_option maxRecDepth 100000 in
set_option maxHeartbeats 1000000 in
theorem law3_long (w : World) (b0 o0 b1 o1 b2 o2 : Nat) (s0 s1 s2 : ByteArray) (c0 : w.cell? ⟨b0, o0, none⟩ = some (.string s0)) (c1 : w.cell? ⟨b1, o1, none⟩ = some (.string s1)) (c2 : w.cell? ⟨b2, o2, none⟩ = some (.string s2))
    (m0 : s0.size ≤ maxLen) (m1 : s1.size ≤ maxLen) (m2 : s2.size ≤ maxLen)
    (h : (262144 : Int) < (s0.size : Int) ∨ ((s0.size : Int) ≤ 262144 ∧ (262144 : Int) < (s1.size : Int)) ∨ ((s0.size : Int) ≤ 262144 ∧ (s1.size : Int) ≤ 262144 ∧ (262144 : Int) < (s2.size : Int))) :
    Calls Trym.prog 3 #[.pointer (some ⟨b0, o0, none⟩), .pointer (some ⟨b1, o1, none⟩), .pointer (some ⟨b2, o2, none⟩)] w fun e w' => e = .returned (.bool true) ∧ Below w.heap.size w w' := by
  have hb := bytes5_any w b0 o0 b1 o1 b2 o2 s0 s1 s2 c0 c1 c2 m0 m1 m2
  unfold maxLen at m0 m1 m2
  have HB : Hid _ := hb
  clear hb
  rcases h with h | ⟨h, h'⟩ | ⟨h, h', h''⟩
  all_goals
    go_enter Trym.func3, Trym.ntmps3
    go_wp2_with fail
    refine Calls.mono HB.out ?_
    clear HB
    rintro e w' ⟨⟨b, rfl⟩, rfl⟩
    cases b
    all_goals
      go_wp2
      go_ret
      exact ⟨rfl, Below.refl _ _⟩

set_option maxRecDepth 100000 in
set_option maxHeartbeats 1000000 in
theorem law3_nil (w : World) (v0 v1 v2 : Value) (h0 : IsStr w v0) (h1 : IsStr w v1) (h2 : IsStr w v2) (hn : v0 = .pointer none ∨ v1 = .pointer none ∨ v2 = .pointer none) :
    Calls Trym.prog 3 #[v0, v1, v2] w fun e w' => e = .returned (.bool true) ∧ Below w.heap.size w w' := by
  have HB : Hid _ := bytes5 v0 v1 v2 w h0 h1 h2
  rcases h0 with rfl | ⟨b0, o0, s0, rfl, c0, m0⟩ <;> rcases h1 with rfl | ⟨b1, o1, s1, rfl, c1, m1⟩ <;> rcases h2 with rfl | ⟨b2, o2, s2, rfl, c2, m2⟩
  all_goals first
    | (exfalso; simp at hn; done)
    | (clear hn
       go_enter Trym.func3, Trym.ntmps3
       go_wp2_with fail
       refine Calls.mono HB.out ?_
       clear HB
       rintro e w' ⟨⟨b, rfl⟩, rfl⟩
       cases b
       all_goals
         go_wp2
         go_ret
         exact ⟨rfl, Below.refl _ _⟩)

theorem law3 (w : World) (v0 v1 v2 : Value) (h0 : IsStr w v0) (h1 : IsStr w v1) (h2 : IsStr w v2) :
    Calls Trym.prog 3 #[v0, v1, v2] w fun e w' => e = .returned (.bool true) ∧ Below w.heap.size w w' := by
  rcases id h0 with e0 | ⟨b0, o0, s0, rfl, c0, m0⟩
  · exact law3_nil w v0 v1 v2 h0 h1 h2 (.inl e0)
  rcases id h1 with e1 | ⟨b1, o1, s1, rfl, c1, m1⟩
  · exact law3_nil w _ v1 v2 h0 h1 h2 (.inr (.inl e1))
  rcases id h2 with e2 | ⟨b2, o2, s2, rfl, c2, m2⟩
  · exact law3_nil w _ _ v2 h0 h1 h2 (.inr (.inr e2))
  by_cases k0 : s0.size ≤ 262144
  · by_cases k1 : s1.size ≤ 262144
    · by_cases k2 : s2.size ≤ 262144
      · exact law3_core w b0 o0 b1 o1 b2 o2 s0 s1 s2 c0 c1 c2 k0 k1 k2
      · exact law3_long w b0 o0 b1 o1 b2 o2 s0 s1 s2 c0 c1 c2 m0 m1 m2 (.inr (.inr ⟨by omega, by omega, by omega⟩))
    · exact law3_long w b0 o0 b1 o1 b2 o2 s0 s1 s2 c0 c1 c2 m0 m1 m2 (.inr (.inl ⟨by omega, by omega⟩))
  · exact law3_long w b0 o0 b1 o1 b2 o2 s0 s1 s2 c0 c1 c2 m0 m1 m2 (.inl (by omega))
end Go.Proofs.Qxb6617197aMods
