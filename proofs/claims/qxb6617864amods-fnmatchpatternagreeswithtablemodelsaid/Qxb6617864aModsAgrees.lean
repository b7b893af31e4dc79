import Derived.Test.Qxb6617864aModsTable
namespace Go.Proofs.Qxb6617864aMods
open Go.ChangeShapes Go.WideShapes Go.ChangeAt Go.RowKit
open Plain

set_option maxHeartbeats 1000000 in
theorem bytes6 (a b : ByteArray) (ha : a.size ≤ maxLen) (hb : b.size ≤ maxLen) (w : World) :
    Calls Trym.prog 6 #[.string a, .string b] w fun e w' => (∃ r, e = .returned (.bool r)) ∧ w' = w := by
  unfold maxLen at ha hb
  go_enter Trym.func6, Trym.ntmps6
  go_wp2
  all_goals (go_ret; exact ⟨⟨_, rfl⟩, rfl⟩)

set_option maxRecDepth 100000 in
set_option maxHeartbeats 2000000 in
theorem law3 (name pat : ByteArray) (ha : name.size ≤ maxLen) (hb : pat.size ≤ maxLen) (w : World) :
    Calls Trym.prog 3 #[.string name, .string pat] w fun e w' => e = .returned (.bool true) ∧ Below w.heap.size w w' := by
  go_enter Trym.func3, Trym.ntmps3
  go_wp2_with fail
  refine (bytes6 name pat ha hb _).mono ?_
  rintro e w' ⟨⟨r, rfl⟩, rfl⟩
  unfold maxLen at ha hb
  cases r
  · go_wp2
    go_ret
    exact ⟨rfl, Below.refl _ _⟩
  · by_cases h1 : (name.size : Int) ≤ 4096
    · by_cases h2 : (pat.size : Int) ≤ 4096
      · go_wp2_with fail
        refine (zzmatch name pat (by omega) (by omega) _).mono ?_
        rintro e w1 ⟨rfl, n1, rfl⟩
        go_wp2_with fail
        refine (table name pat (by omega) (by omega) _).mono ?_
        rintro e w1 ⟨rfl, hbel⟩
        go_wp2
        go_ret
        exact ⟨ret_bool (by simp), (below_drewN (Below.refl _ _) n1).trans hbel⟩
      · go_wp2
        go_ret
        exact ⟨rfl, Below.refl _ _⟩
    · go_wp2
      go_ret
      exact ⟨rfl, Below.refl _ _⟩
end Go.Proofs.Qxb6617864aMods
