import Derived.Test.Qxb6617864aModsSwap
namespace Go.Proofs.Qxb6617864aMods
open Go.ChangeShapes Go.WideShapes Go.ChangeAt Go.RowKit
open Plain

set_option maxHeartbeats 1000000 in
theorem bytes9 (s : ByteArray) (i j c : Int) (hs : s.size ≤ maxLen) (w : World) :
    Calls Trym.prog 9 #[.string s, .int .i64 i, .int .i64 j, .int .u8 c] w fun e w' => (∃ r, e = .returned (.bool r)) ∧ w' = w := by
  unfold maxLen at hs
  go_enter Trym.func9, Trym.ntmps9
  go_wp2
  all_goals (go_ret; exact ⟨⟨_, rfl⟩, rfl⟩)

theorem zz_is (name pat : ByteArray) (hN : name.size ≤ 1048576) (hP : pat.size ≤ 1048576) (b : Bool) (h : mt name pat = b) (w : World) :
    Calls Trym.prog 7 #[.string name, .string pat] w fun e w' => e = .returned (.bool b) ∧ ∃ n, w' = w.drewN n := by
  rw [← h]; exact zzmatch name pat hN hP w
theorem conv_one (W : World) (c b : Nat) (hb : b = W.heap.size) :
    (convert 26 9 (.slice (some ⟨b, 0, none⟩) 1 1)).run Trym.prog (W.alloc (.cells #[.int .u8 (c : Int)] 5)) = .ok (.string (strOfNums [(c : Int)])) (W.alloc (.cells #[.int .u8 (c : Int)] 5)) := by
  subst hb
  refine run_convert_bytes_arg (P := Trym.prog) _ 26 5 Trym.underlying26 Trym.underlying5 W.heap.size 0 1 1 [(c : Int)] rfl (fun i hi => ?_) 9 Trym.underlying9
  obtain rfl : i = 0 := by omega
  simp
theorem zz_cut (s : ByteArray) (i j : Nat) (hs : s.size ≤ 4096) (hij : i ≤ j) (hj : j ≤ s.size) (w : World) :
    Calls Trym.prog 7 #[.string s, .string (s.extract 0 i ++ ⟨#[42]⟩ ++ s.extract j s.size)] w fun e w' => e = .returned (.bool true) ∧ ∃ n, w' = w.drewN n :=
  zz_is s (cut s i j) (by omega) (by have := cut_size s hij hj; omega) true (mt_cut s hij) w
theorem swap_cut (s : ByteArray) (i j : Nat) (hs : s.size ≤ 4096) (hij : i ≤ j) (hj : j ≤ s.size) (w : World) :
    Calls Trym.prog 10 #[.string (s.extract 0 i ++ ⟨#[42]⟩ ++ s.extract j s.size)] w fun e w' => e = .returned (.string (swp (cut s i j))) ∧ Below w.heap.size w w' :=
  swap (cut s i j) (by have := cut_size s hij hj; omega) w

set_option maxRecDepth 100000 in
set_option maxHeartbeats 2000000 in
theorem cuts_core (s : ByteArray) (i j c : Nat) (hs : s.size ≤ 4096) (hij : i ≤ j) (hj : j ≤ s.size) (w : World) :
    Calls Trym.prog 4 #[.string s, .int .i64 (i : Int), .int .i64 (j : Int), .int .u8 (c : Int)] w fun e w' => e = .returned (.bool true) ∧ Below w.heap.size w w' := by
  have q1 : (i : Int) ≤ (j : Int) := by omega
  have q2 : (j : Int) ≤ (s.size : Int) := by omega
  have q3 : ¬ (i : Int) < 0 := by omega
  go_enter Trym.func4, Trym.ntmps4
  go_wp2_with fail
  refine (bytes9 s i j c (by unfold maxLen; omega) _).mono ?_
  rintro e w' ⟨⟨r, rfl⟩, rfl⟩
  cases r
  · go_wp2
    go_ret
    exact ⟨rfl, Below.refl _ _⟩
  · go_wp2_with fail
    go_quiet (fail)
    go_wp2_with fail
    refine (zz_is s s (by omega) (by omega) true (mt_self s) _).mono ?_
    rintro e w1 ⟨rfl, n1, rfl⟩
    go_wp2_with fail
    refine (zz_cut s i j hs hij hj _).mono ?_
    rintro e w1 ⟨rfl, n2, rfl⟩
    go_wp2_with fail
    refine (swap s (by omega) _).mono ?_
    rintro e w1 ⟨rfl, hb1⟩
    have HB1 : Hid (Below w'.heap.size w' w1) := (below_drewN (Below.refl w'.heap.size w') _).trans hb1
    clear hb1
    go_wp2_with fail
    refine (zz_is (swp s) s (by rw [swp_size]; omega) (by omega) true (mt_swap_name s) _).mono ?_
    rintro e w2 ⟨rfl, n3, rfl⟩
    go_wp2_with fail
    refine (swap_cut s i j hs hij hj _).mono ?_
    rintro e w2 ⟨rfl, hb2⟩
    have HB2 : Hid (Below w'.heap.size w' w2) := HB1.out.trans (((below_drewN (Below.refl w1.heap.size w1) _).trans hb2).mono HB1.out.size)
    clear hb2
    go_wp2_with fail
    refine (zz_is s (swp (cut s i j)) (by omega) (by rw [swp_size]; have := cut_size s hij hj; omega) true (mt_swap_cut s hij) _).mono ?_
    rintro e w3 ⟨rfl, n4, rfl⟩
    go_wp2_with fail
    refine (contains s (by omega) _).mono ?_
    cases hst : hasStar s
    · rintro e w3 ⟨rfl, hw⟩
      rw [hw]
      clear hw w3
      have hcv := conv_one (w2.drewN n4) c w2.heap.size rfl
      have HB3 : Hid (Below w'.heap.size w' ((w2.drewN n4).alloc (.cells #[.int .u8 (c : Int)] 5))) := (below_drewN HB2.out n4).alloc HB2.out.size _
      have HL : Hid (mt (s ++ strOfNums [(c : Int)]) s = false) := mt_len hst (by rw [ByteArray.size_append, strOfNums_size]; simp)
      have HT : Hid (0 < s.size → mt (s.extract 0 (s.size - 1)) s = false) := fun h => mt_len hst (by rw [ByteArray.size_extract]; omega)
      have HZ : Hid ((s ++ strOfNums [(c : Int)]).size ≤ 1048576) := by show _ ≤ _; rw [ByteArray.size_append, strOfNums_size]; simp; omega
      have hz1 : (strOfNums [(c : Int)]).size = 1 := strOfNums_size _
      clear hst
      by_cases h0 : 0 < s.size
      · have h0i : (0 : Int) < (s.size : Int) := by omega
        go_wp2_with fail
        refine (zz_is (s ++ strOfNums [(c : Int)]) s HZ.out (by omega) false HL.out _).mono ?_
        rintro e w3 ⟨rfl, n5, rfl⟩
        go_wp2_with fail
        refine (zz_is (s.extract 0 (s.size - 1)) s (by rw [ByteArray.size_extract]; omega) (by omega) false (HT.out h0) _).mono ?_
        rintro e w3 ⟨rfl, n6, rfl⟩
        go_wp2
        go_ret
        exact ⟨rfl, below_drewN HB3.out _⟩
      · have h0i : decide ((0 : Int) < (s.size : Int)) = false := decide_eq_false (by omega)
        go_wp2_with fail
        refine (zz_is (s ++ strOfNums [(c : Int)]) s HZ.out (by omega) false HL.out _).mono ?_
        rintro e w3 ⟨rfl, n5, rfl⟩
        go_wp2
        go_ret
        exact ⟨rfl, below_drewN HB3.out _⟩
    · rintro e w3 ⟨rfl, rfl⟩
      go_wp2
      go_ret
      exact ⟨rfl, below_drewN HB2.out _⟩

set_option maxRecDepth 100000 in
set_option maxHeartbeats 2000000 in
theorem cuts_out (s : ByteArray) (i j c : Int) (hs : s.size ≤ maxLen) (h : (4096 : Int) < (s.size : Int) ∨ ((s.size : Int) ≤ 4096 ∧ i < 0) ∨ ((s.size : Int) ≤ 4096 ∧ 0 ≤ i ∧ j < i) ∨ ((s.size : Int) ≤ 4096 ∧ 0 ≤ i ∧ i ≤ j ∧ (s.size : Int) < j)) (w : World) :
    Calls Trym.prog 4 #[.string s, .int .i64 i, .int .i64 j, .int .u8 c] w fun e w' => e = .returned (.bool true) ∧ Below w.heap.size w w' := by
  have HB : Hid _ := bytes9 s i j c hs w
  unfold maxLen at hs
  rcases h with h | ⟨h, h'⟩ | ⟨h, h', h''⟩ | ⟨h, h', h'', h'''⟩
  all_goals
    go_enter Trym.func4, Trym.ntmps4
    go_wp2_with fail
    refine Calls.mono HB.out ?_
    clear HB
    rintro e w' ⟨⟨r, rfl⟩, rfl⟩
    cases r
    all_goals
      go_wp2
      go_ret
      exact ⟨rfl, Below.refl _ _⟩

theorem law4 (s : ByteArray) (i j c : Int) (hs : s.size ≤ maxLen) (hc0 : 0 ≤ c) (w : World) :
    Calls Trym.prog 4 #[.string s, .int .i64 i, .int .i64 j, .int .u8 c] w fun e w' => e = .returned (.bool true) ∧ Below w.heap.size w w' := by
  by_cases h : (s.size : Int) ≤ 4096 ∧ 0 ≤ i ∧ i ≤ j ∧ j ≤ (s.size : Int)
  · obtain ⟨h1, h2, h3, h4⟩ := h
    obtain ⟨i, rfl⟩ : ∃ n : Nat, i = (n : Int) := ⟨i.toNat, by omega⟩
    obtain ⟨j, rfl⟩ : ∃ n : Nat, j = (n : Int) := ⟨j.toNat, by omega⟩
    obtain ⟨c, rfl⟩ : ∃ n : Nat, c = (n : Int) := ⟨c.toNat, by omega⟩
    exact cuts_core s i j c (by omega) (by omega) (by omega) w
  · exact cuts_out s i j c hs (by omega) w
end Go.Proofs.Qxb6617864aMods
