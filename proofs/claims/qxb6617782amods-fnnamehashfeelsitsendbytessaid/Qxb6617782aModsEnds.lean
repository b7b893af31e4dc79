import Derived.Test.Qxb6617782aModsFeels
import Derived.Deep.OwnRows
import Derived.Laws.BytesArg
import Derived.WalkSmall
namespace Go.Proofs.Qxb6617782aMods
open Go.ChangeShapes Go.WideShapes Go.ChangeAt Go.RowKit
open Plain

theorem info5 : (Trym.prog.info? 5).map (fun i => (i.zero, i.size, i.bytes)) = some (some (.int .u8 0), 1, 1) := by kernel_rfl

set_option maxHeartbeats 1000000 in
theorem bytes8 (s : ByteArray) (x : Int) (l : Bool) (c : Int) (hs : s.size ≤ maxLen) (w : World) :
    Calls Trym.prog 8 #[.string s, .int .u64 x, .bool l, .int .u8 c] w fun e w' => e = .returned (.bool (decide ((s.size : Int) ≤ 1048576))) ∧ w' = w := by
  unfold maxLen at hs
  by_cases h : (s.size : Int) ≤ 1048576
  · go_enter Trym.func8, Trym.ntmps8
    go_wp2
    go_ret
    exact ⟨by simp [h], rfl⟩
  · go_enter Trym.func8, Trym.ntmps8
    go_wp2
    go_ret
    exact ⟨by simp [h], rfl⟩

/-- The name with byte c in place p, as the numbers of the row. -/
def nums (s : ByteArray) (p c : Nat) : List Int := (List.range s.size).map fun j => (((if j = p then c else byt s j : Nat)) : Int)
def put (s : ByteArray) (p c : Nat) : ByteArray := strOfNums (nums s p c)
theorem nums_length (s : ByteArray) (p c : Nat) : (nums s p c).length = s.size := by simp [nums]
theorem nums_getD (s : ByteArray) (p c j : Nat) (h : j < s.size) : (nums s p c).getD j 0 = (((if j = p then c else byt s j : Nat)) : Int) := by
  simp [nums, List.getD_eq_getElem?_getD, h]
theorem put_size (s : ByteArray) (p c : Nat) : (put s p c).size = s.size := by
  show (strOfNums (nums s p c)).data.size = _
  simp [strOfNums, nums]
theorem byt_beyond (s : ByteArray) (j : Nat) (h : s.size ≤ j) : byt s j = 0 := by
  unfold byt
  rw [List.getD_eq_getElem?_getD, List.getElem?_eq_none (by simpa using h)]; rfl
theorem byt_put (s : ByteArray) (p c j : Nat) (hc : c < 256) (hp : p < s.size) : byt (put s p c) j = if j = p then c else byt s j := by
  by_cases h : j < s.size
  · have h2 : (if j = p then c else byt s j) < 256 := by split; exact hc; exact byt_lt _ _
    have e : (put s p c).data.toList.getD j 0 = UInt8.ofNat (if j = p then c else byt s j) := by
      show ((strOfNums (nums s p c)).data.toList).getD j 0 = _
      simp [strOfNums, nums, List.getD_eq_getElem?_getD, h]
    show ((put s p c).data.toList.getD j 0).toNat = _
    rw [e, UInt8.toNat_ofNat']
    exact Nat.mod_eq_of_lt h2
  · rw [byt_beyond _ _ (by rw [put_size]; omega), if_neg (by omega), byt_beyond _ _ (by omega)]

theorem hash_put {s : ByteArray} {seed p c : Nat} (h0 : 0 < s.size) (hm : s.size ≤ 1048576) (hseed : (seed : Int) ≤ 18446744073709551615) (hc : (c : Int) ≤ 255) (hp : p = 0 ∨ p = s.size - 1) (hne : byt s p ≠ c) :
    (((nameHash s seed : Nat) : Int) != ((nameHash (put s p c) seed : Nat) : Int)) = true := by
  have h := nameHash_ne s (put s p c) seed p (put_size s p c) h0 hm (seed_lt hseed) hp (by rw [byt_put s p c p (by omega) (by omega), if_pos rfl]; exact hne) (fun j hj => by rw [byt_put s p c j (by omega) (by omega), if_neg hj])
  rw [bne_iff_ne]
  omega

/-- The row behind the loop and the last store, read as a string. -/
theorem conv_put {wr : World} {b : Nat} {s : ByteArray} {k p c : Nat} (hk : ¬ k < s.size) (hr : wr.rowIs b 5 s.size (fun j => .int .u8 (((if j < k then byt s j else 0 : Nat)) : Int))) :
    (convert 26 9 (.slice (some ⟨b, 0, none⟩) s.size s.size)).run Trym.prog (wr.setCell ⟨b, p, none⟩ (.int .u8 (c : Int))) = .ok (.string (put s p c)) (wr.setCell ⟨b, p, none⟩ (.int .u8 (c : Int))) := by
  refine run_convert_bytes_arg (P := Trym.prog) _ 26 5 Trym.underlying26 Trym.underlying5 b 0 s.size s.size (nums s p c) (nums_length s p c) (fun i hi => ?_) 9 Trym.underlying9
  rw [Nat.zero_add, (hr.set p (.int .u8 (c : Int))).cell hi, nums_getD s p c i hi]
  by_cases e : i = p
  · simp [e]
  · rw [if_neg e, if_neg e, if_pos (by omega)]

theorem row_next {wr : World} {b k : Nat} {s : ByteArray} (hr : wr.rowIs b 5 s.size (fun j => .int .u8 (((if j < k then byt s j else 0 : Nat)) : Int))) :
    (wr.setCell ⟨b, k, none⟩ (.int .u8 ((byt s k : Nat) : Int))).rowIs b 5 s.size (fun j => .int .u8 (((if j < k + 1 then byt s j else 0 : Nat)) : Int)) := by
  refine (hr.set k _).congr fun i _ => ?_
  by_cases e : i = k
  · subst e; simp
  · rw [if_neg e]
    by_cases h : i < k
    · rw [if_pos h, if_pos (by omega)]
    · rw [if_neg h, if_neg (by omega)]

set_option maxHeartbeats 1000000 in
theorem ends (s : ByteArray) (seed c : Nat) (last : Bool) (p : Nat) (hp : p = if last then s.size - 1 else 0) (h0 : 0 < s.size) (hm : s.size ≤ 1048576) (hseed : (seed : Int) ≤ 18446744073709551615) (hc : (c : Int) ≤ 255) (hne : byt s p ≠ c) (w : World) :
    Calls Trym.prog 4 #[.string s, .int .u64 seed, .bool last, .int .u8 c] w fun e w' => e = .returned (.bool true) ∧ Below w.heap.size w w' := by
  have hd : decide ((s.size : Int) ≤ 1048576) = true := decide_eq_true (by omega)
  have hz : ((s.size : Int) == 0) = false := by rw [beq_eq_false_iff_ne]; omega
  have hmk := fun (w : World) => run_make_row' (P := Trym.prog) 26 5 (.int .u8 0) 1 Trym.underlying26 info5 rfl .i64 .i64 s.size (by omega) (by omega) w
  have hpl : p < s.size := by rw [hp]; split <;> omega
  have hb : (((s[p]'hpl).toNat : Int) == (c : Int)) = false := by rw [byt_get, beq_eq_false_iff_ne]; omega
  have HX : Hid ((((nameHash s seed : Nat) : Int) != ((nameHash (put s p c) seed : Nat) : Int)) = true) := hash_put h0 hm hseed hc (by rw [hp]; cases last <;> simp) hne
  have HQ : Hid (byt s p ≠ c) := hne
  clear hne
  cases last
  · simp only [Bool.false_eq_true, if_false] at hp
    subst hp
    go_enter Trym.func4, Trym.ntmps4
    go_wp2_with fail
    refine (bytes8 s seed false c (by unfold maxLen; omega) _).mono ?_
    rw [hd]
    rintro e w' ⟨rfl, rfl⟩
    go_wp2_with fail
    clear hmk
    go_loopw [11] (fun i wr => ∃ k : Nat, k ≤ s.size ∧ i = .int .i64 k ∧ wr.rowIs w'.heap.size 5 s.size (fun j => .int .u8 (((if j < k then byt s j else 0 : Nat)) : Int)) ∧ Below w'.heap.size w' wr) (fun i _ => s.size - (intOf i).toNat)
    case atStart => exact ⟨0, Nat.zero_le _, rfl, (World.rowIs_made w' (.int .u8 0) s.size 5).congr (fun i _ => rfl), (Below.refl _ _).alloc (Nat.le_refl _) _⟩
    case round =>
      obtain ⟨k, hk, rfl, hrow, hbel⟩ := hrel
      have HR : Hid (wr.rowIs w'.heap.size 5 s.size (fun j => .int .u8 (((if j < k then byt s j else 0 : Nat)) : Int))) := hrow
      by_cases hlt : k < s.size
      · have hcl := hrow.cell hlt
        have hfz := hrow.frozen k
        clear hrow
        go_wp2
        go_roundw
        case rel => exact ⟨k + 1, by omega, by go_num, by rw [byt_get]; exact row_next HR.out, hbel.setCell (Nat.le_refl _) _⟩
        case measure => simp [intOf]; omega
      · have hcl := hrow.cell h0
        have hfz := hrow.frozen 0
        have hcv := conv_put (p := 0) (c := c) hlt hrow
        have hsz : w'.heap.size < wr.heap.size := hrow.lt
        clear hrow
        go_wp2_with fail
        refine (zzname s seed hm hseed _).mono ?_
        rintro e w1 ⟨rfl, n1, rfl⟩
        go_wp2_with fail
        refine (zzname (put s 0 c) seed (by rw [put_size]; exact hm) hseed _).mono ?_
        rintro e w1 ⟨rfl, n2, rfl⟩
        have hx := HX.out
        go_wp2
        go_ret
        exact ⟨rfl, below_drewN (hbel.setCell (Nat.le_refl _) _) _⟩
  · simp only [if_true] at hp
    subst hp
    go_enter Trym.func4, Trym.ntmps4
    go_wp2_with fail
    refine (bytes8 s seed true c (by unfold maxLen; omega) _).mono ?_
    rw [hd]
    rintro e w' ⟨rfl, rfl⟩
    go_wp2_with fail
    clear hmk
    go_loopw [11] (fun i wr => ∃ k : Nat, k ≤ s.size ∧ i = .int .i64 k ∧ wr.rowIs w'.heap.size 5 s.size (fun j => .int .u8 (((if j < k then byt s j else 0 : Nat)) : Int)) ∧ Below w'.heap.size w' wr) (fun i _ => s.size - (intOf i).toNat)
    case atStart => exact ⟨0, Nat.zero_le _, rfl, (World.rowIs_made w' (.int .u8 0) s.size 5).congr (fun i _ => rfl), (Below.refl _ _).alloc (Nat.le_refl _) _⟩
    case round =>
      obtain ⟨k, hk, rfl, hrow, hbel⟩ := hrel
      have HR : Hid (wr.rowIs w'.heap.size 5 s.size (fun j => .int .u8 (((if j < k then byt s j else 0 : Nat)) : Int))) := hrow
      by_cases hlt : k < s.size
      · have hcl := hrow.cell hlt
        have hfz := hrow.frozen k
        clear hrow
        go_wp2
        go_roundw
        case rel => exact ⟨k + 1, by omega, by go_num, by rw [byt_get]; exact row_next HR.out, hbel.setCell (Nat.le_refl _) _⟩
        case measure => simp [intOf]; omega
      · have hcl := hrow.cell hpl
        have hfz := hrow.frozen (s.size - 1)
        have hcv := conv_put (p := s.size - 1) (c := c) hlt hrow
        have hsz : w'.heap.size < wr.heap.size := hrow.lt
        clear hrow
        go_wp2_with fail
        refine (zzname s seed hm hseed _).mono ?_
        rintro e w1 ⟨rfl, n1, rfl⟩
        go_wp2_with fail
        refine (zzname (put s (s.size - 1) c) seed (by rw [put_size]; exact hm) hseed _).mono ?_
        rintro e w1 ⟨rfl, n2, rfl⟩
        have hx := HX.out
        go_wp2
        go_ret
        exact ⟨rfl, below_drewN (hbel.setCell (Nat.le_refl _) _) _⟩

set_option maxRecDepth 100000 in
set_option maxHeartbeats 1000000 in
theorem law4 (s : ByteArray) (seed c : Nat) (last : Bool) (hs : s.size ≤ maxLen) (hseed : (seed : Int) ≤ 18446744073709551615) (hc : (c : Int) ≤ 255) (w : World) :
    Calls Trym.prog 4 #[.string s, .int .u64 seed, .bool last, .int .u8 c] w fun e w' => e = .returned (.bool true) ∧ Below w.heap.size w w' := by
  by_cases hm : (s.size : Int) ≤ 1048576
  · have hd : decide ((s.size : Int) ≤ 1048576) = true := decide_eq_true hm
    by_cases h0 : s.size = 0
    · have hz : ((s.size : Int) == 0) = true := by rw [beq_iff_eq]; omega
      go_enter Trym.func4, Trym.ntmps4
      go_wp2_with fail
      refine (bytes8 s seed last c hs _).mono ?_
      rw [hd]
      rintro e w' ⟨rfl, rfl⟩
      go_wp2
      go_ret
      exact ⟨rfl, Below.refl _ _⟩
    · have hz : ((s.size : Int) == 0) = false := by rw [beq_eq_false_iff_ne]; omega
      obtain ⟨p, hp⟩ : ∃ p, p = if last then s.size - 1 else 0 := ⟨_, rfl⟩
      by_cases hne : byt s p = c
      · have hpl : p < s.size := by rw [hp]; split <;> omega
        have hb : (((s[p]'hpl).toNat : Int) == (c : Int)) = true := by rw [byt_get, beq_iff_eq]; omega
        clear hne
        cases last
        · simp only [Bool.false_eq_true, if_false] at hp
          subst hp
          go_enter Trym.func4, Trym.ntmps4
          go_wp2_with fail
          refine (bytes8 s seed false c hs _).mono ?_
          rw [hd]
          rintro e w' ⟨rfl, rfl⟩
          go_wp2
          go_ret
          exact ⟨rfl, Below.refl _ _⟩
        · simp only [if_true] at hp
          subst hp
          go_enter Trym.func4, Trym.ntmps4
          go_wp2_with fail
          refine (bytes8 s seed true c hs _).mono ?_
          rw [hd]
          rintro e w' ⟨rfl, rfl⟩
          go_wp2
          go_ret
          exact ⟨rfl, Below.refl _ _⟩
      · exact ends s seed c last p hp (by omega) (by omega) hseed hc hne w
  · have hd : decide ((s.size : Int) ≤ 1048576) = false := decide_eq_false hm
    go_enter Trym.func4, Trym.ntmps4
    go_wp2_with fail
    refine (bytes8 s seed last c hs _).mono ?_
    rw [hd]
    rintro e w' ⟨rfl, rfl⟩
    go_wp2
    go_ret
    exact ⟨rfl, Below.refl _ _⟩
end Go.Proofs.Qxb6617782aMods
