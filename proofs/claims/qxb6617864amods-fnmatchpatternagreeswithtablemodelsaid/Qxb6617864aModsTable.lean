import Derived.Test.Qxb6617864aModsPattern
import Derived.Deep.OwnRows
import Derived.WalkSmall
namespace Go.Proofs.Qxb6617864aMods
open Go.ChangeShapes Go.WideShapes Go.ChangeAt Go.RowKit
open Plain

theorem info4 : (Trym.prog.info? 4).map (fun i => (i.zero, i.size, i.bytes)) = some (some (.bool false), 1, 1) := by kernel_rfl

/-- THE TABLE: the pattern's first j letters against the name's first i. -/
def tab (name pat : ByteArray) (i j : Nat) : Bool := M isStar okc (pat.data.toList.take j) (name.data.toList.take i)
theorem tab00 (name pat : ByteArray) : tab name pat 0 0 = true := rfl
theorem tab0 (name pat : ByteArray) (j : Nat) (h : j < pat.size) : tab name pat 0 (j + 1) = (tab name pat 0 j && ((pat[j]'h).toNat : Int) == 42) := by
  unfold tab
  rw [take_at (at_list pat j h), List.take_zero]
  cases hs : isStar (pat[j]'h) with
  | true => rw [M_snoc_star_nil hs]; unfold isStar at hs; rw [hs, Bool.and_true]
  | false => rw [M_snoc_lit_nil hs]; unfold isStar at hs; rw [hs, Bool.and_false]
theorem tabi0 (name pat : ByteArray) (i : Nat) (h : i < name.size) : tab name pat (i + 1) 0 = false := by
  unfold tab
  rw [take_at (at_list name i h), List.take_zero]; exact M_nil_snoc _ _
theorem tab_star {name pat : ByteArray} {i j : Nat} (hi : i < name.size) (hj : j < pat.size) (hs : (((pat[j]'hj).toNat : Int) == 42) = true) :
    tab name pat (i + 1) (j + 1) = (tab name pat (i + 1) j || tab name pat i (j + 1)) := by
  unfold tab
  rw [take_at (at_list name i hi), take_at (at_list pat j hj), M_snoc_star_snoc (st := isStar) (p := pat[j]'hj) hs, Bool.or_comm]
theorem tab_lit {name pat : ByteArray} {i j : Nat} (hi : i < name.size) (hj : j < pat.size) (hs : (((pat[j]'hj).toNat : Int) == 42) = false) :
    tab name pat (i + 1) (j + 1) = (tab name pat i j && okc (pat[j]'hj) (name[i]'hi)) := by
  unfold tab
  rw [take_at (at_list name i hi), take_at (at_list pat j hj), M_snoc_lit_snoc (st := isStar) (p := pat[j]'hj) hs]
theorem tab_all (name pat : ByteArray) : tab name pat name.size pat.size = mt name pat := by
  unfold tab mt
  rw [List.take_of_length_le (by rw [len_list]; exact Nat.le_refl _), List.take_of_length_le (by rw [len_list]; exact Nat.le_refl _)]

theorem foldB (p c : UInt8) (w : World) : Calls Trym.prog 13 #[.int .u8 (p.toNat : Int), .int .u8 (c.toNat : Int)] w fun e w' => e = .returned (.bool (feq (p.toNat : Int) (c.toNat : Int))) ∧ w' = w :=
  fold _ _ (by omega) (by have := UInt8.toNat_lt p; omega) (by omega) (by have := UInt8.toNat_lt c; omega) w

/-! ### The rows -/
theorem made0 (n : Nat) : (madeCells #[Value.bool false] (n + 1))[0]? = some (.bool false) := by simp [madeCells]

theorem row_start (w : World) (n : Nat) (o : Obj) (f : Nat → Bool) (h : f 0 = true) :
    ((w.alloc (.cells ((madeCells #[Value.bool false] (n + 1)).setIfInBounds 0 (.bool true)) 4)).alloc o).rowIs w.heap.size 4 (n + 1) (fun j => .bool (if j < 0 + 1 then f j else false)) := by
  have h1 := (World.rowIs_made w (.bool false) (n + 1) 4).set 0 (.bool true)
  rw [World.setCell_alloc_at _ _ _ _ _ rfl] at h1
  refine (h1.alloc o).congr fun j _ => ?_
  by_cases e : j = 0
  · subst e; simp [h]
  · rw [if_neg e, if_neg (by omega)]

theorem row_second (w : World) (n : Nat) (o : Obj) : ((w.alloc o).alloc (.cells (madeCells #[Value.bool false] (n + 1)) 4)).rowIs (w.heap.size + 1) 4 (n + 1) (fun _ => .bool false) := by
  have h1 := World.rowIs_made (w.alloc o) (.bool false) (n + 1) 4
  rwa [World.size_alloc] at h1

theorem row_step {wr : World} {b n k : Nat} {f g : Nat → Bool} (hr : wr.rowIs b 4 n (fun j => .bool (if j < k + 1 then f j else g j))) {v : Bool} (hv : v = f (k + 1)) :
    (wr.setCell ⟨b, k + 1, none⟩ (.bool v)).rowIs b 4 n (fun j => .bool (if j < k + 1 + 1 then f j else g j)) := by
  refine (hr.set (k + 1) _).congr fun j _ => ?_
  by_cases e : j = k + 1
  · subst e; rw [if_pos rfl, if_pos (by omega), hv]
  · rw [if_neg e]
    by_cases h : j < k + 1
    · rw [if_pos h, if_pos (by omega)]
    · rw [if_neg h, if_neg (by omega)]

theorem row_first {wr : World} {b n : Nat} {f g : Nat → Bool} (hr : wr.rowIs b 4 n (fun j => .bool (g j))) (h : f 0 = false) :
    (wr.setCell ⟨b, 0, none⟩ (.bool false)).rowIs b 4 n (fun j => .bool (if j < 0 + 1 then f j else g j)) := by
  refine (hr.set 0 _).congr fun j _ => ?_
  by_cases e : j = 0
  · subst e; simp [h]
  · rw [if_neg e, if_neg (by omega)]

theorem row_full {wr : World} {b n k : Nat} {f g : Nat → Bool} (hr : wr.rowIs b 4 n (fun j => .bool (if j < k + 1 then f j else g j))) (h : n ≤ k + 1) : wr.rowIs b 4 n (fun j => .bool (f j)) :=
  hr.congr fun j hj => by rw [if_pos (by omega)]

theorem row_cell {wr : World} {b n k : Nat} {f g : Nat → Bool} (hr : wr.rowIs b 4 n (fun j => .bool (if j < k + 1 then f j else g j))) (h : k < n) : wr.cell? ⟨b, k, none⟩ = some (.bool (f k)) := by
  have := hr.cell h
  rwa [if_pos (by omega)] at this
theorem row_next {wr : World} {b n k : Nat} {f g : Nat → Bool} (hr : wr.rowIs b 4 n (fun j => .bool (if j < k + 1 then f j else g j))) (h : k + 1 < n) : wr.cell? ⟨b, k + 1, none⟩ = some (.bool (g (k + 1))) := by
  have := hr.cell h
  rwa [if_neg (by omega)] at this

set_option maxRecDepth 100000 in
set_option maxHeartbeats 2000000 in
theorem table (name pat : ByteArray) (hN : name.size ≤ 1048576) (hP : pat.size ≤ 1048576) (w : World) :
    Calls Trym.prog 8 #[.string name, .string pat] w fun e w' => e = .returned (.bool (mt name pat)) ∧ Below w.heap.size w w' := by
  have ec : ((pat.size + 1 : Nat) : Int) = (pat.size : Int) + 1 := by omega
  have hmk : ∀ w : World, (Instr.makeSlice 30 (.int .i64 ((pat.size : Int) + 1)) (.int .i64 ((pat.size : Int) + 1))).run Trym.prog w = .ok (.slice (some ⟨w.heap.size, 0, none⟩) (pat.size + 1) (pat.size + 1)) (w.alloc (.cells (madeCells #[.bool false] (pat.size + 1)) 4)) := fun w => by
    rw [← ec]; exact run_make_row' (P := Trym.prog) 30 4 (.bool false) 1 Trym.underlying30 info4 rfl .i64 .i64 (pat.size + 1) (by omega) (by omega) w
  clear ec
  have hm0 := made0 pat.size
  go_enter Trym.func8, Trym.ntmps8
  go_wp2
  clear hmk hm0
  go_loopw [8] (fun j wr => ∃ k : Nat, k ≤ pat.size ∧ j = .int .i64 ((k : Int) + 1) ∧ wr.rowIs w.heap.size 4 (pat.size + 1) (fun j => .bool (if j < k + 1 then tab name pat 0 j else false)) ∧
      wr.rowIs (w.heap.size + 1) 4 (pat.size + 1) (fun _ => .bool false) ∧ Below w.heap.size w wr) (fun j _ => pat.size + 1 - (intOf j).toNat)
  case atStart => exact ⟨0, Nat.zero_le _, rfl, row_start w pat.size _ _ (tab00 name pat), row_second w pat.size _, ((Below.refl _ _).alloc (Nat.le_refl _) _).alloc (by simp) _⟩
  case round =>
    obtain ⟨k, hk, rfl, hr, hr2, hb⟩ := hrel
    by_cases hlt : k < pat.size
    · have hc0 := row_cell hr (by omega)
      have hc1 := row_next hr (by omega)
      have hf1 := hr.frozen (k + 1)
      have HR : Hid (wr.rowIs w.heap.size 4 (pat.size + 1) (fun j => .bool (if j < k + 1 then tab name pat 0 j else false))) := hr
      have HR2 : Hid (wr.rowIs (w.heap.size + 1) 4 (pat.size + 1) (fun _ => .bool false)) := hr2
      clear hr hr2
      cases ht : tab name pat 0 k with
      | true =>
        rw [ht] at hc0
        go_wp2
        go_roundw
        case rel => exact ⟨k + 1, by omega, by go_num, row_step HR.out (by rw [tab0 name pat k hlt, ht]; rfl), HR2.out.setOther (by simp) _, hb.setCell (Nat.le_refl _) _⟩
        case measure => simp [intOf]; omega
      | false =>
        rw [ht] at hc0
        go_wp2
        go_roundw
        case rel => exact ⟨k + 1, by omega, by go_num, row_step HR.out (by rw [tab0 name pat k hlt, ht]; rfl), HR2.out.setOther (by simp) _, hb.setCell (Nat.le_refl _) _⟩
        case measure => simp [intOf]; omega
    · have hr' := row_full hr (by omega)
      have HR : Hid (wr.rowIs w.heap.size 4 (pat.size + 1) (fun j => .bool (tab name pat 0 j))) := hr'
      have HR2 : Hid (wr.rowIs (w.heap.size + 1) 4 (pat.size + 1) (fun _ => .bool false)) := hr2
      clear hr hr2 hr'
      go_wp2_with fail
      go_loopw [6, 7, 9] (fun a b i wr => ∃ (k bp bc : Nat) (g : Nat → Bool), k ≤ name.size ∧ i = .int .i64 ((k : Int) + 1) ∧ a = .slice (some ⟨bp, 0, none⟩) (pat.size + 1) (pat.size + 1) ∧ b = .slice (some ⟨bc, 0, none⟩) (pat.size + 1) (pat.size + 1) ∧
          w.heap.size ≤ bp ∧ w.heap.size ≤ bc ∧ bp ≠ bc ∧ wr.rowIs bp 4 (pat.size + 1) (fun j => .bool (tab name pat k j)) ∧ wr.rowIs bc 4 (pat.size + 1) (fun j => .bool (g j)) ∧ Below w.heap.size w wr) (fun _ _ i _ => name.size + 1 - (intOf i).toNat)
      case atStart => exact ⟨0, w.heap.size, w.heap.size + 1, fun _ => false, Nat.zero_le _, rfl, rfl, rfl, Nat.le_refl _, by omega, by omega, HR.out, HR2.out, hb⟩
      case round =>
        clear HR HR2 hb hlt hk
        obtain ⟨n, bp, bc, g, hn, rfl, rfl, rfl, hbp, hbc, hne, hrp, hrc, hb⟩ := hrel
        by_cases hln : n < name.size
        · have hn1 : (n : Int) + 1 ≤ (name.size : Int) := by omega
          have hc0 := hrc.cell (i := 0) (by omega)
          have hf0 := hrc.frozen 0
          have HP : Hid (wr.rowIs bp 4 (pat.size + 1) (fun j => .bool (tab name pat n j))) := hrp
          have HC : Hid (wr.rowIs bc 4 (pat.size + 1) (fun j => .bool (g j))) := hrc
          have HNE : Hid (bp ≠ bc) := hne
          clear hrp hrc hne
          go_wp2_with fail
          go_loopw [10] (fun j wr => ∃ t : Nat, t ≤ pat.size ∧ j = .int .i64 ((t : Int) + 1) ∧ wr.rowIs bp 4 (pat.size + 1) (fun j => .bool (tab name pat n j)) ∧ wr.rowIs bc 4 (pat.size + 1) (fun j => .bool (if j < t + 1 then tab name pat (n + 1) j else g j)) ∧ Below w.heap.size w wr) (fun j _ => pat.size + 1 - (intOf j).toNat)
          case atStart => exact ⟨0, Nat.zero_le _, rfl, HP.out.setOther HNE.out _, row_first HC.out (tabi0 name pat n hln), hb.setCell hbc _⟩
          case round =>
            clear HP HC hc0 hf0 hb
            obtain ⟨t, ht, rfl, hrp, hrc, hb⟩ := hrel
            by_cases hlt : t < pat.size
            · have hc0 := row_cell hrc (by omega)
              have hc1 := row_next hrc (by omega)
              have hf1 := hrc.frozen (t + 1)
              have hp0 := hrp.cell (i := t) (by omega)
              have hp1 := hrp.cell (i := t + 1) (by omega)
              have HP : Hid (wr.rowIs bp 4 (pat.size + 1) (fun j => .bool (tab name pat n j))) := hrp
              have HC : Hid (wr.rowIs bc 4 (pat.size + 1) (fun j => .bool (if j < t + 1 then tab name pat (n + 1) j else g j))) := hrc
              clear hrp hrc
              cases hs : (((pat[t]'hlt).toNat : Int) == 42) with
              | true =>
                clear hp0
                cases h1 : tab name pat (n + 1) t with
                | true =>
                  rw [h1] at hc0
                  have HV : Hid (true = tab name pat (n + 1) (t + 1)) := by rw [tab_star hln hlt hs, h1]; rfl
                  clear h1
                  go_wp2
                  go_roundw
                  case rel => exact ⟨t + 1, by omega, by go_num, HP.out.setOther HNE.out _, row_step HC.out HV.out, hb.setCell hbc _⟩
                  case measure => simp [intOf]; omega
                | false =>
                  rw [h1] at hc0
                  have HV : Hid (tab name pat n (t + 1) = tab name pat (n + 1) (t + 1)) := by rw [tab_star hln hlt hs, h1]; rfl
                  clear h1
                  go_wp2
                  go_roundw
                  case rel => exact ⟨t + 1, by omega, by go_num, HP.out.setOther HNE.out _, row_step HC.out HV.out, hb.setCell hbc _⟩
                  case measure => simp [intOf]; omega
              | false =>
                clear hp1 hc0
                cases hq : (((pat[t]'hlt).toNat : Int) == 63) with
                | true =>
                  have HV : Hid (tab name pat n t = tab name pat (n + 1) (t + 1)) := by rw [tab_lit hln hlt hs, okc_q hq, Bool.and_true]; rfl
                  go_wp2
                  go_roundw
                  case rel => exact ⟨t + 1, by omega, by go_num, HP.out.setOther HNE.out _, row_step HC.out HV.out, hb.setCell hbc _⟩
                  case measure => simp [intOf]; omega
                | false =>
                  cases h1 : tab name pat n t with
                  | true =>
                    rw [h1] at hp0
                    have HV : Hid (feq ((pat[t]'hlt).toNat : Int) ((name[n]'hln).toNat : Int) = tab name pat (n + 1) (t + 1)) := by rw [tab_lit hln hlt hs, h1, okc_l hq _ rfl]; rfl
                    clear h1
                    go_wp2_with fail
                    refine (foldB _ _ _).mono ?_
                    rintro e w1 ⟨rfl, hw⟩
                    rw [hw]
                    clear hw
                    go_wp2
                    go_roundw
                    case rel => exact ⟨t + 1, by omega, by go_num, HP.out.setOther HNE.out _, row_step HC.out HV.out, hb.setCell hbc _⟩
                    case measure => simp [intOf]; omega
                  | false =>
                    rw [h1] at hp0
                    have HV : Hid (false = tab name pat (n + 1) (t + 1)) := by rw [tab_lit hln hlt hs, h1]; rfl
                    clear h1
                    go_wp2
                    go_roundw
                    case rel => exact ⟨t + 1, by omega, by go_num, HP.out.setOther HNE.out _, row_step HC.out HV.out, hb.setCell hbc _⟩
                    case measure => simp [intOf]; omega
            · have hrc' := row_full hrc (by omega)
              have HP : Hid (wr.rowIs bp 4 (pat.size + 1) (fun j => .bool (tab name pat n j))) := hrp
              have HC : Hid (wr.rowIs bc 4 (pat.size + 1) (fun j => .bool (tab name pat (n + 1) j))) := hrc'
              clear hrp hrc hrc'
              go_wp2
              go_roundw
              case rel => exact ⟨n + 1, bc, bp, tab name pat n, by omega, by go_num, rfl, rfl, hbc, hbp, fun e => HNE.out e.symm, HC.out, HP.out, hb⟩
              case measure => simp [intOf]; omega
        · have hnn : n = name.size := by omega
          have hp1 := hrp.cell (i := pat.size) (by omega)
          rw [hnn, tab_all] at hp1
          clear hrp hrc hnn hne
          go_wp2
          go_ret
          exact ⟨rfl, hb⟩
end Go.Proofs.Qxb6617864aMods
