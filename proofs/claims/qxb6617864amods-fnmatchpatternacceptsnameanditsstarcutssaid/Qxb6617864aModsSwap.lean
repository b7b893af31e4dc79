import Derived.Test.Qxb6617864aModsPattern
import Derived.Deep.OwnRows
import Derived.WalkSmall
import Derived.Laws.BytesArg
import Derived.Lib.IndexBytes
namespace Go.Proofs.Qxb6617864aMods
open Go.ChangeShapes Go.WideShapes Go.ChangeAt Go.RowKit
open Plain

/-! ### Plain: what a pattern takes letter by letter -/
section
variable {α β : Type} {st : α → Bool} {ok : α → β → Bool}
def Acc (ok : α → β → Bool) : List α → List β → Prop
  | [], [] => True
  | p :: ps, c :: cs => ok p c = true ∧ Acc ok ps cs
  | _, _ => False
theorem M_acc : ∀ {ps : List α} {cs : List β}, Acc ok ps cs → M st ok ps cs = true
  | [], [], _ => rfl
  | p :: ps, c :: cs, h => by
    have ih := M_acc h.2
    cases hs : st p with
    | true => exact (M_star hs _ _).2 ⟨[c], cs, rfl, ih⟩
    | false => exact (M_lit hs _ _).2 ⟨c, cs, rfl, h.1, ih⟩
theorem M_len : ∀ {ps : List α} {cs : List β}, ps.any st = false → M st ok ps cs = true → cs.length = ps.length
  | [], cs, _, h => by rw [(M_nil _).1 h]; rfl
  | p :: ps, cs, hn, h => by
    simp only [List.any_cons, Bool.or_eq_false_iff] at hn
    obtain ⟨c, cs', rfl, _, h⟩ := (M_lit hn.1 _ _).1 h
    have := M_len hn.2 h
    simp [this]
end
theorem acc_map {α β γ : Type} {ok : α → β → Bool} (f : γ → α) (g : γ → β) (h : ∀ x, ok (f x) (g x) = true) : ∀ l : List γ, Acc ok (l.map f) (l.map g)
  | [] => trivial
  | x :: l => ⟨h x, acc_map f g h l⟩

/-! ### Letters in the other case -/
def swc (c : Int) : Int := if 97 ≤ c ∧ c ≤ 122 then c - 32 else if 65 ≤ c ∧ c ≤ 90 then c + 32 else c
theorem swc_bd {c : Int} (h : 0 ≤ c) (h' : c ≤ 255) : 0 ≤ swc c ∧ swc c ≤ 255 := by unfold swc; split; omega; split <;> omega
theorem low_swc (c : Int) : low (swc c) = low c := by
  unfold swc
  split
  · rw [low_up (by omega) (by omega), low_no (by omega)]; omega
  · split
    · rw [low_no (by omega), low_up (by omega) (by omega)]
    · rfl
def sw (c : UInt8) : UInt8 := UInt8.ofNat (swc (c.toNat : Int)).toNat
theorem sw_nat (c : UInt8) : ((sw c).toNat : Int) = swc (c.toNat : Int) := by
  have h := swc_bd (c := (c.toNat : Int)) (by omega) (by have := UInt8.toNat_lt c; omega)
  unfold sw
  rw [UInt8.toNat_ofNat']
  omega
theorem okc_low {p c : UInt8} (h : low (p.toNat : Int) = low (c.toNat : Int)) : okc p c = true := by
  unfold okc; rw [h]; simp

/-- The string with all letters in the other case. -/
def swp (s : ByteArray) : ByteArray := strOfNums (s.data.toList.map fun c => swc (c.toNat : Int))
theorem swp_data (s : ByteArray) : (swp s).data.toList = s.data.toList.map sw := by
  unfold swp; rw [strOfNums_data, List.map_map]; rfl
theorem swp_size (s : ByteArray) : (swp s).size = s.size := by
  unfold swp; rw [strOfNums_size]; simp

/-! ### The laws on strings -/
theorem mt_self (s : ByteArray) : mt s s = true := by
  unfold mt
  have := M_acc (st := isStar) (acc_map (ok := okc) id id (fun x => okc_low rfl) s.data.toList)
  rwa [List.map_id] at this
theorem mt_swap_name (s : ByteArray) : mt (swp s) s = true := by
  unfold mt
  rw [swp_data]
  have := M_acc (st := isStar) (acc_map (ok := okc) id sw (fun x => okc_low (by show low _ = _; rw [sw_nat, low_swc]; rfl)) s.data.toList)
  rwa [List.map_id] at this
theorem M_swap (l : List UInt8) : M isStar okc (l.map sw) l = true := by
  have := M_acc (st := isStar) (acc_map (ok := okc) sw id (fun x => okc_low (by show low _ = _; rw [sw_nat, low_swc]; rfl)) l)
  rwa [List.map_id] at this
theorem M_same (l : List UInt8) : M isStar okc l l = true := by
  have := M_acc (st := isStar) (acc_map (ok := okc) id id (fun x => okc_low rfl) l)
  rwa [List.map_id] at this
theorem M_any (l : List UInt8) : M isStar okc [42] l = true := (M_star (p := (42 : UInt8)) rfl _ _).2 ⟨l, [], by simp, rfl⟩

/-- The name with one star in the place of name[i:j]. -/
def cut (s : ByteArray) (i j : Nat) : ByteArray := s.extract 0 i ++ ⟨#[42]⟩ ++ s.extract j s.size
theorem cut_data (s : ByteArray) (i j : Nat) : (cut s i j).data.toList = s.data.toList.take i ++ [42] ++ s.data.toList.drop j := by
  unfold cut
  rw [ByteArray.data_append, ByteArray.data_append, Array.toList_append, Array.toList_append, Lib.extract_data, Lib.extract_to_end]
  simp
theorem name_parts (s : ByteArray) {i j : Nat} (h : i ≤ j) : s.data.toList = s.data.toList.take i ++ (s.data.toList.drop i).take (j - i) ++ s.data.toList.drop j := by
  have h1 : (s.data.toList.drop i).take (j - i) ++ s.data.toList.drop j = s.data.toList.drop i := by
    have := List.take_append_drop (j - i) (s.data.toList.drop i)
    rwa [List.drop_drop, show i + (j - i) = j by omega] at this
  rw [List.append_assoc, h1, List.take_append_drop]
theorem M_mid {a a' b c c' : List UInt8} (ha : M isStar okc a' a = true) (hc : M isStar okc c' c = true) : M isStar okc (a' ++ [42] ++ c') (a ++ b ++ c) = true :=
  (M_append _ _ _).2 ⟨a ++ b, c, rfl, (M_append _ _ _).2 ⟨a, b, rfl, ha, M_any b⟩, hc⟩
theorem mt_cut (s : ByteArray) {i j : Nat} (h : i ≤ j) : mt s (cut s i j) = true := by
  unfold mt
  rw [cut_data]
  exact (congrArg (M isStar okc _) (name_parts s h)).trans (M_mid (M_same _) (M_same _))
theorem sw_star : sw 42 = 42 := by decide
theorem mt_swap_cut (s : ByteArray) {i j : Nat} (h : i ≤ j) : mt s (swp (cut s i j)) = true := by
  unfold mt
  rw [swp_data, cut_data, List.map_append, List.map_append, List.map_cons, sw_star, List.map_nil]
  exact (congrArg (M isStar okc _) (name_parts s h)).trans (M_mid (M_swap _) (M_swap _))
theorem mt_len {s t : ByteArray} (h : t.data.toList.any isStar = false) (hne : s.size ≠ t.size) : mt s t = false := by
  rw [Bool.eq_false_iff]
  intro hm
  have := M_len h hm
  rw [len_list, len_list] at this
  exact hne this
theorem cut_size (s : ByteArray) {i j : Nat} (hi : i ≤ j) (hj : j ≤ s.size) : (cut s i j).size ≤ s.size + 1 := by
  have := congrArg List.length (cut_data s i j)
  rw [len_list] at this
  rw [this]
  simp
  omega

/-! ### swapCase -/
theorem info5 : (Trym.prog.info? 5).map (fun i => (i.zero, i.size, i.bytes)) = some (some (.int .u8 0), 1, 1) := by kernel_rfl

theorem ret_string {a b : ByteArray} (h : a = b) : Ending.returned (.string a) = .returned (.string b) := by rw [h]

def bI (s : ByteArray) (j : Nat) : Int := swc ((s.data.toList.getD j 0).toNat : Int)
theorem bI_at (s : ByteArray) (j : Nat) (h : j < s.size) : bI s j = swc ((s[j]'h).toNat : Int) := by
  unfold bI
  rw [List.getD_eq_getElem?_getD, at_list s j h]; rfl
theorem swp_row {wr : World} {b : Nat} {s : ByteArray} {k : Nat} (hk : ¬ k < s.size) (hr : wr.rowIs b 5 s.size (fun j => .int .u8 (if j < k then bI s j else 0))) :
    (convert 26 9 (.slice (some ⟨b, 0, none⟩) s.size s.size)).run Trym.prog wr = .ok (.string (swp s)) wr := by
  refine run_convert_bytes_arg (P := Trym.prog) _ 26 5 Trym.underlying26 Trym.underlying5 b 0 s.size s.size _ (by simp) (fun i hi => ?_) 9 Trym.underlying9
  rw [Nat.zero_add, hr.cell hi, if_pos (by omega), bI_at s i hi, List.getD_eq_getElem?_getD, List.getElem?_map, at_list s i hi]
  rfl
theorem swp_next {wr : World} {b k : Nat} {s : ByteArray} (hr : wr.rowIs b 5 s.size (fun j => .int .u8 (if j < k then bI s j else 0))) {v : Int} (hv : v = bI s k) :
    (wr.setCell ⟨b, k, none⟩ (.int .u8 v)).rowIs b 5 s.size (fun j => .int .u8 (if j < k + 1 then bI s j else 0)) := by
  refine (hr.set k _).congr fun i _ => ?_
  by_cases e : i = k
  · subst e; rw [if_pos rfl, if_pos (by omega), hv]
  · rw [if_neg e]
    by_cases h : i < k
    · rw [if_pos h, if_pos (by omega)]
    · rw [if_neg h, if_neg (by omega)]

set_option maxRecDepth 100000 in
set_option maxHeartbeats 2000000 in
theorem swap (s : ByteArray) (hm : s.size ≤ 1048576) (w : World) :
    Calls Trym.prog 10 #[.string s] w fun e w' => e = .returned (.string (swp s)) ∧ Below w.heap.size w w' := by
  have hmk := fun (w : World) => run_make_row' (P := Trym.prog) 26 5 (.int .u8 0) 1 Trym.underlying26 info5 rfl .i64 .i64 s.size (by omega) (by omega) w
  go_enter Trym.func10, Trym.ntmps10
  go_wp2
  clear hmk
  go_loopw [4] (fun i wr => ∃ k : Nat, k ≤ s.size ∧ i = .int .i64 k ∧ wr.rowIs w.heap.size 5 s.size (fun j => .int .u8 (if j < k then bI s j else 0)) ∧ Below w.heap.size w wr) (fun i _ => s.size - (intOf i).toNat)
  case atStart => exact ⟨0, Nat.zero_le _, rfl, (World.rowIs_made w (.int .u8 0) s.size 5).congr (fun i _ => rfl), (Below.refl _ _).alloc (Nat.le_refl _) _⟩
  case round =>
    obtain ⟨k, hk, rfl, hr, hb⟩ := hrel
    by_cases hlt : k < s.size
    · have hc := hr.cell hlt
      have hf := hr.frozen k
      have HR : Hid (wr.rowIs w.heap.size 5 s.size (fun j => .int .u8 (if j < k then bI s j else 0))) := hr
      have b0 : 0 ≤ ((s[k]'hlt).toNat : Int) := by omega
      have b1 : ((s[k]'hlt).toNat : Int) ≤ 255 := by have := UInt8.toNat_lt (s[k]'hlt); omega
      clear hr
      go_wp2
      all_goals
        go_roundw
        case rel => exact ⟨k + 1, by omega, by go_num, swp_next HR.out (by rw [bI_at s k hlt]; unfold swc; split <;> (try split) <;> omega), hb.setCell (Nat.le_refl _) _⟩
        case measure => simp [intOf]; omega
    · have hcv := swp_row hlt hr
      clear hr
      go_wp2
      go_ret
      exact ⟨rfl, hb⟩

def hasStar (s : ByteArray) : Bool := s.data.toList.any isStar

set_option maxHeartbeats 1000000 in
theorem contains (s : ByteArray) (hm : s.size ≤ 1048576) (w : World) :
    Calls Trym.prog 11 #[.string s] w fun e w' => e = .returned (.bool (hasStar s)) ∧ w' = w := by
  go_enter Trym.func11, Trym.ntmps11
  go_wp2
  go_loop [3] (fun i => ∃ k : Nat, k ≤ s.size ∧ i = .int .i64 k ∧ hasStar s = (s.data.toList.drop k).any isStar) (fun i => s.size - (intOf i).toNat)
  case atStart => exact ⟨0, Nat.zero_le _, rfl, rfl⟩
  case round =>
    obtain ⟨k, hk, rfl, ha⟩ := hrel
    have HA : Hid (hasStar s = (s.data.toList.drop k).any isStar) := ha
    clear ha
    by_cases hlt : k < s.size
    · cases hs : (((s[k]'hlt).toNat : Int) == 42) with
      | true =>
        go_wp2
        go_ret
        exact ⟨ret_bool (by rw [HA.out, drop_at (at_list s k hlt), List.any_cons, isStar, hs]; rfl), rfl⟩
      | false =>
        go_wp2
        go_round
        case rel => exact ⟨k + 1, by omega, by go_num, by rw [HA.out, drop_at (at_list s k hlt), List.any_cons, isStar, hs]; rfl⟩
        case measure => simp [intOf]; omega
    · go_wp2
      go_ret
      exact ⟨ret_bool (by rw [HA.out, List.drop_eq_nil_of_le (by rw [len_list]; omega)]; rfl), rfl⟩
end Go.Proofs.Qxb6617864aMods
