import Derived.Test.Qxb6617864aModsWalks
namespace Go.Proofs.Qxb6617864aMods
open Go.ChangeShapes Go.WideShapes Go.ChangeAt Go.RowKit
open Plain

def isStar (c : UInt8) : Bool := ((c.toNat : Int) == 42)
def okc (p c : UInt8) : Bool := ((p.toNat : Int) == 63) || (low (p.toNat : Int) == low (c.toNat : Int))
/-- THE MEANING of a pattern, on strings. -/
def mt (name pat : ByteArray) : Bool := M isStar okc pat.data.toList name.data.toList

theorem at_list (s : ByteArray) (i : Nat) (h : i < s.size) : s.data.toList[i]? = some (s[i]'h) := by
  have h' : i < s.data.toList.length := by simpa using h
  rw [List.getElem?_eq_getElem h']; rfl
theorem len_list (s : ByteArray) : s.data.toList.length = s.size := by simp

theorem lowerB (c : UInt8) (w : World) : Calls Trym.prog 15 #[.int .u8 (c.toNat : Int)] w fun e w' => e = .returned (.int .u8 (low (c.toNat : Int))) ∧ w' = w :=
  lower _ (by omega) (by have := UInt8.toNat_lt c; omega) w

/-- The loop's relation. -/
def Rel (name pat : ByteArray) (n p : Nat) (star : Int) (e : Nat) : Prop := Inv isStar okc pat.data.toList name.data.toList n p star e

theorem Rel.bounds {name pat : ByteArray} {n p : Nat} {star : Int} {e : Nat} (h : Rel name pat n p star e) : n ≤ name.size ∧ p ≤ pat.size ∧ -1 ≤ star ∧ star < p ∧ e ≤ n ∧ star < pat.size := by
  have := inv_bounds h; simpa [len_list] using this
theorem Rel.star {name pat : ByteArray} {n p : Nat} {star : Int} {e : Nat} (h : Rel name pat n p star e) (hp : p < pat.size) (hs : (((pat[p]'hp).toNat : Int) == 42) = true) : Rel name pat n (p + 1) (p : Int) n :=
  inv_star h (at_list pat p hp) hs
theorem Rel.ok {name pat : ByteArray} {n p : Nat} {star : Int} {e : Nat} (h : Rel name pat n p star e) (hp : p < pat.size) (hn : n < name.size) (hs : (((pat[p]'hp).toNat : Int) == 42) = false) (ho : okc (pat[p]'hp) (name[n]'hn) = true) :
    Rel name pat (n + 1) (p + 1) star e :=
  inv_ok h (at_list pat p hp) hs (at_list name n hn) ho
def Stk (name pat : ByteArray) (n p : Nat) : Prop := Stuck isStar okc pat.data.toList name.data.toList n p
theorem stk_end {name pat : ByteArray} {n : Nat} : Stk name pat n pat.size := .inl (len_list pat).symm
theorem stk_no {name pat : ByteArray} {n p : Nat} (hp : p < pat.size) (hn : n < name.size) (hs : (((pat[p]'hp).toNat : Int) == 42) = false) (ho : okc (pat[p]'hp) (name[n]'hn) = false) : Stk name pat n p :=
  .inr ⟨_, _, at_list pat p hp, hs, at_list name n hn, ho⟩
theorem Rel.back {name pat : ByteArray} {n p e s : Nat} (h : Rel name pat n p (s : Int) e) (hn : n < name.size) (hst : Stk name pat n p) : Rel name pat (e + 1) (s + 1) (s : Int) (e + 1) :=
  inv_back h (by rw [len_list]; exact hn) hst
theorem Rel.fail {name pat : ByteArray} {n p e : Nat} (h : Rel name pat n p (-1) e) (hn : n < name.size) (hst : Stk name pat n p) : mt name pat = false :=
  inv_fail h (by rw [len_list]; exact hn) hst
theorem Rel.fin {name pat : ByteArray} {p e : Nat} {star : Int} (h : Rel name pat name.size p star e) : mt name pat = (pat.data.toList.drop p).all isStar := by
  unfold Rel at h; rw [← len_list name] at h; exact inv_end h
theorem okc_q {p c : UInt8} (h : ((p.toNat : Int) == 63) = true) : okc p c = true := by unfold okc; rw [h]; rfl
theorem okc_l {p c : UInt8} (h : ((p.toNat : Int) == 63) = false) (b : Bool) (h' : (low (p.toNat : Int) == low (c.toNat : Int)) = b) : okc p c = b := by unfold okc; rw [h, h']; rfl

theorem all_step {pat : ByteArray} {p : Nat} (hp : p < pat.size) : (pat.data.toList.drop p).all isStar = (isStar (pat[p]'hp) && (pat.data.toList.drop (p + 1)).all isStar) := by
  rw [drop_at (at_list pat p hp)]; rfl
theorem all_end (pat : ByteArray) : (pat.data.toList.drop pat.size).all isStar = true := by
  rw [List.drop_eq_nil_of_le (by rw [len_list]; exact Nat.le_refl _)]; rfl

theorem mu_star' {N P n p e : Nat} {star : Int} (h1 : -1 ≤ star) (h2 : star < p) (h3 : p < P) :
    mu N P (intOf (.int .i64 (n : Int))).toNat (intOf (.int .i64 (p : Int))) (intOf (.int .i64 (n : Int))).toNat < mu N P (intOf (.int .i64 (n : Int))).toNat (intOf (.int .i64 star)) (intOf (.int .i64 (e : Int))).toNat := by
  simpa [intOf] using mu_star (n := n) (e := e) (N := N) h1 h2 h3
theorem mu_ok' {N P n e : Nat} {star : Int} (h : n < N) :
    mu N P (intOf (.int .i64 ((n : Int) + 1))).toNat (intOf (.int .i64 star)) (intOf (.int .i64 (e : Int))).toNat < mu N P (intOf (.int .i64 (n : Int))).toNat (intOf (.int .i64 star)) (intOf (.int .i64 (e : Int))).toNat := by
  have e1 : ((n : Int) + 1).toNat = n + 1 := by omega
  simpa [intOf, e1] using mu_ok (N := N) (P := P) (e := e) (star := star) h
theorem mu_back' {N P n e : Nat} {star : Int} (h : e < N) :
    mu N P (intOf (.int .i64 ((e : Int) + 1))).toNat (intOf (.int .i64 star)) (intOf (.int .i64 ((e : Int) + 1))).toNat < mu N P (intOf (.int .i64 (n : Int))).toNat (intOf (.int .i64 star)) (intOf (.int .i64 (e : Int))).toNat := by
  have e1 : ((e : Int) + 1).toNat = e + 1 := by omega
  simpa [intOf, e1] using mu_back (N := N) (P := P) (n := n) (star := star) h

set_option maxHeartbeats 2000000 in
theorem matchP (name pat : ByteArray) (hN : name.size ≤ 1048576) (hP : pat.size ≤ 1048576) (w : World) :
    Calls Trym.prog 14 #[.string name, .string pat] w fun e w' => e = .returned (.bool (mt name pat)) ∧ ∃ n, w' = w.drewN n := by
  go_enter Trym.func14, Trym.ntmps14
  go_wp2
  go_loopw [5, 6, 7, 8] (fun a b c d wr => ∃ (n p e m : Nat) (star : Int), a = .int .i64 n ∧ b = .int .i64 p ∧ c = .int .i64 star ∧ d = .int .i64 e ∧ Rel name pat n p star e ∧ wr = w.drewN m)
    (fun a _ c d _ => mu name.size pat.size (intOf a).toNat (intOf c) (intOf d).toNat)
  case atStart => exact ⟨0, 0, 0, 0, -1, rfl, rfl, rfl, rfl, inv_start _ _, rfl⟩
  case round =>
    obtain ⟨n, p, e, m, star, rfl, rfl, rfl, rfl, hinv, hwr⟩ := hrel
    obtain ⟨b1, b2, b3, b4, b5, b6⟩ := hinv.bounds
    have HI : Hid (Rel name pat n p star e) := hinv
    have HW : Hid (wr = w.drewN m) := hwr
    clear hinv hwr
    by_cases hn : n < name.size
    · by_cases hp : p < pat.size
      · cases hs : (((pat[p]'hp).toNat : Int) == 42) with
        | true =>
          go_wp2
          go_roundw
          case rel => exact ⟨n, p + 1, n, m, p, rfl, by go_num, rfl, rfl, HI.out.star hp hs, HW.out⟩
          case measure => exact mu_star' b3 b4 hp
        | false =>
          cases hq : (((pat[p]'hp).toNat : Int) == 63) with
          | true =>
            go_wp2
            go_quiet (fail)
            go_wp2
            go_roundw
            case rel => exact ⟨n + 1, p + 1, e, m + nq, star, by go_num, by go_num, rfl, rfl, HI.out.ok hp hn hs (okc_q hq), by rw [HW.out, World.drewN_drewN]⟩
            case measure => exact mu_ok' hn
          | false =>
            cases hl : (low ((pat[p]'hp).toNat : Int) == low ((name[n]'hn).toNat : Int)) with
            | true =>
              go_wp2
              go_quiet ((go_at_call 15; exact Calls.quiet_of_same (lowerB _ _)))
              go_wp2
              go_roundw
              case rel => exact ⟨n + 1, p + 1, e, m + nq, star, by go_num, by go_num, rfl, rfl, HI.out.ok hp hn hs (okc_l hq _ hl), by rw [HW.out, World.drewN_drewN]⟩
              case measure => exact mu_ok' hn
            | false =>
              have HS : Hid (Stk name pat n p) := stk_no hp hn hs (okc_l hq _ hl)
              go_wp2
              go_quiet ((go_at_call 15; exact Calls.quiet_of_same (lowerB _ _)))
              go_wp2
              · obtain ⟨t, ht⟩ : ∃ t : Nat, star = (t : Int) := ⟨star.toNat, by omega⟩
                have hI := HI.out
                rw [ht] at hI
                go_roundw
                case rel => exact ⟨e + 1, t + 1, e + 1, m + nq, t, by go_num, by rw [ht]; go_num, by rw [ht], by go_num, hI.back hn HS.out, by rw [HW.out, World.drewN_drewN]⟩
                case measure => exact mu_back' (by omega)
              · have ht : star = -1 := by omega
                have hI := HI.out
                rw [ht] at hI
                go_ret
                exact ⟨ret_bool (hI.fail hn HS.out).symm, m + nq, by rw [HW.out, World.drewN_drewN]⟩
      · have hpd : decide ((p : Int) < (pat.size : Int)) = false := decide_eq_false (by omega)
        have HS : Hid (Stk name pat n p) := by
          have e1 : p = pat.size := by omega
          rw [e1]; exact stk_end
        go_wp2
        go_quiet (fail)
        go_wp2
        · obtain ⟨t, ht⟩ : ∃ t : Nat, star = (t : Int) := ⟨star.toNat, by omega⟩
          have hI := HI.out
          rw [ht] at hI
          go_roundw
          case rel => exact ⟨e + 1, t + 1, e + 1, m + nq, t, by go_num, by rw [ht]; go_num, by rw [ht], by go_num, hI.back hn HS.out, by rw [HW.out, World.drewN_drewN]⟩
          case measure => exact mu_back' (by omega)
        · have ht : star = -1 := by omega
          have hI := HI.out
          rw [ht] at hI
          go_ret
          exact ⟨ret_bool (hI.fail hn HS.out).symm, m + nq, by rw [HW.out, World.drewN_drewN]⟩
    · have hnn : n = name.size := by omega
      have hI := HI.out
      rw [hnn] at hI
      have HF : Hid (mt name pat = (pat.data.toList.drop p).all isStar) := hI.fin
      clear hI HI hnn
      go_wp2_with fail
      go_loop [6] (fun b => ∃ k : Nat, k ≤ pat.size ∧ b = .int .i64 k ∧ mt name pat = (pat.data.toList.drop k).all isStar) (fun b => pat.size - (intOf b).toNat)
      case atStart => exact ⟨p, b2, rfl, HF.out⟩
      case round =>
        obtain ⟨k, hk, rfl, hf⟩ := hrel
        have HK : Hid (mt name pat = (pat.data.toList.drop k).all isStar) := hf
        clear hf
        by_cases hp : k < pat.size
        · cases hs : (((pat[k]'hp).toNat : Int) == 42) with
          | true =>
            go_wp2
            go_round
            case rel => exact ⟨k + 1, by omega, by go_num, by rw [HK.out, all_step hp, isStar, hs]; rfl⟩
            case measure => simp [intOf]; omega
          | false =>
            have hne : ((k : Int) == (pat.size : Int)) = false := by rw [beq_eq_false_iff_ne]; omega
            go_wp2
            go_ret
            exact ⟨ret_bool (by rw [HK.out, all_step hp, isStar, hs]; rfl), m, HW.out⟩
        · have hpd : decide ((k : Int) < (pat.size : Int)) = false := decide_eq_false (by omega)
          have e1 : k = pat.size := by omega
          subst e1
          go_wp2
          go_ret
          exact ⟨ret_bool (by rw [HK.out, all_end]), m, HW.out⟩

set_option maxHeartbeats 1000000 in
theorem zzmatch (name pat : ByteArray) (hN : name.size ≤ 1048576) (hP : pat.size ≤ 1048576) (w : World) :
    Calls Trym.prog 7 #[.string name, .string pat] w fun e w' => e = .returned (.bool (mt name pat)) ∧ ∃ n, w' = w.drewN n := by
  go_enter Trym.func7, Trym.ntmps7
  go_wp2_with fail
  refine (matchP name pat hN hP _).mono ?_
  rintro e w' ⟨rfl, n, rfl⟩
  go_wp2
  go_ret
  exact ⟨rfl, _, rfl⟩
end Go.Proofs.Qxb6617864aMods
