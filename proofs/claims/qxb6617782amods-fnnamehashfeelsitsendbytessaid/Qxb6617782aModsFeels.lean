import Derived.Test.Qxb6617782aModsName
namespace Go.Proofs.Qxb6617782aMods
open Plain

/-- Two functions that part at p alone, over the numbers below n. -/
theorem split_range (f g : Nat → Nat) (p : Nat) (hfg : ∀ j, j ≠ p → f j = g j) : ∀ n, p < n →
    ∃ a b, (List.range n).map f = a ++ f p :: b ∧ (List.range n).map g = a ++ g p :: b ∧ ∀ x ∈ b, ∃ j, x = f j := by
  intro n
  induction n with
  | zero => intro h; omega
  | succ n ih =>
    intro h
    rw [List.range_succ, List.map_append, List.map_append]
    by_cases e : p = n
    · subst e
      refine ⟨(List.range p).map f, [], rfl, ?_, by simp⟩
      rw [List.map_congr_left (l := List.range p) (f := g) (g := f) (fun j hj => (hfg j (by have := List.mem_range.1 hj; omega)).symm)]
      rfl
    · obtain ⟨a, b, e1, e2, e3⟩ := ih (by omega)
      refine ⟨a, b ++ [f n], by rw [e1]; simp, by rw [e2]; simp [hfg n (fun h => e h.symm)], ?_⟩
      intro x hx
      rcases List.mem_append.1 hx with hx | hx
      · exact e3 x hx
      · exact ⟨n, by simpa using hx⟩

theorem dig0 {a a' : Nat} (r1 r2 r3 r4 r5 r6 r7 : Nat) (h : a ≠ a') : a + r1 + r2 + r3 + r4 + r5 + r6 + r7 ≠ a' + r1 + r2 + r3 + r4 + r5 + r6 + r7 := by omega
theorem dig7 {a a' m : Nat} (hm : 0 < m) (r : Nat) (h : a ≠ a') : r + a * m ≠ r + a' * m := by
  intro e
  exact h (Nat.eq_of_mul_eq_mul_right hm (by omega))

theorem wrd_same {s s' : ByteArray} {k p : Nat} (hsame : ∀ j, j ≠ p → byt s j = byt s' j) (hk : ∀ i, i < 8 → k + i ≠ p) : wrd s k = wrd s' k := by
  unfold wrd
  rw [hsame k (hk 0 (by omega)), hsame (k + 1) (hk 1 (by omega)), hsame (k + 2) (hk 2 (by omega)), hsame (k + 3) (hk 3 (by omega)), hsame (k + 4) (hk 4 (by omega)), hsame (k + 5) (hk 5 (by omega)), hsame (k + 6) (hk 6 (by omega)), hsame (k + 7) (hk 7 (by omega))]

theorem wrd_first {s s' : ByteArray} {p : Nat} (hsame : ∀ j, j ≠ p → byt s j = byt s' j) (hne : byt s p ≠ byt s' p) : wrd s p ≠ wrd s' p := by
  unfold wrd
  rw [hsame (p + 1) (by omega), hsame (p + 2) (by omega), hsame (p + 3) (by omega), hsame (p + 4) (by omega), hsame (p + 5) (by omega), hsame (p + 6) (by omega), hsame (p + 7) (by omega)]
  exact dig0 _ _ _ _ _ _ _ hne

theorem wrd_last {s s' : ByteArray} {k p : Nat} (hk : k + 7 = p) (hsame : ∀ j, j ≠ p → byt s j = byt s' j) (hne : byt s p ≠ byt s' p) : wrd s k ≠ wrd s' k := by
  unfold wrd
  rw [hsame k (by omega), hsame (k + 1) (by omega), hsame (k + 2) (by omega), hsame (k + 3) (by omega), hsame (k + 4) (by omega), hsame (k + 5) (by omega), hsame (k + 6) (by omega), hk]
  exact dig7 (by decide) _ hne

theorem byt_lt64 (s : ByteArray) (j : Nat) : byt s j < W64 := Nat.lt_trans (byt_lt s j) (by decide +kernel)

theorem ne_short {s s' : ByteArray} {h p n : Nat} (hh : h < W64) (hp : p < n) (hne : byt s p ≠ byt s' p) (hsame : ∀ j, j ≠ p → byt s j = byt s' j) : hash h (bytesTo s n) 0 ≠ hash h (bytesTo s' n) 0 := by
  obtain ⟨a, b, e1, e2, e3⟩ := split_range (byt s) (byt s') p hsame n hp
  unfold bytesTo
  rw [e1, e2]
  exact hash_word hh (fun x hx => by obtain ⟨j, rfl⟩ := e3 x hx; exact byt_lt64 _ _) (byt_lt64 _ _) (byt_lt64 _ _) W64_pos hne

theorem ne_first {s s' : ByteArray} {h q l : Nat} (hh : h < W64) (hq : 0 < q) (hl : 0 < l) (hne : byt s 0 ≠ byt s' 0) (hsame : ∀ j, j ≠ 0 → byt s j = byt s' j) : hash h (wordsTo s q) (wrd s l) ≠ hash h (wordsTo s' q) (wrd s' l) := by
  obtain ⟨a, b, e1, e2, e3⟩ := split_range (fun j => wrd s (8 * j)) (fun j => wrd s' (8 * j)) 0 (fun j hj => wrd_same hsame (fun i _ => by omega)) q hq
  unfold wordsTo
  rw [e1, e2, wrd_same hsame (k := l) (fun i _ => by omega)]
  exact hash_word hh (fun x hx => by obtain ⟨j, rfl⟩ := e3 x hx; exact wrd_lt _ _) (wrd_lt _ _) (wrd_lt _ _) (wrd_lt _ _) (wrd_first hsame hne)

theorem ne_last {s s' : ByteArray} {h q l : Nat} (hh : h < W64) (hw : ∀ j, j < q → wrd s (8 * j) = wrd s' (8 * j)) (hne : wrd s l ≠ wrd s' l) : hash h (wordsTo s q) (wrd s l) ≠ hash h (wordsTo s' q) (wrd s' l) := by
  have ws : wordsTo s q = wordsTo s' q := List.map_congr_left fun j hj => hw j (List.mem_range.1 hj)
  rw [ws]
  exact hash_last hh (wrd_lt _ _) (wrd_lt _ _) hne

/-- Another byte in the first or the last place: another hash. -/
theorem nameHash_ne (s s' : ByteArray) (seed p : Nat) (hsz : s'.size = s.size) (h0 : 0 < s.size) (hm : s.size ≤ 1048576) (hseed : seed < W64) (hp : p = 0 ∨ p = s.size - 1)
    (hne : byt s p ≠ byt s' p) (hsame : ∀ j, j ≠ p → byt s j = byt s' j) : nameHash s seed ≠ nameHash s' seed := by
  have hh : seed ^^^ s.size < W64 := xor_lt hseed (size_lt hm)
  unfold nameHash
  rw [hsz]
  by_cases h8 : s.size < 8
  · rw [if_pos h8, if_pos h8]
    exact ne_short hh (by omega) hne hsame
  · rw [if_neg h8, if_neg h8]
    by_cases hc : p = 0 ∧ 8 < s.size
    · obtain ⟨rfl, h9⟩ := hc
      exact ne_first hh (by omega) (by omega) hne hsame
    · refine ne_last hh (fun j hj => wrd_same hsame fun i hi => by omega) ?_
      by_cases hz : p = 0
      · subst hz
        have e8 : s.size - 8 = 0 := by omega
        rw [e8]
        exact wrd_first hsame hne
      · exact wrd_last (p := p) (by omega) hsame hne
end Go.Proofs.Qxb6617782aMods
