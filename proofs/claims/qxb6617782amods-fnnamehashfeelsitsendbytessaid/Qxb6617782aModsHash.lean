/-
  PLAIN MATHEMATICS, no Go in sight: the hash of a name, step by step, and that each step can be undone.
-/
namespace Go.Proofs.Qxb6617782aMods.Plain

/-- Two to the sixty-fourth. -/
def W64 : Nat := 18446744073709551616
def m1 : Nat := 11400714819323198485
def m2 : Nat := 13787848793156543929
def i1 : Nat := 17428512612931826493
def i2 : Nat := 10871156337175269513

theorem W64_pow : W64 = 2 ^ 64 := rfl
theorem mi1 : m1 * i1 % W64 = 1 := by decide +kernel
theorem mi2 : m2 * i2 % W64 = 1 := by decide +kernel

theorem xor_lt {a b : Nat} (ha : a < W64) (hb : b < W64) : a ^^^ b < W64 := by
  rw [W64_pow] at *; exact Nat.xor_lt_two_pow ha hb

/-- One word is taken in: x -> y = x * m1; y ^ y >> 32. -/
def mix (x : Nat) : Nat := (x * m1 % W64) ^^^ (x * m1 % W64) / 4294967296
def unmix (z : Nat) : Nat := (z ^^^ z / 4294967296) * i1 % W64
def stp (h b : Nat) : Nat := mix (h ^^^ b)

theorem W64_pos : 0 < W64 := by decide +kernel
theorem mod_lt (x : Nat) : x % W64 < W64 := Nat.mod_lt _ W64_pos

theorem mix_lt (x : Nat) : mix x < W64 := by
  refine xor_lt (mod_lt _) (Nat.lt_of_le_of_lt (Nat.div_le_self _ _) (mod_lt _))
theorem unmix_lt (x : Nat) : unmix x < W64 := mod_lt _

theorem mul_back {m i x : Nat} (h : m * i % W64 = 1) (hx : x < W64) : (x * m % W64) * i % W64 = x := by
  rw [Nat.mod_mul_mod, Nat.mul_assoc, Nat.mul_mod, h, Nat.mul_one, Nat.mod_mod, Nat.mod_eq_of_lt hx]

theorem unshift {y : Nat} (hy : y < W64) : (y ^^^ y / 4294967296) ^^^ (y ^^^ y / 4294967296) / 4294967296 = y := by
  have e : ∀ z : Nat, z / 4294967296 = z >>> 32 := fun z => by rw [Nat.shiftRight_eq_div_pow]
  rw [e, e, Nat.shiftRight_xor_distrib, ← Nat.shiftRight_add]
  have h0 : y >>> (32 + 32) = 0 := by
    rw [Nat.shiftRight_eq_div_pow]
    exact Nat.div_eq_of_lt (by simpa [W64] using hy)
  rw [h0, Nat.xor_zero, Nat.xor_assoc, Nat.xor_self, Nat.xor_zero]

theorem unmix_mix {x : Nat} (hx : x < W64) : unmix (mix x) = x := by
  unfold unmix mix
  rw [unshift (mod_lt _)]
  exact mul_back mi1 hx

theorem xor_back (a b : Nat) : (a ^^^ b) ^^^ b = a := by rw [Nat.xor_assoc, Nat.xor_self, Nat.xor_zero]

theorem xor_inj {a b c : Nat} (h : a ^^^ b = a ^^^ c) : b = c := by
  have : a ^^^ (a ^^^ b) = a ^^^ (a ^^^ c) := by rw [h]
  rwa [← Nat.xor_assoc, ← Nat.xor_assoc, Nat.xor_self, Nat.zero_xor, Nat.zero_xor] at this

/-- All words but the last, one behind the other. -/
def run (h : Nat) (ws : List Nat) : Nat := ws.foldl stp h

theorem fold_snoc {γ : Type} (f : γ → Nat → γ) (h : γ) (ws : List Nat) (u : Nat) : (ws ++ [u]).foldl f h = f (ws.foldl f h) u := by simp
theorem fold_mid {γ : Type} (f : γ → Nat → γ) (h : γ) (a b : List Nat) (u : Nat) : (a ++ u :: b).foldl f h = b.foldl f (f (a.foldl f h) u) := by simp
theorem run_snoc (h : Nat) (ws : List Nat) (u : Nat) : run h (ws ++ [u]) = stp (run h ws) u := fold_snoc stp h ws u

theorem run_lt {h : Nat} (hh : h < W64) (ws : List Nat) : run h ws < W64 := by
  rcases List.eq_nil_or_concat ws with rfl | ⟨a, b, rfl⟩
  · exact hh
  · rw [List.concat_eq_append, run_snoc]; exact mix_lt _

theorem stp_inj {x y u : Nat} (hx : x < W64) (hy : y < W64) (hu : u < W64) (h : stp x u = stp y u) : x = y := by
  have := congrArg unmix h
  unfold stp at this
  rw [unmix_mix (xor_lt hx hu), unmix_mix (xor_lt hy hu)] at this
  have e := congrArg (· ^^^ u) this
  simpa [xor_back] using e

theorem stp_inj' {x u v : Nat} (hx : x < W64) (hu : u < W64) (hv : v < W64) (h : stp x u = stp x v) : u = v := by
  have := congrArg unmix h
  unfold stp at this
  rw [unmix_mix (xor_lt hx hu), unmix_mix (xor_lt hx hv)] at this
  exact xor_inj this

theorem run_inj : ∀ {ws : List Nat} (_ : ∀ u ∈ ws, u < W64) {x y : Nat} (_ : x < W64) (_ : y < W64), run x ws = run y ws → x = y
  | [], _, _, _, _, _, h => h
  | u :: ws, hw, x, y, hx, hy, h => by
    have := run_inj (ws := ws) (fun v hv => hw v (by simp [hv])) (x := stp x u) (y := stp y u) (mix_lt _) (mix_lt _) h
    exact stp_inj hx hy (hw u (by simp)) this

/-- The whole hash: the words, the last word, the last product. -/
def hash (h : Nat) (ws : List Nat) (l : Nat) : Nat := (run h ws ^^^ l) * m2 % W64

theorem hash_lt (h : Nat) (ws : List Nat) (l : Nat) : hash h ws l < W64 := mod_lt _

theorem hash_back {h : Nat} (hh : h < W64) (ws : List Nat) {l : Nat} (hl : l < W64) : hash h ws l * i2 % W64 ^^^ l = run h ws := by
  unfold hash
  rw [mul_back mi2 (xor_lt (run_lt hh ws) hl), xor_back]

theorem hash_inj {h : Nat} (hh : h < W64) {ws ws' : List Nat} {l l' : Nat} (hl : l < W64) (hl' : l' < W64) (e : hash h ws l = hash h ws' l') : run h ws ^^^ l = run h ws' ^^^ l' := by
  have := congrArg (· * i2 % W64) e
  simp only [hash] at this
  rwa [mul_back mi2 (xor_lt (run_lt hh ws) hl), mul_back mi2 (xor_lt (run_lt hh ws') hl')] at this

/-- Another last word: another hash. -/
theorem hash_last {h : Nat} (hh : h < W64) {ws : List Nat} {l l' : Nat} (hl : l < W64) (hl' : l' < W64) (hne : l ≠ l') : hash h ws l ≠ hash h ws l' :=
  fun e => hne (xor_inj (hash_inj hh hl hl' e))

/-- Another word somewhere, all else alike: another hash. -/
theorem hash_word {h : Nat} (hh : h < W64) {a b : List Nat} {u v l : Nat} (hb : ∀ x ∈ b, x < W64) (hu : u < W64) (hv : v < W64) (hl : l < W64) (hne : u ≠ v) : hash h (a ++ u :: b) l ≠ hash h (a ++ v :: b) l := by
  intro e
  have e1 := hash_inj hh hl hl e
  have e2 := congrArg (· ^^^ l) e1
  simp only [xor_back] at e2
  have e3 : ∀ x, run h (a ++ x :: b) = run (stp (run h a) x) b := fun x => fold_mid stp h a b x
  rw [e3, e3] at e2
  exact hne (stp_inj' (run_lt hh a) hu hv (run_inj hb (mix_lt _) (mix_lt _) e2))
end Go.Proofs.Qxb6617782aMods.Plain
