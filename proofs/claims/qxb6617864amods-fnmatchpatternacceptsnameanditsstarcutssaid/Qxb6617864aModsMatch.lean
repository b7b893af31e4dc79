/-
  PLAIN MATHEMATICS, no Go in sight: a pattern of '*', '?' and letters against a name.
-/
namespace Go.Proofs.Qxb6617864aMods.Plain

/-- Some end of the list (the whole list and the empty one among them) does f. -/
def anySuf {β : Type} (f : List β → Bool) : List β → Bool
  | [] => f []
  | c :: cs => f (c :: cs) || anySuf f cs

theorem anySuf_iff {β : Type} (f : List β → Bool) (l : List β) : anySuf f l = true ↔ ∃ a b, l = a ++ b ∧ f b = true := by
  induction l with
  | nil =>
    constructor
    · intro h; exact ⟨[], [], rfl, h⟩
    · rintro ⟨a, b, h, hf⟩
      have hb : b = [] := by cases a <;> simp_all
      subst hb; exact hf
  | cons c cs ih =>
    simp only [anySuf, Bool.or_eq_true, ih]
    constructor
    · rintro (h | ⟨a, b, rfl, h⟩)
      · exact ⟨[], c :: cs, rfl, h⟩
      · exact ⟨c :: a, b, rfl, h⟩
    · rintro ⟨a, b, h, hf⟩
      cases a with
      | nil => left; simp only [List.nil_append] at h; rw [h]; exact hf
      | cons x a => right; simp only [List.cons_append, List.cons.injEq] at h; exact ⟨a, b, h.2, hf⟩

/-- THE MEANING: does the pattern match the whole name? 'st': is this letter of the pattern a star; 'ok': does a letter of the pattern that is no star take this letter of the name. -/
def M {α β : Type} (st : α → Bool) (ok : α → β → Bool) : List α → List β → Bool
  | [], [] => true
  | [], _ :: _ => false
  | p :: ps, n => if st p then anySuf (M st ok ps) n else match n with
    | [] => false
    | c :: cs => ok p c && M st ok ps cs

section
variable {α β : Type} {st : α → Bool} {ok : α → β → Bool}

theorem M_nil (n : List β) : M st ok [] n = true ↔ n = [] := by cases n <;> simp [M]

theorem M_star {p : α} (h : st p = true) (ps : List α) (n : List β) : M st ok (p :: ps) n = true ↔ ∃ a b, n = a ++ b ∧ M st ok ps b = true := by
  simp only [M, h, if_true]; exact anySuf_iff _ _

theorem M_lit {p : α} (h : st p = false) (ps : List α) (n : List β) : M st ok (p :: ps) n = true ↔ ∃ c cs, n = c :: cs ∧ ok p c = true ∧ M st ok ps cs = true := by
  cases n with
  | nil => simp [M, h]
  | cons c cs =>
    simp only [M, h]
    constructor
    · intro hm; exact ⟨c, cs, rfl, by simpa using hm⟩
    · rintro ⟨c', cs', e, hm⟩
      simp only [List.cons.injEq] at e
      obtain ⟨rfl, rfl⟩ := e
      simpa using hm

/-- Two patterns, one behind the other. -/
theorem M_append (ps qs : List α) : ∀ (n : List β), M st ok (ps ++ qs) n = true ↔ ∃ a b, n = a ++ b ∧ M st ok ps a = true ∧ M st ok qs b = true := by
  induction ps with
  | nil =>
    intro n
    constructor
    · intro h; exact ⟨[], n, rfl, rfl, h⟩
    · rintro ⟨a, b, rfl, ha, hb⟩
      rw [M_nil] at ha; subst ha; exact hb
  | cons p ps ih =>
    intro n
    cases h : st p with
    | true =>
      rw [List.cons_append, M_star h]
      constructor
      · rintro ⟨a, b, rfl, hm⟩
        obtain ⟨c, d, rfl, hc, hd⟩ := (ih b).1 hm
        exact ⟨a ++ c, d, by simp, (M_star h _ _).2 ⟨a, c, rfl, hc⟩, hd⟩
      · rintro ⟨a, b, rfl, ha, hb⟩
        obtain ⟨c, d, rfl, hd⟩ := (M_star h _ _).1 ha
        exact ⟨c, d ++ b, by simp, (ih _).2 ⟨d, b, rfl, hd, hb⟩⟩
    | false =>
      rw [List.cons_append, M_lit h]
      constructor
      · rintro ⟨c, cs, rfl, hok, hm⟩
        obtain ⟨a, b, rfl, ha, hb⟩ := (ih cs).1 hm
        exact ⟨c :: a, b, rfl, (M_lit h _ _).2 ⟨c, a, rfl, hok, ha⟩, hb⟩
      · rintro ⟨a, b, rfl, ha, hb⟩
        obtain ⟨c, cs, rfl, hok, hm⟩ := (M_lit h _ _).1 ha
        exact ⟨c, cs ++ b, rfl, hok, (ih _).2 ⟨cs, b, rfl, hm, hb⟩⟩

/-! ### Letter by letter from behind: the table's rule -/
theorem M_snoc_star {p : α} (h : st p = true) (ps : List α) (n : List β) : M st ok (ps ++ [p]) n = true ↔ ∃ a b, n = a ++ b ∧ M st ok ps a = true := by
  rw [M_append]
  constructor
  · rintro ⟨a, b, rfl, ha, _⟩; exact ⟨a, b, rfl, ha⟩
  · rintro ⟨a, b, rfl, ha⟩; exact ⟨a, b, rfl, ha, (M_star h _ _).2 ⟨b, [], by simp, rfl⟩⟩

theorem M_snoc_star_nil {p : α} (h : st p = true) (ps : List α) : M st ok (ps ++ [p]) ([] : List β) = M st ok ps [] := by
  rw [Bool.eq_iff_iff, M_snoc_star h]
  constructor
  · rintro ⟨a, b, e, ha⟩
    have : a = [] := by cases a <;> simp_all
    subst this; exact ha
  · intro ha; exact ⟨[], [], rfl, ha⟩

theorem M_snoc_star_snoc {p : α} (h : st p = true) (ps : List α) (n : List β) (c : β) : M st ok (ps ++ [p]) (n ++ [c]) = (M st ok (ps ++ [p]) n || M st ok ps (n ++ [c])) := by
  rw [Bool.eq_iff_iff, Bool.or_eq_true, M_snoc_star h, M_snoc_star h]
  constructor
  · rintro ⟨a, b, e, ha⟩
    rcases List.eq_nil_or_concat b with rfl | ⟨b', x, rfl⟩
    · right; simp at e; rw [e]; exact ha
    · left
      rw [List.concat_eq_append, ← List.append_assoc] at e
      have := List.append_inj' e rfl
      exact ⟨a, b', this.1, ha⟩
  · rintro (⟨a, b, rfl, ha⟩ | ha)
    · exact ⟨a, b ++ [c], by simp, ha⟩
    · exact ⟨n ++ [c], [], by simp, ha⟩

theorem M_one_lit {p : α} (h : st p = false) (n : List β) : M st ok [p] n = true ↔ ∃ c, n = [c] ∧ ok p c = true := by
  rw [M_lit h]
  constructor
  · rintro ⟨c, cs, rfl, hok, hm⟩
    rw [M_nil] at hm; subst hm; exact ⟨c, rfl, hok⟩
  · rintro ⟨c, rfl, hok⟩; exact ⟨c, [], rfl, hok, rfl⟩

theorem M_snoc_lit_nil {p : α} (h : st p = false) (ps : List α) : M st ok (ps ++ [p]) ([] : List β) = false := by
  rw [Bool.eq_false_iff, ne_eq, M_append]
  rintro ⟨a, b, e, _, hb⟩
  obtain ⟨c, rfl, _⟩ := (M_one_lit h _).1 hb
  simp at e

theorem M_snoc_lit_snoc {p : α} (h : st p = false) (ps : List α) (n : List β) (c : β) : M st ok (ps ++ [p]) (n ++ [c]) = (M st ok ps n && ok p c) := by
  rw [Bool.eq_iff_iff, Bool.and_eq_true, M_append]
  constructor
  · rintro ⟨a, b, e, ha, hb⟩
    obtain ⟨x, rfl, hok⟩ := (M_one_lit h _).1 hb
    have := List.append_inj' e rfl
    obtain ⟨rfl, e2⟩ := this
    simp only [List.cons.injEq, and_true] at e2
    subst e2; exact ⟨ha, hok⟩
  · rintro ⟨ha, hok⟩; exact ⟨n, [c], rfl, ha, (M_one_lit h _).2 ⟨c, rfl, hok⟩⟩

theorem M_nil_snoc (n : List β) (c : β) : M st ok [] (n ++ [c]) = false := by
  rw [Bool.eq_false_iff, ne_eq, M_nil]; simp

/-! ### The backtracking walk -/
/-- No star in xs, and xs takes ys letter by letter. -/
def Seg (st : α → Bool) (ok : α → β → Bool) : List α → List β → Prop
  | [], [] => True
  | p :: ps, c :: cs => st p = false ∧ ok p c = true ∧ Seg st ok ps cs
  | _, _ => False

theorem Seg.snoc : ∀ {xs : List α} {ys : List β} (_ : Seg st ok xs ys) {p : α} {c : β} (_ : st p = false) (_ : ok p c = true), Seg st ok (xs ++ [p]) (ys ++ [c])
  | [], [], _, _, _, hp, hc => ⟨hp, hc, trivial⟩
  | _ :: _, _ :: _, h, _, _, hp, hc => ⟨h.1, h.2.1, Seg.snoc h.2.2 hp hc⟩

/-- A piece without stars goes letter by letter: what it takes is as long as it is. -/
theorem M_seg : ∀ {xs : List α} {ys : List β} (_ : Seg st ok xs ys) (rest : List α) (n : List β), M st ok (xs ++ rest) (ys ++ n) = M st ok rest n
  | [], [], _, _, _ => rfl
  | p :: ps, c :: cs, h, rest, n => by
    have ih := M_seg h.2.2 rest n
    show M st ok (p :: (ps ++ rest)) (c :: (cs ++ n)) = _
    simp only [M, h.1, h.2.1, Bool.true_and]
    simpa using ih

theorem M_lits_split : ∀ {xs : List α} {ys : List β} (_ : Seg st ok xs ys) (rest : List α) (n : List β), M st ok (xs ++ rest) n = true → ∃ a b, n = a ++ b ∧ a.length = ys.length ∧ M st ok rest b = true
  | [], [], _, _, n, hm => ⟨[], n, rfl, rfl, hm⟩
  | p :: ps, c :: cs, h, rest, n, hm => by
    rw [List.cons_append, M_lit h.1] at hm
    obtain ⟨x, xs, rfl, _, hm⟩ := hm
    obtain ⟨a, b, rfl, hl, hb⟩ := M_lits_split h.2.2 rest xs hm
    exact ⟨x :: a, b, rfl, by simp [hl], hb⟩

/-- A second star met: what the first may still take, the second may take as well. -/
theorem star_star {p q : α} (hp : st p = true) (hq : st q = true) {xs : List α} {ys : List β} (h : Seg st ok xs ys) (rest : List α) (n : List β) :
    M st ok (p :: (xs ++ q :: rest)) (ys ++ n) = M st ok (q :: rest) n := by
  rw [Bool.eq_iff_iff]
  constructor
  · intro hm
    obtain ⟨a, b, e, hm⟩ := (M_star hp _ _).1 hm
    obtain ⟨c, d, rfl, hl, hm⟩ := M_lits_split h _ _ hm
    obtain ⟨f, g, rfl, hm2⟩ := (M_star hq _ _).1 hm
    refine (M_star hq _ _).2 ?_
    -- n = (a ++ c ++ f ++ g) without its first |ys| letters
    have e2 : n = (a ++ (c ++ (f ++ g))).drop ys.length := by rw [← e]; simp
    have e3 : a ++ (c ++ (f ++ g)) = (a ++ c ++ f) ++ g := by simp
    refine ⟨(a ++ c ++ f).drop ys.length, g, ?_, hm2⟩
    rw [e2, e3, List.drop_append_of_le_length (by simp; omega)]
  · intro hm
    refine (M_star hp _ _).2 ⟨[], ys ++ n, rfl, ?_⟩
    rw [M_seg h]; exact hm

/-- The star takes one letter more. -/
theorem star_more {p : α} (hp : st p = true) (ps : List α) (c : β) (n : List β) (h : M st ok ps (c :: n) = false) : M st ok (p :: ps) (c :: n) = M st ok (p :: ps) n := by
  simp only [M, hp, if_true, anySuf]
  rw [h]; simp

/-- At the name's end: the piece behind the star has taken all; the star takes nothing. -/
theorem star_end {p : α} (hp : st p = true) {xs : List α} {ys : List β} (h : Seg st ok xs ys) (rest : List α) : M st ok (p :: (xs ++ rest)) ys = M st ok rest [] := by
  rw [Bool.eq_iff_iff]
  constructor
  · intro hm
    obtain ⟨a, b, e, hm⟩ := (M_star hp _ _).1 hm
    obtain ⟨c, d, rfl, hl, hm⟩ := M_lits_split h _ _ hm
    have hlen := congrArg List.length e
    simp at hlen
    have hd : d = [] := List.eq_nil_of_length_eq_zero (by omega)
    subst hd; exact hm
  · intro hm
    refine (M_star hp _ _).2 ⟨[], ys, rfl, ?_⟩
    have := M_seg h rest []
    rw [List.append_nil] at this
    rw [this]; exact hm

/-- At the name's end only stars may be left. -/
theorem M_all_stars (ps : List α) : M st ok ps ([] : List β) = ps.all st := by
  induction ps with
  | nil => rfl
  | cons p ps ih =>
    cases h : st p with
    | true => simp [M, h, anySuf, ih]
    | false => simp [M, h]

/-! ### The walk's four numbers: n (in the name), p (in the pattern), the last star met (-1: none), e (where the letters that it takes end) -/
def Inv (st : α → Bool) (ok : α → β → Bool) (pat : List α) (name : List β) (n p : Nat) (star : Int) (e : Nat) : Prop :=
  n ≤ name.length ∧ p ≤ pat.length ∧
  ((star = -1 ∧ e = 0 ∧ M st ok pat name = M st ok (pat.drop p) (name.drop n)) ∨
   ∃ s : Nat, star = (s : Int) ∧ e ≤ n ∧ p = s + 1 + (n - e) ∧ (∃ q, pat[s]? = some q ∧ st q = true) ∧ Seg st ok ((pat.drop (s + 1)).take (n - e)) ((name.drop e).take (n - e)) ∧
     M st ok pat name = M st ok (pat.drop s) (name.drop e))

theorem drop_at {γ : Type} {l : List γ} {i : Nat} {x : γ} (h : l[i]? = some x) : l.drop i = x :: l.drop (i + 1) := by
  obtain ⟨hi, rfl⟩ := List.getElem?_eq_some_iff.1 h
  exact List.drop_eq_getElem_cons hi

theorem take_at {γ : Type} {l : List γ} {i : Nat} {x : γ} (h : l[i]? = some x) : l.take (i + 1) = l.take i ++ [x] := by
  obtain ⟨hi, rfl⟩ := List.getElem?_eq_some_iff.1 h
  exact List.take_succ_eq_append_getElem hi

theorem cut_at {γ : Type} (l : List γ) (i k : Nat) : l.drop i = (l.drop i).take k ++ l.drop (i + k) := by
  rw [← List.drop_drop]; exact (List.take_append_drop k (l.drop i)).symm

theorem inv_start (pat : List α) (name : List β) : Inv st ok pat name 0 0 (-1) 0 :=
  ⟨Nat.zero_le _, Nat.zero_le _, .inl ⟨rfl, rfl, rfl⟩⟩

theorem inv_bounds {pat : List α} {name : List β} {n p : Nat} {star : Int} {e : Nat} (h : Inv st ok pat name n p star e) :
    n ≤ name.length ∧ p ≤ pat.length ∧ -1 ≤ star ∧ star < p ∧ e ≤ n ∧ star < pat.length := by
  obtain ⟨h1, h2, ⟨rfl, rfl, _⟩ | ⟨s, rfl, he, hp, _⟩⟩ := h
  · exact ⟨h1, h2, by omega, by omega, by omega, by omega⟩
  · exact ⟨h1, h2, by omega, by omega, by omega, by omega⟩

theorem inv_star {pat : List α} {name : List β} {n p : Nat} {star : Int} {e : Nat} (h : Inv st ok pat name n p star e) {q : α} (hq : pat[p]? = some q) (hs : st q = true) :
    Inv st ok pat name n (p + 1) (p : Int) n := by
  have hlt : p < pat.length := (List.getElem?_eq_some_iff.1 hq).1
  obtain ⟨h1, h2, h3⟩ := h
  refine ⟨h1, hlt, .inr ⟨p, rfl, Nat.le_refl _, by omega, ⟨q, hq, hs⟩, by simp [Seg], ?_⟩⟩
  rcases h3 with ⟨_, _, h3⟩ | ⟨s, rfl, he, hp, ⟨q', hq', hs'⟩, hseg, h3⟩
  · exact h3
  · rw [h3, drop_at hq', cut_at pat (s + 1) (n - e), cut_at name e (n - e), ← hp, show e + (n - e) = n from by omega, drop_at hq]
    exact star_star hs' hs hseg _ _

theorem inv_ok {pat : List α} {name : List β} {n p : Nat} {star : Int} {e : Nat} (h : Inv st ok pat name n p star e) {q : α} {c : β} (hq : pat[p]? = some q) (hs : st q = false) (hc : name[n]? = some c) (ho : ok q c = true) :
    Inv st ok pat name (n + 1) (p + 1) star e := by
  have hlt : p < pat.length := (List.getElem?_eq_some_iff.1 hq).1
  have hlt2 : n < name.length := (List.getElem?_eq_some_iff.1 hc).1
  obtain ⟨h1, h2, h3⟩ := h
  refine ⟨hlt2, hlt, ?_⟩
  rcases h3 with ⟨rfl, rfl, h3⟩ | ⟨s, rfl, he, hp, hq', hseg, h3⟩
  · refine .inl ⟨rfl, rfl, ?_⟩
    rw [h3, drop_at hq, drop_at hc]
    simp [M, hs, ho]
  · refine .inr ⟨s, rfl, by omega, by omega, hq', ?_, h3⟩
    have e1 : n + 1 - e = (n - e) + 1 := by omega
    rw [e1, take_at (x := q) (by rw [List.getElem?_drop, ← hp]; exact hq), take_at (x := c) (by rw [List.getElem?_drop, show e + (n - e) = n from by omega]; exact hc)]
    exact hseg.snoc hs ho

/-- The letter at hand does not go on: the pattern is at its end, or its letter is no star and does not take the name's. -/
def Stuck (st : α → Bool) (ok : α → β → Bool) (pat : List α) (name : List β) (n p : Nat) : Prop :=
  p = pat.length ∨ ∃ q c, pat[p]? = some q ∧ st q = false ∧ name[n]? = some c ∧ ok q c = false

theorem stuck_false {pat : List α} {name : List β} {n p : Nat} (hn : n < name.length) (h : Stuck st ok pat name n p) : M st ok (pat.drop p) (name.drop n) = false := by
  rcases h with rfl | ⟨q, c, hq, hs, hc, ho⟩
  · rw [List.drop_eq_nil_of_le (Nat.le_refl _), List.drop_eq_getElem_cons hn]; rfl
  · rw [drop_at hq, drop_at hc]; simp [M, hs, ho]

theorem inv_fail {pat : List α} {name : List β} {n p e : Nat} (h : Inv st ok pat name n p (-1) e) (hn : n < name.length) (hst : Stuck st ok pat name n p) : M st ok pat name = false := by
  obtain ⟨h1, h2, ⟨_, _, h3⟩ | ⟨s, hs, _⟩⟩ := h
  · rw [h3]; exact stuck_false hn hst
  · omega

theorem inv_back {pat : List α} {name : List β} {n p e s : Nat} (h : Inv st ok pat name n p (s : Int) e) (hn : n < name.length) (hst : Stuck st ok pat name n p) :
    Inv st ok pat name (e + 1) (s + 1) (s : Int) (e + 1) := by
  obtain ⟨h1, h2, ⟨hs, _⟩ | ⟨s', hs, he, hp, ⟨q, hq, hsq⟩, hseg, h3⟩⟩ := h
  · omega
  · obtain rfl : s' = s := by omega
    have hlt : s' < pat.length := (List.getElem?_eq_some_iff.1 hq).1
    refine ⟨by omega, hlt, .inr ⟨s', rfl, Nat.le_refl _, by omega, ⟨q, hq, hsq⟩, by simp [Seg], ?_⟩⟩
    have hce : name[e]? = some name[e] := List.getElem?_eq_getElem (by omega)
    rw [h3, drop_at hq, drop_at hce]
    refine star_more hsq _ _ _ ?_
    rw [← drop_at hce, cut_at pat (s' + 1) (n - e), cut_at name e (n - e), M_seg hseg, ← hp, show e + (n - e) = n from by omega]
    exact stuck_false hn hst

theorem inv_end {pat : List α} {name : List β} {p : Nat} {star : Int} {e : Nat} (h : Inv st ok pat name name.length p star e) : M st ok pat name = (pat.drop p).all st := by
  rw [← M_all_stars (ok := ok)]
  obtain ⟨h1, h2, ⟨_, _, h3⟩ | ⟨s, rfl, he, hp, ⟨q, hq, hsq⟩, hseg, h3⟩⟩ := h
  · rw [h3, List.drop_eq_nil_of_le (Nat.le_refl _)]
  · rw [h3, drop_at hq, cut_at pat (s + 1) (name.length - e), ← hp]
    rw [List.take_of_length_le (l := name.drop e) (by simp)] at hseg
    exact star_end hsq hseg _

/-- The measure that every round lowers. -/
def mu (N P n : Nat) (star : Int) (e : Nat) : Nat := ((P - (star + 1).toNat) * (N + 1) + (N - e)) * (N + 1) + (N - n)

theorem lex3 {N A B C A' B' C' : Nat} (hB' : B' ≤ N) (hC' : C' ≤ N) (h : A' < A ∨ (A' = A ∧ (B' < B ∨ (B' = B ∧ C' < C)))) :
    (A' * (N + 1) + B') * (N + 1) + C' < (A * (N + 1) + B) * (N + 1) + C := by
  have key : ∀ {X X' Y Y' : Nat}, Y' ≤ N → X' < X → X' * (N + 1) + Y' < X * (N + 1) + Y := by
    intro X X' Y Y' hY hX
    have := Nat.mul_le_mul_right (N + 1) (show X' + 1 ≤ X from hX)
    rw [Nat.succ_mul] at this
    omega
  rcases h with h | ⟨rfl, h | ⟨rfl, h⟩⟩
  · exact key hC' (key hB' h)
  · exact key hC' (by omega)
  · omega

theorem mu_star {N P n p e : Nat} {star : Int} (h1 : -1 ≤ star) (h2 : star < p) (h3 : p < P) : mu N P n (p : Int) n < mu N P n star e :=
  lex3 (by omega) (by omega) (.inl (by omega))
theorem mu_ok {N P n e : Nat} {star : Int} (h : n < N) : mu N P (n + 1) star e < mu N P n star e :=
  lex3 (by omega) (by omega) (.inr ⟨rfl, .inr ⟨rfl, by omega⟩⟩)
theorem mu_back {N P n e : Nat} {star : Int} (h : e < N) : mu N P (e + 1) star (e + 1) < mu N P n star e :=
  lex3 (by omega) (by omega) (.inr ⟨rfl, .inl (by omega)⟩)
end
end Go.Proofs.Qxb6617864aMods.Plain
