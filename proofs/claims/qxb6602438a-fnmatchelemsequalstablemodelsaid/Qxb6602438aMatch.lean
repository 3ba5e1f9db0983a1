/- Plain mathematics, no Go in sight: a row of tokens (a star takes any number of places, any other token takes 'len' places where 'ok' says so and a place is left) against N places;
   and the walk with one star remembered, told by what holds at each of its rounds. -/
namespace Go.Proofs.Qxb6602438a

structure G where
  star : Bool
  len : Nat
  ok : Nat → Bool

def upTo (N : Nat) (f : Nat → Bool) (p : Nat) : Bool := (List.range (N + 1)).any fun q => decide (p ≤ q) && f q

theorem upTo_iff {N : Nat} {f : Nat → Bool} {p : Nat} : upTo N f p = true ↔ ∃ q, p ≤ q ∧ q ≤ N ∧ f q = true := by
  unfold upTo
  rw [List.any_eq_true]
  constructor
  · rintro ⟨q, hq, h⟩
    simp at hq h
    exact ⟨q, h.1, by omega, h.2⟩
  · rintro ⟨q, h1, h2, h3⟩
    exact ⟨q, by simp; omega, by simp [h1, h3]⟩

def mt (N : Nat) : List G → Nat → Bool
  | [], p => decide (p = N)
  | t :: ts, p => if t.star then upTo N (mt N ts) p else decide (p < N) && (t.ok p && mt N ts (p + t.len))

/-- do the tokens from i on match the places from p on? -/
def M (g : Nat → G) (L N i p : Nat) : Bool := mt N (((List.range L).map g).drop i) p

section
variable {g : Nat → G} {L N : Nat}

theorem drop_tok {i : Nat} (h : i < L) : ((List.range L).map g).drop i = g i :: ((List.range L).map g).drop (i + 1) := by
  rw [List.drop_eq_getElem_cons (by simpa using h)]
  simp

theorem M_end {i p : Nat} (h : L ≤ i) : M g L N i p = decide (p = N) := by
  unfold M
  rw [List.drop_of_length_le (by simpa using h)]
  rfl

theorem M_star {i p : Nat} (h : i < L) (hs : (g i).star = true) : M g L N i p = true ↔ ∃ q, p ≤ q ∧ q ≤ N ∧ M g L N (i + 1) q = true := by
  unfold M
  rw [drop_tok h]
  conv => lhs; unfold mt
  rw [if_pos hs, upTo_iff]

theorem M_tok {i p : Nat} (h : i < L) (hs : (g i).star = false) : M g L N i p = (decide (p < N) && ((g i).ok p && M g L N (i + 1) (p + (g i).len))) := by
  unfold M
  rw [drop_tok h]
  conv => lhs; unfold mt
  rw [hs]
  rfl

theorem M_tok_iff {i p : Nat} (h : i < L) (hs : (g i).star = false) : M g L N i p = true ↔ p < N ∧ (g i).ok p = true ∧ M g L N (i + 1) (p + (g i).len) = true := by
  rw [M_tok h hs]; simp

theorem M_le {i p : Nat} (h : M g L N i p = true) : p ≤ N := by
  by_cases hi : i < L
  · cases hs : (g i).star with
    | true => obtain ⟨q, h1, h2, _⟩ := (M_star hi hs).1 h; omega
    | false => have := ((M_tok_iff hi hs).1 h).1; omega
  · rw [M_end (by omega)] at h; simp at h; omega

/-- the table's row for a star -/
theorem M_star_step {i p : Nat} (h : i < L) (hs : (g i).star = true) (hp : p < N) : M g L N i p = (M g L N (i + 1) p || M g L N i (p + 1)) := by
  rw [Bool.eq_iff_iff, Bool.or_eq_true, M_star h hs, M_star h hs]
  constructor
  · rintro ⟨q, h1, h2, h3⟩
    by_cases e : q = p
    · subst e; exact Or.inl h3
    · exact Or.inr ⟨q, by omega, h2, h3⟩
  · rintro (h | ⟨q, h1, h2, h3⟩)
    · exact ⟨p, Nat.le_refl _, by omega, h⟩
    · exact ⟨q, by omega, h2, h3⟩

theorem M_star_last {i : Nat} (h : i < L) (hs : (g i).star = true) : M g L N i N = M g L N (i + 1) N := by
  rw [Bool.eq_iff_iff, M_star h hs]
  constructor
  · rintro ⟨q, h1, h2, h3⟩
    obtain rfl : q = N := by omega
    exact h3
  · intro h; exact ⟨N, Nat.le_refl _, Nat.le_refl _, h⟩

/-- what holds at each round of the walk with one star remembered -/
def Inv (g : Nat → G) (L N t n : Nat) (star : Int) (at' : Nat) : Prop :=
  t ≤ L ∧ n ≤ N ∧ at' ≤ n ∧
  ((star = -1 ∧ (M g L N 0 0 = true ↔ M g L N t n = true)) ∨
   ∃ s : Nat, star = s ∧ s < t ∧ (M g L N 0 0 = true ↔ ∃ q, at' ≤ q ∧ q ≤ N ∧ M g L N (s + 1) q = true) ∧
     (∀ q, at' ≤ q → M g L N (s + 1) q = true → M g L N t (q + (n - at')) = true) ∧ (M g L N t n = true → M g L N (s + 1) at' = true))

theorem inv0 : Inv g L N 0 0 (-1) 0 := ⟨Nat.zero_le _, Nat.zero_le _, Nat.le_refl _, Or.inl ⟨rfl, Iff.rfl⟩⟩

theorem inv_star {t n : Nat} {star : Int} {a : Nat} (h : Inv g L N t n star a) (ht : t < L) (hs : (g t).star = true) : Inv g L N (t + 1) n t n := by
  obtain ⟨h1, h2, h3, h4⟩ := h
  refine ⟨by omega, h2, Nat.le_refl _, Or.inr ⟨t, rfl, by omega, ?_, ?_, ?_⟩⟩
  · rcases h4 with ⟨_, e⟩ | ⟨s, _, hst, e, p1, p2⟩
    · rw [e, M_star ht hs]
    · rw [e]
      constructor
      · rintro ⟨q, g1, g2, g3⟩
        obtain ⟨q', k1, k2, k3⟩ := (M_star ht hs).1 (p1 q g1 g3)
        exact ⟨q', by omega, k2, k3⟩
      · intro hq
        exact ⟨a, Nat.le_refl _, by omega, p2 ((M_star ht hs).2 hq)⟩
  · intro q _ hq; simpa using hq
  · intro hq; exact hq

theorem inv_tok {t n : Nat} {star : Int} {a : Nat} (h : Inv g L N t n star a) (ht : t < L) (hs : (g t).star = false) (hn : n < N) (hok : (g t).ok n = true) (hl : n + (g t).len ≤ N) :
    Inv g L N (t + 1) (n + (g t).len) star a := by
  obtain ⟨h1, h2, h3, h4⟩ := h
  have fw : ∀ q, M g L N t q = true → M g L N (t + 1) (q + (g t).len) = true := fun q hq => ((M_tok_iff ht hs).1 hq).2.2
  have bw : M g L N (t + 1) (n + (g t).len) = true → M g L N t n = true := fun hq => (M_tok_iff ht hs).2 ⟨hn, hok, hq⟩
  refine ⟨by omega, hl, by omega, ?_⟩
  rcases h4 with ⟨e1, e⟩ | ⟨s, e1, hst, e, p1, p2⟩
  · exact Or.inl ⟨e1, e.trans ⟨fw n, bw⟩⟩
  · refine Or.inr ⟨s, e1, by omega, e, fun q g1 g2 => ?_, fun hq => p2 (bw hq)⟩
    have := fw _ (p1 q g1 g2)
    rwa [show q + (n - a) + (g t).len = q + (n + (g t).len - a) from by omega] at this

theorem inv_back {t n : Nat} {s : Nat} {a : Nat} (h : Inv g L N t n s a) (hn : n < N) (hf : M g L N t n = false) : s + 1 ≤ L ∧ Inv g L N (s + 1) (a + 1) s (a + 1) := by
  obtain ⟨h1, h2, h3, h4⟩ := h
  rcases h4 with ⟨e1, e⟩ | ⟨s', e1, hst, e, p1, p2⟩
  · omega
  · obtain rfl : s = s' := by omega
    refine ⟨by omega, by omega, by omega, Nat.le_refl _, Or.inr ⟨s, rfl, by omega, ?_, ?_, ?_⟩⟩
    · rw [e]
      constructor
      · rintro ⟨q, g1, g2, g3⟩
        by_cases ea : q = a
        · subst ea
          have := p1 q g1 g3
          rw [show q + (n - q) = n from by omega, hf] at this
          cases this
        · exact ⟨q, by omega, g2, g3⟩
      · rintro ⟨q, g1, g2, g3⟩; exact ⟨q, by omega, g2, g3⟩
    · intro q _ hq; simpa using hq
    · intro hq; exact hq

theorem inv_fail {t n : Nat} {a : Nat} (h : Inv g L N t n (-1) a) (hf : M g L N t n = false) : M g L N 0 0 = false := by
  obtain ⟨h1, h2, h3, h4⟩ := h
  rcases h4 with ⟨_, e⟩ | ⟨s', e1, _⟩
  · cases h : M g L N 0 0 with
    | true => rw [e.1 h] at hf; cases hf
    | false => rfl
  · omega

theorem inv_end {t : Nat} {star : Int} {a : Nat} (h : Inv g L N t N star a) : M g L N 0 0 = M g L N t N := by
  obtain ⟨h1, h2, h3, h4⟩ := h
  rw [Bool.eq_iff_iff]
  rcases h4 with ⟨_, e⟩ | ⟨s, e1, hst, e, p1, p2⟩
  · exact e
  · rw [e]
    constructor
    · rintro ⟨q, g1, g2, g3⟩
      have k := p1 q g1 g3
      have := M_le k
      rwa [show q + (N - a) = N from by omega] at k
    · intro hq; exact ⟨a, Nat.le_refl _, by omega, p2 hq⟩

theorem inv_bd {t n : Nat} {star : Int} {a : Nat} (h : Inv g L N t n star a) : t ≤ L ∧ n ≤ N ∧ a ≤ n ∧ -1 ≤ star ∧ star < t + 1 := by
  obtain ⟨h1, h2, h3, h4⟩ := h
  rcases h4 with ⟨e1, _⟩ | ⟨s, e1, hst, _⟩
  · exact ⟨h1, h2, h3, by omega, by omega⟩
  · exact ⟨h1, h2, h3, by omega, by omega⟩

/-- a token that does not match here -/
theorem M_no_end {t n : Nat} (ht : L ≤ t) (hn : n < N) : M g L N t n = false := by rw [M_end ht]; simp; omega
theorem M_no_tok {t n : Nat} (ht : t < L) (hs : (g t).star = false) (hok : (g t).ok n = false) : M g L N t n = false := by rw [M_tok ht hs, hok]; simp
theorem M_no_last {t : Nat} (ht : t < L) (hs : (g t).star = false) : M g L N t N = false := by rw [M_tok ht hs]; simp

/-- the walk's measure -/
def meas (L N t a : Nat) : Nat := (N + 1 - a) * (L + 1) + (L - t)
theorem meas_fwd {t a a' : Nat} (ht : t < L) (ha : a ≤ a') : meas L N (t + 1) a' < meas L N t a := by
  unfold meas
  have : (N + 1 - a') * (L + 1) ≤ (N + 1 - a) * (L + 1) := Nat.mul_le_mul_right _ (by omega)
  omega
theorem meas_back {t s a : Nat} (ha : a < N) : meas L N (s + 1) (a + 1) < meas L N t a := by
  unfold meas
  have e : N + 1 - a = (N + 1 - (a + 1)) + 1 := by omega
  rw [e, Nat.add_mul]
  omega
end
end Go.Proofs.Qxb6602438a
