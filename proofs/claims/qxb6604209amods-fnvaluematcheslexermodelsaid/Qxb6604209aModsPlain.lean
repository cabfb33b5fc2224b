import Derived.KernelRfl
namespace Go.Proofs.Qxb6604209aMods.Plain

/-- How many backslashes stand right before place q, none at or below pos counted. -/
def bs (f : Nat → Int) (pos : Nat) : Nat → Nat
  | 0 => 0
  | q + 1 => if pos < q ∧ f q = 92 then bs f pos q + 1 else 0

theorem bs_start (f : Nat → Int) (pos : Nat) : bs f pos (pos + 1) = 0 := by
  simp [bs]

theorem bs_back (f : Nat → Int) (pos q : Nat) (h : pos < q) (h2 : f q = 92) : bs f pos (q + 1) = bs f pos q + 1 := by
  simp [bs, h, h2]

theorem bs_other (f : Nat → Int) (pos q : Nat) (h2 : f q ≠ 92) : bs f pos (q + 1) = 0 := by
  simp [bs, h2]

theorem bs_le (f : Nat → Int) (pos q : Nat) : bs f pos q ≤ q := by
  induction q with
  | zero => simp [bs]
  | succ q ih => simp only [bs]; split <;> omega

/-- Place q closes the string that opens at pos. -/
def Closes (f : Nat → Int) (pos q : Nat) : Prop := f q = 34 ∧ bs f pos q % 2 = 0

/-- Place q is the first that closes it. -/
structure First (f : Nat → Int) (n pos q : Nat) : Prop where
  lo : pos < q
  hi : q < n
  here : Closes f pos q
  none : ∀ j, pos < j → j < q → ¬ Closes f pos j

/-- A place that the skipper comes to. -/
structure At (f : Nat → Int) (pos q p : Nat) : Prop where
  lo : pos < p
  hi : p ≤ q
  even : bs f pos p % 2 = 0

theorem At.start {f : Nat → Int} {n pos q : Nat} (h : First f n pos q) : At f pos q (pos + 1) :=
  ⟨by omega, h.lo, by rw [bs_start]⟩

theorem At.quote {f : Nat → Int} {n pos q p : Nat} (h : First f n pos q) (a : At f pos q p) (e : f p = 34) : p = q := by
  by_cases hp : p < q
  · exact absurd ⟨e, a.even⟩ (h.none p a.lo hp)
  · have := a.hi; omega

theorem At.back {f : Nat → Int} {n pos q p : Nat} (h : First f n pos q) (a : At f pos q p) (e : f p = 92) : At f pos q (p + 2) := by
  have hlo := a.lo
  have hhi := a.hi
  have hev := a.even
  have h1 : bs f pos (p + 1) = bs f pos p + 1 := bs_back f pos p hlo e
  have hne : p ≠ q := by
    intro hh; subst hh; have := h.here.1; rw [e] at this; omega
  have hne1 : p + 1 ≠ q := by
    intro hh; have := h.here.2; rw [← hh, h1] at this; omega
  refine ⟨by omega, by omega, ?_⟩
  by_cases e2 : f (p + 1) = 92
  · rw [bs_back f pos (p + 1) (by omega) e2, h1]; omega
  · rw [bs_other f pos (p + 1) e2]

theorem At.other {f : Nat → Int} {n pos q p : Nat} (h : First f n pos q) (a : At f pos q p) (e1 : f p ≠ 34) (e : f p ≠ 92) : At f pos q (p + 1) := by
  have hlo := a.lo
  have hhi := a.hi
  have hne : p ≠ q := by
    intro hh; subst hh; exact e1 h.here.1
  exact ⟨by omega, by omega, by rw [bs_other f pos p e]⟩

end Go.Proofs.Qxb6604209aMods.Plain
