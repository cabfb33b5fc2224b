import Derived.Test.Qxb6604209aModsPlain
namespace Go.Proofs.Qxb6604209aMods.Plain

def isSp (c : Int) : Bool := c == 32 || c == 9 || c == 10 || c == 13
def isEnd (c : Int) : Bool := c == 32 || c == 9 || c == 10 || c == 13 || c == 44 || c == 93 || c == 125

/-- From i on, j is the first place below n at which P says no (n, where none does). -/
structure RunTo (P : Nat → Bool) (n i j : Nat) : Prop where
  lo : i ≤ j
  hi : j ≤ n
  all : ∀ k, i ≤ k → k < j → P k = true
  stop : j < n → P j = false

theorem RunTo.uniq {P : Nat → Bool} {n i j j' : Nat} (h : RunTo P n i j) (h' : RunTo P n i j') : j = j' := by
  have a := h.lo; have b := h.hi; have a' := h'.lo; have b' := h'.hi
  rcases Nat.lt_trichotomy j j' with c | c | c
  · have e := h.stop (by omega); rw [h'.all j a c] at e; cases e
  · exact c
  · have e := h'.stop (by omega); rw [h.all j' a' c] at e; cases e

/-- The lexer's lexStep: in a string, escaped, the depth. -/
def lexStep (b : Int) : Bool × Bool × Int → Bool × Bool × Int
  | (true, true, d) => (true, false, d)
  | (true, false, d) => if b = 92 then (true, true, d) else if b = 34 then (false, false, d) else (true, false, d)
  | (false, e, d) => if b = 34 then (true, e, d) else if b = 123 ∨ b = 91 then (false, e, d + 1) else if b = 125 ∨ b = 93 then (false, e, d - 1) else (false, e, d)

def Stops (b : Int) : Bool × Bool × Int → Prop
  | (true, true, _) => False
  | (true, false, d) => b = 34 ∧ d = 0
  | (false, _, d) => (b = 125 ∨ b = 93) ∧ d = 1

/-- The lexer's state ahead of place p. -/
def lx (f : Nat → Int) (pos : Nat) : Nat → Bool × Bool × Int
  | 0 => (false, false, 0)
  | p + 1 => if p < pos then (false, false, 0) else lexStep (f p) (lx f pos p)

theorem lx_low (f : Nat → Int) (pos p : Nat) (h : p ≤ pos) : lx f pos p = (false, false, 0) := by
  cases p with
  | zero => rfl
  | succ p => simp [lx]; omega

theorem lx_succ (f : Nat → Int) (pos p : Nat) (h : pos ≤ p) : lx f pos (p + 1) = lexStep (f p) (lx f pos p) := by
  simp [lx]; omega

theorem lexStep_depth (b : Int) (s e : Bool) (d : Int) : (lexStep b (s, e, d)).2.2 ≤ d + 1 ∧ d - 1 ≤ (lexStep b (s, e, d)).2.2 := by
  cases s <;> cases e <;> simp only [lexStep] <;> (repeat' split) <;> (constructor <;> (try simp only []) <;> omega)

theorem lx_depth (f : Nat → Int) (pos p : Nat) : (lx f pos p).2.2 ≤ p ∧ -(p : Int) ≤ (lx f pos p).2.2 := by
  induction p with
  | zero => simp [lx]
  | succ p ih =>
    simp only [lx]
    split
    · simp; omega
    · have := lexStep_depth (f p) (lx f pos p).1 (lx f pos p).2.1 (lx f pos p).2.2
      have e : ((lx f pos p).1, (lx f pos p).2.1, (lx f pos p).2.2) = lx f pos p := rfl
      rw [e] at this
      omega

/-- The lexer that begins at pos stops first at E. -/
structure Lexed (f : Nat → Int) (n pos E : Nat) : Prop where
  lo : pos ≤ E
  hi : E < n
  here : Stops (f E) (lx f pos E)
  none : ∀ j, pos ≤ j → j < E → ¬ Stops (f j) (lx f pos j)

/-- Inside a string that opened at p (depth d): while nothing has closed it the lexer is in it, escaped just behind an odd run. -/
theorem in_string (f : Nat → Int) (pos p : Nat) (hp : pos ≤ p) (d : Int) (h0 : lx f pos p = (false, false, d)) (hq : f p = 34) (j : Nat) (hj : p < j) (hno : ∀ i, p < i → i < j → ¬ Closes f p i) :
    lx f pos j = (true, decide (bs f p j % 2 = 1), d) := by
  induction j with
  | zero => omega
  | succ j ih =>
    by_cases e : j = p
    · subst e
      rw [lx_succ f pos j hp, h0, bs_start]
      simp [lexStep, hq]
    · have h1 := ih (by omega) (fun i a b => hno i a (by omega))
      rw [lx_succ f pos j (by omega), h1]
      have hn := hno j (by omega) (by omega)
      by_cases hb : f j = 92
      · rw [bs_back f p j (by omega) hb]
        by_cases hev : bs f p j % 2 = 1
        · simp [lexStep, hev]; omega
        · have : (bs f p j + 1) % 2 = 1 := by omega
          simp [lexStep, hev, hb, this]
      · rw [bs_other f p j hb]
        by_cases hev : bs f p j % 2 = 1
        · simp [lexStep, hev]
        · have h34 : f j ≠ 34 := fun h => hn ⟨h, by omega⟩
          simp [lexStep, hev, hb, h34]

/-- Some place up to E closes: then there is a first. -/
theorem first_of (f : Nat → Int) (n p E : Nat) (hE : E < n) (h : ∃ i, p < i ∧ i ≤ E ∧ Closes f p i) : ∃ q, q ≤ E ∧ First f n p q := by
  obtain ⟨i, h1, h2, h3⟩ := h
  induction i using Nat.strongRecOn with
  | _ i ih =>
    by_cases hex : ∃ k, p < k ∧ k < i ∧ Closes f p k
    · obtain ⟨k, a, b, c⟩ := hex
      exact ih k b a (by omega) c
    · exact ⟨i, h2, ⟨h1, by omega, h3, fun j a b c => hex ⟨j, a, b, c⟩⟩⟩

/-- The lexer stops at E; it stands outside strings at p ≤ E with a quote there: the string that opens at p closes first at some q ≤ E; q = E where the depth is 0; else q < E, and behind q it stands as it stood at p. -/
theorem Lexed.string {f : Nat → Int} {n pos E : Nat} (h : Lexed f n pos E) (p : Nat) (hp : pos ≤ p) (hpE : p ≤ E) (d : Int) (h0 : lx f pos p = (false, false, d)) (hq : f p = 34) :
    ∃ q, First f n p q ∧ (d = 0 → q = E) ∧ (d ≠ 0 → q < E ∧ lx f pos (q + 1) = (false, false, d)) := by
  have hne : p ≠ E := by
    intro e; subst e
    have := h.here
    rw [h0, hq] at this
    simp [Stops] at this
  have hex : ∃ i, p < i ∧ i ≤ E ∧ Closes f p i := by
    refine Classical.byContradiction fun hno => ?_
    have hE := in_string f pos p hp d h0 hq E (by omega) (fun i a b c => hno ⟨i, a, by omega, c⟩)
    have hs := h.here
    rw [hE] at hs
    by_cases ho : bs f p E % 2 = 1
    · simp [Stops, ho] at hs
    · simp [Stops, ho] at hs
      exact hno ⟨E, by omega, Nat.le_refl _, hs.1, by omega⟩
  obtain ⟨q, hqE, hfirst⟩ := first_of f n p E h.hi hex
  have hin := in_string f pos p hp d h0 hq q hfirst.lo hfirst.none
  have he : bs f p q % 2 = 0 := hfirst.here.2
  have h34 : f q = 34 := hfirst.here.1
  have hfl : decide (bs f p q % 2 = 1) = false := by simp [he]
  rw [hfl] at hin
  have hlo := hfirst.lo
  refine ⟨q, hfirst, fun hd => ?_, fun hd => ?_⟩
  · refine Classical.byContradiction fun hne2 => ?_
    exact h.none q (by omega) (by omega) (by rw [hin]; exact ⟨h34, hd⟩)
  · have hlt : q < E := by
      refine Classical.byContradiction fun hge => ?_
      have e : q = E := by omega
      have hs := h.here
      rw [← e, hin] at hs
      exact hd hs.2
    refine ⟨hlt, ?_⟩
    rw [lx_succ f pos q (by omega), hin]
    simp [lexStep, h34]

/-- One byte that is no quote: either the scanner's depth comes to 0 and this is E, or it goes on. -/
theorem Lexed.byte {f : Nat → Int} {n pos E : Nat} (h : Lexed f n pos E) (p : Nat) (hp : pos ≤ p) (hpE : p ≤ E) (d : Int) (h0 : lx f pos p = (false, false, d)) (hq : f p ≠ 34) (d' : Int)
    (hd' : d' = if f p = 123 ∨ f p = 91 then d + 1 else if f p = 125 ∨ f p = 93 then d - 1 else d) (hd : 0 < d ∨ f p = 123 ∨ f p = 91) (hd0 : 0 ≤ d) :
    (d' = 0 → p = E) ∧ (d' ≠ 0 → p < E ∧ 0 < d' ∧ lx f pos (p + 1) = (false, false, d')) := by
  have hst : lexStep (f p) (false, false, d) = (false, false, d') := by
    rw [hd']; simp only [lexStep, if_neg hq]; split
    · rfl
    · split <;> rfl
  refine ⟨fun e => ?_, fun e => ?_⟩
  · by_cases ho : f p = 123 ∨ f p = 91
    · rw [if_pos ho] at hd'; omega
    · rw [if_neg ho] at hd'
      by_cases hc : f p = 125 ∨ f p = 93
      · rw [if_pos hc] at hd'
        refine Classical.byContradiction fun hne => ?_
        exact h.none p hp (by omega) (by rw [h0]; exact ⟨hc, by omega⟩)
      · rw [if_neg hc] at hd'
        rcases hd with h1 | h1
        · omega
        · exact absurd h1 ho
  · have hne : p ≠ E := by
      intro he; subst he
      have hs := h.here
      rw [h0] at hs
      obtain ⟨hc, h1⟩ := hs
      have ho : ¬ (f p = 123 ∨ f p = 91) := by omega
      rw [if_neg ho, if_pos hc] at hd'
      omega
    refine ⟨by omega, ?_, ?_⟩
    · by_cases ho : f p = 123 ∨ f p = 91
      · rw [if_pos ho] at hd'; omega
      · rw [if_neg ho] at hd'
        have h1 : 0 < d := by
          rcases hd with h1 | h1
          · exact h1
          · exact absurd h1 ho
        by_cases hc : f p = 125 ∨ f p = 93
        · rw [if_pos hc] at hd'; omega
        · rw [if_neg hc] at hd'; omega
    · rw [lx_succ f pos p hp, h0, hst]

end Go.Proofs.Qxb6604209aMods.Plain
