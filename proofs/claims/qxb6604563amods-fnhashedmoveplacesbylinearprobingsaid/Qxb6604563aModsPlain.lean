import Derived.KernelRfl
namespace Go.Proofs.Qxb6604563aMods.Plain

/-! The plain law: tables as lists of numbers. -/

/-- Where the number s is placed first: its high 32 bits, masked. -/
def hm (L : Nat) (s : Int) : Nat := (s.toNat / 4294967296) % L

/-- The first free slot from h on, going round, at most f looks. -/
def pos (A : List Int) (L : Nat) : Nat → Nat → Nat
  | h, 0 => h
  | h, f + 1 => if A.getD h 0 = 0 then h else pos A L ((h + 1) % L) f

/-- How many slots are free. -/
def cf (A : List Int) : Nat := A.countP (fun x => x == 0)

/-- The number s placed. -/
def plA (A : List Int) (L : Nat) (s : Int) : List Int := A.set (pos A L (hm L s) L) s

theorem length_plA (A : List Int) (L : Nat) (s : Int) : (plA A L s).length = A.length := by simp [plA]

theorem pos_lt (A : List Int) (L h f : Nat) (hL : 0 < L) (hh : h < L) : pos A L h f < L := by
  induction f generalizing h with
  | zero => exact hh
  | succ f ih =>
    simp only [pos]
    split
    · exact hh
    · exact ih _ (Nat.mod_lt _ hL)

theorem hm_lt (L : Nat) (s : Int) (hL : 0 < L) : hm L s < L := Nat.mod_lt _ hL

/-- Where a free slot lies within f looks, that is what 'pos' finds. -/
theorem pos_free (A : List Int) (L h f : Nat) (hh : h < L) (hz : ∃ t, t < f ∧ A.getD ((h + t) % L) 0 = 0) : A.getD (pos A L h f) 0 = 0 := by
  induction f generalizing h with
  | zero => obtain ⟨t, ht, _⟩ := hz; omega
  | succ f ih =>
    simp only [pos]
    split
    · assumption
    · rename_i hne
      refine ih _ (Nat.mod_lt _ (by omega)) ?_
      obtain ⟨t, ht, h0⟩ := hz
      cases t with
      | zero => rw [Nat.add_zero, Nat.mod_eq_of_lt hh] at h0; exact absurd h0 hne
      | succ t =>
        refine ⟨t, by omega, ?_⟩
        rw [Nat.mod_add_mod, show h + 1 + t = h + (t + 1) from by omega]
        exact h0

/-- A table that has a free slot shows one within L looks from wherever. -/
theorem free_near (A : List Int) (L h : Nat) (hL : A.length = L) (hh : h < L) (hc : 0 < cf A) : ∃ t, t < L ∧ A.getD ((h + t) % L) 0 = 0 := by
  obtain ⟨x, hx, h0⟩ := List.countP_pos_iff.1 hc
  obtain ⟨z, hz, rfl⟩ := List.getElem_of_mem hx
  have h0' : A[z] = 0 := by simpa using h0
  refine ⟨(z + L - h) % L, Nat.mod_lt _ (by omega), ?_⟩
  have e : (h + (z + L - h) % L) % L = z := by
    rw [Nat.add_mod_mod, show h + (z + L - h) = z + L from by omega, Nat.add_mod_right, Nat.mod_eq_of_lt (by omega)]
  rw [e, List.getD_eq_getElem?_getD, List.getElem?_eq_getElem hz]
  exact h0'

theorem cf_plA (A : List Int) (L : Nat) (s : Int) (hA : A.length = L) (hL : 0 < L) (hs : s ≠ 0) (hc : 0 < cf A) : cf (plA A L s) + 1 = cf A := by
  have hp := pos_lt A L (hm L s) L hL (hm_lt L s hL)
  have h0 := pos_free A L (hm L s) L (hm_lt L s hL) (free_near A L (hm L s) hA (hm_lt L s hL) hc)
  have hlt : pos A L (hm L s) L < A.length := by omega
  rw [List.getD_eq_getElem?_getD, List.getElem?_eq_getElem hlt] at h0
  have h0' : A[pos A L (hm L s) L] = 0 := h0
  unfold cf at *
  rw [plA, List.countP_set hlt, h0']
  simp [hs]
  omega

/-- Neither free nor vacated. -/
def okw (s : Int) : Bool := s != 0 && s != 4294967296

/-- The table behind k more slots of the old one, from place m on. -/
def mvs (A : List Int) (L : Nat) (O : List Int) (m : Nat) : Nat → List Int
  | 0 => A
  | k + 1 => if okw (O.getD (m + k) 0) = true then plA (mvs A L O m k) L (O.getD (m + k) 0) else mvs A L O m k

/-- How many of the k slots of the old table from m on hold a number to place. -/
def pc (O : List Int) (m : Nat) : Nat → Nat
  | 0 => 0
  | k + 1 => pc O m k + if okw (O.getD (m + k) 0) = true then 1 else 0

theorem length_mvs (A : List Int) (L : Nat) (O : List Int) (m k : Nat) : (mvs A L O m k).length = A.length := by
  induction k with
  | zero => rfl
  | succ k ih => simp only [mvs]; split <;> simp [length_plA, ih]

theorem pc_mono (O : List Int) (m : Nat) {k k' : Nat} (h : k ≤ k') : pc O m k ≤ pc O m k' := by
  induction k' with
  | zero => rw [show k = 0 from by omega]; exact Nat.le_refl _
  | succ n ih =>
    by_cases e : k = n + 1
    · rw [e]; exact Nat.le_refl _
    · have := ih (by omega); simp only [pc]; omega

theorem cf_mvs (A : List Int) (L : Nat) (O : List Int) (m k : Nat) (hA : A.length = L) (hL : 0 < L) (h : pc O m k ≤ cf A) : cf (mvs A L O m k) + pc O m k = cf A := by
  induction k with
  | zero => rfl
  | succ k ih =>
    have h1 := pc_mono O m (show k ≤ k + 1 from by omega)
    have ih := ih (by omega)
    simp only [mvs, pc] at *
    split
    · rename_i hok
      rw [if_pos hok] at h
      have hs : O.getD (m + k) 0 ≠ 0 := by intro e; rw [e] at hok; simp [okw] at hok
      have := cf_plA (mvs A L O m k) L (O.getD (m + k) 0) (by rw [length_mvs]; exact hA) hL hs (by omega)
      omega
    · omega

theorem mvs_add (A : List Int) (L : Nat) (O : List Int) (m a b : Nat) : mvs A L O m (a + b) = mvs (mvs A L O m a) L O (m + a) b := by
  induction b with
  | zero => rfl
  | succ b ih => rw [← Nat.add_assoc]; simp only [mvs]; rw [ih, Nat.add_assoc]

theorem pc_add (O : List Int) (m a b : Nat) : pc O m (a + b) = pc O m a + pc O (m + a) b := by
  induction b with
  | zero => rfl
  | succ b ih => rw [← Nat.add_assoc]; simp only [pc]; rw [ih, Nat.add_assoc m]; omega

/-- The numbers to place, in order. -/
def pls (O : List Int) (m : Nat) : Nat → List Int
  | 0 => []
  | k + 1 => pls O m k ++ if okw (O.getD (m + k) 0) = true then [O.getD (m + k) 0] else []

theorem length_pls (O : List Int) (m k : Nat) : (pls O m k).length = pc O m k := by
  induction k with
  | zero => rfl
  | succ k ih => simp only [pls, pc, List.length_append, ih]; split <;> rfl

theorem pc_le (O : List Int) (m k : Nat) : pc O m k ≤ k := by
  induction k with
  | zero => exact Nat.le_refl _
  | succ k ih => simp only [pc]; split <;> omega

/-- How many slots of the old table a move of k goes over. -/
def stepsOf (n m : Nat) (k : Int) : Nat := if k ≤ 0 then 0 else if k < (n : Int) - (m : Int) then k.toNat else n - m

theorem stepsOf_le (n m : Nat) (k : Int) (h : m ≤ n) : m + stepsOf n m k ≤ n := by
  unfold stepsOf; split
  · omega
  · split <;> omega

theorem cf_take (A : List Int) (k : Nat) (hk : k < A.length) : cf (A.take (k + 1)) = cf (A.take k) + if A.getD k 0 = 0 then 1 else 0 := by
  unfold cf
  rw [List.take_succ_eq_append_getElem hk, List.countP_append, List.getD_eq_getElem?_getD, List.getElem?_eq_getElem hk]
  simp only [Option.getD_some, List.countP_cons, List.countP_nil, Nat.zero_add, beq_iff_eq]

theorem cf_take_le (A : List Int) (k : Nat) : cf (A.take k) ≤ k := by
  unfold cf
  have := List.countP_le_length (p := fun x : Int => x == 0) (l := A.take k)
  have := List.length_take_le k A
  omega

end Go.Proofs.Qxb6604563aMods.Plain
