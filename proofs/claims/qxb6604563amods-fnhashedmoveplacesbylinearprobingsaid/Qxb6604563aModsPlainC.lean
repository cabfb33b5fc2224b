import Derived.Test.Qxb6604563aModsPlain
namespace Go.Proofs.Qxb6604563aMods.Plain

/-! The plain law of linear probing: taken slots stay; what is new stands at the end of a chain; the new numbers are the placed ones. -/

/-- The newly taken slots' numbers, in the slots' order. -/
def nw : List Int → List Int → List Int
  | a :: A, g :: G => if a = 0 ∧ g ≠ 0 then g :: nw A G else nw A G
  | _, _ => []

theorem nw_self (A : List Int) : nw A A = [] := by
  induction A with
  | nil => rfl
  | cons a A ih => simp only [nw]; rw [if_neg (by omega)]; exact ih

theorem nw_set (A G : List Int) (p : Nat) (s : Int) (hl : A.length = G.length) (hp : p < G.length) (ha : A.getD p 0 = 0) (hg : G.getD p 0 = 0) (hs : s ≠ 0) : (nw A (G.set p s)).Perm (s :: nw A G) := by
  induction A generalizing G p with
  | nil => simp at hl; omega
  | cons a A ih =>
    cases G with
    | nil => simp at hl
    | cons g G =>
      cases p with
      | zero =>
        simp at ha hg
        simp only [List.set_cons_zero, nw]
        rw [if_pos ⟨ha, hs⟩, if_neg (by omega)]
      | succ p =>
        simp at hl hp ha hg
        have h := ih G p hl hp (by simpa using ha) (by simpa using hg)
        simp only [List.set_cons_succ, nw]
        split
        · exact (h.cons g).trans (List.Perm.swap s g _)
        · exact h

theorem nw_take (A G : List Int) (k : Nat) (h1 : k < A.length) (h2 : k < G.length) : nw (A.take (k + 1)) (G.take (k + 1)) = nw (A.take k) (G.take k) ++ if A.getD k 0 = 0 ∧ G.getD k 0 ≠ 0 then [G.getD k 0] else [] := by
  induction A generalizing G k with
  | nil => simp at h1
  | cons a A ih =>
    cases G with
    | nil => simp at h2
    | cons g G =>
      cases k with
      | zero =>
        simp only [List.take_succ_cons, List.take_zero, nw, List.getD_cons_zero, List.nil_append]
      | succ k =>
        have h := ih G k (by simpa using h1) (by simpa using h2)
        simp only [List.take_succ_cons, nw, List.getD_cons_succ]
        split
        · rw [h]; rfl
        · exact h

theorem nw_take_le (A G : List Int) (k : Nat) : (nw (A.take k) (G.take k)).length ≤ (nw A G).length := by
  induction A generalizing G k with
  | nil => simp [nw]
  | cons a A ih =>
    cases G with
    | nil => simp [nw]
    | cons g G =>
      cases k with
      | zero => simp [nw]
      | succ k =>
        have h := ih G k
        simp only [List.take_succ_cons, nw]
        split <;> simp <;> omega

/-- Slot i stands at the end of an unbroken run of taken slots from its number's place. -/
def Chain (G : List Int) (L i : Nat) : Prop := ∃ t, t < L ∧ (hm L (G.getD i 0) + t) % L = i ∧ ∀ t', t' < t → G.getD ((hm L (G.getD i 0) + t') % L) 0 ≠ 0

/-- 'pos' finds its slot at the end of a run. -/
theorem pos_chain (A : List Int) (L h f : Nat) (hh : h < L) (hz : ∃ t, t < f ∧ A.getD ((h + t) % L) 0 = 0) : ∃ t, t < f ∧ (h + t) % L = pos A L h f ∧ ∀ t', t' < t → A.getD ((h + t') % L) 0 ≠ 0 := by
  induction f generalizing h with
  | zero => obtain ⟨t, ht, _⟩ := hz; omega
  | succ f ih =>
    simp only [pos]
    split
    · exact ⟨0, by omega, by rw [Nat.add_zero, Nat.mod_eq_of_lt hh], fun t' h => by omega⟩
    · rename_i hne
      have hz' : ∃ t, t < f ∧ A.getD (((h + 1) % L + t) % L) 0 = 0 := by
        obtain ⟨t, ht, h0⟩ := hz
        cases t with
        | zero => rw [Nat.add_zero, Nat.mod_eq_of_lt hh] at h0; exact absurd h0 hne
        | succ t =>
          refine ⟨t, by omega, ?_⟩
          rw [Nat.mod_add_mod, show h + 1 + t = h + (t + 1) from by omega]
          exact h0
      obtain ⟨t, ht, e, hall⟩ := ih _ (Nat.mod_lt _ (by omega)) hz'
      refine ⟨t + 1, by omega, ?_, fun t' h' => ?_⟩
      · rw [Nat.mod_add_mod] at e
        rw [← e, show h + 1 + t = h + (t + 1) from by omega]
      · cases t' with
        | zero => rw [Nat.add_zero, Nat.mod_eq_of_lt hh]; exact hne
        | succ t' =>
          have := hall t' (by omega)
          rw [Nat.mod_add_mod, show h + 1 + t' = h + (t' + 1) from by omega] at this
          exact this

theorem getD_set (G : List Int) (p i : Nat) (s : Int) (hp : p < G.length) : (G.set p s).getD i 0 = if i = p then s else G.getD i 0 := by
  rw [List.getD_eq_getElem?_getD, List.getD_eq_getElem?_getD, List.getElem?_set]
  by_cases h : p = i
  · subst h; simp [hp]
  · rw [if_neg h, if_neg (fun e => h e.symm)]

/-- What the moves so far have made of the table A. -/
structure Kept (A G : List Int) (L : Nat) (N : List Int) : Prop where
  len : G.length = L
  stay : ∀ i, A.getD i 0 ≠ 0 → G.getD i 0 = A.getD i 0
  chain : ∀ i, i < L → A.getD i 0 = 0 → G.getD i 0 ≠ 0 → Chain G L i
  news : (nw A G).Perm N

theorem Kept.start (A : List Int) (L : Nat) (h : A.length = L) : Kept A A L [] :=
  ⟨h, fun _ _ => rfl, fun _ _ h1 h2 => absurd h1 h2, by rw [nw_self]⟩

theorem Kept.place {A G : List Int} {L : Nat} {N : List Int} (h : Kept A G L N) (hA : A.length = L) (hL : 0 < L) (s : Int) (hs : s ≠ 0) (hc : 0 < cf G) : Kept A (plA G L s) L (N ++ [s]) := by
  have hz := free_near G L (hm L s) h.len (hm_lt L s hL) hc
  have hp := pos_lt G L (hm L s) L hL (hm_lt L s hL)
  have h0 := pos_free G L (hm L s) L (hm_lt L s hL) hz
  obtain ⟨t, ht, e, hall⟩ := pos_chain G L (hm L s) L (hm_lt L s hL) hz
  have hpl : pos G L (hm L s) L < G.length := by rw [h.len]; exact hp
  have hA0 : A.getD (pos G L (hm L s) L) 0 = 0 := by
    refine Classical.byContradiction fun hne => ?_
    have := h.stay _ hne
    rw [h0] at this
    exact hne this.symm
  refine ⟨by rw [length_plA]; exact h.len, fun i hi => ?_, fun i hi ha hg => ?_, ?_⟩
  · rw [plA, getD_set _ _ _ _ hpl]
    by_cases hip : i = pos G L (hm L s) L
    · rw [hip] at hi; exact absurd hA0 hi
    · rw [if_neg hip]; exact h.stay i hi
  · have mono : ∀ j, G.getD j 0 ≠ 0 → (plA G L s).getD j 0 ≠ 0 := by
      intro j hj
      rw [plA, getD_set _ _ _ _ hpl]
      by_cases hjp : j = pos G L (hm L s) L
      · rw [if_pos hjp]; exact hs
      · rw [if_neg hjp]; exact hj
    by_cases hip : i = pos G L (hm L s) L
    · have ei : (plA G L s).getD i 0 = s := by rw [plA, getD_set _ _ _ _ hpl, if_pos hip]
      refine ⟨t, ht, ?_, fun t' h' => ?_⟩
      · rw [ei, e, hip]
      · rw [ei]; exact mono _ (hall t' h')
    · have ei : (plA G L s).getD i 0 = G.getD i 0 := by rw [plA, getD_set _ _ _ _ hpl, if_neg hip]
      rw [ei] at hg
      obtain ⟨t1, h1, h2, h3⟩ := h.chain i hi ha hg
      refine ⟨t1, h1, ?_, fun t' h' => ?_⟩
      · rw [ei]; exact h2
      · rw [ei]; exact mono _ (h3 t' h')
  · refine (nw_set A G _ s (by rw [hA, h.len]) hpl hA0 h0 hs).trans ?_
    refine (h.news.cons s).trans ?_
    exact List.perm_append_comm (l₁ := [s]) (l₂ := N)

/-- The whole move. -/
theorem kept_mvs (A : List Int) (L : Nat) (O : List Int) (m k : Nat) (hA : A.length = L) (hL : 0 < L) (hc : pc O m k ≤ cf A) : Kept A (mvs A L O m k) L (pls O m k) := by
  induction k with
  | zero => exact Kept.start A L hA
  | succ k ih =>
    have h1 := pc_mono O m (show k ≤ k + 1 from by omega)
    have ih := ih (by omega)
    have hcf := cf_mvs A L O m k hA hL (by omega)
    simp only [mvs, pls]
    split
    · rename_i hok
      have hs : O.getD (m + k) 0 ≠ 0 := by intro e; rw [e] at hok; simp [okw] at hok
      have hpc : pc O m (k + 1) = pc O m k + 1 := by simp only [pc]; rw [if_pos hok]
      exact ih.place hA hL _ hs (by omega)
    · rw [List.append_nil]; exact ih

/-- Two lists of the same numbers, both sorted, are one. -/
theorem sorted_eq {X Y : List Int} (h : X.Perm Y) (hx : X.Pairwise (· ≤ ·)) (hy : Y.Pairwise (· ≤ ·)) : X = Y :=
  h.eq_of_pairwise (fun _ _ _ _ h1 h2 => Int.le_antisymm h1 h2) hx hy

end Go.Proofs.Qxb6604563aMods.Plain
