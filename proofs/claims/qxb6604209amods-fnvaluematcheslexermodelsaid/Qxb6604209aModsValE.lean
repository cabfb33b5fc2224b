import Derived.Test.Qxb6604209aModsValD
namespace Go.Proofs.Qxb6604209aMods
open Go.RowKit Plain

/-- What a byte that is no quote does (Lexed.byte). -/
def BB (f : Nat → Int) (pos p E : Nat) (d : Int) : Prop :=
  ∀ d', (d' = if f p = 123 ∨ f p = 91 then d + 1 else if f p = 125 ∨ f p = 93 then d - 1 else d) → (d' = 0 → p = E) ∧ (d' ≠ 0 → p < E ∧ 0 < d' ∧ lx f pos (p + 1) = (false, false, d'))

theorem BB.w1 {f : Nat → Int} {pos p E : Nat} {d : Int} (H : BB f pos p E d) (a : (f p == 123) = true) (h : 0 ≤ d) : p < E ∧ 0 < d + 1 ∧ lx f pos (p + 1) = (false, false, d + 1) := by
  simp at a
  exact (H (d + 1) (by simp [a])).2 (by omega)
theorem BB.w2 {f : Nat → Int} {pos p E : Nat} {d : Int} (H : BB f pos p E d) (a : (f p == 91) = true) (h : 0 ≤ d) : p < E ∧ 0 < d + 1 ∧ lx f pos (p + 1) = (false, false, d + 1) := by
  simp at a
  exact (H (d + 1) (by simp [a])).2 (by omega)
theorem BB.w3 {f : Nat → Int} {pos p E : Nat} {d : Int} (H : BB f pos p E d) (a : (f p == 125) = true ∨ (f p == 93) = true) (e : (d - 1 == 0) = false) : p < E ∧ 0 < d - 1 ∧ lx f pos (p + 1) = (false, false, d - 1) := by
  simp at a e
  exact (H (d - 1) (by rcases a with a | a <;> simp [a])).2 (by omega)
theorem BB.w4 {f : Nat → Int} {pos p E : Nat} {d : Int} (H : BB f pos p E d) (a : (f p == 125) = true ∨ (f p == 93) = true) (e : (d - 1 == 0) = true) : p = E := by
  simp at a e
  exact (H (d - 1) (by rcases a with a | a <;> simp [a])).1 (by omega)
theorem BB.w5 {f : Nat → Int} {pos p E : Nat} {d : Int} (H : BB f pos p E d) (a : (f p == 123) = false) (b : (f p == 91) = false) (c : (f p == 125) = false) (c' : (f p == 93) = false) (e : (d == 0) = false) : p < E ∧ 0 < d ∧ lx f pos (p + 1) = (false, false, d) := by
  simp at a b c c' e
  exact (H d (by simp [a, b, c, c'])).2 e
theorem BB.w6 {f : Nat → Int} {pos p E : Nat} {d : Int} (H : BB f pos p E d) (a : (f p == 123) = false) (b : (f p == 91) = false) (c : (f p == 125) = false) (c' : (f p == 93) = false) (e : (d == 0) = true) : p = E := by
  simp at a b c c' e
  exact (H d (by simp [a, b, c, c'])).1 e

set_option maxHeartbeats 4000000 in
theorem value_br (f : Nat → Int) (s b off n cap pos E : Nat) (w : World) (hn : n ≤ 1048576) (hcap : n ≤ cap) (hbs : b < s)
    (hc : ∀ i, i < n → w.cell? ⟨b, off + i, none⟩ = some (.int .u8 (f i))) (hs : Sc w s b off n cap pos)
    (t1 : (f pos == 34) = false) (t2 : (f pos == 123) = true ∨ (f pos == 123) = false ∧ (f pos == 91) = true) (hl : Lexed f n pos E) :
    Calls Trym.prog 15 #[.pointer (some ⟨s, 0, none⟩)] w fun e w' => ∃ j, RunTo (fun k => isSp (f k)) n (E + 1) j ∧
      e = .returned (.slice (some ⟨b, off + pos, none⟩) (E + 1 - pos) (cap - pos)) ∧ Below s w w' ∧ Sc w' s b off n cap j := by
  have HS : Hid (Sc w s b off n cap pos) := hs
  obtain ⟨hd, hpp, hfr⟩ := hs
  have hlo := hl.lo
  have hhi := hl.hi
  have i0 : (0 : Int) ≤ (pos : Int) := by omega
  have i1 : (pos : Int) < (n : Int) := by omega
  have hcp := hc pos (by omega)
  have H0 : Hid (f pos = 123 ∨ f pos = 91) := by
    rcases t2 with t2 | ⟨_, t2⟩
    · exact .inl (by simpa using t2)
    · exact .inr (by simpa using t2)
  rcases t2 with t2 | ⟨t2, t3⟩
  all_goals
    go_enter Trym.func15, Trym.ntmps15
    go_wp2
    go_quiet (fail)
    go_wp2
    go_loopg [4] (E + 1 - pos) (fun gn vd wr => ∃ (p : Nat) (d : Int), gn = E + 1 - p ∧ pos ≤ p ∧ p ≤ E ∧ vd = .int .i64 d ∧ 0 ≤ d ∧ Hid (0 < d ∨ f p = 123 ∨ f p = 91) ∧ Hid (lx f pos p = (false, false, d)) ∧ Below s w wr ∧ Sc wr s b off n cap p)
    case atStart => exact ⟨pos, 0, rfl, Nat.le_refl _, hlo, rfl, by omega, .inr H0.out, lx_low f pos pos (Nat.le_refl _), below_drewN (Below.refl _ _) _, HS.out.drewN _⟩
    case round =>
      obtain ⟨p, d, rfl, hplo, hphi, rfl, hd0, HO, HL, hbel, hsc⟩ := hrel
      clear hd hpp hfr HS i1 hcp t1 t2 H0
      have HS : Hid (Sc wr s b off n cap p) := hsc
      obtain ⟨hd, hpp, hfr⟩ := hsc
      have k0 : (0 : Int) ≤ (p : Int) := by omega
      have k1 : (p : Int) < (n : Int) := by omega
      have k2 : (p : Int) ≤ 1048576 := by omega
      have hdd : d ≤ 1048576 := by have := lx_depth f pos p; rw [HL.out] at this; simp at this; omega
      have hcx : wr.cell? ⟨b, off + p, none⟩ = some (.int .u8 (f p)) := (hbel.cell (by exact hbs)).trans (hc p (by omega))
      by_cases hq : f p = 34
      · have HQ : Hid (f p = 34) := hq
        have tq : (f p == 34) = true := by simp [hq]
        clear hq
        obtain ⟨q, hfirst, _, h2⟩ := hl.string p hplo hphi d HL.out HQ.out
        have hdp : 0 < d := by
          rcases HO.out with h | h | h
          · exact h
          · rw [HQ.out] at h; omega
          · rw [HQ.out] at h; omega
        obtain ⟨hqE, hlx⟩ := h2 (by omega)
        have HX : Hid (lx f pos (q + 1) = (false, false, d)) := hlx
        clear h2 hlx
        have hqlo := hfirst.lo
        go_wp2
        go_quiet (fail)
        go_wp2_with (go_at_call 13; go_must (refine (skip13 f s b off n cap p q _ hfirst hn hbs (by exact cells_below (below_drewN hbel _) hbs hc) (by exact HS.out.drewN _)).mono ?_); rintro e w1 ⟨rfl, hbel1, hsc1⟩)
        go_roundg (E + 1 - (q + 1))
        case measure => omega
        case rel => exact ⟨q + 1, d, rfl, by omega, by omega, rfl, hd0, .inl hdp, HX, (below_drewN hbel _).trans hbel1, hsc1⟩
      · have tq : (f p == 34) = false := by simp [hq]
        have HB : BB f pos p E d := fun d' h => hl.byte p hplo hphi d HL.out hq d' h HO.out hd0
        clear hq
        have j0 : (0 : Int) ≤ (p : Int) + 1 := by omega
        have j1 : (p : Int) + 1 ≤ (cap : Int) := by omega
        have j2 : (pos : Int) ≤ (p : Int) + 1 := by omega
        go_wp2
        go_quiet (fail)
        go_wp2
        all_goals first
          | (have hB := HB.w1 ‹_› hd0
             go_roundg (E + 1 - (p + 1))
             case measure => have := hB.1; omega
             case rel => exact ⟨p + 1, d + 1, rfl, by omega, hB.1, rfl, by have := hB.2.1; omega, .inl hB.2.1, hB.2.2, (below_drewN hbel _).setCell (by simp) _, HS.out.move _ _ _ (by omega)⟩)
          | (have hB := HB.w2 ‹_› hd0
             go_roundg (E + 1 - (p + 1))
             case measure => have := hB.1; omega
             case rel => exact ⟨p + 1, d + 1, rfl, by omega, hB.1, rfl, by have := hB.2.1; omega, .inl hB.2.1, hB.2.2, (below_drewN hbel _).setCell (by simp) _, HS.out.move _ _ _ (by omega)⟩)
          | (have hB := HB.w3 (.inl ‹_›) ‹_›
             go_roundg (E + 1 - (p + 1))
             case measure => have := hB.1; omega
             case rel => exact ⟨p + 1, d - 1, rfl, by omega, hB.1, rfl, by have := hB.2.1; omega, .inl hB.2.1, hB.2.2, (below_drewN hbel _).setCell (by simp) _, HS.out.move _ _ _ (by omega)⟩)
          | (have hB := HB.w3 (.inr ‹_›) ‹_›
             go_roundg (E + 1 - (p + 1))
             case measure => have := hB.1; omega
             case rel => exact ⟨p + 1, d - 1, rfl, by omega, hB.1, rfl, by have := hB.2.1; omega, .inl hB.2.1, hB.2.2, (below_drewN hbel _).setCell (by simp) _, HS.out.move _ _ _ (by omega)⟩)
          | (have hB := HB.w5 ‹_› ‹_› ‹_› ‹_› ‹_›
             go_roundg (E + 1 - (p + 1))
             case measure => have := hB.1; omega
             case rel => exact ⟨p + 1, d, rfl, by omega, hB.1, rfl, by have := hB.2.1; omega, .inl hB.2.1, hB.2.2, (below_drewN hbel _).setCell (by simp) _, HS.out.move _ _ _ (by omega)⟩)
          | (have hE := HB.w4 (.inl ‹_›) ‹_›
             subst hE
             have HS2 := HS.out.move nq ((p : Int) + 1) (p + 1) (by omega)
             have HS3 : Hid (_) := HS2
             have HB2 := (below_drewN hbel nq).setCell (p := ⟨s, 1, none⟩) (by simp) (.int .i64 ((p : Int) + 1))
             clear HS2 HB
             go_quiet (fail)
             go_wp2_with fail
             refine (space18 f s b off n cap (p + 1) _ hn (by omega) hbs (cells_below (below_drewN HB2 _) hbs hc) (HS3.out.drewN _)).mono ?_
             rintro e w2 ⟨rfl, hbel2, j, hj, hsc2⟩
             go_wp2
             go_ret
             exact ⟨j, hj, rfl, (below_drewN HB2 _).trans hbel2, hsc2⟩)
          | (have hE := HB.w4 (.inr ‹_›) ‹_›
             subst hE
             have HS2 := HS.out.move nq ((p : Int) + 1) (p + 1) (by omega)
             have HS3 : Hid (_) := HS2
             have HB2 := (below_drewN hbel nq).setCell (p := ⟨s, 1, none⟩) (by simp) (.int .i64 ((p : Int) + 1))
             clear HS2 HB
             go_quiet (fail)
             go_wp2_with fail
             refine (space18 f s b off n cap (p + 1) _ hn (by omega) hbs (cells_below (below_drewN HB2 _) hbs hc) (HS3.out.drewN _)).mono ?_
             rintro e w2 ⟨rfl, hbel2, j, hj, hsc2⟩
             go_wp2
             go_ret
             exact ⟨j, hj, rfl, (below_drewN HB2 _).trans hbel2, hsc2⟩)
          | (have hE := HB.w6 ‹_› ‹_› ‹_› ‹_› ‹_›
             subst hE
             have HS2 := HS.out.move nq ((p : Int) + 1) (p + 1) (by omega)
             have HS3 : Hid (_) := HS2
             have HB2 := (below_drewN hbel nq).setCell (p := ⟨s, 1, none⟩) (by simp) (.int .i64 ((p : Int) + 1))
             clear HS2 HB
             go_quiet (fail)
             go_wp2_with fail
             refine (space18 f s b off n cap (p + 1) _ hn (by omega) hbs (cells_below (below_drewN HB2 _) hbs hc) (HS3.out.drewN _)).mono ?_
             rintro e w2 ⟨rfl, hbel2, j, hj, hsc2⟩
             go_wp2
             go_ret
             exact ⟨j, hj, rfl, (below_drewN HB2 _).trans hbel2, hsc2⟩)

end Go.Proofs.Qxb6604209aMods
