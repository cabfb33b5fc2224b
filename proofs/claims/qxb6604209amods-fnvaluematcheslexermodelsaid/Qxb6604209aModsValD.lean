import Derived.Test.Qxb6604209aModsValB
namespace Go.Proofs.Qxb6604209aMods
open Go.RowKit Plain

theorem cells_below {w w1 : World} {s b off n : Nat} {f : Nat → Int} (h : Below s w w1) (hb : b < s) (hc : ∀ i, i < n → w.cell? ⟨b, off + i, none⟩ = some (.int .u8 (f i))) :
    ∀ i, i < n → w1.cell? ⟨b, off + i, none⟩ = some (.int .u8 (f i)) :=
  fun i hi => (h.cell (by exact hb)).trans (hc i hi)

theorem ends17q (c : Int) (w : World) :
    Calls Trym.prog 17 #[.int .u8 c] w fun e w' => e = .returned (.bool (isEnd c)) ∧ w' = w :=
  (ends17 c w).mono fun _ _ ⟨a, b⟩ => ⟨a, b.symm⟩

set_option maxHeartbeats 1000000 in
theorem value_str (f : Nat → Int) (s b off n cap pos q : Nat) (w : World) (hn : n ≤ 1048576) (hcap : n ≤ cap) (hbs : b < s)
    (hc : ∀ i, i < n → w.cell? ⟨b, off + i, none⟩ = some (.int .u8 (f i))) (hs : Sc w s b off n cap pos) (t1 : (f pos == 34) = true) (hq : First f n pos q) :
    Calls Trym.prog 15 #[.pointer (some ⟨s, 0, none⟩)] w fun e w' => ∃ j, RunTo (fun k => isSp (f k)) n (q + 1) j ∧
      e = .returned (.slice (some ⟨b, off + pos, none⟩) (q + 1 - pos) (cap - pos)) ∧ Below s w w' ∧ Sc w' s b off n cap j := by
  have HS : Hid (Sc w s b off n cap pos) := hs
  obtain ⟨hd, hpp, hfr⟩ := hs
  have hlo := hq.lo
  have hhi := hq.hi
  have i0 : (0 : Int) ≤ (pos : Int) := by omega
  have i1 : (pos : Int) < (n : Int) := by omega
  have hcp := hc pos (by omega)
  go_enter Trym.func15, Trym.ntmps15
  go_wp2
  go_quiet (fail)
  go_wp2_with (go_at_call 13; go_must (refine (skip13 f s b off n cap pos q _ hq hn hbs (by exact hc) (by exact HS.out.drewN _)).mono ?_); rintro e w1 ⟨rfl, hbel, hsc⟩)
  have HS1 : Hid (Sc w1 s b off n cap (q + 1)) := hsc
  obtain ⟨hd1, hpp1, hfr1⟩ := hsc
  clear hd hpp hfr HS
  go_wp2
  have j0 : (0 : Int) ≤ ((q + 1 : Nat) : Int) := by omega
  have j1 : ((q + 1 : Nat) : Int) ≤ (cap : Int) := by omega
  have j2 : (pos : Int) ≤ ((q + 1 : Nat) : Int) := by omega
  go_quiet (fail)
  go_wp2_with fail
  have hb0 : Below s w w1 := (below_drewN (Below.refl s w) _).trans hbel
  refine (space18 f s b off n cap (q + 1) _ hn (by omega) hbs (cells_below (below_drewN hb0 _) hbs hc) (HS1.out.drewN _)).mono ?_
  rintro e w2 ⟨rfl, hbel2, j, hj, hsc2⟩
  go_wp2
  go_ret
  exact ⟨j, hj, rfl, (below_drewN hb0 _).trans hbel2, hsc2⟩

set_option maxHeartbeats 2000000 in
theorem value_bare (f : Nat → Int) (s b off n cap pos en : Nat) (w : World) (hn : n ≤ 1048576) (hcap : n ≤ cap) (hbs : b < s) (hp : pos < n)
    (hc : ∀ i, i < n → w.cell? ⟨b, off + i, none⟩ = some (.int .u8 (f i))) (hs : Sc w s b off n cap pos)
    (t1 : (f pos == 34) = false) (t2 : (f pos == 123) = false) (t3 : (f pos == 91) = false) (hr : RunTo (fun k => !isEnd (f k)) n pos en) :
    Calls Trym.prog 15 #[.pointer (some ⟨s, 0, none⟩)] w fun e w' => ∃ j, RunTo (fun k => isSp (f k)) n en j ∧
      e = .returned (.slice (some ⟨b, off + pos, none⟩) (en - pos) (cap - pos)) ∧ Below s w w' ∧ Sc w' s b off n cap j := by
  have HS : Hid (Sc w s b off n cap pos) := hs
  obtain ⟨hd, hpp, hfr⟩ := hs
  have hlo := hr.lo
  have hhi := hr.hi
  have i0 : (0 : Int) ≤ (pos : Int) := by omega
  have i1 : (pos : Int) < (n : Int) := by omega
  have hcp := hc pos (by omega)
  go_enter Trym.func15, Trym.ntmps15
  go_wp2
  go_quiet (fail)
  go_wp2
  go_loopg [] (en - pos) (fun gn wr => ∃ p : Nat, gn = en - p ∧ pos ≤ p ∧ p ≤ en ∧ Below s w wr ∧ Sc wr s b off n cap p)
  case atStart => exact ⟨pos, rfl, Nat.le_refl _, hlo, below_drewN (Below.refl _ _) _, HS.out.drewN _⟩
  case round =>
    obtain ⟨p, rfl, hplo, hphi, hbel, hsc⟩ := hrel
    clear hd hpp hfr HS i1 hcp
    have HS : Hid (Sc wr s b off n cap p) := hsc
    obtain ⟨hd, hpp, hfr⟩ := hsc
    have k0 : (0 : Int) ≤ (p : Int) := by omega
    have k2 : (p : Int) ≤ 1048576 := by omega
    by_cases hlt : p < en
    · have k1 : (p : Int) < (n : Int) := by omega
      have hcx : wr.cell? ⟨b, off + p, none⟩ = some (.int .u8 (f p)) := (hbel.cell (by exact hbs)).trans (hc p (by omega))
      have he : isEnd (f p) = false := by have := hr.all p hplo hlt; simpa using this
      go_wp2
      go_quiet ((go_at_call 17; exact Calls.quiet_of_same (ends17q _ _)))
      go_wp2
      go_roundg (en - (p + 1))
      case measure => omega
      case rel => exact ⟨p + 1, rfl, by omega, by omega, (below_drewN hbel _).setCell (by simp) _, HS.out.move _ _ _ (by omega)⟩
    · have hpe : p = en := by omega
      subst hpe
      have j0 : (0 : Int) ≤ (p : Int) := by omega
      have j1 : (p : Int) ≤ (cap : Int) := by omega
      have j2 : (pos : Int) ≤ (p : Int) := by omega
      by_cases hpn : p < n
      · have k1 : (p : Int) < (n : Int) := by omega
        have hcx : wr.cell? ⟨b, off + p, none⟩ = some (.int .u8 (f p)) := (hbel.cell (by exact hbs)).trans (hc p (by omega))
        have he : isEnd (f p) = true := by have := hr.stop hpn; simpa using this
        go_wp2
        go_quiet ((go_at_call 17; exact Calls.quiet_of_same (ends17q _ _)))
        go_wp2
        go_quiet (fail)
        go_wp2_with fail
        refine (space18 f s b off n cap p _ hn (by omega) hbs (cells_below (below_drewN hbel _) hbs hc) (HS.out.drewN _)).mono ?_
        rintro e w2 ⟨rfl, hbel2, j, hj, hsc2⟩
        go_wp2
        go_ret
        exact ⟨j, hj, rfl, (below_drewN hbel _).trans hbel2, hsc2⟩
      · have k1 : decide ((p : Int) < (n : Int)) = false := by simp; omega
        go_wp2
        go_quiet ((go_at_call 17; exact Calls.quiet_of_same (ends17q _ _)))
        go_wp2
        go_quiet (fail)
        go_wp2_with fail
        refine (space18 f s b off n cap p _ hn (by omega) hbs (cells_below (below_drewN hbel _) hbs hc) (HS.out.drewN _)).mono ?_
        rintro e w2 ⟨rfl, hbel2, j, hj, hsc2⟩
        go_wp2
        go_ret
        exact ⟨j, hj, rfl, (below_drewN hbel _).trans hbel2, hsc2⟩

end Go.Proofs.Qxb6604209aMods
