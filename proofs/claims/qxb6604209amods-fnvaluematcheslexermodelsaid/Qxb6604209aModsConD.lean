import Derived.Test.Qxb6604209aModsConA
import Derived.Deep.LoopGhost
namespace Go.Proofs.Qxb6604209aMods
open Go.RowKit Plain

/-- The scanner in block s of world w: its bytes lie in block b from off on, it stands at p. -/
structure Sc (w : World) (s b off n cap : Nat) (p : Nat) : Prop where
  data : w.cell? ⟨s, 0, none⟩ = some (.slice (some ⟨b, off, none⟩) n cap)
  pos : w.cell? ⟨s, 1, none⟩ = some (.int .i64 p)
  free : w.frozen? ⟨s, 1, none⟩ = false

theorem Sc.move {w : World} {s b off n cap p : Nat} (h : Sc w s b off n cap p) (nq : Nat) (x : Int) (p' : Nat) (hx : x = (p' : Int)) : Sc ((w.drewN nq).setCell ⟨s, 1, none⟩ (.int .i64 x)) s b off n cap p' := by
  subst hx
  refine ⟨?_, ?_, ?_⟩
  · rw [World.cell?_setCell_other _ _ _ _ (by simp)]; exact h.data
  · exact World.cell?_setCell_same _ _ _ (by exact h.pos)
  · rw [World.frozen?_setCell]; exact h.free

set_option maxHeartbeats 1000000 in
theorem skip13 (f : Nat → Int) (s b off n cap pos q : Nat) (w : World) (hq : First f n pos q) (hn : n ≤ 1048576) (hbs : b < s)
    (hc : ∀ i, i < n → w.cell? ⟨b, off + i, none⟩ = some (.int .u8 (f i))) (hs : Sc w s b off n cap pos) :
    Calls Trym.prog 13 #[.pointer (some ⟨s, 0, none⟩)] w fun e w' => e = .returned (.tuple #[]) ∧ Below s w w' ∧ Sc w' s b off n cap (q + 1) := by
  have HS : Hid (Sc w s b off n cap pos) := hs
  obtain ⟨h1, h2, h3⟩ := hs
  have hlo := hq.lo
  have hhi := hq.hi
  have hqi : (pos : Int) < 1048576 := by omega
  go_enter Trym.func13, Trym.ntmps13
  go_wp2
  go_loopg [] (q + 1 - (pos + 1)) (fun gn wr => ∃ p : Nat, gn = q + 1 - p ∧ At f pos q p ∧ Below s w wr ∧ Sc wr s b off n cap p)
  case atStart =>
    exact ⟨pos + 1, rfl, At.start hq, (Below.refl _ _).setCell (by simp) _, HS.out.move 0 _ _ (by omega)⟩
  case round =>
    obtain ⟨p, rfl, hat, hbel, hsc⟩ := hrel
    clear h1 h2 h3 HS
    have HS : Hid (Sc wr s b off n cap p) := hsc
    obtain ⟨hd, hp, hfr⟩ := hsc
    have hplo := hat.lo
    have hphi := hat.hi
    have hcp : wr.cell? ⟨b, off + p, none⟩ = some (.int .u8 (f p)) := (hbel.cell (by exact hbs)).trans (hc p (by omega))
    have i0 : (0 : Int) ≤ (p : Int) := by omega
    have i1 : (p : Int) < (n : Int) := by omega
    have i2 : (p : Int) ≤ 1048576 := by omega
    have HA : Hid (At f pos q p) := hat
    clear hat
    by_cases e1 : f p = 34
    · have t1 : (f p == 34) = true := by simp [e1]
      have HE : Hid (f p = 34) := e1
      clear e1
      go_wp2
      go_quiet (fail)
      go_wp2
      refine bodyPost_ret (results_none rfl _ _ _) rfl ?_
      have hpq := At.quote hq HA.out HE.out
      subst hpq
      exact ⟨rfl, (below_drewN hbel _).setCell (by simp) _, HS.out.move _ _ _ (by omega)⟩
    · have t1 : (f p == 34) = false := by simp [e1]
      have HE : Hid (f p ≠ 34) := e1
      clear e1
      by_cases e2 : f p = 92
      · have t2 : (f p == 92) = true := by simp [e2]
        have HF : Hid (f p = 92) := e2
        clear e2
        go_wp2
        go_quiet (fail)
        go_wp2
        have hat2 := At.back hq HA.out HF.out
        have hh := hat2.hi
        go_roundg (q + 1 - (p + 2))
        case measure => omega
        case rel =>
          exact ⟨p + 2, rfl, hat2, (below_drewN hbel _).setCell (by simp) _, HS.out.move _ _ _ (by omega)⟩
      · have t2 : (f p == 92) = false := by simp [e2]
        have HF : Hid (f p ≠ 92) := e2
        clear e2
        go_wp2
        go_quiet (fail)
        go_wp2
        have hat2 := At.other hq HA.out HE.out HF.out
        have hh := hat2.hi
        go_roundg (q + 1 - (p + 1))
        case measure => omega
        case rel =>
          exact ⟨p + 1, rfl, hat2, (below_drewN hbel _).setCell (by simp) _, HS.out.move _ _ _ (by omega)⟩

end Go.Proofs.Qxb6604209aMods
