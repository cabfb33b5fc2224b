import Derived.Test.Qxb6604209aModsValA
namespace Go.Proofs.Qxb6604209aMods
open Go.RowKit Plain

theorem sp_go {f : Nat → Int} {i k : Nat} (h : Hid (∀ j, i ≤ j → j < k → isSp (f j) = true)) (hk : isSp (f k) = true) : Hid (∀ j, i ≤ j → j < k + 1 → isSp (f j) = true) := by
  intro j a b
  by_cases e : j = k
  · subst e; exact hk
  · exact h j a (by omega)

set_option maxHeartbeats 400000 in
theorem skipSpace12 (f : Nat → Int) (b off n cap i : Nat) (w : World) (hn : n ≤ 1048576) (hi : i ≤ n)
    (hc : ∀ i, i < n → w.cell? ⟨b, off + i, none⟩ = some (.int .u8 (f i))) :
    Calls Trym.prog 12 #[.slice (some ⟨b, off, none⟩) n cap, .int .i64 i] w fun e w' => w = w' ∧
      ∃ j, RunTo (fun k => isSp (f k)) n i j ∧ e = .returned (.int .i64 j) := by
  go_enter Trym.func12, Trym.ntmps12
  go_wp2
  go_loop [1] (fun v => ∃ k : Nat, i ≤ k ∧ k ≤ n ∧ v = .int .i64 k ∧ Hid (∀ j, i ≤ j → j < k → isSp (f j) = true))
    (fun v => n - (intOf v).toNat)
  case atStart => exact ⟨i, Nat.le_refl _, hi, rfl, fun j h1 h2 => by omega⟩
  case round =>
    obtain ⟨k, hk0, hk, rfl, HN⟩ := hrel
    by_cases hlt : k < n
    · have hcx := hc k hlt
      by_cases hs : isSp (f k) = true
      · go_wp2_with (go_at_call 16; go_must (refine (isSpace16 _ _).mono ?_); rintro e w1 ⟨rfl, rfl⟩)
        go_round
        case rel => exact ⟨k + 1, by omega, by omega, by go_num, sp_go HN hs⟩
        case measure => simp [intOf]; omega
      · have hs' : isSp (f k) = false := by simpa using hs
        clear hs
        go_wp2_with (go_at_call 16; go_must (refine (isSpace16 _ _).mono ?_); rintro e w1 ⟨rfl, rfl⟩)
        go_ret
        exact ⟨rfl, k, ⟨hk0, hk, HN.out, fun _ => hs'⟩, rfl⟩
    · go_wp2_with (go_at_call 16; go_must (refine (isSpace16 _ _).mono ?_); rintro e w1 ⟨rfl, rfl⟩)
      go_ret
      exact ⟨rfl, k, ⟨hk0, hk, HN.out, fun h => absurd h hlt⟩, rfl⟩

theorem Sc.drewN {w : World} {s b off n cap p : Nat} (h : Sc w s b off n cap p) (k : Nat) : Sc (w.drewN k) s b off n cap p := ⟨h.data, h.pos, h.free⟩

set_option maxHeartbeats 1000000 in
theorem space18 (f : Nat → Int) (s b off n cap pos : Nat) (w : World) (hn : n ≤ 1048576) (hp : pos ≤ n) (hbs : b < s)
    (hc : ∀ i, i < n → w.cell? ⟨b, off + i, none⟩ = some (.int .u8 (f i))) (hs : Sc w s b off n cap pos) :
    Calls Trym.prog 18 #[.pointer (some ⟨s, 0, none⟩)] w fun e w' => e = .returned (.tuple #[]) ∧ Below s w w' ∧
      ∃ j, RunTo (fun k => isSp (f k)) n pos j ∧ Sc w' s b off n cap j := by
  go_enter Trym.func18, Trym.ntmps18
  go_wp2
  go_loopg [] (n - pos) (fun gn wr => ∃ p : Nat, gn = n - p ∧ pos ≤ p ∧ p ≤ n ∧ Hid (∀ j, pos ≤ j → j < p → isSp (f j) = true) ∧ Below s w wr ∧ Sc wr s b off n cap p)
  case atStart => exact ⟨pos, rfl, Nat.le_refl _, hp, fun j h1 h2 => by omega, Below.refl _ _, hs⟩
  case round =>
    obtain ⟨p, rfl, hplo, hphi, HN, hbel, hsc⟩ := hrel
    clear hs
    have HS : Hid (Sc wr s b off n cap p) := hsc
    obtain ⟨hd, hpp, hfr⟩ := hsc
    have i0 : (0 : Int) ≤ (p : Int) := by omega
    have i2 : (p : Int) ≤ 1048576 := by omega
    by_cases hlt : p < n
    · have i1 : (p : Int) < (n : Int) := by omega
      have hcp : wr.cell? ⟨b, off + p, none⟩ = some (.int .u8 (f p)) := (hbel.cell (by exact hbs)).trans (hc p hlt)
      go_wp2
      go_quiet (fail)
      go_wp2
      go_quiet (fail)
      go_wp2
      all_goals first
        | (go_roundg (n - (p + 1))
           case measure => omega
           case rel => exact ⟨p + 1, rfl, by omega, by omega, sp_go HN (by simp [isSp, *]), (below_drewN hbel _).setCell (by simp) _, HS.out.move _ _ _ (by omega)⟩)
        | (refine bodyPost_ret (results_none rfl _ _ _) rfl ?_
           exact ⟨rfl, below_drewN hbel _, p, ⟨hplo, hphi, HN.out, fun _ => by simp [isSp, *]⟩, HS.out.drewN _⟩)
    · go_wp2
      go_quiet (fail)
      go_wp2
      go_end0
      exact ⟨rfl, below_drewN hbel _, p, ⟨hplo, hphi, HN.out, fun h => absurd h hlt⟩, HS.out.drewN _⟩

end Go.Proofs.Qxb6604209aMods
