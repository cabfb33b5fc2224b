import Derived.Test.Qxb6604209aModsValE
import Derived.Test.Qxb6604209aModsValC
namespace Go.Proofs.Qxb6604209aMods
open Go.RowKit Plain

/-- Where the value that begins at pos ends, as both sides find it. -/
def EndsAt (f : Nat → Int) (n pos en : Nat) : Prop :=
  ((f pos == 34) = true ∧ ∃ q, First f n pos q ∧ en = q + 1) ∨
  ((f pos == 34) = false ∧ ((f pos == 123) = true ∨ (f pos == 123) = false ∧ (f pos == 91) = true) ∧ ∃ E, Lexed f n pos E ∧ en = E + 1) ∨
  ((f pos == 34) = false ∧ (f pos == 123) = false ∧ (f pos == 91) = false ∧ RunTo (fun k => !isEnd (f k)) n pos en)

theorem EndsAt.bounds {f : Nat → Int} {n pos en : Nat} (h : EndsAt f n pos en) : pos ≤ en ∧ en ≤ n := by
  rcases h with ⟨_, q, h, rfl⟩ | ⟨_, _, E, h, rfl⟩ | ⟨_, _, _, h⟩
  · have := h.lo; have := h.hi; omega
  · have := h.lo; have := h.hi; omega
  · exact ⟨h.lo, h.hi⟩

theorem valueEnd10 (f : Nat → Int) (b off n cap pos : Nat) (w : World) (hp : pos < n) (hn : n ≤ 1048576)
    (hc : ∀ i, i < n → w.cell? ⟨b, off + i, none⟩ = some (.int .u8 (f i))) :
    Calls Trym.prog 10 #[.slice (some ⟨b, off, none⟩) n cap, .int .i64 pos] w fun e w' => w = w' ∧
      ((∃ en : Nat, EndsAt f n pos en ∧ e = .returned (.tuple #[.int .i64 en, .bool true])) ∨ e = .returned (.tuple #[.int .i64 0, .bool false])) := by
  by_cases h1 : f pos = 34
  · refine (end_lex f b off n cap pos w hp hn (.inl (by simp [h1])) hc).mono ?_
    rintro e w' ⟨rfl, ⟨E, hE, rfl⟩ | rfl⟩
    · obtain ⟨q, hq, h0, _⟩ := hE.string pos (Nat.le_refl _) hE.lo 0 (lx_low f pos pos (Nat.le_refl _)) h1
      have := h0 rfl
      subst this
      exact ⟨rfl, .inl ⟨q + 1, .inl ⟨by simp [h1], q, hq, rfl⟩, by simp⟩⟩
    · exact ⟨rfl, .inr rfl⟩
  · by_cases h2 : f pos = 123
    · refine (end_lex f b off n cap pos w hp hn (.inr (.inl ⟨by simp [h1], by simp [h2]⟩)) hc).mono ?_
      rintro e w' ⟨rfl, ⟨E, hE, rfl⟩ | rfl⟩
      · exact ⟨rfl, .inl ⟨E + 1, .inr (.inl ⟨by simp [h1], .inl (by simp [h2]), E, hE, rfl⟩), by simp⟩⟩
      · exact ⟨rfl, .inr rfl⟩
    · by_cases h3 : f pos = 91
      · refine (end_lex f b off n cap pos w hp hn (.inr (.inr ⟨by simp [h1], by simp [h2], by simp [h3]⟩)) hc).mono ?_
        rintro e w' ⟨rfl, ⟨E, hE, rfl⟩ | rfl⟩
        · exact ⟨rfl, .inl ⟨E + 1, .inr (.inl ⟨by simp [h1], .inr ⟨by simp [h2], by simp [h3]⟩, E, hE, rfl⟩), by simp⟩⟩
        · exact ⟨rfl, .inr rfl⟩
      · refine (end_bare f b off n cap pos w hp hn (by simp [h1]) (by simp [h2]) (by simp [h3]) hc).mono ?_
        rintro e w' ⟨rfl, j, hj, rfl⟩
        exact ⟨rfl, .inl ⟨j, .inr (.inr ⟨by simp [h1], by simp [h2], by simp [h3], hj⟩), rfl⟩⟩

theorem value15 (f : Nat → Int) (s b off n cap pos en : Nat) (w : World) (hn : n ≤ 1048576) (hcap : n ≤ cap) (hbs : b < s) (hp : pos < n)
    (hc : ∀ i, i < n → w.cell? ⟨b, off + i, none⟩ = some (.int .u8 (f i))) (hs : Sc w s b off n cap pos) (hen : EndsAt f n pos en) :
    Calls Trym.prog 15 #[.pointer (some ⟨s, 0, none⟩)] w fun e w' => ∃ j, RunTo (fun k => isSp (f k)) n en j ∧
      e = .returned (.slice (some ⟨b, off + pos, none⟩) (en - pos) (cap - pos)) ∧ Below s w w' ∧ Sc w' s b off n cap j := by
  rcases hen with ⟨t1, q, hq, rfl⟩ | ⟨t1, t2, E, hE, rfl⟩ | ⟨t1, t2, t3, hr⟩
  · exact value_str f s b off n cap pos q w hn hcap hbs hc hs t1 hq
  · exact value_br f s b off n cap pos E w hn hcap hbs hc hs t1 t2 hE
  · exact value_bare f s b off n cap pos en w hn hcap hbs hp hc hs t1 t2 t3 hr

set_option maxHeartbeats 400000 in
theorem zzvalue11 (f : Nat → Int) (b off n cap pos en : Nat) (w : World) (hn : n ≤ 1048576) (hcap : n ≤ cap) (hp : pos < n)
    (hc : ∀ i, i < n → w.cell? ⟨b, off + i, none⟩ = some (.int .u8 (f i))) (hen : EndsAt f n pos en) :
    Calls Trym.prog 11 #[.slice (some ⟨b, off, none⟩) n cap, .int .i64 pos] w fun e w' => ∃ j : Nat, RunTo (fun k => isSp (f k)) n en j ∧
      e = .returned (.tuple #[.slice (some ⟨b, off + pos, none⟩) (en - pos) (cap - pos), .int .i64 j]) ∧ Below w.heap.size w w' := by
  have hb : b < w.heap.size := by simpa using block_lt_of_cell (hc 0 (by omega))
  go_enter Trym.func11, Trym.ntmps11
  go_wp2_with (go_at_call 15; go_must (refine (value15 f w.heap.size b off n cap pos en _ hn hcap hb hp (cells_alloc _ hc) (Sc.fresh w b off n cap pos) hen).mono ?_); rintro e w1 ⟨j, hj, rfl, hbel, hd, hpp, hfr⟩)
  go_quiet (fail)
  go_wp2
  go_ret2
  exact ⟨j, hj, rfl, below_drewN (((Below.refl _ _).alloc (Nat.le_refl _) _).trans hbel) _⟩

end Go.Proofs.Qxb6604209aMods
