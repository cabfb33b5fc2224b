import Derived.Test.Qxb6604209aModsValA
namespace Go.Proofs.Qxb6604209aMods
open Go.RowKit Plain

theorem en_go {f : Nat → Int} {i k : Nat} (h : Hid (∀ j, i ≤ j → j < k → (!isEnd (f j)) = true)) (hk : isEnd (f k) = false) : Hid (∀ j, i ≤ j → j < k + 1 → (!isEnd (f j)) = true) := by
  intro j a b
  by_cases e : j = k
  · subst e; simp [hk]
  · exact h j a (by omega)

/-- A bare word. -/
theorem end_bare (f : Nat → Int) (b off n cap pos : Nat) (w : World) (hp : pos < n) (hn : n ≤ 1048576)
    (h1 : (f pos != 34) = true) (h2 : (f pos != 123) = true) (h3 : (f pos != 91) = true)
    (hc : ∀ i, i < n → w.cell? ⟨b, off + i, none⟩ = some (.int .u8 (f i))) :
    Calls Trym.prog 10 #[.slice (some ⟨b, off, none⟩) n cap, .int .i64 pos] w fun e w' => w = w' ∧
      ∃ j, RunTo (fun k => !isEnd (f k)) n pos j ∧ e = .returned (.tuple #[.int .i64 j, .bool true]) := by
  have hc0 := hc pos hp
  go_enter Trym.func10, Trym.ntmps10
  go_wp2
  go_loop [7] (fun v => ∃ k : Nat, pos ≤ k ∧ k ≤ n ∧ v = .int .i64 k ∧ Hid (∀ j, pos ≤ j → j < k → (!isEnd (f j)) = true))
    (fun v => n - (intOf v).toNat)
  case atStart => exact ⟨pos, Nat.le_refl _, by omega, rfl, fun j h1 h2 => by omega⟩
  case round =>
    obtain ⟨k, hk0, hk, rfl, HN⟩ := hrel
    by_cases hlt : k < n
    · have hcx := hc k hlt
      by_cases hs : isEnd (f k) = true
      · go_wp2_with (go_at_call 14; go_must (refine (endsBare14 _ _).mono ?_); rintro e w1 ⟨rfl, rfl⟩)
        go_ret2
        exact ⟨rfl, k, ⟨hk0, hk, HN.out, fun _ => by simp [hs]⟩, rfl⟩
      · have hs' : isEnd (f k) = false := by simpa using hs
        clear hs
        go_wp2_with (go_at_call 14; go_must (refine (endsBare14 _ _).mono ?_); rintro e w1 ⟨rfl, rfl⟩)
        go_round
        case rel => exact ⟨k + 1, by omega, by omega, by go_num, en_go HN hs'⟩
        case measure => simp [intOf]; omega
    · go_wp2_with (go_at_call 14; go_must (refine (endsBare14 _ _).mono ?_); rintro e w1 ⟨rfl, rfl⟩)
      go_ret2
      exact ⟨rfl, k, ⟨hk0, hk, HN.out, fun h => absurd h hlt⟩, rfl⟩

def NoStop (f : Nat → Int) (pos k : Nat) : Prop := ∀ j, pos ≤ j → j < k → ¬ Stops (f j) (lx f pos j)

theorem NoStop.go {f : Nat → Int} {pos k : Nat} (h : NoStop f pos k) {st : Bool × Bool × Int} (e : Hid (lx f pos k = st)) (hs : ¬ Stops (f k) st) : NoStop f pos (k + 1) := by
  intro j a b
  by_cases ej : j = k
  · subst ej; rw [e.out]; exact hs
  · exact h j a (by omega)

/-- What holds of the lexer's slots at a round's head. -/
def LexAt (f : Nat → Int) (pos k : Nat) (s e : Bool) (d : Int) : Prop := lx f pos k = (s, e, d) ∧ NoStop f pos k

theorem LexAt.bound {f : Nat → Int} {pos k : Nat} {s e : Bool} {d : Int} (h : LexAt f pos k s e d) : d ≤ k ∧ -(k : Int) ≤ d := by
  have := lx_depth f pos k
  rw [h.1] at this
  exact this

theorem LexAt.next {f : Nat → Int} {pos k : Nat} {s e : Bool} {d : Int} (h : LexAt f pos k s e d) (hk : pos ≤ k) {s' e' : Bool} {d' : Int} (hs : lexStep (f k) (s, e, d) = (s', e', d')) (hn : ¬ Stops (f k) (s, e, d)) : LexAt f pos (k + 1) s' e' d' :=
  ⟨by rw [lx_succ f pos k hk, h.1, hs], h.2.go h.1 hn⟩

theorem LexAt.stop {f : Nat → Int} {n pos k : Nat} {s e : Bool} {d : Int} (h : LexAt f pos k s e d) (hk : pos ≤ k) (hn : k < n) (hs : Stops (f k) (s, e, d)) : Lexed f n pos k :=
  ⟨hk, hn, by rw [h.1]; exact hs, h.2⟩

set_option maxHeartbeats 2000000 in
theorem end_lex (f : Nat → Int) (b off n cap pos : Nat) (w : World) (hp : pos < n) (hn : n ≤ 1048576)
    (h1 : (f pos != 34) = false ∨ (f pos != 34) = true ∧ (f pos != 123) = false ∨ (f pos != 34) = true ∧ (f pos != 123) = true ∧ (f pos != 91) = false)
    (hc : ∀ i, i < n → w.cell? ⟨b, off + i, none⟩ = some (.int .u8 (f i))) :
    Calls Trym.prog 10 #[.slice (some ⟨b, off, none⟩) n cap, .int .i64 pos] w fun e w' => w = w' ∧
      ((∃ E, Lexed f n pos E ∧ e = .returned (.tuple #[.int .i64 ((E : Int) + 1), .bool true])) ∨ e = .returned (.tuple #[.int .i64 0, .bool false])) := by
  have hc0 := hc pos hp
  rcases h1 with a1 | ⟨a1, a2⟩ | ⟨a1, a2, a3⟩
  all_goals
    go_enter Trym.func10, Trym.ntmps10
    go_wp2
    go_loop [8, 9, 10, 11] (fun vs ve vd v => ∃ (k : Nat) (s e : Bool) (d : Int), pos ≤ k ∧ k ≤ n ∧ vs = .bool s ∧ ve = .bool e ∧ vd = .int .i64 d ∧ v = .int .i64 k ∧ LexAt f pos k s e d)
      (fun _ _ _ v => n - (intOf v).toNat)
    case atStart => exact ⟨pos, false, false, 0, Nat.le_refl _, by omega, rfl, rfl, rfl, rfl, lx_low f pos pos (Nat.le_refl _), fun j h1 h2 => by omega⟩
    case round =>
      obtain ⟨k, s, e, d, hk0, hk, rfl, rfl, rfl, rfl, HL⟩ := hrel
      have hbd := HL.bound
      have hd1 : d ≤ 1048576 := by omega
      have hd2 : -1048576 ≤ d := by omega
      clear hbd
      by_cases hlt : k < n
      · have hcx := hc k hlt
        clear hc0
        cases s
        · go_wp2
          all_goals first
            | (go_round
               case rel => exact ⟨k + 1, _, _, _, by omega, by omega, rfl, rfl, rfl, by go_num, HL.next hk0 (by simp_all [lexStep]) (by simp_all [Stops]; try omega)⟩
               case measure => simp [intOf]; omega)
            | (go_ret2
               exact ⟨rfl, .inl ⟨k, HL.stop hk0 hlt (by simp_all [Stops]; try omega), rfl⟩⟩)
        · cases e
          all_goals
            go_wp2
            all_goals first
              | (go_round
                 case rel => exact ⟨k + 1, _, _, _, by omega, by omega, rfl, rfl, rfl, by go_num, HL.next hk0 (by simp_all [lexStep]) (by simp_all [Stops]; try omega)⟩
                 case measure => simp [intOf]; omega)
              | (go_ret2
                 exact ⟨rfl, .inl ⟨k, HL.stop hk0 hlt (by simp_all [Stops]; try omega), rfl⟩⟩)
      · go_wp2
        go_ret2
        exact ⟨rfl, .inr rfl⟩

end Go.Proofs.Qxb6604209aMods
