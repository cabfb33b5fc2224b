import Derived.Test.Qxb6604216aModsConF
namespace Go.Proofs.Qxb6604216aMods
open Go.RowKit Go.Maps Go.WideMaps

def win (L : List ByteArray) : List ByteArray := L.drop (L.length - 10)

/-- va is a slice of m adds, whose regions are R. -/
def Ad (w : World) (va : Value) (m : Nat) (R : Nat → ByteArray) : Prop :=
  (va = .slice none 0 0 ∧ m = 0) ∨ ∃ g cap, va = .slice (some ⟨g, 0, none⟩) m cap ∧ ∀ j, j < m → ∃ z, w.cell? ⟨g, j * 2, none⟩ = some (.int .i64 z) ∧ w.cell? ⟨g, j * 2 + 1, none⟩ = some (.string (R j))

theorem Ad.keep {w w' : World} {v : Value} {m : Nat} {R : Nat → ByteArray} (h : Ad w v m R) (hb : Below w.heap.size w w') : Ad w' v m R := by
  rcases h with h | ⟨g, cap, h1, h3⟩
  · exact .inl h
  · refine .inr ⟨g, cap, h1, fun j hj => ?_⟩
    obtain ⟨z, h4, h5⟩ := h3 j hj
    refine ⟨z, ?_, ?_⟩
    · rw [hb.cell (by simpa using block_lt_of_cell h4)]; exact h4
    · rw [hb.cell (by simpa using block_lt_of_cell h4)]; exact h5

def rl (R : Nat → ByteArray) (k : Nat) : List ByteArray := (List.range k).map R

theorem rl_succ (R : Nat → ByteArray) (k : Nat) : rl R (k + 1) = rl R k ++ [R k] := by simp [rl, List.range_succ]

theorem own_block {w : World} {base e size n : Nat} {v : Value} {xs : List Value} (h : w.ownsRow base e size v n xs) {b : Nat} (hb : v.ownBlock = some b) : base ≤ b := by
  rcases h.2 with ⟨rfl, _⟩ | ⟨g, cap, cur, rfl, hg, _⟩
  · simp [Value.ownBlock] at hb
  · simp [Value.ownBlock] at hb; omega

theorem Sl.win_short {w : World} {b off cap : Nat} {M : List ByteArray} (h : Hid (∀ j u, (M.map Value.string)[j]? = some u → w.cell? ⟨b, off + j, none⟩ = some u)) (hc : M.length ≤ cap) (h10 : M.length ≤ 10) : Sl w (.slice (some ⟨b, off, none⟩) M.length cap) (win M) := by
  rw [show win M = M from by rw [win, show M.length - 10 = 0 from by omega]; rfl]
  exact .inr ⟨b, off, cap, rfl, hc, h.out⟩

theorem Sl.win_long {w : World} {b off cap d : Nat} {M : List ByteArray} (h : Hid (∀ j u, (M.map Value.string)[j]? = some u → w.cell? ⟨b, off + j, none⟩ = some u)) (hc : M.length ≤ cap) (hd : d = M.length - 10) : Sl w (.slice (some ⟨b, off + d, none⟩) (M.length - d) (cap - d)) (win M) := by
  subst hd
  have hl : (win M).length = M.length - (M.length - 10) := by simp [win]
  refine .inr ⟨b, off + (M.length - 10), cap - (M.length - 10), by rw [hl], by rw [hl]; omega, fun j u hj => ?_⟩
  rw [Nat.add_assoc]
  refine h.out _ u ?_
  rw [win, List.map_drop, List.getElem?_drop] at hj
  exact hj

set_option maxHeartbeats 1000000 in
theorem asked_some (cb g cap m : Nat) (v : Value) (L : List ByteArray) (R : Nat → ByteArray) (w : World) (hL : L.length ≤ 1048576) (hm : m ≤ 1048576)
    (hcb : w.cell? ⟨cb, 6, none⟩ = some v) (h : Sl w v L) (ha : ∀ j, j < m → ∃ z, w.cell? ⟨g, j * 2, none⟩ = some (.int .i64 z) ∧ w.cell? ⟨g, j * 2 + 1, none⟩ = some (.string (R j))) :
    Calls Trym.prog 23 #[.pointer (some ⟨cb, 0, none⟩), .slice (some ⟨g, 0, none⟩) m cap] w fun e w' => ∃ v', e = .returned v' ∧ Sl w' v' (win (L ++ rl R m)) ∧ Below w.heap.size w w' := by
  obtain ⟨i0, hi, hz0, hz1, hz2⟩ := info_parts Trym.info9
  have HA : Hid (∀ j, j < m → ∃ z, w.cell? ⟨g, j * 2, none⟩ = some (.int .i64 z) ∧ w.cell? ⟨g, j * 2 + 1, none⟩ = some (.string (R j))) := ha
  clear ha
  go_enter Trym.func23, Trym.ntmps23
  go_wp2_with fail
  refine (clone24 v L w hL h).mono ?_
  rintro e w1 ⟨v1, rfl, hown1, hbel1⟩
  clear h hcb
  go_wp2
  go_loopw [5, 15] (fun va vi wr => ∃ k : Nat, k ≤ m ∧ vi = .int .i64 k ∧ wr.ownsRow w.heap.size 9 1 va (L.length + k) ((L ++ rl R k).map Value.string) ∧ Below w.heap.size w wr)
    (fun _ vi _ => m - (intOf vi).toNat)
  case atStart => exact ⟨0, Nat.zero_le _, rfl, by simpa [rl] using hown1, hbel1⟩
  case round =>
    obtain ⟨k, hk, rfl, hown, hbel⟩ := hrel
    clear hown1 hbel1
    by_cases hlt : k < m
    · obtain ⟨z, hc0, hc1⟩ := HA.out k hlt
      obtain ⟨s, hs⟩ : ∃ s, s = R k := ⟨_, rfl⟩
      rw [← hs] at hc1
      have hgb : g < w.heap.size := by simpa using block_lt_of_cell hc0
      have hd0 : wr.cell? ⟨g, k * 2, none⟩ = some (.int .i64 z) := (hbel.cell (by exact hgb)).trans hc0
      have hd1 : wr.cell? ⟨g, k * 2 + 1, none⟩ = some (.string s) := (hbel.cell (by exact hgb)).trans hc1
      have HS : Hid (s = R k) := hs
      clear hc0 hc1 hs
      go_wp2_with (at_builtin; refine wpList_append_own _ rfl _ _ 22 rfl w.heap.size 9 i0 (.string { data := #[] }) 1 16 Trym.underlying22 hi hz0 hz1 hz2 rfl (by decide) _ _ _ rfl ((hown.alloc _).alloc _) ⟨wr.heap.size + 1, 0, none⟩ 1 1 [.string s] rfl rfl ?c1 ?c2 ?c3 ?c4 ?c5 ?_)
      case c1 =>
        intro j u hj
        match j, hj with
        | 0, hj => simp at hj; subst hj; simp [Addr.add]
      case c2 => first | rfl | (intro u hu; simp at hu; subst hu; rfl)
      case c3 => unfold maxLen; omega
      case c4 => omega
      case c5 => have := hbel.size; simp; omega
      intro v' w2 hown2 hgrow2 _
      have hb2 : Below w.heap.size w w2 := ((hbel.alloc hbel.size _).alloc (by have := hbel.size; simp; omega) _).grown hgrow2 (by have := hbel.size; simp; omega) (fun b hb => own_block hown hb)
      have HO : Hid (w2.ownsRow w.heap.size 9 1 v' (L.length + (k + 1)) ((L ++ rl R (k + 1)).map Value.string)) := by
        rw [rl_succ, ← HS.out, List.map_append, List.map_append]
        exact hown2
      clear hown hown2 hgrow2 hd0 hd1 hbel
      go_wp2
      go_roundw
      case rel => exact ⟨k + 1, by omega, by go_num, HO.out, hb2⟩
      case measure => simp [intOf]; omega
    · have hkm : k = m := by omega
      subst hkm
      have hS := Sl.own hown
      have hML : (L ++ rl R k).length ≤ 2097152 := by simp [rl]; omega
      obtain ⟨M, hM⟩ : ∃ M, M = L ++ rl R k := ⟨_, rfl⟩
      rw [← hM] at hS hML
      have HM : Hid (M = L ++ rl R k) := hM
      clear hown hM HA
      rcases hS with ⟨hv, hl⟩ | ⟨b, off, cap2, hv, hcap, hcells⟩
      · subst hv
        have HL : Hid (M = []) := hl
        clear hl
        go_wp2
        go_ret
        exact ⟨_, rfl, by rw [← HM.out, HL.out]; exact .inl ⟨rfl, rfl⟩, hbel⟩
      · subst hv
        have HC : Hid (∀ j u, (M.map Value.string)[j]? = some u → wr.cell? ⟨b, off + j, none⟩ = some u) := hcells
        clear hcells
        by_cases h10 : M.length ≤ 10
        · go_wp2
          all_goals
            go_ret
            first | exact ⟨_, rfl, by rw [← HM.out]; exact Sl.win_short HC (by omega) h10, hbel⟩ | exact ⟨_, rfl, by rw [← HM.out]; exact Sl.win_long HC hcap (by omega), hbel⟩
        · go_wp2
          all_goals
            go_ret
            exact ⟨_, rfl, by rw [← HM.out]; exact Sl.win_long HC hcap (by omega), hbel⟩

set_option maxHeartbeats 1000000 in
theorem asked_none (cb : Nat) (v : Value) (L : List ByteArray) (w : World) (hL : L.length ≤ 1048576)
    (hcb : w.cell? ⟨cb, 6, none⟩ = some v) (h : Sl w v L) :
    Calls Trym.prog 23 #[.pointer (some ⟨cb, 0, none⟩), .slice none 0 0] w fun e w' => ∃ v', e = .returned v' ∧ Sl w' v' (win L) ∧ Below w.heap.size w w' := by
  go_enter Trym.func23, Trym.ntmps23
  go_wp2_with fail
  refine (clone24 v L w hL h).mono ?_
  rintro e w1 ⟨v1, rfl, hown1, hbel⟩
  clear h hcb
  have hS := Sl.own hown1
  clear hown1
  rcases hS with ⟨hv, hl⟩ | ⟨b, off, cap2, hv, hcap, hcells⟩
  · subst hv
    have HL : Hid (L = []) := hl
    clear hl
    go_wp2
    refine wp_loop_rounds 1 ?_
    rw [rounds_succ]
    go_wp2
    go_ret
    exact ⟨_, rfl, by rw [HL.out]; exact .inl ⟨rfl, rfl⟩, hbel⟩
  · subst hv
    have HC : Hid (∀ j u, (L.map Value.string)[j]? = some u → w1.cell? ⟨b, off + j, none⟩ = some u) := hcells
    clear hcells
    by_cases h10 : L.length ≤ 10
    · go_wp2
      refine wp_loop_rounds 1 ?_
      rw [rounds_succ]
      go_wp2
      all_goals
        go_ret
        first | exact ⟨_, rfl, Sl.win_short HC (by omega) h10, hbel⟩ | exact ⟨_, rfl, Sl.win_long HC hcap (by omega), hbel⟩
    · go_wp2
      refine wp_loop_rounds 1 ?_
      rw [rounds_succ]
      go_wp2
      all_goals
        go_ret
        exact ⟨_, rfl, Sl.win_long HC hcap (by omega), hbel⟩

/-- (*Counter).asked. -/
theorem asked23 (cb m : Nat) (v va : Value) (L : List ByteArray) (R : Nat → ByteArray) (w : World) (hL : L.length ≤ 1048576) (hm : m ≤ 1048576)
    (hcb : w.cell? ⟨cb, 6, none⟩ = some v) (h : Sl w v L) (ha : Ad w va m R) :
    Calls Trym.prog 23 #[.pointer (some ⟨cb, 0, none⟩), va] w fun e w' => ∃ v', e = .returned v' ∧ Sl w' v' (win (L ++ rl R m)) ∧ Below w.heap.size w w' := by
  rcases ha with ⟨rfl, rfl⟩ | ⟨g, cap, rfl, hc⟩
  · rw [show L ++ rl R 0 = L from by simp [rl]]
    exact asked_none cb v L w hL hcb h
  · exact asked_some cb g cap m v L R w hL hm hcb h hc

end Go.Proofs.Qxb6604216aMods
