import Derived.Test.Qxb6604216aModsConA
namespace Go.Proofs.Qxb6604216aMods
open Go.RowKit Go.Maps Go.WideMaps

set_option maxHeartbeats 400000 in
/-- Fewer than ten writes: no home, no doubt. -/
theorem home_few (a : Option Addr) (n cap : Nat) (home : ByteArray) (unsure : Bool) (w : World) (hn : n < 10) :
    Calls Trym.prog 25 #[.slice a n cap, .string home, .bool unsure] w fun e w' => ∃ (h : ByteArray) (u : Bool), h.size ≤ maxLen ∧ e = .returned (.tuple #[.string h, .bool u]) ∧ Below w.heap.size w w' := by
  go_enter Trym.func25, Trym.ntmps25
  go_wp2
  go_ret2
  exact ⟨_, _, Nat.zero_le _, rfl, Below.refl _ _⟩

set_option maxHeartbeats 2000000 in
theorem home_many (b off n cap : Nat) (S : Nat → ByteArray) (home : ByteArray) (unsure : Bool) (w : World) (hn : 10 ≤ n) (hn2 : n ≤ 1048576) (hh : home.size ≤ maxLen)
    (hS : ∀ i, i < n → (S i).size ≤ maxLen) (hc : ∀ i, i < n → w.cell? ⟨b, off + i, none⟩ = some (.string (S i))) :
    Calls Trym.prog 25 #[.slice (some ⟨b, off, none⟩) n cap, .string home, .bool unsure] w fun e w' => ∃ (h : ByteArray) (u : Bool), h.size ≤ maxLen ∧ e = .returned (.tuple #[.string h, .bool u]) ∧ Below w.heap.size w w' := by
  have hb : b < w.heap.size := by simpa using block_lt_of_cell (hc 0 (by omega))
  have hmm := @run_makeMap Trym.prog
  go_enter Trym.func25, Trym.ntmps25
  go_wp2
  go_loopw [9, 21] (fun vu vi wr => ∃ (k : Nat) (u : Int) (D : DataW Unit), k ≤ n ∧ 0 ≤ u ∧ u ≤ k ∧ vu = .int .i64 u ∧ vi = .int .i64 k ∧ wr.ownsMap Trym.prog 9 (plainElem Trym.prog 3) w.heap.size k D ∧ Below w.heap.size w wr)
    (fun _ vi _ => n - (intOf vi).toNat)
  case atStart => exact ⟨0, 0, _, Nat.zero_le _, by omega, by omega, rfl, rfl, World.ownsMap_made _ _ _ _, (Below.refl _ _).alloc (Nat.le_refl _) _⟩
  case round =>
    obtain ⟨k, u, D, hk, hu0, hu1, rfl, rfl, hown, hbel⟩ := hrel
    by_cases hlt : k < n
    · obtain ⟨s, hs⟩ : ∃ s, s = S k := ⟨_, rfl⟩
      have hcx : wr.cell? ⟨b, off + k, none⟩ = some (.string s) := by rw [hs]; exact (hbel.cell (by exact hb)).trans (hc k hlt)
      have hkey : keyOf Trym.prog 9 (.string s) = some (.string s.data.toList) := keyOf_string_mk Trym.underlying9 (by rw [hs]; exact hS k hlt)
      clear hs
      obtain ⟨c, hrun, hat, _⟩ := hown.lookup_int law9 Trym.underlying54 Trym.underlying3 (zero3 _) hkey
      go_wp2_with (first
        | (at_mapUpdate; refine wpList_mapUpdate_own _ rfl _ _ _ 54 rfl 9 3 law9 Trym.underlying54 _ w.heap.size k _ rfl hown (by unfold maxLen; omega) _ _ _ rfl rfl hkey _ [] (plainElem_int Trym.underlying3 (wrap64_wf _)) ?_)
        | go_in)
      · go_roundw
        case rel => exact ⟨k + 1, u + 1, D, by omega, by omega, by omega, rfl, by go_num, hown.mono (by omega), hbel⟩
        case measure => simp [intOf]; omega
      · intro w1 hown1 hgrow1
        have R2 := hbel.grown hgrow1 hbel.size (fun j hj => by cases hj; exact Nat.le_refl _)
        clear hown hrun hat hcx hgrow1
        go_wp2
        go_roundw
        case rel => exact ⟨k + 1, u, _, by omega, by omega, by omega, rfl, by go_num, hown1, R2⟩
        case measure => simp [intOf]; omega
    · have hk2 : k ≤ 1048576 := by omega
      go_wp2_with (first
        | (at_range; refine wpList_range_own _ rfl _ 54 rfl 9 3 law9 Trym.underlying54 _ w.heap.size k _ rfl hown ?_; intro w0 hrg0 hg0 hs0)
        | fail)
      go_frame
      have hb0 : Below w.heap.size w w0 := hbel.grown hg0 hbel.size (by simp)
      clear hg0
      obtain ⟨r, hr⟩ : ∃ r, r = wr.heap.size := ⟨_, rfl⟩
      have hrs : w.heap.size ≤ r := by rw [hr]; exact hbel.size
      rw [← hr] at hrg0
      rw [← hr]
      clear hr hs0 hown hbel
      go_loopw [12] (fun vm wx => ∃ (left : Lit → Bool) (cnt : Nat) (m : Int), vm = .int .i64 m ∧ wx.ranges Trym.prog 9 (plainElem Trym.prog 3) w.heap.size r k D left cnt ∧ Below w.heap.size w wx)
        (fun _ wx => wx.rangeLeft w.heap.size r)
      case atStart => exact ⟨_, _, _, rfl, hrg0, hb0⟩
      case round =>
        obtain ⟨left, cnt, m, rfl, hrg, hbx⟩ := hrel
        clear hrg0 hb0
        go_wp2_with (first
          | (at_next; refine wpList_next_ranges _ rfl _ rfl 9 law9 _ Value.string (Value.int .i64) (fun key kl hkey => key_inv hkey) (fun v y hv => by obtain ⟨c, rfl, _⟩ := plainElem_int_inv Trym.underlying3 hv; exact ⟨c, rfl⟩) w.heap.size r k D left cnt rfl hrg ?_ ?_)
          | fail)
        · intro _ _
          obtain ⟨c, hrun, _, hwc⟩ := hrg.owns.lookup_int law9 Trym.underlying54 Trym.underlying3 (zero3 _) (keyOf_string_mk Trym.underlying9 hh)
          clear hrg hwc
          cases unsure
          all_goals
            go_wp2
            all_goals
              go_ret2
              first
                | exact ⟨_, _, Nat.zero_le _, rfl, hbx⟩
                | exact ⟨_, _, hh, rfl, hbx⟩
        · intro x c kl y y2 w1 cnt1 hkey hlk hv _ hrg1 hlt hg1 hs1 hen
          have hxl := key_len hkey
          have hb1 : Below w.heap.size w w1 := hbx.grown hg1 hbx.size (fun j hj => by cases hj; exact hrs)
          have HM : Hid (w1.rangeLeft w.heap.size r < wr.rangeLeft w.heap.size r) := by
            show _ < _
            rw [hrg1.left_eq, hrg.left_eq]; exact hlt
          clear hkey hlk hv hlt hg1 hs1 hrg
          go_wp2
          · go_ret2
            exact ⟨_, _, hxl, rfl, hb1⟩
          · go_roundw
            case rel => exact ⟨_, _, _, rfl, hrg1, hb1⟩
            case measure => exact HM.out

end Go.Proofs.Qxb6604216aMods
