import Derived.Test.Qxb6604216aModsConC
namespace Go.Proofs.Qxb6604216aMods
open Go.RowKit Go.Maps Go.WideMaps

theorem Trym.info53 : (Trym.prog.info? 53).map (fun i => (i.zero, i.size, i.bytes)) = some (some (.agg #[.int .i64 0, .string { data := #[] }]), 2, 24) := by kernel_rfl

set_option maxHeartbeats 400000 in
/-- zzAddsB1 of no pair: nil. -/
theorem adds_none (a1 a2 : Option Addr) (n1 n2 c1 c2 : Nat) (w : World) (h : n1 = 0 ∨ n2 = 0) (h1 : n1 ≤ 1048576) (h2 : n2 ≤ 1048576) :
    Calls Trym.prog 21 #[.slice a1 n1 c1, .slice a2 n2 c2] w fun e w' => w = w' ∧ e = .returned (.slice none 0 0) := by
  rcases h with rfl | rfl
  all_goals
    go_enter Trym.func21, Trym.ntmps21
    go_wp2
    all_goals
      go_ret
      exact ⟨rfl, rfl⟩

theorem pairs_set {xs : List Value} {k m : Nat} {Z : Nat → Int} {S : Nat → ByteArray} (h : Hid (∀ j, j < k → xs[j * 2]? = some (.int .i64 (Z j)) ∧ xs[j * 2 + 1]? = some (.string (S j)))) (hl : Hid (xs.length = m * 2)) (hk : k < m) :
    Hid (∀ j, j < k + 1 → ((xs.set (k * 2) (.int .i64 (Z k))).set (k * 2 + 1) (.string (S k)))[j * 2]? = some (.int .i64 (Z j)) ∧ ((xs.set (k * 2) (.int .i64 (Z k))).set (k * 2 + 1) (.string (S k)))[j * 2 + 1]? = some (.string (S j))) := by
  intro j hj
  have hl := hl.out
  by_cases e : j = k
  · subst e
    constructor
    · rw [List.getElem?_set_ne (by omega), List.getElem?_set_self (by omega)]
    · rw [List.getElem?_set_self (by simp; omega)]
  · have hj' := h.out j (by omega)
    constructor
    · rw [List.getElem?_set_ne (by omega), List.getElem?_set_ne (by omega)]; exact hj'.1
    · rw [List.getElem?_set_ne (by omega), List.getElem?_set_ne (by omega)]; exact hj'.2

set_option maxHeartbeats 1000000 in
theorem adds_some (b1 off1 b2 off2 n1 n2 c1 c2 m : Nat) (Z : Nat → Int) (S : Nat → ByteArray) (w : World) (hm : m = min n1 n2) (h0 : 0 < m) (h1 : n1 ≤ 1048576) (h2 : n2 ≤ 1048576)
    (hz : ∀ j, j < m → w.cell? ⟨b1, off1 + j, none⟩ = some (.int .i64 (Z j))) (hs : ∀ j, j < m → w.cell? ⟨b2, off2 + j, none⟩ = some (.string (S j))) :
    Calls Trym.prog 21 #[.slice (some ⟨b1, off1, none⟩) n1 c1, .slice (some ⟨b2, off2, none⟩) n2 c2] w fun e w' => e = .returned (.slice (some ⟨w.heap.size, 0, none⟩) m m) ∧ Below w.heap.size w w' ∧
      ∀ j, j < m → w'.cell? ⟨w.heap.size, j * 2, none⟩ = some (.int .i64 (Z j)) ∧ w'.cell? ⟨w.heap.size, j * 2 + 1, none⟩ = some (.string (S j)) := by
  obtain ⟨i0, hi, hz0, hz1, hz2⟩ := info_parts Trym.info53
  have hb1 : b1 < w.heap.size := by simpa using block_lt_of_cell (hz 0 h0)
  have hb2 : b2 < w.heap.size := by simpa using block_lt_of_cell (hs 0 h0)
  have HZ : Hid (_) := hz
  have HS : Hid (_) := hs
  clear hz hs
  rcases Nat.lt_trichotomy n1 n2 with hlt | heq | hgt
  case' inl => (have hm1 : m = n1 := by omega); subst hm1; clear hm
  case' inr.inl => subst heq; (have hm1 : m = n1 := by omega); subst hm1; clear hm
  case' inr.inr => (have hm1 : m = n2 := by omega); subst hm1; clear hm
  all_goals
    go_enter Trym.func21, Trym.ntmps21
    go_wp2_with (at_make; refine wpList_make_full _ rfl _ _ 44 rfl w.heap.size 53 i0 (.agg #[.int .i64 0, .string { data := #[] }]) 2 Trym.underlying44 hi hz0 hz1 .i64 .i64 _ _ m rfl rfl rfl rfl ?_ ?_ ?_ ?_)
    · rw [hz2]; omega
    · unfold maxLen; omega
    · exact Nat.le_refl _
    intro w1 hown hgrow
    have hbel : Below w.heap.size w w1 := (Below.refl _ _).grown hgrow (Nat.le_refl _) (by simp)
    obtain ⟨xs0, hxs0⟩ : ∃ xs, w1.ownsRow w.heap.size 53 2 (.slice (some ⟨w.heap.size, 0, none⟩) m m) m xs := ⟨_, hown⟩
    clear hgrow hown
    go_wp2
    go_loopw [7] (fun i wr => ∃ (k : Nat) (xs : List Value), k ≤ m ∧ i = .int .i64 k ∧ wr.ownsRow w.heap.size 53 2 (.slice (some ⟨w.heap.size, 0, none⟩) m m) m xs ∧ Hid (∀ j, j < k → xs[j * 2]? = some (.int .i64 (Z j)) ∧ xs[j * 2 + 1]? = some (.string (S j))) ∧ Below w.heap.size w wr)
      (fun i _ => m - (intOf i).toNat)
    case atStart => exact ⟨0, xs0, Nat.zero_le _, rfl, hxs0, fun j hj => by omega, hbel⟩
    case round =>
      obtain ⟨k, xs, hk, rfl, hownr, HX, hbr⟩ := hrel
      clear hxs0 hbel
      by_cases hkm : k < m
      · have hlen : xs.length = m * 2 := hownr.1
        have hcz : wr.cell? ⟨b1, off1 + k, none⟩ = some (.int .i64 (Z k)) := (hbr.cell (by exact hb1)).trans (HZ.out k hkm)
        have hcs : wr.cell? ⟨b2, off2 + k, none⟩ = some (.string (S k)) := (hbr.cell (by exact hb2)).trans (HS.out k hkm)
        have hf0 : wr.frozen? ⟨w.heap.size, k * 2, none⟩ = false := hownr.frozenAt _
        have hf1 : wr.frozen? ⟨w.heap.size, k * 2 + 1, none⟩ = false := hownr.frozenAt _
        obtain ⟨v0, hc0⟩ : ∃ v, wr.cell? ⟨w.heap.size, k * 2, none⟩ = some v := ⟨_, (hownr.cellAt (k * 2) (by omega)).trans (List.getElem?_eq_getElem (by omega))⟩
        obtain ⟨v1, hc1⟩ : ∃ v, wr.cell? ⟨w.heap.size, k * 2 + 1, none⟩ = some v := ⟨_, (hownr.cellAt (k * 2 + 1) (by omega)).trans (List.getElem?_eq_getElem (by omega))⟩
        have HO : Hid (_) := ((hownr.stored (k * 2) (.int .i64 (Z k))).1.stored (k * 2 + 1) (.string (S k))).1
        have HL : Hid (xs.length = m * 2) := hlen
        clear hownr hlen
        go_wp2
        go_roundw
        case rel => exact ⟨k + 1, _, by omega, by go_num, HO.out, pairs_set HX HL hkm, (hbr.setCell (by simp) _).setCell (by simp) _⟩
        case measure => simp [intOf]; omega
      · go_wp2
        have hkl : k = m := by omega
        subst hkl
        go_ret
        exact ⟨rfl, hbr, fun j hj => ⟨(hownr.cellAt _ (by omega)).trans (HX.out j hj).1, (hownr.cellAt _ (by omega)).trans (HX.out j hj).2⟩⟩

end Go.Proofs.Qxb6604216aMods
