import Derived.Test.Qxb6604209aModsConA
namespace Go.Proofs.Qxb6604209aMods
open Go.RowKit Plain

/-- What the copy holds behind k rounds. -/
def cl (f : Nat → Int) (n k : Nat) : List Value := (List.range n).map fun i => if i < k then .int .u8 (f i) else .int .u8 0

theorem cl_zero (f : Nat → Int) (n : Nat) : cl f n 0 = List.replicate n (.int .u8 0) := by
  apply List.ext_getElem?
  intro j
  by_cases hj : j < n <;> simp [cl, hj]

theorem cl_succ (f : Nat → Int) (n k : Nat) (_h : k < n) : (cl f n k).set k (.int .u8 (f k)) = cl f n (k + 1) := by
  apply List.ext_getElem?
  intro j
  by_cases hj : j < n
  · rw [List.getElem?_set]
    by_cases hk : k = j
    · subst hk; simp [cl, hj]
    · simp only [cl, List.getElem?_map, List.getElem?_range hj, Option.map_some, if_neg hk]
      by_cases h2 : j < k
      · rw [if_pos h2, if_pos (by omega)]
      · rw [if_neg h2, if_neg (by omega)]
  · rw [List.getElem?_eq_none (by simp [cl]; omega), List.getElem?_eq_none (by simp [cl]; omega)]

theorem cl_get (f : Nat → Int) (n j : Nat) (h : j < n) : (cl f n n)[j]? = some (.int .u8 (f j)) := by
  simp [cl, h]

set_option maxHeartbeats 400000 in
theorem clone6 (f : Nat → Int) (b off len cap : Nat) (w : World) (hn : len ≤ 1048576) (h0 : 0 < len)
    (hc : ∀ i, i < len → w.cell? ⟨b, off + i, none⟩ = some (.int .u8 (f i))) :
    Calls Trym.prog 6 #[.slice (some ⟨b, off, none⟩) len cap] w fun e w' =>
      e = .returned (.slice (some ⟨w.heap.size, 0, none⟩) len len) ∧ Below w.heap.size w w' ∧ w.heap.size < w'.heap.size ∧
      ∀ i, i < len → w'.cell? ⟨w.heap.size, i, none⟩ = some (.int .u8 (f i)) := by
  have hb : b < w.heap.size := by simpa using block_lt_of_cell (hc 0 h0)
  have q22 : ∀ (w : World) (a : Option Addr) (n c n' c' : Nat), (binOp .eql 22 (.slice a n c) (.slice none n' c')).run Trym.prog w = .ok (.bool a.isNone) w := fun w a n c n' c' => Lib.run_eql_slice_nil w _ _ a n c n' c' Trym.underlying22
  obtain ⟨i0, hi, hz0, hz1, hz2⟩ := info_parts Trym.info5
  go_enter Trym.func6, Trym.ntmps6
  go_wp2_with (at_make; refine wpList_make_full _ rfl _ _ 22 rfl w.heap.size 5 i0 (.int .u8 0) 1 Trym.underlying22 hi hz0 hz1 .i64 .i64 _ _ len rfl rfl rfl rfl ?_ ?_ ?_ ?_)
  · rw [hz2]; omega
  · unfold maxLen; omega
  · exact Nat.le_refl _
  intro w1 hown hgrow
  have hbel : Below w.heap.size w w1 := (Below.refl _ _).grown hgrow (Nat.le_refl _) (by simp)
  rw [toList_madeCells_one, ← cl_zero f len] at hown
  clear hgrow
  go_wp2
  go_loopw [4] (fun i wr => ∃ k : Nat, k ≤ len ∧ i = .int .i64 k ∧ wr.ownsRow w.heap.size 5 1 (.slice (some ⟨w.heap.size, 0, none⟩) len len) len (cl f len k) ∧ Below w.heap.size w wr)
    (fun i _ => len - (intOf i).toNat)
  case atStart => exact ⟨0, Nat.zero_le _, rfl, hown, hbel⟩
  case round =>
    obtain ⟨k, hk, rfl, hownr, hbr⟩ := hrel
    clear hown hbel
    by_cases hlt : k < len
    · have hcx : wr.cell? ⟨b, off + k, none⟩ = some (.int .u8 (f k)) := (hbr.cell (by exact hb)).trans (hc k hlt)
      have hfz : wr.frozen? ⟨w.heap.size, k, none⟩ = false := hownr.frozenAt k
      have hcd : ∃ v, wr.cell? ⟨w.heap.size, k, none⟩ = some v := by
        refine ⟨_, (hownr.cellAt k (by omega)).trans (List.getElem?_eq_getElem (by simp [cl]; exact hlt))⟩
      obtain ⟨vd, hcd⟩ := hcd
      have HS : Hid (_) := (hownr.stored k (.int .u8 (f k)))
      rw [cl_succ f len k hlt] at HS
      clear hownr
      go_wp2
      go_roundw
      case rel => exact ⟨k + 1, by omega, by go_num, HS.out.1, hbr.setCell (by simp) _⟩
      case measure => simp [intOf]; omega
    · go_wp2
      have hkl : k = len := by omega
      subst hkl
      go_ret
      refine ⟨rfl, hbr, ?_, fun i hi => ?_⟩
      · have := block_lt_of_cell ((hownr.cellAt 0 (by omega)).trans (cl_get f k 0 h0)); simpa using this
      · exact (hownr.cellAt i (by omega)).trans (cl_get f k i hi)

end Go.Proofs.Qxb6604209aMods
