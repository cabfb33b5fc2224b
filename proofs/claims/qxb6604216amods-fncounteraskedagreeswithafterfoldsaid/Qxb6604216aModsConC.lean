import Derived.Test.Qxb6604216aModsConB
namespace Go.Proofs.Qxb6604216aMods
open Go.RowKit Go.Maps Go.WideMaps

theorem Trym.info2 : (Trym.prog.info? 2).map (fun i => (i.zero, i.size, i.bytes)) = some (some (.int .i64 0), 1, 8) := by kernel_rfl

/-- What the copy holds behind k rounds. -/
def cl (F : Nat → Value) (z : Value) (n k : Nat) : List Value := (List.range n).map fun i => if i < k then F i else z

theorem cl_zero (F : Nat → Value) (z : Value) (n : Nat) : cl F z n 0 = List.replicate n z := by
  apply List.ext_getElem?
  intro j
  by_cases hj : j < n <;> simp [cl, hj]

theorem cl_succ (F : Nat → Value) (z : Value) (n k : Nat) : (cl F z n k).set k (F k) = cl F z n (k + 1) := by
  apply List.ext_getElem?
  intro j
  by_cases hj : j < n
  · rw [List.getElem?_set]
    by_cases hk : k = j
    · subst hk; simp [cl, hj]
    · simp only [cl, List.getElem?_map, List.getElem?_range hj, Option.map_some, if_neg hk]
      by_cases h2 : j < k
      · rw [if_pos h2, if_pos (by omega)]
      · rw [if_neg h2, if_neg (by omega)]
  · rw [List.getElem?_eq_none (by simp [cl]; omega), List.getElem?_eq_none (by simp [cl]; omega)]

theorem cl_full (L : List ByteArray) (z : Value) : cl (fun i => .string (L.getD i ByteArray.empty)) z L.length L.length = L.map Value.string := by
  apply List.ext_getElem?
  intro j
  by_cases hj : j < L.length
  · simp [cl, hj]
  · rw [List.getElem?_eq_none (by simp [cl]; omega), List.getElem?_eq_none (by simp; omega)]

theorem cl_full_int (L : List Int) (z : Value) : cl (fun i => .int .i64 (L.getD i 0)) z L.length L.length = L.map (Value.int .i64) := by
  apply List.ext_getElem?
  intro j
  by_cases hj : j < L.length
  · simp [cl, hj]
  · rw [List.getElem?_eq_none (by simp [cl]; omega), List.getElem?_eq_none (by simp; omega)]

/-- A slice of strings as it came in. -/
def SRaw (w : World) (a : Option Addr) (L : List ByteArray) : Prop :=
  (a = none → L = []) ∧ (0 < L.length → ∃ b off, a = some ⟨b, off, none⟩ ∧ ∀ j, j < L.length → w.cell? ⟨b, off + j, none⟩ = some (.string (L.getD j ByteArray.empty)))

/-- A slice of int64s as it came in. -/
def IRaw (w : World) (a : Option Addr) (L : List Int) : Prop :=
  (a = none → L = []) ∧ (0 < L.length → ∃ b off, a = some ⟨b, off, none⟩ ∧ ∀ j, j < L.length → w.cell? ⟨b, off + j, none⟩ = some (.int .i64 (L.getD j 0)))

theorem SRaw.keep {w w' : World} {a : Option Addr} {L : List ByteArray} (h : SRaw w a L) (hb : Below w.heap.size w w') : SRaw w' a L := by
  refine ⟨h.1, fun h0 => ?_⟩
  obtain ⟨b, off, h1, h2⟩ := h.2 h0
  exact ⟨b, off, h1, fun j hj => by rw [hb.cell (by simpa using block_lt_of_cell (h2 j hj))]; exact h2 j hj⟩

theorem IRaw.keep {w w' : World} {a : Option Addr} {L : List Int} (h : IRaw w a L) (hb : Below w.heap.size w w') : IRaw w' a L := by
  refine ⟨h.1, fun h0 => ?_⟩
  obtain ⟨b, off, h1, h2⟩ := h.2 h0
  exact ⟨b, off, h1, fun j hj => by rw [hb.cell (by simpa using block_lt_of_cell (h2 j hj))]; exact h2 j hj⟩

set_option maxHeartbeats 1000000 in
theorem clone10 (a : Option Addr) (cap : Nat) (L : List ByteArray) (w : World) (hn : L.length ≤ 1048576) (h : SRaw w a L) :
    Calls Trym.prog 10 #[.slice a L.length cap] w fun e w' => ∃ v', e = .returned v' ∧ Sl w' v' L ∧ Below w.heap.size w w' := by
  have q22 : ∀ (w : World) (a : Option Addr) (n c n' c' : Nat), (binOp .eql 22 (.slice a n c) (.slice none n' c')).run Trym.prog w = .ok (.bool a.isNone) w := fun w a n c n' c' => Lib.run_eql_slice_nil w _ _ a n c n' c' Trym.underlying22
  obtain ⟨i0, hi, hz0, hz1, hz2⟩ := info_parts Trym.info9
  cases a with
  | none =>
    have hL := h.1 rfl
    subst hL
    go_enter Trym.func10, Trym.ntmps10
    go_wp2
    go_ret
    exact ⟨_, rfl, .inl ⟨rfl, rfl⟩, Below.refl _ _⟩
  | some x =>
    have H : Hid (SRaw w (some x) L) := h
    clear h
    go_enter Trym.func10, Trym.ntmps10
    go_wp2_with (at_make; refine wpList_make_full _ rfl _ _ 22 rfl w.heap.size 9 i0 (.string { data := #[] }) 1 Trym.underlying22 hi hz0 hz1 .i64 .i64 _ _ L.length rfl rfl rfl rfl ?_ ?_ ?_ ?_)
    · rw [hz2]; omega
    · unfold maxLen; omega
    · exact Nat.le_refl _
    intro w1 hown hgrow
    have hbel : Below w.heap.size w w1 := (Below.refl _ _).grown hgrow (Nat.le_refl _) (by simp)
    rw [toList_madeCells_one, ← cl_zero (fun i => .string (L.getD i ByteArray.empty)) _ L.length] at hown
    clear hgrow
    go_wp2
    go_loopw [4] (fun i wr => ∃ k : Nat, k ≤ L.length ∧ i = .int .i64 k ∧ wr.ownsRow w.heap.size 9 1 (.slice (some ⟨w.heap.size, 0, none⟩) L.length L.length) L.length (cl (fun i => .string (L.getD i ByteArray.empty)) (.string { data := #[] }) L.length k) ∧ Below w.heap.size w wr)
      (fun i _ => L.length - (intOf i).toNat)
    case atStart => exact ⟨0, Nat.zero_le _, rfl, hown, hbel⟩
    case round =>
      obtain ⟨k, hk, rfl, hownr, hbr⟩ := hrel
      clear hown hbel
      by_cases hlt : k < L.length
      · obtain ⟨b, off, hx, hc⟩ := H.out.2 (by omega)
        simp only [Option.some.injEq] at hx
        subst hx
        obtain ⟨s, hs⟩ : ∃ s, s = L.getD k ByteArray.empty := ⟨_, rfl⟩
        have hb : b < w.heap.size := by simpa using block_lt_of_cell (hc k hlt)
        have hcx : wr.cell? ⟨b, off + k, none⟩ = some (.string s) := by rw [hs]; exact (hbr.cell (by exact hb)).trans (hc k hlt)
        have hfz : wr.frozen? ⟨w.heap.size, k, none⟩ = false := hownr.frozenAt k
        have hcd : ∃ v, wr.cell? ⟨w.heap.size, k, none⟩ = some v := by
          refine ⟨_, (hownr.cellAt k (by omega)).trans (List.getElem?_eq_getElem (by simp [cl]; exact hlt))⟩
        obtain ⟨vd, hcd⟩ := hcd
        have HS : Hid ((wr.setCell ⟨w.heap.size, k, none⟩ (.string s)).ownsRow w.heap.size 9 1 (.slice (some ⟨w.heap.size, 0, none⟩) L.length L.length) L.length (cl (fun i => .string (L.getD i ByteArray.empty)) (.string { data := #[] }) L.length (k + 1))) := by
          have := (hownr.stored k (.string s)).1
          rw [hs] at this ⊢
          rw [← cl_succ]
          exact this
        clear hownr hc hs
        go_wp2
        go_roundw
        case rel => exact ⟨k + 1, by omega, by go_num, HS.out, hbr.setCell (by simp) _⟩
        case measure => simp [intOf]; omega
      · go_wp2
        have hkl : k = L.length := by omega
        subst hkl
        go_ret
        rw [cl_full] at hownr
        exact ⟨_, rfl, Sl.own hownr, hbr⟩

set_option maxHeartbeats 1000000 in
theorem clone11 (a : Option Addr) (cap : Nat) (L : List Int) (w : World) (hn : L.length ≤ 1048576) (h : IRaw w a L) :
    Calls Trym.prog 11 #[.slice a L.length cap] w fun e w' => ∃ v', e = .returned v' ∧ Il w' v' L ∧ Below w.heap.size w w' := by
  have q22 : ∀ (w : World) (a : Option Addr) (n c n' c' : Nat), (binOp .eql 23 (.slice a n c) (.slice none n' c')).run Trym.prog w = .ok (.bool a.isNone) w := fun w a n c n' c' => Lib.run_eql_slice_nil w _ _ a n c n' c' Trym.underlying23
  obtain ⟨i0, hi, hz0, hz1, hz2⟩ := info_parts Trym.info2
  cases a with
  | none =>
    have hL := h.1 rfl
    subst hL
    go_enter Trym.func11, Trym.ntmps11
    go_wp2
    go_ret
    exact ⟨_, rfl, .inl ⟨rfl, rfl⟩, Below.refl _ _⟩
  | some x =>
    have H : Hid (IRaw w (some x) L) := h
    clear h
    go_enter Trym.func11, Trym.ntmps11
    go_wp2_with (at_make; refine wpList_make_full _ rfl _ _ 23 rfl w.heap.size 2 i0 (.int .i64 0) 1 Trym.underlying23 hi hz0 hz1 .i64 .i64 _ _ L.length rfl rfl rfl rfl ?_ ?_ ?_ ?_)
    · rw [hz2]; omega
    · unfold maxLen; omega
    · exact Nat.le_refl _
    intro w1 hown hgrow
    have hbel : Below w.heap.size w w1 := (Below.refl _ _).grown hgrow (Nat.le_refl _) (by simp)
    rw [toList_madeCells_one, ← cl_zero (fun i => .int .i64 (L.getD i 0)) _ L.length] at hown
    clear hgrow
    go_wp2
    go_loopw [4] (fun i wr => ∃ k : Nat, k ≤ L.length ∧ i = .int .i64 k ∧ wr.ownsRow w.heap.size 2 1 (.slice (some ⟨w.heap.size, 0, none⟩) L.length L.length) L.length (cl (fun i => .int .i64 (L.getD i 0)) (.int .i64 0) L.length k) ∧ Below w.heap.size w wr)
      (fun i _ => L.length - (intOf i).toNat)
    case atStart => exact ⟨0, Nat.zero_le _, rfl, hown, hbel⟩
    case round =>
      obtain ⟨k, hk, rfl, hownr, hbr⟩ := hrel
      clear hown hbel
      by_cases hlt : k < L.length
      · obtain ⟨b, off, hx, hc⟩ := H.out.2 (by omega)
        simp only [Option.some.injEq] at hx
        subst hx
        obtain ⟨s, hs⟩ : ∃ s, s = L.getD k 0 := ⟨_, rfl⟩
        have hb : b < w.heap.size := by simpa using block_lt_of_cell (hc k hlt)
        have hcx : wr.cell? ⟨b, off + k, none⟩ = some (.int .i64 s) := by rw [hs]; exact (hbr.cell (by exact hb)).trans (hc k hlt)
        have hfz : wr.frozen? ⟨w.heap.size, k, none⟩ = false := hownr.frozenAt k
        have hcd : ∃ v, wr.cell? ⟨w.heap.size, k, none⟩ = some v := by
          refine ⟨_, (hownr.cellAt k (by omega)).trans (List.getElem?_eq_getElem (by simp [cl]; exact hlt))⟩
        obtain ⟨vd, hcd⟩ := hcd
        have HS : Hid ((wr.setCell ⟨w.heap.size, k, none⟩ (.int .i64 s)).ownsRow w.heap.size 2 1 (.slice (some ⟨w.heap.size, 0, none⟩) L.length L.length) L.length (cl (fun i => .int .i64 (L.getD i 0)) (.int .i64 0) L.length (k + 1))) := by
          have := (hownr.stored k (.int .i64 s)).1
          rw [hs] at this ⊢
          rw [← cl_succ]
          exact this
        clear hownr hc hs
        go_wp2
        go_roundw
        case rel => exact ⟨k + 1, by omega, by go_num, HS.out, hbr.setCell (by simp) _⟩
        case measure => simp [intOf]; omega
      · go_wp2
        have hkl : k = L.length := by omega
        subst hkl
        go_ret
        rw [cl_full_int] at hownr
        exact ⟨_, rfl, Il.own hownr, hbr⟩

end Go.Proofs.Qxb6604216aMods
