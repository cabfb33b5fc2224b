import Derived.Test.Qxb6604563aModsConC
import Derived.Test.Qxb6604563aModsPlainD
namespace Go.Proofs.Qxb6604563aMods
open Go.RowKit Plain

/-- A row of words in block g, whole. -/
def Rw (w : World) (g n : Nat) (Z : List Int) : Prop := w.ownsRow g 23 1 (.slice (some ⟨g, 0, none⟩) n n) n (Z.map (Value.int .u64))

theorem Rw.len {w : World} {g n : Nat} {Z : List Int} (h : Rw w g n Z) : Z.length = n := by
  have := h.1; simp at this; omega

theorem Rw.cell {w : World} {g n : Nat} {Z : List Int} (h : Rw w g n Z) {j : Nat} (hj : j < n) : w.cell? ⟨g, j, none⟩ = some (.int .u64 (Z.getD j 0)) := by
  have hl := h.len
  have h' : w.ownsRow g 23 1 (.slice (some ⟨g, 0, none⟩) n n) n (Z.map (Value.int .u64)) := h
  rw [h'.cellAt j (by omega)]
  have : j < Z.length := by omega
  simp [this]

theorem Rw.free {w : World} {g n : Nat} {Z : List Int} (h : Rw w g n Z) (j : Nat) : w.frozen? ⟨g, j, none⟩ = false :=
  World.ownsRow.frozenAt (w := w) h j

theorem Rw.store {w : World} {g n : Nat} {Z : List Int} (h : Rw w g n Z) (j : Nat) (s : Int) : Rw (w.setCell ⟨g, j, none⟩ (.int .u64 s)) g n (Z.set j s) := by
  show World.ownsRow _ _ _ _ _ _ _
  rw [List.map_set]
  exact (World.ownsRow.stored (w := w) h j (.int .u64 s)).1

/-- The state ahead of a look of the inner loop: the word v taken out of place i, the gap at place c. -/
def Gap (wr : World) (g n : Nat) (Z : List Int) (i c : Nat) (v : Int) : Prop := ∃ x, Rw wr g n (ins Z i c x) ∧ ∀ y ∈ (Z.take i).drop c, v < y

/-- What holds once the inner loop ends. -/
def Fit (Z : List Int) (c : Nat) (v : Int) : Prop := c = 0 ∨ Z.getD (c - 1) 0 ≤ v

set_option maxHeartbeats 2000000 in
theorem sort19 (g n : Nat) (X : List Int) (w : World) (hn : n ≤ 8192) (h : Rw w g n X) :
    Calls Trym.prog 19 #[.slice (some ⟨g, 0, none⟩) n n] w fun e w' => e = .returned (.tuple #[]) ∧ ∃ Y, Y.Perm X ∧ Y.Pairwise (· ≤ ·) ∧ Rw w' g n Y ∧ But g g w w' := by
  have HXL : Hid (X.length = n) := h.len
  go_enter Trym.func19, Trym.ntmps19
  go_wp2
  go_loopw [2] (fun vi wr => ∃ (i : Nat) (Z : List Int), 1 ≤ i ∧ vi = .int .i64 i ∧ Hid (Z.Perm X ∧ (Z.take i).Pairwise (· ≤ ·)) ∧ Hid (Rw wr g n Z) ∧ But g g w wr) (fun vi _ => n - (intOf vi).toNat)
  case atStart =>
    refine ⟨1, X, Nat.le_refl _, rfl, ⟨List.Perm.refl _, ?_⟩, h, But.refl _ _ _⟩
    cases X with
    | nil => simp
    | cons a X => simp
  case round =>
    obtain ⟨i, Z, hi1, rfl, HZ, HR, hB⟩ := hrel
    clear h
    by_cases hin : i < n
    · have hcell := HR.out.cell hin
      have HZL : Hid (Z.length = n) := HR.out.len
      obtain ⟨v, hv⟩ : ∃ v, v = Z.getD i 0 := ⟨_, rfl⟩
      rw [← hv] at hcell
      have HV : Hid (v = Z.getD i 0) := hv
      clear hv
      have i0 : (0 : Int) ≤ (i : Int) := by omega
      have i1 : (i : Int) < (n : Int) := by omega
      go_wp2
      clear hcell
      go_loopw [4] (fun vj wq => ∃ c : Nat, c ≤ i ∧ vj = .int .i64 ((c : Int) - 1) ∧ Hid (Gap wq g n Z i c v) ∧ But g g w wq) (fun vj _ => (intOf vj + 1).toNat)
      case atStart =>
        refine ⟨i, Nat.le_refl _, rfl, ⟨v, ?_, ?_⟩, hB⟩
        · rw [HV.out, ins_start Z i (by rw [HZL.out]; exact hin)]; exact HR.out
        · intro y hy; rw [List.drop_eq_nil_of_le (by simp; omega)] at hy; cases hy
      case round =>
        obtain ⟨c, hc, rfl, HG, hBq⟩ := hrel
        clear hB HR
        have hil : i < Z.length := by rw [HZL.out]; exact hin
        obtain ⟨x, hRq, hq⟩ := HG.out
        have fz := hRq.free c
        obtain ⟨xx, hxx⟩ : ∃ xx, wr.cell? ⟨g, c, none⟩ = some (.int .u64 xx) := ⟨_, hRq.cell (by omega)⟩
        have HRq : Hid (Rw wr g n (ins Z i c x)) := hRq
        have HQ : Hid (∀ y ∈ (Z.take i).drop c, v < y) := hq
        have HIL : Hid (i < Z.length) := hil
        clear hq hil HG
        have finish : ∀ (hfit : Fit Z c v), ∃ (i' : Nat) (Z' : List Int), 1 ≤ i' ∧ Value.int .i64 ((i : Int) + 1) = .int .i64 i' ∧ Hid (Z'.Perm X ∧ (Z'.take i').Pairwise (· ≤ ·)) ∧ Hid (Rw (wr.setCell ⟨g, c, none⟩ (.int .u64 v)) g n Z') ∧ But g g w (wr.setCell ⟨g, c, none⟩ (.int .u64 v)) := by
          intro hfit
          refine ⟨i + 1, ins Z i c v, by omega, by go_num, ⟨?_, ins_sorted Z i c v hc HIL.out HZ.out.2 HQ.out hfit⟩, ?_, hBq.setCell (by simp) _⟩
          · rw [HV.out]; exact (ins_perm Z i c hc HIL.out).trans HZ.out.1
          · have := HRq.out.store c v
            rw [ins_set Z i c x v hc HIL.out] at this
            exact this
        have HFIN : Hid (_) := finish
        clear finish
        cases c with
        | zero =>
          have hn0 : 0 < n := by omega
          go_wp2
          go_roundw
          case rel => exact HFIN.out (.inl rfl)
          case measure => simp [intOf]; omega
        | succ c =>
          have hcy := HRq.out.cell (j := c) (by omega)
          rw [ins_getD Z i (c + 1) c x (by omega) hc HIL.out] at hcy
          obtain ⟨y, hy⟩ : ∃ y, y = Z.getD c 0 := ⟨_, rfl⟩
          rw [← hy] at hcy
          have HY : Hid (y = Z.getD c 0) := hy
          clear hy hRq
          have i0' : (0 : Int) ≤ (c : Int) := by omega
          have i1' : (c : Int) < (n : Int) := by omega
          have i2' : (c : Int) + 1 < (n : Int) := by omega
          by_cases hgt : v < y
          · have HN : Hid (Gap (wr.setCell ⟨g, c + 1, none⟩ (.int .u64 y)) g n Z i c v) := by
              refine ⟨y, ?_, ?_⟩
              · have := HRq.out.store (c + 1) y
                rw [ins_set Z i (c + 1) x y hc HIL.out, HY.out, ins_step Z i c (by omega) HIL.out, ← HY.out] at this
                exact this
              · rw [drop_take_cons Z i c (by omega) HIL.out, ← HY.out]
                intro z hz
                rcases List.mem_cons.1 hz with rfl | hz
                · exact hgt
                · exact HQ.out z hz
            go_wp2
            go_roundw
            case rel => exact ⟨c, by omega, rfl, HN, hBq.setCell (by simp) _⟩
            case measure => simp [intOf]
          · go_wp2
            go_roundw
            case rel => exact HFIN.out (.inr (by rw [Nat.add_sub_cancel, ← HY.out]; omega))
            case measure => simp [intOf]; omega
    · go_wp2
      go_end0
      refine ⟨rfl, Z, HZ.out.1, ?_, HR.out, hB⟩
      have h2 := HZ.out.2
      rw [List.take_of_length_le (by have := HR.out.len; omega)] at h2
      exact h2

set_option maxHeartbeats 400000 in
theorem sort19_nil (w : World) : Calls Trym.prog 19 #[.slice none 0 0] w fun e w' => w = w' ∧ e = .returned (.tuple #[]) := by
  go_enter Trym.func19, Trym.ntmps19
  go_wp2
  go_loop [2] (fun vi => vi = .int .i64 1) (fun _ => 0)
  case atStart => rfl
  case round =>
    subst hrel
    go_wp2
    go_end0
    exact ⟨rfl, rfl⟩

end Go.Proofs.Qxb6604563aMods
