import Derived.Test.Qxb6604209aModsConD
namespace Go.Proofs.Qxb6604209aMods
open Go.RowKit Plain

theorem Sc.fresh (w : World) (b off n cap p : Nat) : Sc (w.alloc (.cells #[.slice (some ⟨b, off, none⟩) n cap, .int .i64 p] 32)) w.heap.size b off n cap p := by
  refine ⟨?_, ?_, ?_⟩ <;> simp

theorem cells_alloc {w : World} {b off n : Nat} {f : Nat → Int} (o : Obj) (hc : ∀ i, i < n → w.cell? ⟨b, off + i, none⟩ = some (.int .u8 (f i))) :
    ∀ i, i < n → (w.alloc o).cell? ⟨b, off + i, none⟩ = some (.int .u8 (f i)) := by
  intro i hi
  rw [World.cell?_alloc_lt _ _ _ (by simpa using block_lt_of_cell (hc i hi))]
  exact hc i hi

set_option maxHeartbeats 400000 in
theorem zzskip8 (f : Nat → Int) (b off n cap pos q : Nat) (w : World) (hq : First f n pos q) (hn : n ≤ 1048576)
    (hc : ∀ i, i < n → w.cell? ⟨b, off + i, none⟩ = some (.int .u8 (f i))) :
    Calls Trym.prog 8 #[.slice (some ⟨b, off, none⟩) n cap, .int .i64 pos] w fun e w' => e = .returned (.int .i64 ((q : Int) + 1)) ∧ Below w.heap.size w w' := by
  have hb : b < w.heap.size := by have h1 := hq.lo; have h2 := hq.hi; simpa using block_lt_of_cell (hc 0 (by omega))
  go_enter Trym.func8, Trym.ntmps8
  go_wp2_with (go_at_call 13; go_must (refine (skip13 f w.heap.size b off n cap pos q _ hq hn hb (cells_alloc _ hc) (Sc.fresh w b off n cap pos)).mono ?_); rintro e w1 ⟨rfl, hbel, hd, hp, hfr⟩)
  go_ret
  refine ⟨?_, ((Below.refl _ _).alloc (Nat.le_refl _) _).trans hbel⟩
  simp

end Go.Proofs.Qxb6604209aMods
