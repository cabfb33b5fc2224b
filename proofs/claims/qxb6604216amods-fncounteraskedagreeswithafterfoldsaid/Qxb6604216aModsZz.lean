import Derived.Test.Qxb6604216aModsAfter
import Derived.Test.Qxb6604216aModsConD
import Derived.Test.Qxb6604216aModsConE
namespace Go.Proofs.Qxb6604216aMods
open Go.RowKit Go.Maps Go.WideMaps

/-- What ZZAfter answers. -/
def AfterEnds (L : List ByteArray) (region : ByteArray) (w : World) (e : Ending) (w' : World) : Prop :=
  ∃ (v' : Value) (h' : ByteArray) (u' : Bool), e = .returned (.tuple #[.string h', v', .bool u', .bool true]) ∧ Sl w' v' (win (L ++ [region])) ∧ h'.size ≤ maxLen ∧ Below w.heap.size w w'

set_option maxHeartbeats 1000000 in
theorem zzafter14 (v : Value) (L : List ByteArray) (home region : ByteArray) (unsure : Bool) (w : World) (hL : L.length ≤ 10) (hh : home.size ≤ maxLen) (hr : region.size ≤ maxLen) (hs : ∀ s ∈ L, s.size ≤ maxLen) (h : Sl w v L) :
    Calls Trym.prog 14 #[v, .bool unsure, .slice none 0 0, .slice none 0 0, .string home, .string region] w fun e w' => AfterEnds L region w e w' := by
  obtain ⟨a, c, rfl⟩ := h.form
  have H : Hid (Sl w (.slice a L.length c) L) := h
  clear h
  have q44 : ∀ (w : World) (a : Option Addr) (n c n' c' : Nat), (binOp .eql 44 (.slice a n c) (.slice none n' c')).run Trym.prog w = .ok (.bool a.isNone) w := fun w a n c n' c' => Lib.run_eql_slice_nil w _ _ a n c n' c' Trym.underlying44
  go_enter Trym.func14, Trym.ntmps14
  go_wp2_with (first
    | (go_at_call 21; go_must (refine (adds_none none none 0 0 0 0 _ (.inl rfl) (by omega) (by omega)).mono ?_); rintro e w1 ⟨rfl, rfl⟩)
    | fail)
  refine (after22 _ L home region unsure _ hL hh hr hs (H.out.keep ((Below.refl _ _).alloc (Nat.le_refl _) _))).mono ?_
  rintro e w1 ⟨v1, h1, u1, rfl, hS1, hh1, hb1⟩
  rw [World.size_alloc] at hb1
  have hbw : Below w.heap.size w w1 := ((Below.refl _ _).alloc (Nat.le_refl _) _).trans (hb1.mono (by omega))
  obtain ⟨a1, c1, hv1⟩ := hS1.form
  subst hv1
  have HS1 : Hid (_) := hS1
  clear hS1 H hb1
  go_wp2
  go_quiet (fail)
  go_wp2
  exact bodyPost_ret (v := .tuple #[.string h1, .slice a1 (win (L ++ [region])).length c1, .bool u1, .bool true]) (by simp [results, Trym.results14, go_sem]) rfl
    ⟨_, h1, u1, rfl, Sl.keep HS1.out (below_drewN ((Below.refl _ _).alloc (Nat.le_refl _) _) _), hh1, below_drewN (hbw.alloc hbw.size _) _⟩

/-- zzAddsB1. -/
theorem adds21 (v1 v2 : Value) (Z : List Int) (L : List ByteArray) (w : World) (hZ : Z.length ≤ 1048576) (hL : L.length ≤ 1048576) (h1 : Il w v1 Z) (h2 : Sl w v2 L) :
    Calls Trym.prog 21 #[v1, v2] w fun e w' => ∃ va, e = .returned va ∧ Ad w' va (min Z.length L.length) (fun j => L.getD j ByteArray.empty) ∧ Below w.heap.size w w' := by
  by_cases h0 : Z.length = 0 ∨ L.length = 0
  · obtain ⟨a2, c2, rfl⟩ := h2.form
    have hf : ∃ a1 c1, v1 = .slice a1 Z.length c1 := by
      rcases h1 with ⟨rfl, rfl⟩ | ⟨b, off, cap, rfl, _⟩
      · exact ⟨none, 0, rfl⟩
      · exact ⟨_, _, rfl⟩
    obtain ⟨a1, c1, rfl⟩ := hf
    refine (adds_none a1 a2 Z.length L.length c1 c2 w h0 hZ hL).mono ?_
    rintro e w' ⟨rfl, rfl⟩
    exact ⟨_, rfl, .inl ⟨rfl, by omega⟩, Below.refl _ _⟩
  · rcases h1 with ⟨_, rfl⟩ | ⟨b1, off1, cap1, rfl, hc1⟩
    · simp at h0
    rcases h2 with ⟨_, rfl⟩ | ⟨b2, off2, cap2, rfl, _, hc2⟩
    · simp at h0
    refine (adds_some b1 off1 b2 off2 Z.length L.length cap1 cap2 (min Z.length L.length) (fun j => Z.getD j 0) (fun j => L.getD j ByteArray.empty) w rfl (by omega) hZ hL (fun j hj => ?_) (fun j hj => ?_)).mono ?_
    · have : j < Z.length := by omega
      exact hc1 j _ (by simp [this])
    · have : j < L.length := by omega
      exact hc2 j _ (by simp [this])
    rintro e w' ⟨rfl, hb, hcells⟩
    exact ⟨_, rfl, .inr ⟨_, _, rfl, fun j hj => ⟨_, hcells j hj⟩⟩, hb⟩

set_option maxHeartbeats 1000000 in
/-- ZZCounterAsked. -/
theorem zzasked19 (cb : Nat) (v v1 v2 : Value) (B : List ByteArray) (Z : List Int) (L : List ByteArray) (w : World) (hB : B.length ≤ 1048576) (hZ : Z.length ≤ 1048576) (hL : L.length ≤ 1048576)
    (hcb : w.cell? ⟨cb, 6, none⟩ = some v) (hv : Sl w v B) (h1 : Il w v1 Z) (h2 : Sl w v2 L) :
    Calls Trym.prog 19 #[.pointer (some ⟨cb, 0, none⟩), v1, v2] w fun e w' => ∃ v', e = .returned v' ∧ Sl w' v' (win (B ++ rl (fun j => L.getD j ByteArray.empty) (min Z.length L.length))) ∧ Below w.heap.size w w' := by
  have hcbl : cb < w.heap.size := by simpa using block_lt_of_cell hcb
  go_enter Trym.func19, Trym.ntmps19
  go_wp2_with fail
  refine (adds21 v1 v2 Z L w hZ hL h1 h2).mono ?_
  rintro e w1 ⟨va, rfl, hAd, hb1⟩
  go_wp2_with fail
  refine (asked23 cb (min Z.length L.length) v va B (fun j => L.getD j ByteArray.empty) w1 hB (by omega) ((hb1.cell (by exact hcbl)).trans hcb) (hv.keep hb1) hAd).mono ?_
  rintro e w2 ⟨v', rfl, hS, hb2⟩
  go_wp2
  go_ret
  exact ⟨v', rfl, hS, hb1.trans (hb2.mono hb1.size)⟩

end Go.Proofs.Qxb6604216aMods
