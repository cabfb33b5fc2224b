import Derived.Test.Qxb6604216aModsConC
namespace Go.Proofs.Qxb6604216aMods
open Go.RowKit Go.Maps Go.WideMaps

theorem Sl.get {w : World} {b off : Nat} {L : List ByteArray} (h : Hid (∀ j u, (L.map Value.string)[j]? = some u → w.cell? ⟨b, off + j, none⟩ = some u)) {k : Nat} (hk : k < L.length) : w.cell? ⟨b, off + k, none⟩ = some (.string L[k]) :=
  h.out k _ (by simp [hk])

theorem ne_self (s : ByteArray) : (s.toList != s.toList) = false := by simp

set_option maxHeartbeats 1000000 in
/-- zzSameB1 at equal contents. -/
theorem same15 (v1 v2 : Value) (L : List ByteArray) (w : World) (hn : L.length ≤ 1048576) (h1 : Sl w v1 L) (h2 : Sl w v2 L) :
    Calls Trym.prog 15 #[v1, v2] w fun e w' => e = .returned (.bool true) ∧ Below w.heap.size w w' := by
  by_cases h0 : L = []
  · subst h0
    rcases h1 with ⟨rfl, _⟩ | ⟨b, off, cap, rfl, _, _⟩ <;> rcases h2 with ⟨rfl, _⟩ | ⟨b2, off2, cap2, rfl, _, _⟩
    all_goals
      try simp only [List.length_nil]
      go_enter Trym.func15, Trym.ntmps15
      go_wp2
      refine wp_loop_rounds 1 ?_
      rw [rounds_succ]
      go_wp2
      go_ret
      exact ⟨rfl, Below.refl _ _⟩
  · rcases h1 with ⟨_, h⟩ | ⟨b, off, cap, rfl, _, hc1⟩
    · exact absurd h h0
    rcases h2 with ⟨_, h⟩ | ⟨b2, off2, cap2, rfl, _, hc2⟩
    · exact absurd h h0
    have HC1 : Hid (_) := hc1
    have HC2 : Hid (_) := hc2
    clear hc1 hc2 h0
    go_enter Trym.func15, Trym.ntmps15
    go_wp2
    go_loopg [5] L.length (fun gn v wr => ∃ k : Nat, gn = L.length - k ∧ k ≤ L.length ∧ v = .int .i64 k ∧ ∃ m, wr = w.drewN m)
    case atStart => exact ⟨0, by omega, by omega, rfl, 0, rfl⟩
    case round =>
      obtain ⟨k, rfl, hk, rfl, m, rfl⟩ := hrel
      by_cases hlt : k < L.length
      · have hx := Sl.get HC1 hlt
        have hy := Sl.get HC2 hlt
        have i0 : (0 : Int) ≤ (k : Int) := by omega
        have i1 : (k : Int) < (L.length : Int) := by omega
        obtain ⟨s, hs⟩ : ∃ s, s = L[k] := ⟨_, rfl⟩
        rw [← hs] at hx hy
        clear hs
        have hne := ne_self s
        go_wp2
        go_quiet (fail)
        go_wp2
        go_roundg (L.length - (k + 1))
        case measure => omega
        case rel => exact ⟨k + 1, rfl, by omega, by go_num, _, rfl⟩
      · go_wp2
        go_ret
        exact ⟨rfl, below_drewN (Below.refl _ _) _⟩

end Go.Proofs.Qxb6604216aMods
