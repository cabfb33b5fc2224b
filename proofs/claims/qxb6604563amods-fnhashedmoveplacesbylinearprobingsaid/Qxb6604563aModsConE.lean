import Derived.Test.Qxb6604563aModsConC
import Derived.Test.Qxb6604563aModsPlainB
import Derived.Test.Qxb6604563aModsPlainC
namespace Go.Proofs.Qxb6604563aMods
open Go.RowKit Plain

theorem mask_next_i64 (L j : Nat) (hL : 0 < L) (hL2 : L ≤ 8192) (hj : j < L) (hp : L &&& (L - 1) = 0) : bits .and .i64 ((j : Int) + 1) ((L : Int) - 1) = (((j + 1) % L : Nat) : Int) := by
  have h := i64_and_small (j + 1) (L - 1) (by omega) (by omega)
  rw [mask_mod L _ hL hp] at h
  rw [← h, show (((j + 1 : Nat)) : Int) = (j : Int) + 1 from by omega, show ((L - 1 : Nat) : Int) = (L : Int) - 1 from by omega]

set_option maxHeartbeats 1000000 in
theorem chain14 (g L : Nat) (G : List Int) (i : Nat) (w : World) (hL : 0 < L) (hL2 : L ≤ 8192) (hp : L &&& (L - 1) = 0) (hi : i < L) (hw : 0 ≤ G.getD i 0 ∧ G.getD i 0 ≤ 18446744073709551615)
    (hc : ∀ j, j < L → w.cell? ⟨g, j, none⟩ = some (.int .u64 (G.getD j 0))) (hch : Chain G L i) :
    Calls Trym.prog 14 #[.slice (some ⟨g, 0, none⟩) L L, .int .i64 i] w fun e w' => w = w' ∧ e = .returned (.bool true) := by
  have hci := hc i hi
  have HC : Hid (∀ j, j < L → w.cell? ⟨g, j, none⟩ = some (.int .u64 (G.getD j 0))) := hc
  have HP : Hid (L &&& (L - 1) = 0) := hp
  obtain ⟨t, ht, he, hall⟩ := hch
  obtain ⟨s, hs⟩ : ∃ s, s = G.getD i 0 := ⟨_, rfl⟩
  rw [← hs] at hw hci he hall
  have hmask := mask_home L s hL hL2 hp hw.1 hw.2
  have hml := hm_lt L s hL
  obtain ⟨h, hh⟩ : ∃ h, h = hm L s := ⟨_, rfl⟩
  rw [← hh] at hmask hml he hall
  obtain ⟨s0, s1⟩ := hw
  have HE : Hid ((h + t) % L = i ∧ ∀ t', t' < t → G.getD ((h + t') % L) 0 ≠ 0) := ⟨he, hall⟩
  have i0 : (0 : Int) ≤ (i : Int) := by omega
  have i1 : (i : Int) < (L : Int) := by omega
  clear hc hp he hall hs hh
  go_enter Trym.func14, Trym.ntmps14
  go_wp2
  clear hci hmask
  go_loop [6, 7] (fun vj vs => ∃ u j : Nat, u ≤ t ∧ j < L ∧ Hid (j = (h + u) % L) ∧ vj = .int .i64 j ∧ vs = .int .i64 u) (fun _ vs => t - (intOf vs).toNat)
  case atStart => exact ⟨0, h, Nat.zero_le _, hml, by show _ = _; rw [Nat.add_zero, Nat.mod_eq_of_lt hml], rfl, rfl⟩
  case round =>
    obtain ⟨u, j, hu, hjL, HJ, rfl, rfl⟩ := hrel
    have hcj := HC.out j hjL
    have hnx := mask_next_i64 L j hL hL2 hjL HP.out
    obtain ⟨y, hy⟩ : ∃ y, y = G.getD j 0 := ⟨_, rfl⟩
    rw [← hy] at hcj
    have j0 : (0 : Int) ≤ (j : Int) := by omega
    have j1 : (j : Int) < (L : Int) := by omega
    by_cases hji : j = i
    · have hb : ((j : Int) != (i : Int)) = false := by simp [hji]
      clear hji
      go_wp2
      go_ret
      exact ⟨rfl, rfl⟩
    · have hb : ((j : Int) != (i : Int)) = true := by simp; omega
      have hut : u < t := by
        have h1 := HJ.out
        have h2 := HE.out.1
        refine Classical.byContradiction fun hn => ?_
        have : u = t := by omega
        rw [this, h2] at h1
        exact hji h1
      have hne : (y == 0) = false := by
        have := HE.out.2 u hut
        rw [← HJ.out, ← hy] at this
        simpa using this
      clear hji hy
      have hle : ¬ (L : Int) < (u : Int) := by omega
      go_wp2
      go_round
      case rel => exact ⟨u + 1, (j + 1) % L, by omega, Nat.mod_lt _ hL, by show _ = _; rw [HJ.out, Nat.mod_add_mod, Nat.add_assoc], rfl, by go_num⟩
      case measure => simp [intOf]; omega

end Go.Proofs.Qxb6604563aMods
