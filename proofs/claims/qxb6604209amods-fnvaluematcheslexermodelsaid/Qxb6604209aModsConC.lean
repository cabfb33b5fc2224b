import Derived.Test.Qxb6604209aModsConA
namespace Go.Proofs.Qxb6604209aMods
open Go.RowKit Plain

set_option maxHeartbeats 1000000 in
theorem strEnd7 (f : Nat → Int) (b off n cap pos : Nat) (w : World) (hp : pos < n) (hn : n ≤ 1048576)
    (hc : ∀ i, i < n → w.cell? ⟨b, off + i, none⟩ = some (.int .u8 (f i))) :
    Calls Trym.prog 7 #[.slice (some ⟨b, off, none⟩) n cap, .int .i64 pos] w fun e w' => w = w' ∧
      ((∃ q, First f n pos q ∧ e = .returned (.tuple #[.int .i64 ((q : Int) + 1), .bool true])) ∨ e = .returned (.tuple #[.int .i64 0, .bool false])) := by
  go_enter Trym.func7, Trym.ntmps7
  go_wp2
  go_loop [6] (fun i => ∃ k : Nat, pos < k ∧ k ≤ n ∧ i = .int .i64 k ∧ ∀ j, pos < j → j < k → ¬ Closes f pos j)
    (fun i => n - (intOf i).toNat)
  case atStart => exact ⟨pos + 1, by omega, by omega, by go_num, fun j h1 h2 => by omega⟩
  case round =>
    obtain ⟨k, hk0, hk, rfl, hno⟩ := hrel
    have HN : Hid (∀ j, pos < j → j < k → ¬ Closes f pos j) := hno
    clear hno
    by_cases hlt : k < n
    · have hcx := hc k hlt
      by_cases hq : f k = 34
      · have hqb : (f k != 34) = false := by simp [hq]
        have HQ : Hid (f k = 34) := hq
        clear hq
        go_wp2
        go_loop [7, 8] (fun r i => ∃ r' j : Nat, Hid (r' + j + 1 = k) ∧ pos ≤ j ∧ j < k ∧ r' < k ∧ Hid (r' + bs f pos (j + 1) = bs f pos k) ∧ r = .int .i64 r' ∧ i = .int .i64 j)
          (fun _ i => (intOf i).toNat)
        case atStart => exact ⟨0, k - 1, by show _ = _; omega, by omega, by omega, by omega, by show _ = _; rw [show k - 1 + 1 = k from by omega]; omega, by go_num, by go_num⟩
        case round =>
          obtain ⟨r', j, H1, hj, hjk, hrk, H2, rfl, rfl⟩ := hrel
          have hcj := hc j (by omega)
          by_cases hpj : pos < j
          · by_cases hbk : f j = 92
            · have hbb : (f j == 92) = true := by simp [hbk]
              have HB : Hid (f j = 92) := hbk
              clear hbk
              go_wp2
              go_round
              case rel =>
                have h1 := H1.out
                have h2 := H2.out
                have h3 := bs_back f pos j hpj HB.out
                refine ⟨r' + 1, j - 1, by show _ = _; omega, by omega, by omega, by omega, ?_, by go_num, by go_num⟩
                show _ = _
                rw [show j - 1 + 1 = j from by omega]
                omega
              case measure => simp [intOf]; omega
            · have hbb : (f j == 92) = false := by simp [hbk]
              have HB : Hid (f j ≠ 92) := hbk
              clear hbk
              have HE : Hid (bs f pos k = r') := by
                have h2 := H2.out
                rw [bs_other f pos j HB.out] at h2
                show _ = _
                omega
              by_cases hev : r' % 2 = 0
              · go_wp2
                go_ret2
                exact ⟨rfl, .inl ⟨k, ⟨hk0, hlt, ⟨HQ.out, by rw [HE.out]; exact hev⟩, HN.out⟩, rfl⟩⟩
              · go_wp2
                go_round
                case rel => 
                  refine ⟨k + 1, by omega, by omega, by go_num, fun j' h1 h2 => ?_⟩
                  by_cases hjk' : j' = k
                  · subst hjk'; intro hcl; exact hev (by rw [← HE.out]; exact hcl.2)
                  · exact HN.out j' h1 (by omega)
                case measure => simp [intOf]; omega
          · have HE : Hid (bs f pos k = r') := by
              have h2 := H2.out
              rw [show j = pos from by omega, bs_start] at h2
              show _ = _
              omega
            by_cases hev : r' % 2 = 0
            · go_wp2
              go_ret2
              exact ⟨rfl, .inl ⟨k, ⟨hk0, hlt, ⟨HQ.out, by rw [HE.out]; exact hev⟩, HN.out⟩, rfl⟩⟩
            · go_wp2
              go_round
              case rel => 
                refine ⟨k + 1, by omega, by omega, by go_num, fun j' h1 h2 => ?_⟩
                by_cases hjk' : j' = k
                · subst hjk'; intro hcl; exact hev (by rw [← HE.out]; exact hcl.2)
                · exact HN.out j' h1 (by omega)
              case measure => simp [intOf]; omega
      · have hqb : (f k != 34) = true := by simp [hq]
        have HQ : Hid (f k ≠ 34) := hq
        clear hq
        go_wp2
        go_round
        case rel => 
          refine ⟨k + 1, by omega, by omega, by go_num, fun j' h1 h2 => ?_⟩
          by_cases hjk' : j' = k
          · subst hjk'; intro hcl; exact HQ.out hcl.1
          · exact HN.out j' h1 (by omega)
        case measure => simp [intOf]; omega
    · go_wp2
      go_ret2
      exact ⟨rfl, .inr rfl⟩

end Go.Proofs.Qxb6604209aMods
