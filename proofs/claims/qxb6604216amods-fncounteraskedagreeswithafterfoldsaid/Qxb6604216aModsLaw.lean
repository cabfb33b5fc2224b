import Derived.Test.Qxb6604216aModsZz
namespace Go.Proofs.Qxb6604216aMods
open Go.RowKit Go.Maps Go.WideMaps

theorem win_win (L : List ByteArray) (r : ByteArray) : win (win L ++ [r]) = win (L ++ [r]) := by
  have e1 : (L.drop (L.length - 10)).length = L.length - (L.length - 10) := List.length_drop ..
  unfold win
  by_cases h : L.length ≤ 10
  · rw [show L.length - 10 = 0 from by omega, List.drop_zero]
  · have h2 : (L.drop (L.length - 10) ++ [r]).length - 10 = 1 := by simp; omega
    have h3 : (L ++ [r]).length - 10 = L.length - 10 + 1 := by simp; omega
    rw [h2, h3, List.drop_append_of_le_length (by omega), List.drop_append_of_le_length (by omega), List.drop_drop]

theorem win_short_eq (L : List ByteArray) (h : L.length ≤ 10) : win L = L := by
  rw [win, show L.length - 10 = 0 from by omega, List.drop_zero]

theorem win_len (L : List ByteArray) : (win L).length ≤ 10 := by
  rw [win, List.length_drop]; omega

theorem win_mem {L : List ByteArray} {s : ByteArray} (h : s ∈ win L) : s ∈ L := List.mem_of_mem_drop h

theorem rl_mem {L : List ByteArray} {k : Nat} (hk : k ≤ L.length) {s : ByteArray} (h : s ∈ rl (fun j => L.getD j ByteArray.empty) k) : s ∈ L := by
  simp only [rl, List.mem_map, List.mem_range] at h
  obtain ⟨j, hj, rfl⟩ := h
  have : j < L.length := by omega
  simp [this]

set_option maxHeartbeats 4000000 in
theorem law5 (a1 a2 a3 : Option Addr) (c1 c2 c3 : Nat) (B : List ByteArray) (Z : List Int) (L : List ByteArray) (unsure : Bool) (home : ByteArray) (w : World)
    (hn1 : B.length ≤ 9223372036854775807) (hn2 : Z.length ≤ 9223372036854775807) (hn3 : L.length ≤ 9223372036854775807) (hh : home.size ≤ 9223372036854775807)
    (hs1 : ∀ s ∈ B, s.size ≤ maxLen) (hs3 : ∀ s ∈ L, s.size ≤ maxLen) (h1 : SRaw w a1 B) (h2 : IRaw w a2 Z) (h3 : SRaw w a3 L) :
    Calls Trym.prog 5 #[.slice a1 B.length c1, .slice a2 Z.length c2, .slice a3 L.length c3, .bool unsure, .string home] w fun e w' => e = .returned (.bool true) ∧ Below w.heap.size w w' := by
  have H1 : Hid (SRaw w a1 B) := h1
  have H2 : Hid (IRaw w a2 Z) := h2
  have H3 : Hid (SRaw w a3 L) := h3
  have HS1 : Hid (∀ s ∈ B, s.size ≤ maxLen) := hs1
  have HS3 : Hid (∀ s ∈ L, s.size ≤ maxLen) := hs3
  clear h1 h2 h3 hs1 hs3
  go_enter Trym.func5, Trym.ntmps5
  go_wp2_with fail
  refine (bytes18 a1 a2 a3 Z.length c1 c2 c3 B L unsure home w hn1 hn2 hn3 hh HS1.out HS3.out H1.out H3.out).mono ?_
  rintro e wx ⟨rfl, x, rfl⟩
  cases x
  · go_wp2_with fail
    go_ret
    exact ⟨rfl, Below.refl _ _⟩
  go_wp2_with fail
  refine (sbytes7 a1 c1 B w hn1 HS1.out H1.out).mono ?_
  rintro e wx ⟨rfl, r1, rfl, r10, r11, r12⟩
  go_wp2_with fail
  refine (sbytes7 a3 c3 L w hn3 HS3.out H3.out).mono ?_
  rintro e wx ⟨rfl, r2, rfl, r20, r21, r22⟩
  go_wp2_with fail
  refine (ibytes8 a2 Z.length c2 w hn2).mono ?_
  rintro e wx ⟨rfl, r3, rfl, r30, r31, r32⟩
  go_wp2_with fail
  refine (cap9 home.size w hh).mono ?_
  rintro e wx ⟨rfl, r4, rfl, r40, r41, _⟩
  by_cases hsum : 1048576 < r1 + r2 + r3 + r4
  · clear r12 r22 r32
    go_wp2_with fail
    go_ret
    exact ⟨rfl, Below.refl _ _⟩
  have hB : B.length ≤ 65536 := r12 (by omega)
  have hLl : L.length ≤ 65536 := r22 (by omega)
  have hZl : Z.length ≤ 131072 := r32 (by omega)
  clear r12 r22 r32
  by_cases h10 : 10 < B.length
  · go_wp2_with fail
    go_ret
    exact ⟨rfl, Below.refl _ _⟩
  go_wp2_with fail
  refine (clone10 a1 c1 B w (by omega) H1.out).mono ?_
  rintro e w1 ⟨vb, rfl, hSb, hb1⟩
  go_wp2_with fail
  refine (clone11 a2 c2 Z w1 (by omega) (H2.out.keep hb1)).mono ?_
  rintro e w2 ⟨vt, rfl, hIt, hb2⟩
  have hb02 : Below w.heap.size w w2 := hb1.trans (hb2.mono hb1.size)
  go_wp2_with fail
  refine (clone10 a3 c3 L w2 (by omega) (H3.out.keep hb02)).mono ?_
  rintro e w3 ⟨vr, rfl, hSr, hb3⟩
  have hb03 : Below w.heap.size w w3 := hb02.trans (hb3.mono hb02.size)
  have hSb3 : Sl w3 vb B := (hSb.keep hb2).keep hb3
  have hIt3 : Il w3 vt Z := hIt.keep hb3
  obtain ⟨ab, cb, hvb⟩ := hSb3.form
  subst hvb
  obtain ⟨ar, cr, hvr⟩ := hSr.form
  subst hvr
  have hft : ∃ a1 c1, vt = .slice a1 Z.length c1 := by
    rcases hIt3 with ⟨rfl, rfl⟩ | ⟨b, off, cap, rfl, _⟩
    · exact ⟨none, 0, rfl⟩
    · exact ⟨_, _, rfl⟩
  obtain ⟨at', ct, hvt⟩ := hft
  subst hvt
  have HB3 : Hid (Sl w3 (.slice ab B.length cb) B) := hSb3
  have HR3 : Hid (Sl w3 (.slice ar L.length cr) L) := hSr
  have HT3 : Hid (Il w3 (.slice at' Z.length ct) Z) := hIt3
  clear hSb hIt hSr hSb3 hIt3 H1 H2 H3 hb1 hb2 hb3 hb02 r10 r11 r20 r21 r30 r31 r40 r41 hsum
  go_wp2_with fail
  have hba : Below w3.heap.size w3 (w3.alloc (.cells #[.int .i64 0, .int .u64 0, .int .i64 0, .int .u64 0, .int .i64 0, .string { data := #[] }, .slice ab B.length cb, .int .i64 0, .int .i64 0] 41)) := (Below.refl _ _).alloc (Nat.le_refl _) _
  refine (zzasked19 w3.heap.size (.slice ab B.length cb) _ _ B Z L _ (by omega) (by omega) (by omega) (by simp) (HB3.out.keep hba) (HT3.out.keep hba) (HR3.out.keep hba)).mono ?_
  rintro e w4 ⟨vg, rfl, hSg, hb4⟩
  rw [World.size_alloc] at hb4
  have hb34 : Below w3.heap.size w3 w4 := hba.trans (hb4.mono (by omega))
  have hb04 : Below w.heap.size w w4 := hb03.trans (hb34.mono hb03.size)
  have HB4 : Hid (Sl w4 (.slice ab B.length cb) B) := HB3.out.keep hb34
  have HR4 : Hid (Sl w4 (.slice ar L.length cr) L) := HR3.out.keep hb34
  obtain ⟨m, hm⟩ : ∃ m, m = min Z.length L.length := ⟨_, rfl⟩
  rw [← hm] at hSg
  have HG4 : Hid (Sl w4 vg (win (B ++ rl (fun j => L.getD j ByteArray.empty) m))) := hSg
  have hmL : m ≤ L.length := by omega
  clear hba hb4 hb34 hb03 HB3 HR3 HT3 hSg
  go_wp2_with fail
  refine (min20 Z.length L.length w4).mono ?_
  rintro e wx ⟨rfl, rfl⟩
  rw [← hm]
  clear hm
  go_wp2
  go_loopw [14, 15, 16, 17] (fun va vu vh vi wr => ∃ (k : Nat) (u : Bool) (h' : ByteArray), k ≤ m ∧ vu = .bool u ∧ vh = .string h' ∧ vi = .int .i64 k ∧ h'.size ≤ 9223372036854775807 ∧ Hid (Sl wr va (win (B ++ rl (fun j => L.getD j ByteArray.empty) k))) ∧ Below w4.heap.size w4 wr)
    (fun _ _ _ vi _ => m - (intOf vi).toNat)
  case atStart => exact ⟨0, unsure, home, Nat.zero_le _, rfl, rfl, rfl, hh, by show Sl _ _ _; rw [show B ++ rl (fun j => L.getD j ByteArray.empty) 0 = B from by simp [rl], win_short_eq B (by omega)]; exact HB4.out, Below.refl _ _⟩
  case round =>
    obtain ⟨k, u, h', hk, rfl, rfl, rfl, hh', HK, hbr⟩ := hrel
    by_cases hlt : k < m
    · have hkL : k < L.length := by omega
      obtain ⟨b, off, har, hcell⟩ : ∃ b off, ar = some ⟨b, off, none⟩ ∧ wr.cell? ⟨b, off + k, none⟩ = some (.string (L.getD k ByteArray.empty)) := by
        rcases Sl.keep HR4.out hbr with ⟨_, h⟩ | ⟨b, off, cap, h1, _, h3⟩
        · rw [h] at hkL; simp at hkL
        · refine ⟨b, off, by injection h1, h3 k _ (by simp [hkL])⟩
      obtain ⟨s, hs⟩ : ∃ s, s = L.getD k ByteArray.empty := ⟨_, rfl⟩
      rw [← hs] at hcell
      have HSs : Hid (s = L.getD k ByteArray.empty) := hs
      clear hs
      subst har
      go_wp2_with fail
      refine (zzafter14 _ (win (B ++ rl (fun j => L.getD j ByteArray.empty) k)) h' s u wr (win_len _) hh' (by rw [HSs.out]; exact HS3.out _ (by simp [hkL])) (fun x hx => ?_) HK.out).mono ?_
      · have := win_mem hx
        rw [List.mem_append] at this
        rcases this with h | h
        · exact HS1.out x h
        · exact HS3.out x (rl_mem (by omega) h)
      rintro e w5 ⟨v5, h5, u5, rfl, hS5, hh5, hb5⟩
      have HK5 : Hid (Sl w5 v5 (win (B ++ rl (fun j => L.getD j ByteArray.empty) (k + 1)))) := by
        rw [rl_succ, ← List.append_assoc, ← win_win, ← HSs.out]
        exact hS5
      have hbr5 : Below w4.heap.size w4 w5 := hbr.trans (hb5.mono hbr.size)
      clear hS5 hb5 hbr HK hcell
      go_wp2
      go_roundw
      case rel => exact ⟨k + 1, u5, h5, by omega, rfl, rfl, by go_num, hh5, HK5, hbr5⟩
      case measure => simp [intOf]; omega
    · have hkm : k = m := by omega
      subst hkm
      go_wp2_with fail
      refine (same15 _ _ (win (B ++ rl (fun j => L.getD j ByteArray.empty) k)) wr (by have := win_len (B ++ rl (fun j => L.getD j ByteArray.empty) k); omega) (Sl.keep HG4.out hbr) HK.out).mono ?_
      rintro e w6 ⟨rfl, hb6⟩
      go_wp2
      go_ret
      exact ⟨rfl, hb04.trans ((hbr.trans (hb6.mono hbr.size)).mono hb04.size)⟩

end Go.Proofs.Qxb6604216aMods
