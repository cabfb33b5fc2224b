import Derived.Test.Qxb6604563aModsLawA
namespace Go.Proofs.Qxb6604563aMods
open Go.RowKit Plain

set_option maxHeartbeats 8000000 in
set_option maxRecDepth 100000 in
theorem law4 (a0 a1 : Option Addr) (c0 c1 : Nat) (A O : List Int) (mv n pre a b : Int) (w : World) (hA : A.length ≤ 9223372036854775807) (hO : O.length ≤ 9223372036854775807)
    (hmv1 : -9223372036854775808 ≤ mv) (hmv2 : mv ≤ 9223372036854775807) (ha1 : -9223372036854775808 ≤ a) (ha2 : a ≤ 9223372036854775807) (hb1 : -9223372036854775808 ≤ b) (hb2 : b ≤ 9223372036854775807)
    (hwO : ∀ x ∈ O, 0 ≤ x ∧ x ≤ 18446744073709551615) (h0 : URaw w a0 A) (h1 : URaw w a1 O) :
    Calls Trym.prog 4 #[.slice a0 A.length c0, .slice a1 O.length c1, .int .i64 mv, .int .i64 n, .int .u64 pre, .int .i64 a, .int .i64 b] w fun e w' => e = .returned (.bool true) ∧ Below w.heap.size w w' := by
  have H0 : Hid (URaw w a0 A) := h0
  have H1 : Hid (URaw w a1 O) := h1
  have HW : Hid (∀ x ∈ O, 0 ≤ x ∧ x ≤ 18446744073709551615) := hwO
  clear h0 h1 hwO
  go_enter Trym.func4, Trym.ntmps4
  go_wp2_with fail
  refine (bytes16 a0 a1 A.length c0 O.length c1 mv n pre a b w hA hO).mono ?_
  rintro e wx ⟨rfl, x, rfl⟩
  cases x
  · go_wp2_with fail
    go_ret
    exact ⟨rfl, Below.refl _ _⟩
  by_cases hA2 : A.length ≤ 8192
  case neg =>
    go_wp2_with fail
    go_ret
    exact ⟨rfl, Below.refl _ _⟩
  by_cases hO2 : O.length ≤ 8192
  case neg =>
    go_wp2_with fail
    go_ret
    exact ⟨rfl, Below.refl _ _⟩
  by_cases ha : a < 0
  · go_wp2_with fail
    go_ret
    exact ⟨rfl, Below.refl _ _⟩
  by_cases hb : b < 0
  · go_wp2_with fail
    go_ret
    exact ⟨rfl, Below.refl _ _⟩
  by_cases hab : 9223372036854775807 - b < a
  · go_wp2_with fail
    go_ret
    exact ⟨rfl, Below.refl _ _⟩
  by_cases hL0 : A.length = 0
  · have hL0' : ((A.length : Int) == 0) = true := by simp [hL0]
    clear hL0
    go_wp2_with fail
    go_ret
    exact ⟨rfl, Below.refl _ _⟩
  have hL0' : ((A.length : Int) == 0) = false := by rw [beq_eq_false_iff_ne]; omega
  have hLp : 0 < A.length := by omega
  clear hL0
  have hpt := pow_test A.length hLp hA2
  by_cases hp : A.length &&& (A.length - 1) = 0
  case neg =>
    have hpt' : (bits .and .i64 (A.length : Int) ((A.length : Int) - 1) != 0) = true := by rw [hpt]; simp [hp]
    clear hpt hp
    go_wp2_with fail
    go_ret
    exact ⟨rfl, Below.refl _ _⟩
  have hpt' : (bits .and .i64 (A.length : Int) ((A.length : Int) - 1) != 0) = false := by rw [hpt]; simp [hp]
  have HP : Hid (A.length &&& (A.length - 1) = 0) := hp
  clear hpt hp
  by_cases hmv : mv < 0
  · go_wp2_with fail
    go_ret
    exact ⟨rfl, Below.refl _ _⟩
  by_cases hmo : (O.length : Int) < mv
  · go_wp2_with fail
    go_ret
    exact ⟨rfl, Below.refl _ _⟩
  obtain ⟨m, rfl⟩ : ∃ m : Nat, mv = m := ⟨mv.toNat, by omega⟩
  have hm : m ≤ O.length := by omega
  have hst := stepsOf_le O.length m (a + b) hm
  go_wp2_with fail
  refine (steps6 O.length m (a + b) w hO2 hm).mono ?_
  rintro e wx ⟨rfl, rfl⟩
  obtain ⟨st, hste⟩ : ∃ st, st = stepsOf O.length m (a + b) := ⟨_, rfl⟩
  rw [← hste] at hst ⊢
  have HST : Hid (st = stepsOf O.length m (a + b)) := hste
  clear hste
  go_wp2_with fail
  refine (countFree7 a0 c0 A w hA2 H0.out).mono ?_
  rintro e wx ⟨rfl, rfl⟩
  go_wp2_with fail
  refine (placeable8 a1 c1 O m st w hO2 hst H1.out).mono ?_
  rintro e w1 ⟨v, rfl, hown, hb1w⟩
  obtain ⟨pa, pcap, hv⟩ := own_form hown
  subst hv
  clear hown
  by_cases hcf : cf A < pc O m st
  · go_wp2_with fail
    go_ret
    exact ⟨rfl, hb1w⟩
  have HCF : Hid (pc O m st ≤ cf A) := by show _ ≤ _; omega
  have hcf' : ¬ ((cf A : Nat) : Int) < ((pc O m st : Nat) : Int) := by omega
  clear hcf
  go_wp2_with fail
  refine (clone9 a0 c0 A w1 hA2 (H0.out.keep hb1w)).mono ?_
  rintro e w2 ⟨vs, rfl, hcls, hb12⟩
  have hvs : vs = .slice (some ⟨w1.heap.size, 0, none⟩) A.length A.length ∧ URaw w2 (some ⟨w1.heap.size, 0, none⟩) A := by
    rcases hcls with ⟨_, _, h⟩ | ⟨_, h, h3⟩
    · rw [h] at hLp; simp at hLp
    · exact ⟨h, own_raw h3⟩
  obtain ⟨hvs, hUs2⟩ := hvs
  subst hvs
  have hb02 : Below w.heap.size w w2 := hb1w.trans (hb12.mono hb1w.size)
  clear hcls
  go_wp2_with fail
  refine (clone9 a1 c1 O w2 hO2 (H1.out.keep hb02)).mono ?_
  rintro e w3 ⟨vo, rfl, hclo, hb23⟩
  obtain ⟨ao, co, hvo, hUo3, hnil, _⟩ := hclo.form
  subst hvo
  have hb03 : Below w.heap.size w w3 := hb02.trans (hb23.mono hb02.size)
  have HUs : Hid (URaw w3 (some ⟨w1.heap.size, 0, none⟩) A) := hUs2.keep hb23
  have HUo : Hid (URaw w3 ao O) := hUo3
  have hs3 : w1.heap.size < w3.heap.size := by
    obtain ⟨b', off', e, hc⟩ := HUs.out.2 hLp
    injection e with e
    injection e with e1 e2
    subst e1
    simpa using block_lt_of_cell (hc 0 hLp)
  clear hUs2 hUo3 hclo hb12 hb23 hb02 hb1w hnil
  have hsum : 0 ≤ a + b := by omega
  have hsab : pc O m (stepsOf O.length m a) ≤ cf A := by
    obtain ⟨e1, e2⟩ := steps_two (a := a) (b := b) hm (by omega) (by omega)
    have h9 := HCF.out
    rw [HST.out] at h9
    refine Nat.le_trans (pc_mono O m ?_) h9
    by_cases he : m + stepsOf O.length m a = O.length
    · rw [e1 he]; exact Nat.le_refl _
    · rw [e2 he]; omega
  have HSA : Hid (pc O m (stepsOf O.length m a) ≤ cf A) := hsab
  have HCF2 : Hid (pc O m (stepsOf O.length m (a + b)) ≤ cf A) := by have := HCF.out; rw [HST.out] at this; exact this
  clear hsab
  go_wp2_with fail
  refine (clone9 (some ⟨w1.heap.size, 0, none⟩) A.length A w3 hA2 (HUs.out)).mono ?_
  rintro e wa1 ⟨va1, rfl, hcla1, hba1⟩
  obtain ⟨hva1, hrow1, hlt1⟩ := hcla1.slots hLp
  subst hva1
  clear hcla1
  go_wp2_with fail
  refine (clone9 ao co O wa1 hO2 ((HUo.out).keep hba1)).mono ?_
  rintro e wb1 ⟨vb1, rfl, hclb1, hbb1⟩
  obtain ⟨ob1, cb1, hvb1, hUb1, hnil1, hor1⟩ := hclb1.form
  subst hvb1
  have hcap1 := hclb1.cap
  have hobl1 := hclb1.lt
  have hsb1 := hbb1.size
  have hsa1 := hba1.size
  clear hclb1
  go_wp2_with fail
  refine (newHashed10 w3.heap.size w3.heap.size A.length A ob1 O.length cb1 m n pre wb1 (by omega) (by omega) (ownsRow_below hrow1 hbb1)).mono ?_
  rintro e wc1 ⟨rfl, hT1, hbc1, hsc1⟩
  have hOl1 : Ol wc1 wb1.heap.size w3.heap.size (.slice ob1 O.length cb1) O := Ol.of_raw (hUb1.keep hbc1) hor1 hcap1 (fun e => by have := hobl1 e; omega) (fun e => by have := hobl1 e; omega)
  have hbe1 : Below w3.heap.size w3 wc1 := hba1.trans ((hbb1.trans (hbc1.mono hsb1)).mono hsa1)
  clear hrow1 hUb1 hba1 hbb1 hbc1 hcap1
  go_wp2_with fail
  refine (zzmove11 w3.heap.size wb1.heap.size w3.heap.size A.length A O _ m m n pre a wc1 rfl hLp hA2 hO2 hm ha1 ha2 HW.out HP.out HSA.out hT1 hOl1).mono ?_
  rintro e wd1 ⟨rfl, hMa⟩
  go_wp2_with fail
  refine (second_move hLp hA2 rfl hO2 hm (by omega) (by omega) hb2 HW.out HP.out HCF2.out hOl1 hMa).mono ?_
  rintro e w8 ⟨rfl, hM1⟩
  rw [← HST.out] at hM1
  have hb38 : Below w3.heap.size w3 w8 := hbe1.trans (hM1.but.below (by omega) (Nat.le_refl _) (by omega))
  have hs8 := hb38.size
  have hle8 := hM1.but.size
  have HM1 : Hid (Moved wc1 w3.heap.size wb1.heap.size w3.heap.size A.length A O (.slice ob1 O.length cb1) m st n pre w8) := hM1
  have HO1 : Hid (Ol wc1 wb1.heap.size w3.heap.size (.slice ob1 O.length cb1) O) := hOl1
  clear hT1 hMa hM1 hOl1
  go_wp2_with fail
  refine (clone9 (some ⟨w1.heap.size, 0, none⟩) A.length A w8 hA2 (HUs.out.keep hb38)).mono ?_
  rintro e wa2 ⟨va2, rfl, hcla2, hba2⟩
  obtain ⟨hva2, hrow2, hlt2⟩ := hcla2.slots hLp
  subst hva2
  clear hcla2
  go_wp2_with fail
  refine (clone9 ao co O wa2 hO2 ((HUo.out.keep hb38).keep hba2)).mono ?_
  rintro e wb2 ⟨vb2, rfl, hclb2, hbb2⟩
  obtain ⟨ob2, cb2, hvb2, hUb2, hnil2, hor2⟩ := hclb2.form
  subst hvb2
  have hcap2 := hclb2.cap
  have hobl2 := hclb2.lt
  have hsb2 := hbb2.size
  have hsa2 := hba2.size
  clear hclb2
  go_wp2_with fail
  refine (newHashed10 w8.heap.size w8.heap.size A.length A ob2 O.length cb2 m n pre wb2 (by omega) (by omega) (ownsRow_below hrow2 hbb2)).mono ?_
  rintro e wc2 ⟨rfl, hT2, hbc2, hsc2⟩
  have hOl2 : Ol wc2 wb2.heap.size w8.heap.size (.slice ob2 O.length cb2) O := Ol.of_raw (hUb2.keep hbc2) hor2 hcap2 (fun e => by have := hobl2 e; omega) (fun e => by have := hobl2 e; omega)
  have hbe2 : Below w8.heap.size w8 wc2 := hba2.trans ((hbb2.trans (hbc2.mono hsb2)).mono hsa2)
  clear hrow2 hUb2 hba2 hbb2 hbc2 hcap2
  go_wp2_with fail
  refine (zzmove11 w8.heap.size wb2.heap.size w8.heap.size A.length A O _ m m n pre (a + b) wc2 rfl hLp hA2 hO2 hm (by omega) (by omega) HW.out HP.out HCF2.out hT2 hOl2).mono ?_
  rintro e w9 ⟨rfl, hM2⟩
  rw [← HST.out] at hM2
  have hb89 : Below w8.heap.size w8 w9 := hbe2.trans (hM2.but.below (by omega) (Nat.le_refl _) (by omega))
  have hb39 : Below w3.heap.size w3 w9 := hb38.trans (hb89.mono hs8)
  have hb09 : Below w.heap.size w w9 := hb03.trans (hb39.mono hb03.size)
  have HM2 : Hid (Moved wc2 w8.heap.size wb2.heap.size w8.heap.size A.length A O (.slice ob2 O.length cb2) m st n pre w9) := hM2
  have HO2 : Hid (Ol wc2 wb2.heap.size w8.heap.size (.slice ob2 O.length cb2) O) := hOl2
  have HUo9 : Hid (URaw w9 ao O) := HUo.out.keep hb39
  obtain ⟨A', hA'⟩ : ∃ A', A' = mvs A A.length O m st := ⟨_, rfl⟩
  have hlA' : A'.length = A.length := by rw [hA', length_mvs]
  clear hT2 hM2 hOl2 hbe2 hbe1 HUs HUo hor1 hor2 hobl1 hobl2
  have q22 : ∀ (w : World) (a : Option Addr) (n c n' c' : Nat), (binOp .eql 22 (.slice a n c) (.slice none n' c')).run Trym.prog w = .ok (.bool a.isNone) w := fun w a n c n' c' => Lib.run_eql_slice_nil w _ _ a n c n' c' Trym.underlying22
  by_cases hend : m + st = O.length
  · have T1 : Tb w9 w3.heap.size wb1.heap.size w3.heap.size A.length A' (.slice none 0 0) 0 n pre := by rw [hA']; exact (HM1.out.done hend).keep hb89
    have T2 : Tb w9 w8.heap.size wb2.heap.size w8.heap.size A.length A' (.slice none 0 0) 0 n pre := by rw [hA']; exact HM2.out.done hend
    have R1 : Hid (URaw w9 (some ⟨w3.heap.size, 0, none⟩) A') := T1.raw
    have R2 : Hid (URaw w9 (some ⟨w8.heap.size, 0, none⟩) A') := T2.raw
    have HLA : Hid (A'.length = A.length) := hlA'
    have HEND : Hid (m + st = O.length) := hend
    clear hA' hlA' hend
    go_wp2_with fail
    refine (fields12 _ _ _ A.length A' none 0 0 0 n pre w9 T1).mono ?_
    rintro e wy ⟨rfl, k1, rfl⟩
    go_wp2_with fail
    refine (fields12 _ _ _ A.length A' none 0 0 0 n pre _ (T2.drewN k1)).mono ?_
    rintro e wy ⟨rfl, k2, rfl⟩
    go_wp2_with fail
    have h17 := same17 (some ⟨w3.heap.size, 0, none⟩) (some ⟨w8.heap.size, 0, none⟩) A.length A.length A' (w9.drewN (k1 + k2)) (by rw [HLA.out]; exact hA2) (R1.out.drewN _) (R2.out.drewN _)
    rw [HLA.out] at h17
    refine h17.mono ?_
    clear h17
    rintro e wy ⟨rfl, k3, rfl⟩
    go_wp2_with fail
    have h17 := same17 none none 0 0 [] (w9.drewN (k1 + k2 + k3)) (by simp) ⟨fun _ => rfl, fun h => by simp at h⟩ ⟨fun _ => rfl, fun h => by simp at h⟩
    rw [List.length_nil] at h17
    refine h17.mono ?_
    clear h17
    rintro e wy ⟨rfl, k4, rfl⟩
    go_wp2_with fail
    refine (oldDone13 ao O.length co _ _ (by have := HEND.out; omega)).mono ?_
    rintro e wy ⟨rfl, k5, rfl⟩
    go_wp2
    go_ret
    exact ⟨rfl, by first | exact below_drewN hb09 _ | exact below_drewN (below_drewN hb09 _) _ | exact below_drewN (below_drewN (below_drewN hb09 _) _) _⟩
  · have T1 : Tb w9 w3.heap.size wb1.heap.size w3.heap.size A.length A' (.slice ob1 O.length cb1) ((m : Int) + st) n pre := by rw [hA']; exact (HM1.out.more hend).keep hb89
    have T2 : Tb w9 w8.heap.size wb2.heap.size w8.heap.size A.length A' (.slice ob2 O.length cb2) ((m : Int) + st) n pre := by rw [hA']; exact HM2.out.more hend
    have R1 : Hid (URaw w9 (some ⟨w3.heap.size, 0, none⟩) A') := T1.raw
    have R2 : Hid (URaw w9 (some ⟨w8.heap.size, 0, none⟩) A') := T2.raw
    have hOp : 0 < O.length := by omega
    obtain ⟨x1, o1, ho1, hc1⟩ : ∃ x o, ob1 = some ⟨x, o, none⟩ ∧ ∀ j, j < O.length → w9.cell? ⟨x, o + j, none⟩ = some (.int .u64 (O.getD j 0)) := by
      rcases Ol.keep HO1.out HM1.out.but with ⟨_, h⟩ | ⟨x, o, cap, h1, _, _, h4⟩
      · rw [h] at hOp; simp at hOp
      · injection h1 with h1
        exact ⟨x, o, h1, fun j hj => by rw [hb89.cell (by simpa using block_lt_of_cell (h4 j hj))]; exact h4 j hj⟩
    obtain ⟨x2, o2, ho2, hc2⟩ : ∃ x o, ob2 = some ⟨x, o, none⟩ ∧ ∀ j, j < O.length → w9.cell? ⟨x, o + j, none⟩ = some (.int .u64 (O.getD j 0)) := by
      rcases Ol.keep HO2.out HM2.out.but with ⟨_, h⟩ | ⟨x, o, cap, h1, _, _, h4⟩
      · rw [h] at hOp; simp at hOp
      · injection h1 with h1
        exact ⟨x, o, h1, h4⟩
    subst ho1
    subst ho2
    have S1 : Hid (URaw w9 (some ⟨x1, o1, none⟩) O) := ⟨fun h => (by cases h), fun _ => ⟨x1, o1, rfl, hc1⟩⟩
    have S2 : Hid (URaw w9 (some ⟨x2, o2, none⟩) O) := ⟨fun h => (by cases h), fun _ => ⟨x2, o2, rfl, hc2⟩⟩
    have hnil9 : ao.isNone = false := by rw [← hnil2]; rfl
    have HLA : Hid (A'.length = A.length) := hlA'
    have HEND : Hid (m + st ≠ O.length) := hend
    clear hA' hlA' hend hc1 hc2
    go_wp2_with fail
    refine (fields12 _ _ _ A.length A' _ _ _ _ n pre w9 T1).mono ?_
    rintro e wy ⟨rfl, k1, rfl⟩
    go_wp2_with fail
    refine (fields12 _ _ _ A.length A' _ _ _ _ n pre _ (T2.drewN k1)).mono ?_
    rintro e wy ⟨rfl, k2, rfl⟩
    clear T1 T2
    go_wp2_with fail
    have h17 := same17 (some ⟨w3.heap.size, 0, none⟩) (some ⟨w8.heap.size, 0, none⟩) A.length A.length A' (w9.drewN (k1 + k2)) (by rw [HLA.out]; exact hA2) (R1.out.drewN _) (R2.out.drewN _)
    rw [HLA.out] at h17
    refine h17.mono ?_
    clear h17
    rintro e wy ⟨rfl, k3, rfl⟩
    go_wp2_with fail
    refine (same17 (some ⟨x1, o1, none⟩) (some ⟨x2, o2, none⟩) _ _ O _ hO2 (S1.out.drewN _) (S2.out.drewN _)).mono ?_
    rintro e wy ⟨rfl, k4, rfl⟩
    go_wp2_with fail
    refine (oldMore13 ao (some ⟨x2, o2, none⟩) co _ O _ _ hO2 (by have := HEND.out; omega) hnil9.symm (HUo9.out.drewN _) (S2.out.drewN _)).mono ?_
    rintro e wy ⟨rfl, k5, rfl⟩
    go_wp2
    go_ret
    exact ⟨rfl, by first | exact below_drewN hb09 _ | exact below_drewN (below_drewN hb09 _) _ | exact below_drewN (below_drewN (below_drewN hb09 _) _) _⟩

end Go.Proofs.Qxb6604563aMods
