import Derived.Test.Qxb6604563aModsLawB
namespace Go.Proofs.Qxb6604563aMods
open Go.RowKit Plain

/-- What has been gathered of the first t slots. -/
def Got (w9 wr : World) (v : Value) (A G : List Int) (t : Nat) : Prop :=
  wr.ownsRow w9.heap.size 23 1 v (nw (A.take t) (G.take t)).length ((nw (A.take t) (G.take t)).map (Value.int .u64)) ∧ Below w9.heap.size w9 wr

theorem Got.drewN {w9 wr : World} {v : Value} {A G : List Int} {t : Nat} (h : Got w9 wr v A G t) (q : Nat) : Got w9 (wr.drewN q) v A G t := ⟨h.1, below_drewN h.2 q⟩

theorem Got.next {w9 wr : World} {v : Value} {A G : List Int} {t : Nat} (h : Got w9 wr v A G t) (h1 : t < A.length) (h2 : G.length = A.length) (hn : ¬ (A.getD t 0 = 0 ∧ G.getD t 0 ≠ 0)) : Got w9 wr v A G (t + 1) := by
  have e := nw_take A G t h1 (by omega)
  rw [if_neg hn, List.append_nil] at e
  rw [Got, e]
  exact h

set_option maxHeartbeats 8000000 in
set_option maxRecDepth 100000 in
theorem law3 (a0 a1 : Option Addr) (c0 c1 : Nat) (A O : List Int) (mv n pre k : Int) (w : World) (hA : A.length ≤ 9223372036854775807) (hO : O.length ≤ 9223372036854775807)
    (hmv1 : -9223372036854775808 ≤ mv) (hmv2 : mv ≤ 9223372036854775807) (hk1 : -9223372036854775808 ≤ k) (hk2 : k ≤ 9223372036854775807)
    (hwA : ∀ x ∈ A, 0 ≤ x ∧ x ≤ 18446744073709551615) (hwO : ∀ x ∈ O, 0 ≤ x ∧ x ≤ 18446744073709551615) (h0 : URaw w a0 A) (h1 : URaw w a1 O) :
    Calls Trym.prog 3 #[.slice a0 A.length c0, .slice a1 O.length c1, .int .i64 mv, .int .i64 n, .int .u64 pre, .int .i64 k] w fun e w' => e = .returned (.bool true) ∧ Below w.heap.size w w' := by
  have H0 : Hid (URaw w a0 A) := h0
  have H1 : Hid (URaw w a1 O) := h1
  have HWA : Hid (∀ x ∈ A, 0 ≤ x ∧ x ≤ 18446744073709551615) := hwA
  have HW : Hid (∀ x ∈ O, 0 ≤ x ∧ x ≤ 18446744073709551615) := hwO
  obtain ⟨i0, hi, hz0, hz1, hz2⟩ := info_parts Trym.info23
  clear h0 h1 hwO hwA
  go_enter Trym.func3, Trym.ntmps3
  go_wp2_with fail
  refine (bytes5 a0 a1 A.length c0 O.length c1 mv n pre k w hA hO).mono ?_
  rintro e wx ⟨rfl, x, rfl⟩
  cases x
  · go_wp2_with fail
    go_ret
    exact ⟨rfl, Below.refl _ _⟩
  by_cases hA2 : A.length ≤ 8192
  case neg =>
    go_wp2_with fail
    go_ret
    exact ⟨rfl, Below.refl _ _⟩
  by_cases hO2 : O.length ≤ 8192
  case neg =>
    go_wp2_with fail
    go_ret
    exact ⟨rfl, Below.refl _ _⟩
  by_cases hL0 : A.length = 0
  · have hL0' : ((A.length : Int) == 0) = true := by simp [hL0]
    clear hL0
    go_wp2_with fail
    go_ret
    exact ⟨rfl, Below.refl _ _⟩
  have hL0' : ((A.length : Int) == 0) = false := by rw [beq_eq_false_iff_ne]; omega
  have hLp : 0 < A.length := by omega
  clear hL0
  have hpt := pow_test A.length hLp hA2
  by_cases hp : A.length &&& (A.length - 1) = 0
  case neg =>
    have hpt' : (bits .and .i64 (A.length : Int) ((A.length : Int) - 1) != 0) = true := by rw [hpt]; simp [hp]
    clear hpt hp
    go_wp2_with fail
    go_ret
    exact ⟨rfl, Below.refl _ _⟩
  have hpt' : (bits .and .i64 (A.length : Int) ((A.length : Int) - 1) != 0) = false := by rw [hpt]; simp [hp]
  have HP : Hid (A.length &&& (A.length - 1) = 0) := hp
  clear hpt hp
  by_cases hmv : mv < 0
  · go_wp2_with fail
    go_ret
    exact ⟨rfl, Below.refl _ _⟩
  by_cases hmo : (O.length : Int) < mv
  · go_wp2_with fail
    go_ret
    exact ⟨rfl, Below.refl _ _⟩
  obtain ⟨m, rfl⟩ : ∃ m : Nat, mv = m := ⟨mv.toNat, by omega⟩
  have hm : m ≤ O.length := by omega
  have hst := stepsOf_le O.length m k hm
  go_wp2_with fail
  refine (steps6 O.length m k w hO2 hm).mono ?_
  rintro e wx ⟨rfl, rfl⟩
  obtain ⟨st, hste⟩ : ∃ st, st = stepsOf O.length m k := ⟨_, rfl⟩
  rw [← hste] at hst ⊢
  have HST : Hid (st = stepsOf O.length m k) := hste
  clear hste
  go_wp2_with fail
  refine (countFree7 a0 c0 A w hA2 H0.out).mono ?_
  rintro e wx ⟨rfl, rfl⟩
  go_wp2_with fail
  refine (placeable8 a1 c1 O m st w hO2 hst H1.out).mono ?_
  rintro e w1 ⟨v, rfl, hown, hb1w⟩
  obtain ⟨pa, pcap, hv⟩ := own_form hown
  subst hv
  clear hown
  by_cases hcf : cf A < pc O m st
  · go_wp2_with fail
    go_ret
    exact ⟨rfl, hb1w⟩
  have HCF : Hid (pc O m st ≤ cf A) := by show _ ≤ _; omega
  have hcf' : ¬ ((cf A : Nat) : Int) < ((pc O m st : Nat) : Int) := by omega
  clear hcf
  go_wp2_with fail
  refine (clone9 a0 c0 A w1 hA2 (H0.out.keep hb1w)).mono ?_
  rintro e w2 ⟨vs, rfl, hcls, hb12⟩
  have hvs : vs = .slice (some ⟨w1.heap.size, 0, none⟩) A.length A.length ∧ URaw w2 (some ⟨w1.heap.size, 0, none⟩) A := by
    rcases hcls with ⟨_, _, h⟩ | ⟨_, h, h3⟩
    · rw [h] at hLp; simp at hLp
    · exact ⟨h, own_raw h3⟩
  obtain ⟨hvs, hUs2⟩ := hvs
  subst hvs
  have hb02 : Below w.heap.size w w2 := hb1w.trans (hb12.mono hb1w.size)
  clear hcls
  go_wp2_with fail
  refine (clone9 a1 c1 O w2 hO2 (H1.out.keep hb02)).mono ?_
  rintro e w3 ⟨vo, rfl, hclo, hb23⟩
  obtain ⟨ao, co, hvo, hUo3, hnil, _⟩ := hclo.form
  subst hvo
  have hb03 : Below w.heap.size w w3 := hb02.trans (hb23.mono hb02.size)
  have HUs : Hid (URaw w3 (some ⟨w1.heap.size, 0, none⟩) A) := hUs2.keep hb23
  have HUo : Hid (URaw w3 ao O) := hUo3
  clear hUs2 hUo3 hclo hb12 hb23 hb02 hb1w hnil
  go_wp2_with fail
  refine (placeable8 ao co O m st w3 hO2 hst HUo.out).mono ?_
  rintro e w4 ⟨v, rfl, hown, hb34⟩
  obtain ⟨wa, wcap, hv⟩ := own_form hown
  subst hv
  obtain ⟨hpl, hUw⟩ := own_raw2 hown
  have HUw : Hid (URaw w4 wa (pls O m st)) := hUw
  have HPL : Hid ((pls O m st).length = pc O m st) := hpl
  have HUs4 : Hid (URaw w4 (some ⟨w1.heap.size, 0, none⟩) A) := HUs.out.keep hb34
  have HUo4 : Hid (URaw w4 ao O) := HUo.out.keep hb34
  have hb04 : Below w.heap.size w w4 := hb03.trans (hb34.mono hb03.size)
  clear hown hUw hpl HUs HUo hb34 hb03
  go_wp2_with fail
  refine (clone9 (some ⟨w1.heap.size, 0, none⟩) A.length A w4 hA2 (HUs4.out)).mono ?_
  rintro e wa1 ⟨va1, rfl, hcla1, hba1⟩
  obtain ⟨hva1, hrow1, hlt1⟩ := hcla1.slots hLp
  subst hva1
  clear hcla1
  go_wp2_with fail
  refine (clone9 ao co O wa1 hO2 ((HUo4.out).keep hba1)).mono ?_
  rintro e wb1 ⟨vb1, rfl, hclb1, hbb1⟩
  obtain ⟨ob1, cb1, hvb1, hUb1, hnil1, hor1⟩ := hclb1.form
  subst hvb1
  have hcap1 := hclb1.cap
  have hobl1 := hclb1.lt
  have hsb1 := hbb1.size
  have hsa1 := hba1.size
  clear hclb1
  go_wp2_with fail
  refine (newHashed10 w4.heap.size w4.heap.size A.length A ob1 O.length cb1 m n pre wb1 (by omega) (by omega) (ownsRow_below hrow1 hbb1)).mono ?_
  rintro e wc1 ⟨rfl, hT1, hbc1, hsc1⟩
  have hOl1 : Ol wc1 wb1.heap.size w4.heap.size (.slice ob1 O.length cb1) O := Ol.of_raw (hUb1.keep hbc1) hor1 hcap1 (fun e => by have := hobl1 e; omega) (fun e => by have := hobl1 e; omega)
  have hbe1 : Below w4.heap.size w4 wc1 := hba1.trans ((hbb1.trans (hbc1.mono hsb1)).mono hsa1)
  clear hrow1 hUb1 hba1 hbb1 hbc1 hcap1
  have HCF2 : Hid (pc O m (stepsOf O.length m k) ≤ cf A) := by have := HCF.out; rw [HST.out] at this; exact this
  go_wp2_with fail
  refine (zzmove11 w4.heap.size wb1.heap.size w4.heap.size A.length A O _ m m n pre k wc1 rfl hLp hA2 hO2 hm hk1 hk2 HW.out HP.out HCF2.out hT1 hOl1).mono ?_
  rintro e w9 ⟨rfl, hM⟩
  rw [← HST.out] at hM
  have hb49 : Below w4.heap.size w4 w9 := hbe1.trans (hM.but.below (by omega) (Nat.le_refl _) (by omega))
  obtain ⟨a', l', c', m', hT9, h13⟩ := moved_old (co := co) hO2 hM hOl1 hnil1 (HUo4.out.keep hb49)
  have HB09 : Hid (Below w.heap.size w w9) := hb04.trans (hb49.mono hb04.size)
  have HK : Hid (Kept A (mvs A A.length O m st) A.length (pls O m st)) := kept_mvs A A.length O m st rfl hLp HCF.out
  have HGB : Hid (∀ x ∈ mvs A A.length O m st, 0 ≤ x ∧ x ≤ 18446744073709551615) := mvs_bd A A.length O m st HWA.out HW.out
  obtain ⟨G, hG⟩ : ∃ G, G = mvs A A.length O m st := ⟨_, rfl⟩
  rw [← hG] at hT9 HK HGB
  have HUs9 : Hid (URaw w9 (some ⟨w1.heap.size, 0, none⟩) A) := HUs4.out.keep hb49
  have HUw9 : Hid (URaw w9 wa (pls O m st)) := HUw.out.keep hb49
  have HUg9 : Hid (URaw w9 (some ⟨w4.heap.size, 0, none⟩) G) := hT9.raw
  have H13 : Hid (_) := h13
  clear hG h13 hM hOl1 hT1 hbe1 hb49 HUs4 HUw HUo4 hor1 hobl1 hnil1 hb04
  go_wp2_with fail
  refine (fields12 _ _ _ A.length G a' l' c' m' n pre w9 hT9).mono ?_
  rintro e wy ⟨rfl, k1, rfl⟩
  clear hT9
  have hnn := ne_self n
  have hpp := ne_self pre
  have hll := ne_self (A.length : Int)
  go_wp2_with fail
  refine (H13.out k1).mono ?_
  rintro e wy ⟨rfl, k2, rfl⟩
  have hpcl := pc_le O m st
  go_wp2_with (at_make; refine wpList_make_own _ rfl _ _ 22 rfl w9.heap.size 23 i0 (.int .u64 0) 1 Trym.underlying22 hi hz0 hz1 .i64 .i64 _ (pc O m st) rfl rfl rfl ?_ ?_ ?_ ?_)
  · rw [hz2]; omega
  · unfold maxLen; omega
  · exact Nat.le_refl _
  intro w10 hown10 hgrow10
  have hb10 : Below w9.heap.size w9 w10 := (below_drewN (Below.refl _ _) _).grown hgrow10 (Nat.le_refl _) (by simp)
  clear hgrow10
  have HG10 : Hid (Got w9 w10 (.slice (some ⟨w9.heap.size, 0, none⟩) 0 (pc O m st)) A G 0) := ⟨hown10, hb10⟩
  have HGL : Hid (G.length = A.length) := HK.out.len
  clear hown10 hb10
  go_wp2
  go_loopw [22, 23] (fun v vi wr => ∃ t : Nat, t ≤ A.length ∧ vi = .int .i64 t ∧ Hid (Got w9 wr v A G t)) (fun _ vi _ => A.length - (intOf vi).toNat)
  case atStart => exact ⟨0, Nat.zero_le _, rfl, HG10⟩
  case round =>
    obtain ⟨t, ht, rfl, HG⟩ := hrel
    clear HG10
    obtain ⟨ga, gc, hv⟩ := own_form HG.out.1
    subst hv
    have hqle := nw_take_le A G t
    have hnl : (nw A G).length = pc O m st := by rw [HK.out.news.length_eq]; exact HPL.out
    obtain ⟨q, hq⟩ : ∃ q, q = (nw (A.take t) (G.take t)).length := ⟨_, rfl⟩
    rw [← hq] at hqle ⊢
    have HQ : Hid (q = (nw (A.take t) (G.take t)).length) := hq
    clear hq
    by_cases hlt : t < A.length
    · have hcA : wr.cell? ⟨w1.heap.size, t, none⟩ = some (.int .u64 (A.getD t 0)) := by
        obtain ⟨b, off, e, hc⟩ := (HUs9.out.keep HG.out.2).2 (by omega)
        injection e with e
        injection e with e1 e2
        subst e1 e2
        have := hc t hlt
        rwa [Nat.zero_add] at this
      have hallG : ∀ j, j < A.length → wr.cell? ⟨w4.heap.size, j, none⟩ = some (.int .u64 (G.getD j 0)) := by
        obtain ⟨b, off, e, hc⟩ := (HUg9.out.keep HG.out.2).2 (by rw [HGL.out]; omega)
        injection e with e
        injection e with e1 e2
        subst e1 e2
        intro j hj
        have := hc j (by rw [HGL.out]; exact hj)
        rwa [Nat.zero_add] at this
      have hcG := hallG t hlt
      have HALL : Hid (∀ j, j < A.length → wr.cell? ⟨w4.heap.size, j, none⟩ = some (.int .u64 (G.getD j 0))) := hallG
      obtain ⟨x, hx⟩ : ∃ x, x = A.getD t 0 := ⟨_, rfl⟩
      obtain ⟨y, hy⟩ : ∃ y, y = G.getD t 0 := ⟨_, rfl⟩
      have HX : Hid (x = A.getD t 0 ∧ y = G.getD t 0) := ⟨hx, hy⟩
      rw [← hx] at hcA
      rw [← hy] at hcG
      clear hx hy hallG
      have i0' : (0 : Int) ≤ (t : Int) := by omega
      have i1' : (t : Int) < (A.length : Int) := by omega
      by_cases hx0 : x = 0
      · have hxb : (x != 0) = false := by simp [hx0]
        by_cases hy0 : y = 0
        · have hyb : (y != 0) = false := by simp [hy0]
          have HN : Hid (Got w9 wr (.slice ga q gc) A G (t + 1)) := by
            have hh := HG.out
            rw [← HQ.out] at hh
            exact hh.next hlt HGL.out (by rw [← HX.out.2]; exact fun h => h.2 hy0)
          clear hx0 hy0
          go_wp2
          go_roundw
          case rel => exact ⟨t + 1, by omega, by go_num, HN⟩
          case measure => simp [intOf]; omega
        · have hyb : (y != 0) = true := by simp [hy0]
          have hA0 : A.getD t 0 = 0 := by rw [← HX.out.1]; exact hx0
          have hG0 : G.getD t 0 ≠ 0 := by rw [← HX.out.2]; exact hy0
          have HNW : Hid (nw (A.take (t + 1)) (G.take (t + 1)) = nw (A.take t) (G.take t) ++ [y]) := by
            have e := nw_take A G t hlt (by rw [HGL.out]; exact hlt)
            rw [if_pos ⟨hA0, hG0⟩, ← HX.out.2] at e
            exact e
          have hq1 : q + 1 ≤ pc O m st := by
            have h1 := nw_take_le A G (t + 1)
            rw [HNW.out, List.length_append, ← HQ.out, hnl] at h1
            exact h1
          have hqb : ((q : Int) == ((pc O m st : Nat) : Int)) = false := by rw [beq_eq_false_iff_ne]; omega
          have HCH : Hid (Chain G A.length t) := HK.out.chain t hlt hA0 hG0
          have hown : wr.ownsRow w9.heap.size 23 1 (.slice ga q gc) q ((nw (A.take t) (G.take t)).map (Value.int .u64)) := by
            have := HG.out.1
            rw [← HQ.out] at this
            exact this
          have hbel := HG.out.2
          clear hx0 hy0 hA0 hG0
          go_wp2_with fail
          refine (chain14 w4.heap.size A.length G t wr hLp hA2 HP.out hlt (getD_bd HGB.out) HALL.out HCH.out).mono ?_
          rintro e wx ⟨rfl, rfl⟩
          go_wp2_with (at_builtin; refine wpList_append_own _ rfl _ _ 22 rfl w9.heap.size 23 i0 (.int .u64 0) 1 8 Trym.underlying22 hi hz0 hz1 hz2 rfl (by decide) _ _ _ rfl (hown.alloc _) ⟨wr.heap.size, 0, none⟩ 1 1 [.int .u64 y] rfl rfl ?c1 ?c2 ?c3 ?c4 ?c5 ?_)
          case c1 =>
            intro j u hj
            match j, hj with
            | 0, hj => simp at hj; subst hj; simp [Addr.add]
          case c2 => first | rfl | (intro u hu; simp at hu; subst hu; rfl)
          case c3 => unfold maxLen; omega
          case c4 => omega
          case c5 => have := hbel.size; simp; omega
          intro v' w2' hown2 hgrow2 _
          have hb2 : Below w9.heap.size w9 w2' := (hbel.alloc hbel.size _).grown hgrow2 (by have := hbel.size; simp; omega) (fun b hb => own_block hown hb)
          have HN : Hid (Got w9 w2' v' A G (t + 1)) := by
            refine ⟨?_, hb2⟩
            rw [HNW.out, List.length_append, List.map_append, ← HQ.out]
            exact hown2
          clear hown hown2 hgrow2 hbel hb2
          go_wp2
          go_roundw
          case rel => exact ⟨t + 1, by omega, by go_num, HN⟩
          case measure => simp [intOf]; omega
      · have hxb : (x != 0) = true := by simp [hx0]
        have hyx : y = x := by rw [HX.out.1, HX.out.2]; exact HK.out.stay t (by rw [← HX.out.1]; exact hx0)
        have HN : Hid (∀ q', Got w9 (wr.drewN q') (.slice ga q gc) A G (t + 1)) := by
          intro q'
          have hh := HG.out
          rw [← HQ.out] at hh
          exact (hh.next hlt HGL.out (by rw [← HX.out.1]; exact fun h => hx0 h.1)).drewN q'
        subst hyx
        have hne := ne_self y
        clear hx0
        go_wp2
        go_quiet (fail)
        go_wp2
        go_roundw
        case rel => exact ⟨t + 1, by omega, by go_num, HN.out _⟩
        case measure => simp [intOf]; omega
    · have hte : t = A.length := by omega
      have hqe : q = pc O m st := by
        have h1 := HQ.out
        rw [hte, List.take_of_length_le (Nat.le_refl _), List.take_of_length_le (by rw [HGL.out]; exact Nat.le_refl _), hnl] at h1
        exact h1
      have HUG : Hid (URaw wr ga (nw A G)) := by
        have h1 := HG.out.1
        rw [← HQ.out] at h1
        have h2 := (own_raw2 h1).2
        rw [hte, List.take_of_length_le (Nat.le_refl _), List.take_of_length_le (by rw [HGL.out]; exact Nat.le_refl _)] at h2
        exact h2
      subst hqe
      clear hte
      go_wp2_with fail
      refine (multi15 ga wa (pc O m st) gc wcap (nw A G) (pls O m st) wr hnl HPL.out (by omega) HK.out.news HUG.out (HUw9.out.keep HG.out.2)).mono ?_
      rintro e wz ⟨rfl, hbz⟩
      go_wp2
      go_ret
      exact ⟨rfl, HB09.out.trans ((HG.out.2.trans (hbz.mono HG.out.2.size)).mono HB09.out.size)⟩

end Go.Proofs.Qxb6604563aMods
