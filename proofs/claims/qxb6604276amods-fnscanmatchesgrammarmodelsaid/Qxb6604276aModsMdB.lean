import Derived.Test.Qxb6604276aModsMdA
import Derived.Test.Qxb6604276aModsPlainB
import Derived.Deep.Cut
import Derived.Deep.CutRange
namespace Go.Proofs.Qxb6604276aMods
open Go.RowKit Gram

/-- The cells of the model's struct in block B. -/
def Mo (w : World) (base B : Nat) (neg : Bool) (t : ByteArray) (d p c : Int) (ok : Bool) : Prop :=
  w.ownsRow base 27 6 (.slice (some ⟨B, 0, none⟩) 1 1) 1 [.bool neg, .string t, .int .i64 d, .int .i64 p, .int .u64 c, .bool ok]

theorem Mo.fresh (w : World) (o : Obj) (neg : Bool) (t : ByteArray) (d p c : Int) (ok : Bool) :
    Mo ((w.alloc o).alloc (.cells #[.bool neg, .string t, .int .i64 d, .int .i64 p, .int .u64 c, .bool ok] 27)) (w.heap.size + 1) (w.heap.size + 1) neg t d p c ok := by
  have h := World.ownsRow_lit (base := w.heap.size + 1) (size := 6) (e := 27) (w.alloc o) #[.bool neg, .string t, .int .i64 d, .int .i64 p, .int .u64 c, .bool ok] 1 (by simp) (by decide) rfl
  rw [World.size_alloc] at h
  exact h

structure MoCells (w : World) (B : Nat) (neg : Bool) (t : ByteArray) (d p c : Int) (ok : Bool) : Prop where
  c0 : w.cell? ⟨B, 0, none⟩ = some (.bool neg)
  c1 : w.cell? ⟨B, 1, none⟩ = some (.string t)
  c2 : w.cell? ⟨B, 2, none⟩ = some (.int .i64 d)
  c3 : w.cell? ⟨B, 3, none⟩ = some (.int .i64 p)
  c4 : w.cell? ⟨B, 4, none⟩ = some (.int .u64 c)
  c5 : w.cell? ⟨B, 5, none⟩ = some (.bool ok)
  f2 : w.frozen? ⟨B, 2, none⟩ = false
  f3 : w.frozen? ⟨B, 3, none⟩ = false
  f4 : w.frozen? ⟨B, 4, none⟩ = false
  f5 : w.frozen? ⟨B, 5, none⟩ = false

theorem Mo.cells {w : World} {base B : Nat} {neg : Bool} {t : ByteArray} {d p c : Int} {ok : Bool} (h : Mo w base B neg t d p c ok) : MoCells w B neg t d p c ok :=
  ⟨h.cellAt 0 (by omega), h.cellAt 1 (by omega), h.cellAt 2 (by omega), h.cellAt 3 (by omega), h.cellAt 4 (by omega), h.cellAt 5 (by omega), h.frozenAt 2, h.frozenAt 3, h.frozenAt 4, h.frozenAt 5⟩

theorem Mo.digits {w : World} {base B : Nat} {neg : Bool} {t : ByteArray} {d p c : Int} {ok : Bool} (h : Mo w base B neg t d p c ok) (d' : Int) :
    Mo (w.setCell ⟨B, 2, none⟩ (.int .i64 d')) base B neg t d' p c ok := (h.stored 2 (.int .i64 d')).1

theorem Mo.point {w : World} {base B : Nat} {neg : Bool} {t : ByteArray} {d p c : Int} {ok : Bool} (h : Mo w base B neg t d p c ok) (p' : Int) :
    Mo (w.setCell ⟨B, 3, none⟩ (.int .i64 p')) base B neg t d p' c ok := (h.stored 3 (.int .i64 p')).1

theorem Mo.verdict {w : World} {base B : Nat} {neg : Bool} {t : ByteArray} {d p c : Int} {ok : Bool} (h : Mo w base B neg t d p c ok) (ok' : Bool) :
    Mo (w.setCell ⟨B, 5, none⟩ (.bool ok')) base B neg t d p c ok' := (h.stored 5 (.bool ok')).1

theorem Mo.coeff {w : World} {base B : Nat} {neg : Bool} {t : ByteArray} {d p c : Int} {ok : Bool} (h : Mo w base B neg t d p c ok) (c' : Int) :
    Mo (w.setCell ⟨B, 4, none⟩ (.int .u64 c')) base B neg t d p c' ok := (h.stored 4 (.int .u64 c')).1

theorem Mo.drew {w : World} {base B : Nat} {neg : Bool} {t : ByteArray} {d p c : Int} {ok : Bool} (h : Mo w base B neg t d p c ok) : Mo w.drew base B neg t d p c ok := h

def MoEnds (neg : Bool) (t : ByteArray) (e : Ending) : Prop :=
  ∃ E : Nat, Stop t E ∧ e = .returned (.agg #[.bool neg, .string t, .int .i64 (ss t E).1, .int .i64 (ss t E).2.1, .int .u64 (ss t E).2.2, .bool (okB t E)])

theorem mo_of {neg : Bool} {t : ByteArray} {E : Nat} {d p c : Int} {ok : Bool} (h : Agrees t E d p c ok) : MoEnds neg t (.returned (.agg #[.bool neg, .string t, .int .i64 d, .int .i64 p, .int .u64 c, .bool ok])) :=
  ⟨E, h.stop, by rw [h.st, h.ok]⟩

theorem agrees_pointI {t : ByteArray} {I F : Nat} {fr : Int} (h : Run (byteAt t) t.size 0 I) (h0 : 0 < I) (h46 : byteAt t I = 46) (h2 : Run (byteAt t) t.size (I + 1) F) (hfr : Hid (fr = (F : Int) - ((I : Int) + 1))) (ok : Bool) (hok : ok = (decide (F = t.size) && decide (I + 1 < F))) :
    Agrees t F ((I : Int) + fr) (I : Int) (W (V (byteAt t) F)) ok := by
  have := agrees_point h h0 h46 h2 ok hok
  rw [show (((I + 1 : Nat)) : Int) = (I : Int) + 1 from by omega, ← hfr.out] at this
  exact this

set_option maxHeartbeats 4000000 in
set_option maxRecDepth 100000 in
theorem model8 (s : ByteArray) (w : World) (hn : s.size ≤ 1048577) :
    Calls Trym.prog 8 #[.string s] w fun e w' => MoEnds (isNeg s) (textOf s) e ∧ Below w.heap.size w w' := by
  have hcase : ¬ 0 < s.size ∨ (∃ h : 0 < s.size, (((s[0]'h).toNat : Int) == 45) = false) ∨ (∃ h : 0 < s.size, (((s[0]'h).toNat : Int) == 45) = true) := by
    by_cases h : 0 < s.size
    · cases hb : (((s[0]'h).toNat : Int) == 45)
      · exact .inr (.inl ⟨h, hb⟩)
      · exact .inr (.inr ⟨h, hb⟩)
    · exact .inl h
  rcases hcase with hs | ⟨hs, hne⟩ | ⟨hs, hne⟩
  case' inl =>
    have HN0 : Hid (isNeg s = false) := by show _ = _; simp [isNeg, byteAt, hs]
    have HT0 : Hid (textOf s = s) := by show _ = _; rw [textOf, HN0.out]; rfl
    go_enter Trym.func8, Trym.ntmps8
    go_wp2_with fail
    obtain ⟨W0, hW0⟩ : ∃ W0, W0 = (w.alloc (.cells #[.bool false, .string { data := #[] }, .int .i64 0, .int .i64 0, .int .u64 0, .bool false] 27)).alloc (.cells #[.bool false, .string (s), .int .i64 0, .int .i64 0, .int .u64 0, .bool false] 27) := ⟨_, rfl⟩
    rw [← hW0]
    obtain ⟨t, ht⟩ : ∃ t, t = s := ⟨_, rfl⟩
    obtain ⟨neg, hneg⟩ : ∃ b : Bool, b = false := ⟨_, rfl⟩
    have HT : Hid (textOf s = t) := by rw [ht]; exact HT0
    have HN : Hid (isNeg s = neg) := by rw [hneg]; exact HN0
    have hM0 : Mo W0 (w.heap.size + 1) (w.heap.size + 1) neg t 0 0 0 false := by rw [hW0, ht, hneg]; exact Mo.fresh w _ false _ 0 0 0 false
    have hB0 : Below (w.heap.size + 1) (w.alloc (.cells #[.bool false, .string { data := #[] }, .int .i64 0, .int .i64 0, .int .u64 0, .bool false] 27)) W0 := by rw [hW0]; exact (Below.refl _ _).alloc (by simp) _
    have htn : t.size ≤ 1048577 := by rw [ht]; exact hn
    clear hneg HT0 HN0 hW0
    subst ht
  case' inr.inl =>
    have HN0 : Hid (isNeg s = false) := by show _ = _; rw [isNeg, byteAt_lt hs]; exact hne
    have HT0 : Hid (textOf s = s) := by show _ = _; rw [textOf, HN0.out]; rfl
    go_enter Trym.func8, Trym.ntmps8
    go_wp2_with fail
    obtain ⟨W0, hW0⟩ : ∃ W0, W0 = (w.alloc (.cells #[.bool false, .string { data := #[] }, .int .i64 0, .int .i64 0, .int .u64 0, .bool false] 27)).alloc (.cells #[.bool false, .string (s), .int .i64 0, .int .i64 0, .int .u64 0, .bool false] 27) := ⟨_, rfl⟩
    rw [← hW0]
    obtain ⟨t, ht⟩ : ∃ t, t = s := ⟨_, rfl⟩
    obtain ⟨neg, hneg⟩ : ∃ b : Bool, b = false := ⟨_, rfl⟩
    have HT : Hid (textOf s = t) := by rw [ht]; exact HT0
    have HN : Hid (isNeg s = neg) := by rw [hneg]; exact HN0
    have hM0 : Mo W0 (w.heap.size + 1) (w.heap.size + 1) neg t 0 0 0 false := by rw [hW0, ht, hneg]; exact Mo.fresh w _ false _ 0 0 0 false
    have hB0 : Below (w.heap.size + 1) (w.alloc (.cells #[.bool false, .string { data := #[] }, .int .i64 0, .int .i64 0, .int .u64 0, .bool false] 27)) W0 := by rw [hW0]; exact (Below.refl _ _).alloc (by simp) _
    have htn : t.size ≤ 1048577 := by rw [ht]; exact hn
    clear hneg HT0 HN0 hW0
    subst ht
  case' inr.inr =>
    have HN0 : Hid (isNeg s = true) := by show _ = _; rw [isNeg, byteAt_lt hs]; exact hne
    have HT0 : Hid (textOf s = s.extract 1 s.size) := by show _ = _; rw [textOf, HN0.out]; rfl
    go_enter Trym.func8, Trym.ntmps8
    go_wp2_with fail
    obtain ⟨W0, hW0⟩ : ∃ W0, W0 = (w.alloc (.cells #[.bool false, .string { data := #[] }, .int .i64 0, .int .i64 0, .int .u64 0, .bool false] 27)).alloc (.cells #[.bool true, .string (s.extract 1 s.size), .int .i64 0, .int .i64 0, .int .u64 0, .bool false] 27) := ⟨_, rfl⟩
    rw [← hW0]
    obtain ⟨t, ht⟩ : ∃ t, t = s.extract 1 s.size := ⟨_, rfl⟩
    obtain ⟨neg, hneg⟩ : ∃ b : Bool, b = true := ⟨_, rfl⟩
    have HT : Hid (textOf s = t) := by rw [ht]; exact HT0
    have HN : Hid (isNeg s = neg) := by rw [hneg]; exact HN0
    have hM0 : Mo W0 (w.heap.size + 1) (w.heap.size + 1) neg t 0 0 0 false := by rw [hW0, ht, hneg]; exact Mo.fresh w _ true _ 0 0 0 false
    have hB0 : Below (w.heap.size + 1) (w.alloc (.cells #[.bool false, .string { data := #[] }, .int .i64 0, .int .i64 0, .int .u64 0, .bool false] 27)) W0 := by rw [hW0]; exact (Below.refl _ _).alloc (by simp) _
    have htn : t.size ≤ 1048577 := by rw [ht]; rw [ByteArray.size_extract]; omega
    rw [← ht]
    clear ht hneg HT0 HN0 hW0
  all_goals
    refine (digitRun12 t 0 0 rfl _ htn (Nat.zero_le _)).mono ?_
    rintro e wx ⟨rfl, I, hI, rfl⟩
    rw [Int.sub_zero]
    obtain ⟨c0, c1, c2, c3, c4, c5, f2, f3, f4, f5⟩ := hM0.cells
    have HM0 : Hid (Mo W0 (w.heap.size + 1) (w.heap.size + 1) neg t 0 0 0 false) := hM0
    clear hM0
    have hIn := hI.hi
    obtain ⟨dot, hdot⟩ : ∃ b : Bool, b = decide (0 < I ∧ I < t.size ∧ byteAt t I = 46) := ⟨_, rfl⟩
    go_upto_region 8 with fail
    go_cut [6] from 11 (fun s6 wc => s6 = .bool dot ∧ W0 = wc)
    case first =>
      have HD : Hid (dot = decide (0 < I ∧ I < t.size ∧ byteAt t I = 46)) := hdot
      clear hdot
      by_cases h1 : 0 < I
      · by_cases h2 : I < t.size
        · by_cases h3 : byteAt t I = 46
          · have h4 : (((t[I]'h2).toNat : Int) == 46) = true := by rw [← byteAt_lt h2]; simp [h3]
            clear h3
            go_wp2
            go_meet
            case rel => exact ⟨by rw [HD.out]; simp [h1, h2, byteAt_lt h2]; simpa using h4, rfl⟩
          · have h4 : (((t[I]'h2).toNat : Int) == 46) = false := by rw [← byteAt_lt h2]; simp [h3]
            have HH : Hid (¬ byteAt t I = 46) := h3
            clear h3
            go_wp2
            go_meet
            case rel => exact ⟨by rw [HD.out, decide_eq_false (fun h => HH.out h.2.2)], rfl⟩
        · go_wp2
          go_meet
          case rel => exact ⟨by rw [HD.out, decide_eq_false (fun h => h2 h.2.1)], rfl⟩
      · go_wp2
        go_meet
        case rel => exact ⟨by rw [HD.out, decide_eq_false (fun h => h1 h.1)], rfl⟩
    case rest =>
      obtain ⟨rfl, rfl⟩ := hcut
      cases dot
      · have hnd : ¬ (0 < I ∧ I < t.size ∧ byteAt t I = 46) := of_decide_eq_false hdot.symm
        have HND : Hid (¬ (0 < I ∧ I < t.size ∧ byteAt t I = 46)) := hnd
        clear hdot hnd
        go_wp2
        have HSTART := (HM0.out.point (-1)).digits (I : Int)
        have HBSTART := (hB0.setCell (p := ⟨w.heap.size + 1, 3, none⟩) (by simp) (.int .i64 (-1))).setCell (p := ⟨w.heap.size + 1, 2, none⟩) (by simp) (.int .i64 (I : Int))
        clear HM0 hB0 c0 c1 c2 c3 c4 c5 f2 f3 f4 f5
        go_loopw [9, 10] (fun vp vj wr => ∃ (q : Nat) (P S : Int), q ≤ I ∧ vp = .int .u64 (W P) ∧ vj = .int .i64 ((q : Int) - 1) ∧ Hid (V (byteAt t) I = V (byteAt t) q * P + S) ∧ Mo wr (w.heap.size + 1) (w.heap.size + 1) neg t ((I : Int)) (-1) (W S) false ∧ Below (w.heap.size + 1) (w.alloc (.cells #[.bool false, .string { data := #[] }, .int .i64 0, .int .i64 0, .int .u64 0, .bool false] 27)) wr)
          (fun _ vj _ => (intOf vj + 1).toNat)
        case atStart => exact ⟨I, 1, 0, Nat.le_refl _, by rw [show W 1 = 1 from by decide], by go_num, by show _ = _; omega, HSTART, HBSTART⟩
        case round =>
          obtain ⟨q, P, S, hq, rfl, rfl, HV, hM, hbr⟩ := hrel
          obtain ⟨d0, d1, d2, d3, d4, d5, g2, g3, g4, g5⟩ := hM.cells
          have HM : Hid (Mo wr (w.heap.size + 1) (w.heap.size + 1) neg t ((I : Int)) (-1) (W S) false) := hM
          clear hM
          cases q with
          | zero =>
            have HS : Hid (S = V (byteAt t) I) := by
              have := HV.out
              rw [show V (byteAt t) 0 = 0 from rfl, Int.zero_mul, Int.zero_add] at this
              exact this.symm
            rw [show (((0 : Nat) : Int) - 1) = -1 from rfl]
            have z0 : wr.cell? ⟨w.heap.size, 0, none⟩ = some (.bool false) := (hbr.cell (by simp)).trans (by simp)
            have y0 : wr.frozen? ⟨w.heap.size, 0, none⟩ = false := (hbr.frozen (by simp)).trans (by simp)
            have z1 : wr.cell? ⟨w.heap.size, 1, none⟩ = some (.string { data := #[] }) := (hbr.cell (by simp)).trans (by simp)
            have y1 : wr.frozen? ⟨w.heap.size, 1, none⟩ = false := (hbr.frozen (by simp)).trans (by simp)
            have z2 : wr.cell? ⟨w.heap.size, 2, none⟩ = some (.int .i64 0) := (hbr.cell (by simp)).trans (by simp)
            have y2 : wr.frozen? ⟨w.heap.size, 2, none⟩ = false := (hbr.frozen (by simp)).trans (by simp)
            have z3 : wr.cell? ⟨w.heap.size, 3, none⟩ = some (.int .i64 0) := (hbr.cell (by simp)).trans (by simp)
            have y3 : wr.frozen? ⟨w.heap.size, 3, none⟩ = false := (hbr.frozen (by simp)).trans (by simp)
            have z4 : wr.cell? ⟨w.heap.size, 4, none⟩ = some (.int .u64 0) := (hbr.cell (by simp)).trans (by simp)
            have y4 : wr.frozen? ⟨w.heap.size, 4, none⟩ = false := (hbr.frozen (by simp)).trans (by simp)
            have z5 : wr.cell? ⟨w.heap.size, 5, none⟩ = some (.bool false) := (hbr.cell (by simp)).trans (by simp)
            have y5 : wr.frozen? ⟨w.heap.size, 5, none⟩ = false := (hbr.frozen (by simp)).trans (by simp)
            have HBW0 : ∀ v, Below w.heap.size w (wr.setCell ⟨w.heap.size + 1, 5, none⟩ v) := fun v => (((Below.refl w.heap.size w).alloc (Nat.le_refl _) _).trans (hbr.mono (by omega))).setCell (by simp) _
            by_cases e1 : I = t.size
            · have E1 : Hid (I = t.size) := e1
              have b1 : ((I : Int) == (t.size : Int)) = true := by simp [e1]
              clear e1
              by_cases e2 : (0 : Nat) < I
              · first
                  | (exfalso; have h9 := E1.out; omega)
                  | (have HBW := HBW0 (.bool true)
                     go_wp2
                     refine bodyPost_ret (v := .agg #[.bool neg, .string t, .int .i64 ((I : Int)), .int .i64 (-1), .int .u64 (W S), .bool true]) (by simp [results, Trym.results8, go_sem, z0, z1, z2, z3, z4, z5]) rfl ⟨?_, ?_⟩
                     · rw [HT.out, HN.out, HS.out]; exact mo_of (agrees_plain hI HND.out true (by rw [decide_eq_true E1.out, decide_eq_true e2]; rfl))
                     · exact (((((HBW.setCell (by simp) _).setCell (by simp) _).setCell (by simp) _).setCell (by simp) _).setCell (by simp) _).setCell (by simp) _)
              · first
                  | (exfalso; have h9 := E1.out; omega)
                  | (have HBW := HBW0 (.bool false)
                     go_wp2
                     refine bodyPost_ret (v := .agg #[.bool neg, .string t, .int .i64 ((I : Int)), .int .i64 (-1), .int .u64 (W S), .bool false]) (by simp [results, Trym.results8, go_sem, z0, z1, z2, z3, z4, z5]) rfl ⟨?_, ?_⟩
                     · rw [HT.out, HN.out, HS.out]; exact mo_of (agrees_plain hI HND.out false (by rw [decide_eq_true E1.out, decide_eq_false e2]; rfl))
                     · exact (((((HBW.setCell (by simp) _).setCell (by simp) _).setCell (by simp) _).setCell (by simp) _).setCell (by simp) _).setCell (by simp) _)
            · have E1 : Hid (¬ I = t.size) := e1
              have b1 : ((I : Int) == (t.size : Int)) = false := by simp; omega
              clear e1
              by_cases e2 : (0 : Nat) < I
              · first
                  | (exfalso; have h9 := E1.out; omega)
                  | (have HBW := HBW0 (.bool false)
                     go_wp2
                     refine bodyPost_ret (v := .agg #[.bool neg, .string t, .int .i64 ((I : Int)), .int .i64 (-1), .int .u64 (W S), .bool false]) (by simp [results, Trym.results8, go_sem, z0, z1, z2, z3, z4, z5]) rfl ⟨?_, ?_⟩
                     · rw [HT.out, HN.out, HS.out]; exact mo_of (agrees_plain hI HND.out false (by rw [decide_eq_false E1.out]; rfl))
                     · exact (((((HBW.setCell (by simp) _).setCell (by simp) _).setCell (by simp) _).setCell (by simp) _).setCell (by simp) _).setCell (by simp) _)
              · first
                  | (exfalso; have h9 := E1.out; omega)
                  | (have HBW := HBW0 (.bool false)
                     go_wp2
                     refine bodyPost_ret (v := .agg #[.bool neg, .string t, .int .i64 ((I : Int)), .int .i64 (-1), .int .u64 (W S), .bool false]) (by simp [results, Trym.results8, go_sem, z0, z1, z2, z3, z4, z5]) rfl ⟨?_, ?_⟩
                     · rw [HT.out, HN.out, HS.out]; exact mo_of (agrees_plain hI HND.out false (by rw [decide_eq_false E1.out]; rfl))
                     · exact (((((HBW.setCell (by simp) _).setCell (by simp) _).setCell (by simp) _).setCell (by simp) _).setCell (by simp) _).setCell (by simp) _)
          | succ r =>
            have hrlt : r < t.size := by omega
            first
              | (exfalso; omega)
              | (have HBY : Hid (byteAt t r = ((t[r]'hrlt).toNat : Int)) := byteAt_lt hrlt
                 rw [show (((r + 1 : Nat) : Int) - 1) = (r : Int) from by omega]
                 cases hs2 : dig (((t[r]'hrlt).toNat : Int))
                 · go_wp2_with (go_at_call 13; go_must (refine (isDigit13 _ _).mono ?_); rintro e w1 ⟨rfl, rfl⟩)
                   go_roundw
                   case rel => exact ⟨r, P, S, by omega, rfl, rfl, (V_back HV.out).2 (by rw [HBY.out]; exact hs2), HM.out, hbr⟩
                   case measure => simp [intOf] <;> omega
                 · have hab := (dig_iff _).1 hs2
                   obtain ⟨ha1, ha2⟩ := hab
                   have i0 : (0 : Int) ≤ (r : Int) := by omega
                   have i1 : (r : Int) < (t.size : Int) := by omega
                   have HV2 : Hid (V (byteAt t) I = V (byteAt t) r * (P * 10) + (S + (((t[r]'hrlt).toNat : Int) - 48) * P)) := by
                     have h := (V_back HV.out).1 (by rw [HBY.out]; exact hs2)
                     rw [HBY.out] at h
                     exact h
                   go_wp2_with (go_at_call 13; go_must (refine (isDigit13 _ _).mono ?_); rintro e w1 ⟨rfl, rfl⟩)
                   go_region
                   all_goals
                     go_wp2
                     go_roundw
                     case rel => exact ⟨r, P * 10, S + (((t[r]'hrlt).toNat : Int) - 48) * P, by omega, by rw [← W_pow]; rfl, rfl, HV2, by rw [← W_right]; exact (HM.out.coeff _).drew, (hbr.setCell (by simp) _).drew⟩
                     case measure => simp [intOf] <;> omega)
      · have hd := of_decide_eq_true hdot.symm
        obtain ⟨hd1, hd2, hd46⟩ := hd
        first
          | (exfalso; omega)
          | (have HD1 : Hid (0 < I) := hd1
             have HD46 : Hid (byteAt t I = 46) := hd46
             clear hdot hd46
             go_wp2_with fail
             refine (digitRun12 t (I + 1) _ (by omega) _ htn (by omega)).mono ?_
             rintro e wx ⟨rfl, F, hF, rfl⟩
             have hFlo := hF.lo
             have hFhi := hF.hi
             go_wp2
             rw [show (I : Int) + 1 + ((F : Int) - ((I : Int) + 1)) = (F : Int) from by omega]
             obtain ⟨fr, hfr⟩ : ∃ fr : Int, fr = (F : Int) - ((I : Int) + 1) := ⟨_, rfl⟩
             rw [← hfr]
             have HFR : Hid (fr = (F : Int) - ((I : Int) + 1)) := hfr
             have hfr0 : 0 ≤ fr := by omega
             have hfr1 : fr ≤ 1048577 := by omega
             have HSTART := ((HM0.out.point (-1)).point (I : Int)).digits ((I : Int) + fr)
             have HBSTART := ((hB0.setCell (p := ⟨w.heap.size + 1, 3, none⟩) (by simp) (.int .i64 (-1))).setCell (p := ⟨w.heap.size + 1, 3, none⟩) (by simp) (.int .i64 (I : Int))).setCell (p := ⟨w.heap.size + 1, 2, none⟩) (by simp) (.int .i64 ((I : Int) + fr))
             clear hfr HM0 hB0 c0 c1 c2 c3 c4 c5 f2 f3 f4 f5
             go_loopw [9, 10] (fun vp vj wr => ∃ (q : Nat) (P S : Int), q ≤ F ∧ vp = .int .u64 (W P) ∧ vj = .int .i64 ((q : Int) - 1) ∧ Hid (V (byteAt t) F = V (byteAt t) q * P + S) ∧ Mo wr (w.heap.size + 1) (w.heap.size + 1) neg t ((I : Int) + fr) (I : Int) (W S) false ∧ Below (w.heap.size + 1) (w.alloc (.cells #[.bool false, .string { data := #[] }, .int .i64 0, .int .i64 0, .int .u64 0, .bool false] 27)) wr)
               (fun _ vj _ => (intOf vj + 1).toNat)
             case atStart => exact ⟨F, 1, 0, Nat.le_refl _, by rw [show W 1 = 1 from by decide], by go_num, by show _ = _; omega, HSTART, HBSTART⟩
             case round =>
               obtain ⟨q, P, S, hq, rfl, rfl, HV, hM, hbr⟩ := hrel
               obtain ⟨d0, d1, d2, d3, d4, d5, g2, g3, g4, g5⟩ := hM.cells
               have HM : Hid (Mo wr (w.heap.size + 1) (w.heap.size + 1) neg t ((I : Int) + fr) (I : Int) (W S) false) := hM
               clear hM
               cases q with
               | zero =>
                 have HS : Hid (S = V (byteAt t) F) := by
                   have := HV.out
                   rw [show V (byteAt t) 0 = 0 from rfl, Int.zero_mul, Int.zero_add] at this
                   exact this.symm
                 rw [show (((0 : Nat) : Int) - 1) = -1 from rfl]
                 have z0 : wr.cell? ⟨w.heap.size, 0, none⟩ = some (.bool false) := (hbr.cell (by simp)).trans (by simp)
                 have y0 : wr.frozen? ⟨w.heap.size, 0, none⟩ = false := (hbr.frozen (by simp)).trans (by simp)
                 have z1 : wr.cell? ⟨w.heap.size, 1, none⟩ = some (.string { data := #[] }) := (hbr.cell (by simp)).trans (by simp)
                 have y1 : wr.frozen? ⟨w.heap.size, 1, none⟩ = false := (hbr.frozen (by simp)).trans (by simp)
                 have z2 : wr.cell? ⟨w.heap.size, 2, none⟩ = some (.int .i64 0) := (hbr.cell (by simp)).trans (by simp)
                 have y2 : wr.frozen? ⟨w.heap.size, 2, none⟩ = false := (hbr.frozen (by simp)).trans (by simp)
                 have z3 : wr.cell? ⟨w.heap.size, 3, none⟩ = some (.int .i64 0) := (hbr.cell (by simp)).trans (by simp)
                 have y3 : wr.frozen? ⟨w.heap.size, 3, none⟩ = false := (hbr.frozen (by simp)).trans (by simp)
                 have z4 : wr.cell? ⟨w.heap.size, 4, none⟩ = some (.int .u64 0) := (hbr.cell (by simp)).trans (by simp)
                 have y4 : wr.frozen? ⟨w.heap.size, 4, none⟩ = false := (hbr.frozen (by simp)).trans (by simp)
                 have z5 : wr.cell? ⟨w.heap.size, 5, none⟩ = some (.bool false) := (hbr.cell (by simp)).trans (by simp)
                 have y5 : wr.frozen? ⟨w.heap.size, 5, none⟩ = false := (hbr.frozen (by simp)).trans (by simp)
                 have HBW0 : ∀ v, Below w.heap.size w (wr.setCell ⟨w.heap.size + 1, 5, none⟩ v) := fun v => (((Below.refl w.heap.size w).alloc (Nat.le_refl _) _).trans (hbr.mono (by omega))).setCell (by simp) _
                 by_cases e1 : F = t.size
                 · have E1 : Hid (F = t.size) := e1
                   have b1 : ((F : Int) == (t.size : Int)) = true := by simp [e1]
                   clear e1
                   by_cases e2 : 0 < fr
                   · first
                       | (exfalso; have h9 := E1.out; omega)
                       | (have HBW := HBW0 (.bool true)
                          go_wp2
                          refine bodyPost_ret (v := .agg #[.bool neg, .string t, .int .i64 ((I : Int) + fr), .int .i64 (I : Int), .int .u64 (W S), .bool true]) (by simp [results, Trym.results8, go_sem, z0, z1, z2, z3, z4, z5]) rfl ⟨?_, ?_⟩
                          · rw [HT.out, HN.out, HS.out]; exact mo_of (agrees_pointI hI HD1.out HD46.out hF HFR true (by rw [decide_eq_true E1.out, decide_eq_true (by have := HFR.out; omega)]; rfl))
                          · exact (((((HBW.setCell (by simp) _).setCell (by simp) _).setCell (by simp) _).setCell (by simp) _).setCell (by simp) _).setCell (by simp) _)
                   · first
                       | (exfalso; have h9 := E1.out; omega)
                       | (have HBW := HBW0 (.bool false)
                          go_wp2
                          refine bodyPost_ret (v := .agg #[.bool neg, .string t, .int .i64 ((I : Int) + fr), .int .i64 (I : Int), .int .u64 (W S), .bool false]) (by simp [results, Trym.results8, go_sem, z0, z1, z2, z3, z4, z5]) rfl ⟨?_, ?_⟩
                          · rw [HT.out, HN.out, HS.out]; exact mo_of (agrees_pointI hI HD1.out HD46.out hF HFR false (by rw [decide_eq_true E1.out, decide_eq_false (by have := HFR.out; omega)]; rfl))
                          · exact (((((HBW.setCell (by simp) _).setCell (by simp) _).setCell (by simp) _).setCell (by simp) _).setCell (by simp) _).setCell (by simp) _)
                 · have E1 : Hid (¬ F = t.size) := e1
                   have b1 : ((F : Int) == (t.size : Int)) = false := by simp; omega
                   clear e1
                   by_cases e2 : 0 < fr
                   · first
                       | (exfalso; have h9 := E1.out; omega)
                       | (have HBW := HBW0 (.bool false)
                          go_wp2
                          refine bodyPost_ret (v := .agg #[.bool neg, .string t, .int .i64 ((I : Int) + fr), .int .i64 (I : Int), .int .u64 (W S), .bool false]) (by simp [results, Trym.results8, go_sem, z0, z1, z2, z3, z4, z5]) rfl ⟨?_, ?_⟩
                          · rw [HT.out, HN.out, HS.out]; exact mo_of (agrees_pointI hI HD1.out HD46.out hF HFR false (by rw [decide_eq_false E1.out]; rfl))
                          · exact (((((HBW.setCell (by simp) _).setCell (by simp) _).setCell (by simp) _).setCell (by simp) _).setCell (by simp) _).setCell (by simp) _)
                   · first
                       | (exfalso; have h9 := E1.out; omega)
                       | (have HBW := HBW0 (.bool false)
                          go_wp2
                          refine bodyPost_ret (v := .agg #[.bool neg, .string t, .int .i64 ((I : Int) + fr), .int .i64 (I : Int), .int .u64 (W S), .bool false]) (by simp [results, Trym.results8, go_sem, z0, z1, z2, z3, z4, z5]) rfl ⟨?_, ?_⟩
                          · rw [HT.out, HN.out, HS.out]; exact mo_of (agrees_pointI hI HD1.out HD46.out hF HFR false (by rw [decide_eq_false E1.out]; rfl))
                          · exact (((((HBW.setCell (by simp) _).setCell (by simp) _).setCell (by simp) _).setCell (by simp) _).setCell (by simp) _).setCell (by simp) _)
               | succ r =>
                 have hrlt : r < t.size := by omega
                 first
                   | (exfalso; omega)
                   | (have HBY : Hid (byteAt t r = ((t[r]'hrlt).toNat : Int)) := byteAt_lt hrlt
                      rw [show (((r + 1 : Nat) : Int) - 1) = (r : Int) from by omega]
                      cases hs2 : dig (((t[r]'hrlt).toNat : Int))
                      · go_wp2_with (go_at_call 13; go_must (refine (isDigit13 _ _).mono ?_); rintro e w1 ⟨rfl, rfl⟩)
                        go_roundw
                        case rel => exact ⟨r, P, S, by omega, rfl, rfl, (V_back HV.out).2 (by rw [HBY.out]; exact hs2), HM.out, hbr⟩
                        case measure => simp [intOf] <;> omega
                      · have hab := (dig_iff _).1 hs2
                        obtain ⟨ha1, ha2⟩ := hab
                        have i0 : (0 : Int) ≤ (r : Int) := by omega
                        have i1 : (r : Int) < (t.size : Int) := by omega
                        have HV2 : Hid (V (byteAt t) F = V (byteAt t) r * (P * 10) + (S + (((t[r]'hrlt).toNat : Int) - 48) * P)) := by
                          have h := (V_back HV.out).1 (by rw [HBY.out]; exact hs2)
                          rw [HBY.out] at h
                          exact h
                        go_wp2_with (go_at_call 13; go_must (refine (isDigit13 _ _).mono ?_); rintro e w1 ⟨rfl, rfl⟩)
                        go_region
                        all_goals
                          go_wp2
                          go_roundw
                          case rel => exact ⟨r, P * 10, S + (((t[r]'hrlt).toNat : Int) - 48) * P, by omega, by rw [← W_pow]; rfl, rfl, HV2, by rw [← W_right]; exact (HM.out.coeff _).drew, (hbr.setCell (by simp) _).drew⟩
                          case measure => simp [intOf] <;> omega))

end Go.Proofs.Qxb6604276aMods
