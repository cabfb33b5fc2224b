import Derived.Test.Qxb6604276aModsRows
import Derived.WalkKit
import Derived.WalkSpells
import Derived.WalkLawsBesides
import Derived.Deep.QuietTactic
import Derived.Deep.LoopGhost
import Derived.BigQuiet
import Derived.RegionTactic
import Derived.WalkMore
namespace Go.Proofs.Qxb6604276aMods
open Go.RowKit

/-- What 'scan' has read: the count of digits, the point's place, the coefficient. -/
def stp (st : Int × Int × Int) (b : Int) : Int × Int × Int :=
  if 48 ≤ b ∧ b ≤ 57 then (st.1 + 1, st.2.1, IntKind.u64.wrap (IntKind.u64.wrap (st.2.2 * 10) + (b - 48))) else (st.1, st.1, st.2.2)

def acc (st : Int × Int × Int) (b : Int) : Prop := (48 ≤ b ∧ b ≤ 57) ∨ (b = 46 ∧ st.2.1 < 0 ∧ 0 < st.1)

def byteAt (t : ByteArray) (k : Nat) : Int := if h : k < t.size then ((t[k]'h).toNat : Int) else 0

theorem byteAt_lt {t : ByteArray} {k : Nat} (h : k < t.size) : byteAt t k = ((t[k]'h).toNat : Int) := by simp [byteAt, h]

/-- The state ahead of place k. -/
def ss (t : ByteArray) : Nat → Int × Int × Int
  | 0 => (0, -1, 0)
  | k + 1 => stp (ss t k) (byteAt t k)

/-- The cells of the struct in block B. -/
def Pl (w : World) (base B : Nat) (neg : Bool) (t : ByteArray) (st : Int × Int × Int) : Prop :=
  w.ownsRow base 32 5 (.slice (some ⟨B, 0, none⟩) 1 1) 1 [.bool neg, .string t, .int .i64 st.1, .int .i64 st.2.1, .int .u64 st.2.2]

theorem Pl.fresh (w : World) (neg : Bool) (t : ByteArray) (d p c : Int) : Pl (w.alloc (.cells #[.bool neg, .string t, .int .i64 d, .int .i64 p, .int .u64 c] 32)) w.heap.size w.heap.size neg t (d, p, c) :=
  World.ownsRow_lit (size := 5) w #[.bool neg, .string t, .int .i64 d, .int .i64 p, .int .u64 c] 1 (Nat.le_refl _) (by decide) rfl

structure PlCells (w : World) (B : Nat) (neg : Bool) (t : ByteArray) (st : Int × Int × Int) : Prop where
  c0 : w.cell? ⟨B, 0, none⟩ = some (.bool neg)
  c1 : w.cell? ⟨B, 1, none⟩ = some (.string t)
  c2 : w.cell? ⟨B, 2, none⟩ = some (.int .i64 st.1)
  c3 : w.cell? ⟨B, 3, none⟩ = some (.int .i64 st.2.1)
  c4 : w.cell? ⟨B, 4, none⟩ = some (.int .u64 st.2.2)
  f0 : w.frozen? ⟨B, 0, none⟩ = false
  f1 : w.frozen? ⟨B, 1, none⟩ = false
  f2 : w.frozen? ⟨B, 2, none⟩ = false
  f3 : w.frozen? ⟨B, 3, none⟩ = false
  f4 : w.frozen? ⟨B, 4, none⟩ = false

theorem Pl.cells {w : World} {base B : Nat} {neg : Bool} {t : ByteArray} {st : Int × Int × Int} (h : Pl w base B neg t st) : PlCells w B neg t st :=
  ⟨h.cellAt 0 (by omega), h.cellAt 1 (by omega), h.cellAt 2 (by omega), h.cellAt 3 (by omega), h.cellAt 4 (by omega), h.frozenAt 0, h.frozenAt 1, h.frozenAt 2, h.frozenAt 3, h.frozenAt 4⟩

theorem Pl.digit {w : World} {base B : Nat} {neg : Bool} {t : ByteArray} {d p c : Int} (h : Pl w base B neg t (d, p, c)) (c' d' : Int) :
    Pl ((w.setCell ⟨B, 4, none⟩ (.int .u64 c')).setCell ⟨B, 2, none⟩ (.int .i64 d')) base B neg t (d', p, c') :=
  ((h.stored 4 (.int .u64 c')).1.stored 2 (.int .i64 d')).1

theorem Pl.point {w : World} {base B : Nat} {neg : Bool} {t : ByteArray} {d p c : Int} (h : Pl w base B neg t (d, p, c)) (p' : Int) :
    Pl (w.setCell ⟨B, 3, none⟩ (.int .i64 p')) base B neg t (d, p', c) :=
  (h.stored 3 (.int .i64 p')).1

def isNeg (s : ByteArray) : Bool := byteAt s 0 == 45
def textOf (s : ByteArray) : ByteArray := if isNeg s then s.extract 1 s.size else s

/-- 'scan' reads t up to E. -/
structure Stop (t : ByteArray) (E : Nat) : Prop where
  le : E ≤ t.size
  all : ∀ j, j < E → acc (ss t j) (byteAt t j)
  stop : E < t.size → ¬ acc (ss t E) (byteAt t E)

theorem Stop.uniq {t : ByteArray} {E F : Nat} (h : Stop t E) (h' : Stop t F) : E = F := by
  rcases Nat.lt_trichotomy E F with c | c | c
  · exact absurd (h'.all E c) (h.stop (by have := h'.le; omega))
  · exact c
  · exact absurd (h.all F c) (h'.stop (by have := h.le; omega))

def okB (t : ByteArray) (E : Nat) : Bool := decide (E = t.size) && (decide (0 < (ss t E).1) && ((ss t E).2.1 != (ss t E).1))

def ScanEnds (neg : Bool) (t : ByteArray) (e : Ending) : Prop :=
  ∃ E : Nat, Stop t E ∧ e = .returned (.tuple #[.agg #[.bool neg, .string t, .int .i64 (ss t E).1, .int .i64 (ss t E).2.1, .int .u64 (ss t E).2.2], .bool (okB t E)])

theorem all_step {t : ByteArray} {k : Nat} (h : Hid (∀ j, j < k → acc (ss t j) (byteAt t j))) (h2 : acc (ss t k) (byteAt t k)) : Hid (∀ j, j < k + 1 → acc (ss t j) (byteAt t j)) := by
  intro j hj
  by_cases e : j = k
  · subst e; exact h2
  · exact h.out j (by omega)

theorem ends_of {neg : Bool} {t : ByteArray} {k : Nat} {d p c : Int} {ok : Bool} (hst : Hid (ss t k = (d, p, c))) (hs : Stop t k) (hok : okB t k = ok) :
    ScanEnds neg t (.returned (.tuple #[.agg #[.bool neg, .string t, .int .i64 d, .int .i64 p, .int .u64 c], .bool ok])) :=
  ⟨k, hs, by rw [hst.out, hok]⟩

set_option maxHeartbeats 2000000 in
theorem scan11 (s : ByteArray) (w : World) (hn : s.size ≤ 1048577) :
    Calls Trym.prog 11 #[.string s] w fun e w' => ScanEnds (isNeg s) (textOf s) e ∧ Below w.heap.size w w' := by
  have hcase : ¬ 0 < s.size ∨ (∃ h : 0 < s.size, (((s[0]'h).toNat : Int) == 45) = false) ∨ (∃ h : 0 < s.size, (((s[0]'h).toNat : Int) == 45) = true) := by
    by_cases h : 0 < s.size
    · cases hb : (((s[0]'h).toNat : Int) == 45)
      · exact .inr (.inl ⟨h, hb⟩)
      · exact .inr (.inr ⟨h, hb⟩)
    · exact .inl h
  rcases hcase with hs | ⟨hs, hne⟩ | ⟨hs, hne⟩
  case' inl =>
    have HN0 : Hid (isNeg s = false) := by show _ = _; simp [isNeg, byteAt, hs]
    have HT0 : Hid (textOf s = s) := by show _ = _; rw [textOf, HN0.out]; rfl
    go_enter Trym.func11, Trym.ntmps11
    go_wp2
    go_step3
    go_wp2
    go_step3
    go_wp2
    obtain ⟨t, ht⟩ : ∃ t, t = s := ⟨_, rfl⟩
    obtain ⟨neg, hneg⟩ : ∃ b : Bool, b = false := ⟨_, rfl⟩
    have HT : Hid (textOf s = t) := by rw [ht]; exact HT0
    have HN : Hid (isNeg s = neg) := by rw [hneg]; exact HN0
    have hW : Pl (w.alloc (.cells #[.bool false, .string s, .int .i64 0, .int .i64 (-1), .int .u64 0] 32)) w.heap.size w.heap.size neg t (0, -1, 0) := by rw [hneg, ht]; exact Pl.fresh w false s 0 (-1) 0
    have htn : t.size ≤ 1048577 := by rw [ht]; exact hn
    have hB0 : Below w.heap.size w (w.alloc (.cells #[.bool false, .string s, .int .i64 0, .int .i64 (-1), .int .u64 0] 32)) := (Below.refl _ _).alloc (Nat.le_refl _) _
    clear ht hneg HT0 HN0
  case' inr.inl =>
    have HN0 : Hid (isNeg s = false) := by show _ = _; rw [isNeg, byteAt_lt hs]; exact hne
    have HT0 : Hid (textOf s = s) := by show _ = _; rw [textOf, HN0.out]; rfl
    go_enter Trym.func11, Trym.ntmps11
    go_wp2
    go_step3
    go_wp2
    go_step3
    go_wp2
    obtain ⟨t, ht⟩ : ∃ t, t = s := ⟨_, rfl⟩
    obtain ⟨neg, hneg⟩ : ∃ b : Bool, b = false := ⟨_, rfl⟩
    have HT : Hid (textOf s = t) := by rw [ht]; exact HT0
    have HN : Hid (isNeg s = neg) := by rw [hneg]; exact HN0
    have hW : Pl (w.alloc (.cells #[.bool false, .string s, .int .i64 0, .int .i64 (-1), .int .u64 0] 32)) w.heap.size w.heap.size neg t (0, -1, 0) := by rw [hneg, ht]; exact Pl.fresh w false s 0 (-1) 0
    have htn : t.size ≤ 1048577 := by rw [ht]; exact hn
    have hB0 : Below w.heap.size w (w.alloc (.cells #[.bool false, .string s, .int .i64 0, .int .i64 (-1), .int .u64 0] 32)) := (Below.refl _ _).alloc (Nat.le_refl _) _
    clear ht hneg HT0 HN0
  case' inr.inr =>
    have HN0 : Hid (isNeg s = true) := by show _ = _; rw [isNeg, byteAt_lt hs]; exact hne
    have HT0 : Hid (textOf s = s.extract 1 s.size) := by show _ = _; rw [textOf, HN0.out]; rfl
    go_enter Trym.func11, Trym.ntmps11
    go_wp2
    go_step3
    go_wp2
    go_step3
    go_wp2
    obtain ⟨t, ht⟩ : ∃ t, t = s.extract 1 s.size := ⟨_, rfl⟩
    obtain ⟨neg, hneg⟩ : ∃ b : Bool, b = true := ⟨_, rfl⟩
    have HT : Hid (textOf s = t) := by rw [ht]; exact HT0
    have HN : Hid (isNeg s = neg) := by rw [hneg]; exact HN0
    have hW : Pl (w.alloc (.cells #[.bool true, .string (s.extract 1 s.size), .int .i64 0, .int .i64 (-1), .int .u64 0] 32)) w.heap.size w.heap.size neg t (0, -1, 0) := by rw [hneg, ht]; exact Pl.fresh w true _ 0 (-1) 0
    have htn : t.size ≤ 1048577 := by rw [ht, ByteArray.size_extract]; omega
    have hB0 : Below w.heap.size w (w.alloc (.cells #[.bool true, .string (s.extract 1 s.size), .int .i64 0, .int .i64 (-1), .int .u64 0] 32)) := (Below.refl _ _).alloc (Nat.le_refl _) _
    clear ht hneg HT0 HN0
  all_goals
    go_loopw [4] (fun vi wr => ∃ (k : Nat) (d p c : Int), k ≤ t.size ∧ vi = .int .i64 k ∧ 0 ≤ d ∧ d ≤ k ∧ -1 ≤ p ∧ p ≤ k ∧ Hid (ss t k = (d, p, c)) ∧ Hid (∀ j, j < k → acc (ss t j) (byteAt t j)) ∧ Pl wr w.heap.size w.heap.size neg t (d, p, c) ∧ Below w.heap.size w wr)
      (fun vi _ => t.size - (intOf vi).toNat)
    case atStart => exact ⟨0, 0, -1, 0, Nat.zero_le _, rfl, by omega, by omega, by omega, by omega, rfl, fun j hj => by omega, hW, hB0⟩
    case round =>
      obtain ⟨k, d, p, c, hk, rfl, hd0, hd1, hp0, hp1, HSS, HAL, hpl, hbel⟩ := hrel
      clear hW hB0
      have HP : Hid (Pl wr w.heap.size w.heap.size neg t (d, p, c)) := hpl
      obtain ⟨c0, c1, c2, c3, c4, f0, f1, f2, f3, f4⟩ := hpl.cells
      simp only [] at c2 c3 c4
      clear hpl
      by_cases hlt : k < t.size
      · have hby := byteAt_lt hlt
        have HBY : Hid (byteAt t k = ((t[k]'hlt).toNat : Int)) := hby
        clear hby
        by_cases ha : 48 ≤ ((t[k]'hlt).toNat : Int) ∧ ((t[k]'hlt).toNat : Int) ≤ 57
        · have HA : Hid (acc (ss t k) (byteAt t k)) := .inl (by rw [HBY.out]; exact ha)
          have HX : Hid (ss t (k + 1) = (d + 1, p, IntKind.u64.wrap (IntKind.u64.wrap (c * 10) + (((t[k]'hlt).toNat : Int) - 48)))) := by
            show _ = _
            rw [ss, HSS.out, HBY.out, stp, if_pos ha]
          obtain ⟨ha1, ha2⟩ := ha
          go_wp2
          go_roundw
          case rel => exact ⟨k + 1, _, _, _, by omega, by go_num, by omega, by omega, by omega, by omega, HX, all_step HAL HA, HP.out.digit _ _, (hbel.setCell (by simp) _).setCell (by simp) _⟩
          case measure => simp [intOf]; omega
        · by_cases hb : ((t[k]'hlt).toNat : Int) = 46 ∧ p < 0 ∧ 0 < d
          · have HA : Hid (acc (ss t k) (byteAt t k)) := .inr (by rw [HBY.out, HSS.out]; exact hb)
            have HX : Hid (ss t (k + 1) = (d, d, c)) := by
              show _ = _
              rw [ss, HSS.out, HBY.out, stp, if_neg ha]
            obtain ⟨hb1, hb2, hb3⟩ := hb
            have hq : (((t[k]'hlt).toNat : Int) == 46) = true := by simp [hb1]
            have hna : ¬ 48 ≤ ((t[k]'hlt).toNat : Int) := by omega
            clear hb1 ha
            go_wp2
            go_roundw
            case rel => exact ⟨k + 1, _, _, _, by omega, by go_num, by omega, by omega, by omega, by omega, HX, all_step HAL HA, HP.out.point _, hbel.setCell (by simp) _⟩
            case measure => simp [intOf]; omega
          · have HST : Hid (Stop t k) := ⟨hk, HAL.out, fun _ h => by
              rw [HBY.out, HSS.out] at h
              rcases h with h | h
              · exact ha h
              · exact hb h⟩
            have HOK : Hid (okB t k = false) := by
              show _ = _
              rw [okB, decide_eq_false (by omega), Bool.false_and]
            go_wp2
            all_goals
              try rw [Exit.noGoto_ret]
              refine bodyPost_ret (v := .tuple #[.agg #[.bool neg, .string t, .int .i64 d, .int .i64 p, .int .u64 c], .bool false]) (by simp [results, Trym.results11, go_sem, c0, c1, c2, c3, c4]) rfl ⟨?_, ?_⟩
              · rw [HT.out, HN.out]; exact ends_of HSS HST.out HOK.out
              · exact ((((hbel.setCell (by simp) _).setCell (by simp) _).setCell (by simp) _).setCell (by simp) _).setCell (by simp) _
      · have HST : Hid (Stop t k) := ⟨hk, HAL.out, fun h => absurd h hlt⟩
        have hke : k = t.size := by omega
        have HOK1 : Hid (0 < d → okB t k = (p != d)) := by
          intro h
          rw [okB, HSS.out, decide_eq_true hke, decide_eq_true h]; rfl
        have HOK2 : Hid (d ≤ 0 → okB t k = false) := by
          intro h
          rw [okB, HSS.out, decide_eq_true hke, decide_eq_false (by omega)]; rfl
        clear hke
        by_cases hdp : 0 < d
        · go_wp2
          all_goals
            try rw [Exit.noGoto_ret]
            refine bodyPost_ret (v := .tuple #[.agg #[.bool neg, .string t, .int .i64 d, .int .i64 p, .int .u64 c], .bool (p != d)]) (by simp [results, Trym.results11, go_sem, c0, c1, c2, c3, c4]) rfl ⟨?_, ?_⟩
            · rw [HT.out, HN.out]; exact ends_of HSS HST.out (HOK1.out hdp)
            · exact ((((hbel.setCell (by simp) _).setCell (by simp) _).setCell (by simp) _).setCell (by simp) _).setCell (by simp) _
        · go_wp2
          all_goals
            try rw [Exit.noGoto_ret]
            refine bodyPost_ret (v := .tuple #[.agg #[.bool neg, .string t, .int .i64 d, .int .i64 p, .int .u64 c], .bool false]) (by simp [results, Trym.results11, go_sem, c0, c1, c2, c3, c4]) rfl ⟨?_, ?_⟩
            · rw [HT.out, HN.out]; exact ends_of HSS HST.out (HOK2.out (by omega))
            · exact ((((hbel.setCell (by simp) _).setCell (by simp) _).setCell (by simp) _).setCell (by simp) _).setCell (by simp) _

end Go.Proofs.Qxb6604276aMods
