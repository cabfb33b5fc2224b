import Derived.Test.Qxb6604276aModsScA
import Derived.Test.Qxb6604276aModsPlain
namespace Go.Proofs.Qxb6604276aMods
open Gram

theorem dig_iff (b : Int) : dig b = true ↔ 48 ≤ b ∧ b ≤ 57 := by simp [dig]

theorem stp_digit {d p v : Int} {b : Int} (h : dig b = true) : stp (d, p, W v) b = (d + 1, p, W (v * 10 + (b - 48))) := by
  rw [stp, if_pos ((dig_iff b).1 h), ← W_left]; rfl

theorem stp_point {d p v : Int} {b : Int} (h : dig b = false) : stp (d, p, v) b = (d, d, v) := by
  rw [stp, if_neg (by intro h2; rw [(dig_iff b).2 h2] at h; cases h)]

/-- The whole part. -/
theorem ss_int {t : ByteArray} {I : Nat} (h : Run (byteAt t) t.size 0 I) (k : Nat) (hk : k ≤ I) : ss t k = (((k : Nat) : Int), -1, W (V (byteAt t) k)) := by
  induction k with
  | zero => rfl
  | succ k ih =>
    have hd := h.all k (Nat.zero_le _) (by omega)
    rw [ss, ih (by omega), stp_digit hd, V_digit hd]
    rfl

/-- The point. -/
theorem ss_point {t : ByteArray} {I : Nat} (h : Run (byteAt t) t.size 0 I) (h46 : byteAt t I = 46) : ss t (I + 1) = ((I : Int), (I : Int), W (V (byteAt t) (I + 1))) := by
  have hd : dig (byteAt t I) = false := by rw [h46]; rfl
  rw [ss, ss_int h I (Nat.le_refl _), stp_point hd, V_other hd]

/-- The fraction. -/
theorem ss_frac {t : ByteArray} {I F : Nat} (h : Run (byteAt t) t.size 0 I) (h46 : byteAt t I = 46) (h2 : Run (byteAt t) t.size (I + 1) F) (k : Nat) (hk : I + 1 + k ≤ F) :
    ss t (I + 1 + k) = ((I : Int) + k, (I : Int), W (V (byteAt t) (I + 1 + k))) := by
  induction k with
  | zero => rw [Nat.add_zero, ss_point h h46]; simp
  | succ k ih =>
    have hd := h2.all (I + 1 + k) (by omega) (by omega)
    rw [← Nat.add_assoc, ss, ih (by omega), stp_digit hd, V_digit hd]
    refine Prod.ext ?_ rfl
    show (I : Int) + k + 1 = (I : Int) + ((k + 1 : Nat) : Int)
    omega

theorem acc_digit {st : Int × Int × Int} {b : Int} (h : dig b = true) : acc st b := .inl ((dig_iff b).1 h)

/-- No point where one may stand: 'scan' stops behind the whole part. -/
theorem stop_plain {t : ByteArray} {I : Nat} (h : Run (byteAt t) t.size 0 I) (hnd : ¬ (0 < I ∧ I < t.size ∧ byteAt t I = 46)) : Stop t I := by
  refine ⟨h.hi, fun j hj => acc_digit (h.all j (Nat.zero_le _) hj), fun hl ha => ?_⟩
  rcases ha with ha | ⟨h1, h2, h3⟩
  · have := h.stop hl; rw [(dig_iff _).2 ha] at this; cases this
  · rw [ss_int h I (Nat.le_refl _)] at h3
    exact hnd ⟨by have : (0 : Int) < (I : Int) := h3; omega, hl, h1⟩

/-- A point: 'scan' stops behind the fraction. -/
theorem stop_point {t : ByteArray} {I F : Nat} (h : Run (byteAt t) t.size 0 I) (h0 : 0 < I) (h46 : byteAt t I = 46) (h2 : Run (byteAt t) t.size (I + 1) F) : Stop t F := by
  have hlo := h2.lo
  refine ⟨h2.hi, fun j hj => ?_, fun hl ha => ?_⟩
  · rcases Nat.lt_trichotomy j I with c | c | c
    · exact acc_digit (h.all j (Nat.zero_le _) c)
    · subst c
      refine .inr ⟨h46, ?_, ?_⟩
      · rw [ss_int h j (Nat.le_refl _)]; show (-1 : Int) < 0; omega
      · rw [ss_int h j (Nat.le_refl _)]; show (0 : Int) < (j : Int); omega
    · exact acc_digit (h2.all j (by omega) hj)
  · rcases ha with ha | ⟨_, h3, _⟩
    · have := h2.stop hl; rw [(dig_iff _).2 ha] at this; cases this
    · have e := ss_frac h h46 h2 (F - (I + 1)) (by omega)
      rw [show I + 1 + (F - (I + 1)) = F from by omega] at e
      rw [e] at h3
      have : (I : Int) < 0 := h3
      omega

/-- What the model answers, in scan's words. -/
structure Agrees (t : ByteArray) (E : Nat) (d p c : Int) (ok : Bool) : Prop where
  stop : Stop t E
  st : ss t E = (d, p, c)
  ok : okB t E = ok

theorem agrees_plain {t : ByteArray} {I : Nat} (h : Run (byteAt t) t.size 0 I) (hnd : ¬ (0 < I ∧ I < t.size ∧ byteAt t I = 46)) (ok : Bool) (hok : ok = (decide (I = t.size) && decide (0 < I))) :
    Agrees t I (I : Int) (-1) (W (V (byteAt t) I)) ok := by
  refine ⟨stop_plain h hnd, ss_int h I (Nat.le_refl _), ?_⟩
  rw [okB, ss_int h I (Nat.le_refl _), hok]
  congr 1
  show (decide ((0 : Int) < (I : Int)) && ((-1 : Int) != (I : Int))) = _
  rw [show ((-1 : Int) != (I : Int)) = true from by simp <;> omega, Bool.and_true]
  simp

theorem agrees_point {t : ByteArray} {I F : Nat} (h : Run (byteAt t) t.size 0 I) (h0 : 0 < I) (h46 : byteAt t I = 46) (h2 : Run (byteAt t) t.size (I + 1) F) (ok : Bool) (hok : ok = (decide (F = t.size) && decide (I + 1 < F))) :
    Agrees t F ((I : Int) + ((F : Int) - ((I + 1 : Nat) : Int))) (I : Int) (W (V (byteAt t) F)) ok := by
  have hlo := h2.lo
  have e := ss_frac h h46 h2 (F - (I + 1)) (by omega)
  rw [show I + 1 + (F - (I + 1)) = F from by omega, show (I : Int) + ((F - (I + 1) : Nat) : Int) = (I : Int) + ((F : Int) - ((I + 1 : Nat) : Int)) from by omega] at e
  refine ⟨stop_point h h0 h46 h2, e, ?_⟩
  rw [okB, e, hok]
  congr 1
  show (decide ((0 : Int) < (I : Int) + ((F : Int) - ((I + 1 : Nat) : Int))) && ((I : Int) != (I : Int) + ((F : Int) - ((I + 1 : Nat) : Int)))) = _
  rw [decide_eq_true (by omega), Bool.true_and]
  by_cases hf : I + 1 < F
  · rw [decide_eq_true hf]; simp; omega
  · rw [decide_eq_false hf]; simp; omega

end Go.Proofs.Qxb6604276aMods
