import Derived.Test.Qxb6604276aModsRows
import Derived.WalkKit
import Derived.WalkSpells
import Derived.WalkLawsBesides
namespace Go.Proofs.Qxb6604276aMods
open Go.RowKit

theorem wrap_neg_neg (a : Int) (h : a < 0) (hlo : -9223372036854775808 ≤ a) : IntKind.u64.wrap (-IntKind.u64.wrap a) = -a := by
  rw [IntKind.wrap_u64, IntKind.wrap_u64]; omega

theorem ret_int {k : IntKind} {a b : Int} (h : a = b) : Ending.returned (.int k a) = .returned (.int k b) := by rw [h]

def ab (a : Int) : Int := if a < 0 then -a else a

theorem ab_neg {a : Int} (h : a < 0) : ab a = -a := by simp [ab, h]
theorem ab_pos {a : Int} (h : 0 ≤ a) : ab a = a := by simp [ab]; omega
theorem ab_flip (a : Int) : ab (-a) = ab a := by
  unfold ab; split <;> split <;> omega
theorem ab_zero (a : Int) : ab a = 0 ↔ a = 0 := by
  unfold ab; split <;> omega

set_option maxHeartbeats 400000 in
theorem abs14 (a : Int) (w : World) (hlo : -9223372036854775808 ≤ a) (hhi : a ≤ 9223372036854775807) :
    Calls Trym.prog 14 #[.int .i64 a] w fun e w' => e = .returned (.int .u64 (ab a)) ∧ w = w' := by
  by_cases h : a < 0
  · go_enter Trym.func14, Trym.ntmps14
    go_wp2
    go_ret
    exact ⟨ret_int ((wrap_neg_neg a h hlo).trans (ab_neg h).symm), rfl⟩
  · go_enter Trym.func14, Trym.ntmps14
    go_wp2
    go_ret
    exact ⟨ret_int (ab_pos (by omega)).symm, rfl⟩

set_option maxHeartbeats 400000 in
theorem zzabs10 (a : Int) (w : World) (hlo : -9223372036854775808 ≤ a) (hhi : a ≤ 9223372036854775807) :
    Calls Trym.prog 10 #[.int .i64 a] w fun e w' => e = .returned (.int .u64 (ab a)) ∧ w = w' := by
  go_enter Trym.func10, Trym.ntmps10
  go_wp2_with (go_at_call 14; go_must (refine (abs14 _ _ hlo hhi).mono ?_); rintro e w1 ⟨rfl, rfl⟩)
  go_ret
  exact ⟨rfl, rfl⟩

set_option maxHeartbeats 1000000 in
theorem law_abs (a : Int) (w : World) (hlo : -9223372036854775808 ≤ a) (hhi : a ≤ 9223372036854775807) :
    Calls Trym.prog 5 #[.int .i64 a] w fun e w' => e = .returned (.bool true) ∧ w = w' := by
  have t1 : ¬ (9223372036854775808 : Int) < ab a := by unfold ab; split <;> omega
  have t2 : ((ab a == 0) == (a == 0)) = true := by
    have := ab_zero a
    by_cases h : a = 0
    · rw [beq_iff_eq.2 h, beq_iff_eq.2 (this.2 h)]; rfl
    · have h2 : ab a ≠ 0 := fun e => h (this.1 e)
      rw [beq_eq_false_iff_ne.2 h, beq_eq_false_iff_ne.2 h2]; rfl
  have t3 : (ab (-a) != ab a) = false := by rw [ab_flip]; simp
  by_cases hm : a = -9223372036854775808
  · have t4 : (a != -9223372036854775808) = false := by simp [hm]
    clear hm
    go_enter Trym.func5, Trym.ntmps5
    go_wp2_with fail
    refine (zzabs10 a w hlo hhi).mono ?_
    rintro e w1 ⟨rfl, rfl⟩
    go_wp2_with fail
    go_ret
    exact ⟨rfl, rfl⟩
  · have t4 : (a != -9223372036854775808) = true := by simp [hm]
    have hlo2 : -9223372036854775807 ≤ a := by omega
    clear hm
    go_enter Trym.func5, Trym.ntmps5
    go_wp2_with fail
    refine (zzabs10 a w hlo hhi).mono ?_
    rintro e w1 ⟨rfl, rfl⟩
    go_wp2_with fail
    refine (zzabs10 (-a) w (by omega) (by omega)).mono ?_
    rintro e w1 ⟨rfl, rfl⟩
    go_wp2_with fail
    go_ret
    exact ⟨rfl, rfl⟩

end Go.Proofs.Qxb6604276aMods
