import Derived.Test.Qxb6604209aModsConE
import Derived.Test.Qxb6604209aModsPlainB
namespace Go.Proofs.Qxb6604209aMods
open Go.RowKit Plain

set_option maxHeartbeats 400000 in
theorem bytes9_yes (a : Option Addr) (len cap : Nat) (p : Int) (w : World) (h : len ≤ 1048576) :
    Calls Trym.prog 9 #[.slice a len cap, .int .i64 p] w fun e w' => e = .returned (.bool true) ∧ w = w' := by
  go_enter Trym.func9, Trym.ntmps9
  go_wp2
  go_ret
  exact ⟨rfl, rfl⟩

set_option maxHeartbeats 400000 in
theorem bytes9_no (a : Option Addr) (len cap : Nat) (p : Int) (w : World) (h : 1048576 < len) :
    Calls Trym.prog 9 #[.slice a len cap, .int .i64 p] w fun e w' => e = .returned (.bool false) ∧ w = w' := by
  go_enter Trym.func9, Trym.ntmps9
  go_wp2
  go_ret
  exact ⟨rfl, rfl⟩

theorem ret_bool {a b : Bool} (h : a = b) : Ending.returned (.bool a) = .returned (.bool b) := by rw [h]

set_option maxHeartbeats 400000 in
theorem isSpace16 (c : Int) (w : World) :
    Calls Trym.prog 16 #[.int .u8 c] w fun e w' => e = .returned (.bool (isSp c)) ∧ w = w' := by
  go_enter Trym.func16, Trym.ntmps16
  go_wp2
  all_goals
    go_ret
    exact ⟨ret_bool (by simp [isSp, *]), rfl⟩

set_option maxHeartbeats 400000 in
theorem endsBare14 (c : Int) (w : World) :
    Calls Trym.prog 14 #[.int .u8 c] w fun e w' => e = .returned (.bool (isEnd c)) ∧ w = w' := by
  by_cases h : isSp c = true
  · have h2 : isEnd c = true := by simp [isSp] at h; simp [isEnd]; omega
    go_enter Trym.func14, Trym.ntmps14
    go_wp2_with (go_at_call 16; go_must (refine (isSpace16 _ _).mono ?_); rintro e w1 ⟨rfl, rfl⟩)
    go_ret
    exact ⟨ret_bool (by simp [h2]), rfl⟩
  · have h' : isSp c = false := by simpa using h
    have h2 : isEnd c = (c == 44 || c == 93 || c == 125) := by
      simp only [isSp] at h'
      simp only [isEnd, h', Bool.false_or]
    have H2 : Hid (isEnd c = (c == 44 || c == 93 || c == 125)) := h2
    clear h h2
    go_enter Trym.func14, Trym.ntmps14
    go_wp2_with (go_at_call 16; go_must (refine (isSpace16 _ _).mono ?_); rintro e w1 ⟨rfl, rfl⟩)
    all_goals
      go_ret
      exact ⟨ret_bool (by rw [H2.out]; try simp [*]), rfl⟩

set_option maxHeartbeats 400000 in
theorem ends17 (c : Int) (w : World) :
    Calls Trym.prog 17 #[.int .u8 c] w fun e w' => e = .returned (.bool (isEnd c)) ∧ w = w' := by
  go_enter Trym.func17, Trym.ntmps17
  go_wp2
  all_goals
    go_ret
    exact ⟨ret_bool (by simp [isEnd, *]), rfl⟩

end Go.Proofs.Qxb6604209aMods
