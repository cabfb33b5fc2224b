import Derived.Test.Qxb6604276aModsScB
import Derived.Test.Qxb6604276aModsPlain
namespace Go.Proofs.Qxb6604276aMods
open Go.RowKit Gram

theorem ret_bool {a b : Bool} (h : a = b) : Ending.returned (.bool a) = .returned (.bool b) := by rw [h]

set_option maxHeartbeats 400000 in
theorem isDigit13 (c : Int) (w : World) :
    Calls Trym.prog 13 #[.int .u8 c] w fun e w' => e = .returned (.bool (dig c)) ∧ w = w' := by
  by_cases h1 : 48 ≤ c
  · by_cases h2 : c ≤ 57
    · go_enter Trym.func13, Trym.ntmps13
      go_wp2
      go_ret
      exact ⟨ret_bool (by simp [dig, h1, h2]), rfl⟩
    · go_enter Trym.func13, Trym.ntmps13
      go_wp2
      go_ret
      exact ⟨ret_bool (by simp [dig]; omega), rfl⟩
  · go_enter Trym.func13, Trym.ntmps13
    go_wp2
    go_ret
    exact ⟨ret_bool (by simp [dig]; omega), rfl⟩

theorem dg_go {f : Nat → Int} {i k : Nat} (h : Hid (∀ j, i ≤ j → j < k → dig (f j) = true)) (hk : dig (f k) = true) : Hid (∀ j, i ≤ j → j < k + 1 → dig (f j) = true) := by
  intro j a b
  by_cases e : j = k
  · subst e; exact hk
  · exact h j a (by omega)

/-- The ending of zzDigitRun. -/
def RunEnds (t : ByteArray) (i : Nat) (x : Int) (e : Ending) : Prop := ∃ j : Nat, Run (byteAt t) t.size i j ∧ e = .returned (.int .i64 ((j : Int) - x))

set_option maxHeartbeats 400000 in
theorem digitRun12 (t : ByteArray) (i : Nat) (x : Int) (hx : x = (i : Int)) (w : World) (hn : t.size ≤ 1048577) (hi : i ≤ t.size) :
    Calls Trym.prog 12 #[.string t, .int .i64 x] w fun e w' => w = w' ∧ RunEnds t i x e := by
  subst hx
  go_enter Trym.func12, Trym.ntmps12
  go_wp2
  go_loop [5] (fun v => ∃ k : Nat, i ≤ k ∧ k ≤ t.size ∧ v = .int .i64 k ∧ Hid (∀ j, i ≤ j → j < k → dig (byteAt t j) = true))
    (fun v => t.size - (intOf v).toNat)
  case atStart => exact ⟨i, Nat.le_refl _, hi, rfl, fun j h1 h2 => by omega⟩
  case round =>
    obtain ⟨k, hk0, hk, rfl, HN⟩ := hrel
    by_cases hlt : k < t.size
    · have HBY : Hid (byteAt t k = ((t[k]'hlt).toNat : Int)) := byteAt_lt hlt
      cases hs : dig (((t[k]'hlt).toNat : Int))
      · go_wp2_with (go_at_call 13; go_must (refine (isDigit13 _ _).mono ?_); rintro e w1 ⟨rfl, rfl⟩)
        go_ret
        exact ⟨rfl, k, ⟨hk0, hk, HN.out, fun _ => by rw [HBY.out]; exact hs⟩, rfl⟩
      · go_wp2_with (go_at_call 13; go_must (refine (isDigit13 _ _).mono ?_); rintro e w1 ⟨rfl, rfl⟩)
        go_round
        case rel => exact ⟨k + 1, by omega, by omega, by go_num, dg_go HN (by rw [HBY.out]; exact hs)⟩
        case measure => simp [intOf]; omega
    · go_wp2_with (go_at_call 13; go_must (refine (isDigit13 _ _).mono ?_); rintro e w1 ⟨rfl, rfl⟩)
      go_ret
      exact ⟨rfl, k, ⟨hk0, hk, HN.out, fun h => absurd h hlt⟩, rfl⟩

end Go.Proofs.Qxb6604276aMods
