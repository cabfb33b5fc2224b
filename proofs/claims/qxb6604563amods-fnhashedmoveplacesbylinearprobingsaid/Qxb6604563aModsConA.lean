import Derived.Test.Qxb6604563aModsRows
import Derived.Test.Qxb6604563aModsPlain
import Derived.WalkKit
import Derived.WalkSpells
import Derived.WalkLawsBesides
import Derived.Deep.QuietTactic
import Derived.Deep.LoopGhost
import Derived.BigQuiet
import Derived.RegionTactic
import Derived.Laws.CopyOwn
namespace Go.Proofs.Qxb6604563aMods
open Go.RowKit Plain

theorem Trym.info23 : (Trym.prog.info? 23).map (fun i => (i.zero, i.size, i.bytes)) = some (some (.int .u64 0), 1, 8) := by kernel_rfl
theorem Trym.size23 : (Trym.prog.info? 23).map (·.size) = some 1 := by kernel_rfl

def RetBool (e : Ending) : Prop := ∃ x : Bool, e = .returned (.bool x)

theorem ret_int {k : IntKind} {a b : Int} (h : a = b) : Ending.returned (.int k a) = .returned (.int k b) := by rw [h]

/-- A slice of words as the walk meets it. -/
def URaw (w : World) (a : Option Addr) (A : List Int) : Prop :=
  (a = none → A = []) ∧ (0 < A.length → ∃ b off, a = some ⟨b, off, none⟩ ∧ ∀ j, j < A.length → w.cell? ⟨b, off + j, none⟩ = some (.int .u64 (A.getD j 0)))

theorem URaw.keep {w w' : World} {a : Option Addr} {L : List Int} (h : URaw w a L) (hb : Below w.heap.size w w') : URaw w' a L := by
  refine ⟨h.1, fun h0 => ?_⟩
  obtain ⟨b, off, h1, h2⟩ := h.2 h0
  exact ⟨b, off, h1, fun j hj => by rw [hb.cell (by simpa using block_lt_of_cell (h2 j hj))]; exact h2 j hj⟩

set_option maxHeartbeats 400000 in
theorem bytes16 (a0 a1 : Option Addr) (l0 c0 l1 c1 : Nat) (x2 x3 x4 x5 x6 : Int) (w : World) (h0 : l0 ≤ 9223372036854775807) (h1 : l1 ≤ 9223372036854775807) :
    Calls Trym.prog 16 #[.slice a0 l0 c0, .slice a1 l1 c1, .int .i64 x2, .int .i64 x3, .int .u64 x4, .int .i64 x5, .int .i64 x6] w fun e w' => w = w' ∧ RetBool e := by
  go_enter Trym.func16, Trym.ntmps16
  go_wp2
  all_goals
    go_ret
    exact ⟨rfl, _, rfl⟩

set_option maxHeartbeats 400000 in
theorem bytes5 (a0 a1 : Option Addr) (l0 c0 l1 c1 : Nat) (x2 x3 x4 x5 : Int) (w : World) (h0 : l0 ≤ 9223372036854775807) (h1 : l1 ≤ 9223372036854775807) :
    Calls Trym.prog 5 #[.slice a0 l0 c0, .slice a1 l1 c1, .int .i64 x2, .int .i64 x3, .int .u64 x4, .int .i64 x5] w fun e w' => w = w' ∧ RetBool e := by
  go_enter Trym.func5, Trym.ntmps5
  go_wp2
  all_goals
    go_ret
    exact ⟨rfl, _, rfl⟩

set_option maxHeartbeats 400000 in
theorem steps6 (n m : Nat) (k : Int) (w : World) (hn : n ≤ 8192) (hm : m ≤ n) :
    Calls Trym.prog 6 #[.int .i64 n, .int .i64 m, .int .i64 k] w fun e w' => w = w' ∧ e = .returned (.int .i64 (stepsOf n m k : Nat)) := by
  by_cases h1 : k ≤ 0
  · go_enter Trym.func6, Trym.ntmps6
    go_wp2
    go_ret
    exact ⟨rfl, ret_int (by simp [stepsOf, h1])⟩
  · by_cases h2 : k < (n : Int) - (m : Int)
    · go_enter Trym.func6, Trym.ntmps6
      go_wp2
      go_ret
      exact ⟨rfl, ret_int (by unfold stepsOf; rw [if_neg (by omega), if_pos (by omega)]; omega)⟩
    · go_enter Trym.func6, Trym.ntmps6
      go_wp2
      go_ret
      exact ⟨rfl, ret_int (by unfold stepsOf; rw [if_neg (by omega), if_neg (by omega)]; omega)⟩

set_option maxHeartbeats 400000 in
theorem countFree7 (a : Option Addr) (c : Nat) (A : List Int) (w : World) (hn : A.length ≤ 8192) (h : URaw w a A) :
    Calls Trym.prog 7 #[.slice a A.length c] w fun e w' => w = w' ∧ e = .returned (.int .i64 (cf A : Nat)) := by
  have H : Hid (URaw w a A) := h
  clear h
  go_enter Trym.func7, Trym.ntmps7
  go_wp2
  go_loop [3, 4] (fun vn vi => ∃ k : Nat, k ≤ A.length ∧ vi = .int .i64 k ∧ vn = .int .i64 (cf (A.take k) : Nat)) (fun _ vi => A.length - (intOf vi).toNat)
  case atStart => exact ⟨0, Nat.zero_le _, rfl, rfl⟩
  case round =>
    obtain ⟨k, hk, rfl, rfl⟩ := hrel
    have hle := cf_take_le A k
    by_cases hlt : k < A.length
    · obtain ⟨b, off, rfl, hc⟩ := H.out.2 (by omega)
      have hcx := hc k hlt
      have HT : Hid (_) := cf_take A k hlt
      obtain ⟨x, hx⟩ : ∃ x, x = A.getD k 0 := ⟨_, rfl⟩
      rw [← hx] at hcx HT
      clear hx hc
      by_cases h0 : x = 0
      · have hb : (x == 0) = true := by simp [h0]
        have HX : Hid (cf (A.take (k + 1)) = cf (A.take k) + 1) := by
          have := HT.out; rw [if_pos h0] at this; exact this
        clear h0
        go_wp2
        go_round
        case rel => exact ⟨k + 1, by omega, by go_num, by rw [HX.out]; go_num⟩
        case measure => simp [intOf]; omega
      · have hb : (x == 0) = false := by simp [h0]
        have HX : Hid (cf (A.take (k + 1)) = cf (A.take k)) := by
          have := HT.out; rw [if_neg h0] at this; exact this
        clear h0
        go_wp2
        go_round
        case rel => exact ⟨k + 1, by omega, by go_num, by rw [HX.out]⟩
        case measure => simp [intOf]; omega
    · go_wp2
      go_ret
      exact ⟨rfl, ret_int (by rw [List.take_of_length_le (by omega)])⟩

end Go.Proofs.Qxb6604563aMods
