import Derived.Test.Qxb6604209aModsRows
import Derived.Test.Qxb6604209aModsPlain
import Derived.WalkKit
import Derived.WalkSpells
import Derived.WalkLawsBesides
import Derived.Deep.QuietTactic
import Derived.BigQuiet
import Derived.RegionTactic
namespace Go.Proofs.Qxb6604209aMods
open Go.RowKit Plain

set_option maxHeartbeats 400000 in
theorem bytes5_yes (a : Option Addr) (len cap : Nat) (p : Int) (w : World) (h : len ≤ 1048576) :
    Calls Trym.prog 5 #[.slice a len cap, .int .i64 p] w fun e w' => e = .returned (.bool true) ∧ w = w' := by
  go_enter Trym.func5, Trym.ntmps5
  go_wp2
  go_ret
  exact ⟨rfl, rfl⟩

set_option maxHeartbeats 400000 in
theorem bytes5_no (a : Option Addr) (len cap : Nat) (p : Int) (w : World) (h : 1048576 < len) :
    Calls Trym.prog 5 #[.slice a len cap, .int .i64 p] w fun e w' => e = .returned (.bool false) ∧ w = w' := by
  go_enter Trym.func5, Trym.ntmps5
  go_wp2
  go_ret
  exact ⟨rfl, rfl⟩

theorem Trym.info5 : (Trym.prog.info? 5).map (fun i => (i.zero, i.size, i.bytes)) = some (some (.int .u8 0), 1, 1) := by kernel_rfl

end Go.Proofs.Qxb6604209aMods
