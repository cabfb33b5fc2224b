import Derived.Test.Qxb6604216aModsRows
import Derived.WalkKit
import Derived.WalkSpells
import Derived.WalkLawsBesides
import Derived.Deep.QuietTactic
import Derived.Deep.LoopGhost
import Derived.BigQuiet
import Derived.RegionTactic
import Derived.Maps.Own
import Derived.Maps.OwnOps
import Derived.Maps.RangeWalk
namespace Go.Proofs.Qxb6604216aMods
open Go.RowKit Go.Maps

theorem law9 : Keyed Trym.prog 9 := string_keyed Trym.underlying9
theorem zero3 (w : World) : (zeroValue 3).run Trym.prog w = .ok (.int .i64 0) w := by kernel_rfl
theorem Trym.info9 : (Trym.prog.info? 9).map (fun i => (i.zero, i.size, i.bytes)) = some (some (.string { data := #[] }), 1, 16) := by kernel_rfl

theorem key_inv {key : Value} {kl : Lit} (h : keyOf Trym.prog 9 key = some kl) : ∃ s : ByteArray, key = .string s := by
  cases key <;> simp [keyOf, Trym.underlying9, mapKey] at h
  exact ⟨_, rfl⟩

theorem key_len {s : ByteArray} {kl : Lit} (h : keyOf Trym.prog 9 (.string s) = some kl) : s.size ≤ maxLen := by
  simp [keyOf, Trym.underlying9, mapKey] at h
  exact h.1

end Go.Proofs.Qxb6604216aMods
