import Derived.Test.Qxb6604563aModsMove
namespace Go.Proofs.Qxb6604563aMods
open Go.RowKit Plain

theorem ne_self (x : Int) : (x != x) = false := by simp

set_option maxHeartbeats 1000000 in
/-- sameWords at equal contents. -/
theorem same17 (a1 a2 : Option Addr) (c1 c2 : Nat) (A : List Int) (w : World) (hn : A.length ≤ 8192) (h1 : URaw w a1 A) (h2 : URaw w a2 A) :
    Calls Trym.prog 17 #[.slice a1 A.length c1, .slice a2 A.length c2] w fun e w' => e = .returned (.bool true) ∧ ∃ m, w' = w.drewN m := by
  have H1 : Hid (URaw w a1 A) := h1
  have H2 : Hid (URaw w a2 A) := h2
  clear h1 h2
  go_enter Trym.func17, Trym.ntmps17
  go_wp2
  go_loopg [5] A.length (fun gn v wr => ∃ k : Nat, gn = A.length - k ∧ k ≤ A.length ∧ v = .int .i64 k ∧ ∃ m, wr = w.drewN m)
  case atStart => exact ⟨0, by omega, by omega, rfl, 0, rfl⟩
  case round =>
    obtain ⟨k, rfl, hk, rfl, m, rfl⟩ := hrel
    by_cases hlt : k < A.length
    · obtain ⟨b, off, rfl, hc1⟩ := H1.out.2 (by omega)
      obtain ⟨b2, off2, rfl, hc2⟩ := H2.out.2 (by omega)
      have hx := hc1 k hlt
      have hy := hc2 k hlt
      have i0 : (0 : Int) ≤ (k : Int) := by omega
      have i1 : (k : Int) < (A.length : Int) := by omega
      obtain ⟨x, hx'⟩ : ∃ x, x = A.getD k 0 := ⟨_, rfl⟩
      rw [← hx'] at hx hy
      clear hx' hc1 hc2
      have hne := ne_self x
      go_wp2
      go_quiet (fail)
      go_wp2
      go_roundg (A.length - (k + 1))
      case measure => omega
      case rel => exact ⟨k + 1, rfl, by omega, by go_num, _, rfl⟩
    · go_wp2
      go_ret
      exact ⟨rfl, _, rfl⟩

set_option maxHeartbeats 400000 in
theorem newHashed10 (base sb L : Nat) (A : List Int) (oa : Option Addr) (ol oc : Nat) (m n pre : Int) (w : World) (hb : base ≤ w.heap.size) (hsb : sb < w.heap.size) (h : w.ownsRow base 23 1 (.slice (some ⟨sb, 0, none⟩) L L) L (A.map (Value.int .u64))) :
    Calls Trym.prog 10 #[.slice (some ⟨sb, 0, none⟩) L L, .slice oa ol oc, .int .i64 m, .int .i64 n, .int .u64 pre] w fun e w' =>
      e = .returned (.pointer (some ⟨w.heap.size, 0, none⟩)) ∧ Tb w' base w.heap.size sb L A (.slice oa ol oc) m n pre ∧ Below w.heap.size w w' ∧ w'.heap.size = w.heap.size + 1 := by
  have H : Hid (w.ownsRow base 23 1 (.slice (some ⟨sb, 0, none⟩) L L) L (A.map (Value.int .u64))) := h
  clear h
  go_enter Trym.func10, Trym.ntmps10
  go_wp2
  go_ret
  refine ⟨rfl, ⟨?_, World.ownsRow.alloc H.out _, by omega⟩, (Below.refl _ _).alloc (Nat.le_refl _) _, by simp⟩
  exact World.ownsRow_lit (size := 5) w #[.slice (some ⟨sb, 0, none⟩) L L, .slice oa ol oc, .int .i64 m, .int .i64 n, .int .u64 pre] 1 hb (by decide) rfl

set_option maxHeartbeats 400000 in
theorem zzmove11 (base xb sb L : Nat) (A O : List Int) (vo : Value) (m : Nat) (mi n pre k : Int) (w : World) (hmi : mi = (m : Int)) (hL : 0 < L) (hL2 : L ≤ 8192) (hO : O.length ≤ 8192) (hm : m ≤ O.length) (hk1 : -9223372036854775808 ≤ k) (hk2 : k ≤ 9223372036854775807)
    (hw : ∀ x ∈ O, 0 ≤ x ∧ x ≤ 18446744073709551615) (hp : L &&& (L - 1) = 0) (hc : pc O m (stepsOf O.length m k) ≤ cf A) (h : Tb w base xb sb L A vo mi n pre) (ho : Ol w xb sb vo O) :
    Calls Trym.prog 11 #[.pointer (some ⟨xb, 0, none⟩), .int .i64 k] w fun e w' => e = .returned (.tuple #[]) ∧ Moved w base xb sb L A O vo m (stepsOf O.length m k) n pre w' := by
  subst hmi
  go_enter Trym.func11, Trym.ntmps11
  go_wp2_with fail
  refine (move18 base xb sb L A O vo m n pre k w hL hL2 hO hm hk1 hk2 hw hp hc h ho).mono ?_
  rintro e w' ⟨rfl, hM⟩
  go_wp2
  go_end0
  exact ⟨rfl, hM⟩

set_option maxHeartbeats 1000000 in
theorem fields12 (base xb sb L : Nat) (A : List Int) (oa : Option Addr) (ol oc : Nat) (m n pre : Int) (w : World) (h : Tb w base xb sb L A (.slice oa ol oc) m n pre) :
    Calls Trym.prog 12 #[.pointer (some ⟨xb, 0, none⟩)] w fun e w' => e = .returned (.tuple #[.slice (some ⟨sb, 0, none⟩) L L, .slice oa ol oc, .int .i64 m, .int .i64 n, .int .u64 pre]) ∧ ∃ k, w' = w.drewN k := by
  have c0 := h.slotsCell
  have c1 := h.oldCell
  have c2 := h.movedCell
  have c3 := h.nCell
  have c4 := h.preCell
  clear h
  go_enter Trym.func12, Trym.ntmps12
  go_wp2
  go_quiet (fail)
  go_wp2
  exact bodyPost_ret (v := .tuple #[.slice (some ⟨sb, 0, none⟩) L L, .slice oa ol oc, .int .i64 m, .int .i64 n, .int .u64 pre]) (by simp [results, Trym.results12, go_sem]) rfl ⟨rfl, _, rfl⟩

set_option maxHeartbeats 400000 in
/-- oldAsExpected, all moved. -/
theorem oldDone13 (oa : Option Addr) (ol oc : Nat) (nm : Int) (w : World) (h : nm = (ol : Int)) :
    Calls Trym.prog 13 #[.slice oa ol oc, .int .i64 nm, .slice none 0 0, .int .i64 0] w fun e w' => e = .returned (.bool true) ∧ ∃ m, w' = w.drewN m := by
  have q22 : ∀ (w : World) (a : Option Addr) (n c n' c' : Nat), (binOp .eql 22 (.slice a n c) (.slice none n' c')).run Trym.prog w = .ok (.bool a.isNone) w := fun w a n c n' c' => Lib.run_eql_slice_nil w _ _ a n c n' c' Trym.underlying22
  subst h
  go_enter Trym.func13, Trym.ntmps13
  go_wp2
  go_ret
  exact ⟨rfl, 0, rfl⟩

theorem bool_self (b : Bool) : (b == b) = true := by simp

set_option maxHeartbeats 400000 in
/-- oldAsExpected, some left. -/
theorem oldMore13 (oa ga : Option Addr) (oc gc : Nat) (O : List Int) (nm : Int) (w : World) (hn : O.length ≤ 8192) (h : nm ≠ (O.length : Int)) (hnil : ga.isNone = oa.isNone) (h1 : URaw w oa O) (h2 : URaw w ga O) :
    Calls Trym.prog 13 #[.slice oa O.length oc, .int .i64 nm, .slice ga O.length gc, .int .i64 nm] w fun e w' => e = .returned (.bool true) ∧ ∃ m, w' = w.drewN m := by
  have q22 : ∀ (w : World) (a : Option Addr) (n c n' c' : Nat), (binOp .eql 22 (.slice a n c) (.slice none n' c')).run Trym.prog w = .ok (.bool a.isNone) w := fun w a n c n' c' => Lib.run_eql_slice_nil w _ _ a n c n' c' Trym.underlying22
  have hb : (nm == (O.length : Int)) = false := by simp [h]
  have HH : Hid (URaw w oa O ∧ URaw w ga O) := ⟨h1, h2⟩
  have hbs := bool_self oa.isNone
  clear h h1 h2
  go_enter Trym.func13, Trym.ntmps13
  go_wp2_with fail
  refine (same17 ga oa gc oc O w hn HH.out.2 HH.out.1).mono ?_
  rintro e w' ⟨rfl, m, rfl⟩
  go_wp2
  go_ret
  exact ⟨rfl, m, rfl⟩

end Go.Proofs.Qxb6604563aMods
