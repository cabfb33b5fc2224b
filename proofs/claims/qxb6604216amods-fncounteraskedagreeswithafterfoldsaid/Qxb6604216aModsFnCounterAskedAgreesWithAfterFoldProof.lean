/-
  'Rows.FnCounterAskedAgreesWithAfterFoldSaid', proved. The frame is turned from what the kit's proof-skeleton.mjs writes for slices of integers (no shell was given here); the walk: 'law5' of the Law text.
-/
import Derived.Test.Qxb6604216aModsRows
import Derived.WalkKit
import Derived.ProofKit
import Derived.OpenShut
import Derived.ShutString
import Derived.ChangeOld
import Derived.Below
import Derived.SliceStrings
import Derived.Test.Qxb6604216aModsLaw
namespace Go.Proofs.Qxb6604216aMods.fnCounterAskedAgreesWithAfterFold
open Go.ChangeShapes Go.WideShapes Go.ChangeAt Go.RowKit
open Go.ChangeMaps (open_string shut_string)
set_option linter.unusedVariables false

theorem own : ownKnob Trym.prog.godebug = none := by kernel_rfl
theorem laidOut : laidOutB Trym.prog = true := by kernel_rfl

theorem plain_of {w : World} {x : Addr} {v : Nat → Value} {n : Nat} (h0 : 0 < n) (h : ∀ i, i < n → w.cell? (x.add i) = some (v i)) :
    ∃ b off, some x = some (⟨b, off, none⟩ : Addr) ∧ ∀ i, i < n → w.cell? ⟨b, off + i, none⟩ = some (v i) := by
  obtain ⟨b, off, spot⟩ := x
  have hspot : spot = none := by simpa [Addr.add] using World.cell?_spot (h 0 h0)
  subst hspot
  exact ⟨b, off, rfl, fun j hj => by rw [← add_plain]; exact h j hj⟩

set_option maxRecDepth 100000 in
theorem lifted (os : Os) (started : os.Started) (H : Type) (enc : TypeId × Value → H) :
    ReturnsInHanded {} Trym.checked os 5 .any (Rows.fnCounterAskedAgreesWithAfterFoldSpec.pre6 enc Trym.prog Trym.f5 Rows.fnCounterAskedAgreesWithAfterFoldRow.domain false) (Rows.fnCounterAskedAgreesWithAfterFoldSpec.post enc Trym.prog Trym.f5 false true false false) := by
  refine returnsInHanded_of_change (C := Trym.checked) own started (by kernel_rfl) Trym.func5
    (ChangeSpec.witness6 (enc := enc) (C := Trym.checked) false ⟨#[], #[.slice none 0 0, .slice none 0 0, .slice none 0 0, .bool false, .string ByteArray.empty], []⟩ 8 (by kernel_rfl) (by kernel_rfl) (by kernel_rfl) (by kernel_rfl)) ?_
  intro W base args ds gs before hval0 hW hcnd _
  have hval : ∀ (j : Nat) t v, Trym.f5.params[j]? = some t → args[j]? = some v → Value.okWide Trym.prog W .any base t v := hval0
  have hW' := hW
  obtain ⟨p, q, hA0, hV, rfl, hfz, hnd⟩ := hW
  have hA : DataW.TrodAll enc Trym.prog W 0 (fun _ => true) true Trym.f5.params.toList args.toList ds p := hA0
  rw [Trym.params5] at hA hval
  obtain ⟨v0, vs0, d0, ds0, p0, q0, hargs, rfl, rfl, h0, r0⟩ := trodAll_cons hA
  obtain ⟨v1, vs1, d1, ds1, p1, q1, rfl, rfl, rfl, h1, r1⟩ := trodAll_cons r0
  obtain ⟨v2, vs2, d2, ds2, p2, q2, rfl, rfl, rfl, h2, r2⟩ := trodAll_cons r1
  obtain ⟨v3, vs3, d3, ds3, p3, q3, rfl, rfl, rfl, h3, r3⟩ := trodAll_cons r2
  obtain ⟨v4, vs4, d4, ds4, p4, q4, rfl, rfl, rfl, h4, r4⟩ := trodAll_cons r3
  obtain ⟨rfl, rfl, rfl⟩ := trodAll_nil r4
  obtain rfl : args = #[v0, v1, v2, v3, v4] := by cases args; simp_all
  obtain ⟨rfl, rfl⟩ := trodVars_none hV
  obtain ⟨a0, len0, cap0, rfl⟩ := okWide_slice Trym.underlying22 (hval 0 22 v0 rfl rfl)
  obtain ⟨a1, len1, cap1, rfl⟩ := okWide_slice Trym.underlying23 (hval 1 23 v1 rfl rfl)
  obtain ⟨a2, len2, cap2, rfl⟩ := okWide_slice Trym.underlying22 (hval 2 22 v2 rfl rfl)
  have k0 := h0
  have lt0 : ∀ x ∈ p0, x.block < W.heap.size := by obtain ⟨m, hm⟩ := k0; exact DataW.trod_lt m _ _ _ hm
  have k1 := h1
  have lt1 : ∀ x ∈ p1, x.block < W.heap.size := by obtain ⟨m, hm⟩ := k1; exact DataW.trod_lt m _ _ _ hm
  have k2 := h2
  have lt2 : ∀ x ∈ p2, x.block < W.heap.size := by obtain ⟨m, hm⟩ := k2; exact DataW.trod_lt m _ _ _ hm
  obtain ⟨B, hBl, w0, hBm, hBs⟩ : ∃ B : List ByteArray, len0 = B.length ∧ SRaw W a0 B ∧ B.length ≤ maxLen ∧ ∀ s ∈ B, s.size ≤ maxLen := by
    obtain ⟨fuel, hf⟩ := h0
    rcases open_strings Trym.underlying22 Trym.underlying9 (by kernel_rfl) hf with ⟨hcs, _⟩ | ⟨x, l, c, ss, hcs, _, hl, hm, hz, _, hcell, hws⟩
    · simp [Value.cells] at hcs
      obtain ⟨rfl, rfl, rfl⟩ := hcs
      exact ⟨[], rfl, ⟨fun _ => rfl, fun h => by simp at h⟩, Nat.zero_le _, fun s h => by simp at h⟩
    · simp [Value.cells] at hcs
      obtain ⟨rfl, rfl, rfl⟩ := hcs
      have hz' : ss.length = cap0 := by simpa using hz
      have hl' : (ss.take len0).length = len0 := by rw [List.length_take]; omega
      refine ⟨ss.take len0, hl'.symm, ⟨fun h => (by cases h), fun h => ?_⟩, by rw [hl']; omega, fun s h => hws s (List.mem_of_mem_take h)⟩
      rw [hl'] at h ⊢
      refine plain_of h (fun i hi => ?_)
      rw [hcell i (by omega)]
      simp [List.getD, hi]
  obtain ⟨Z, hZl, w1, hZm⟩ : ∃ Z : List Int, len1 = Z.length ∧ IRaw W a1 Z ∧ Z.length ≤ maxLen := by
    obtain ⟨fuel, hf⟩ := h1
    rcases open_ints Trym.underlying23 Trym.underlying2 (by kernel_rfl) hf with ⟨hcs, _⟩ | ⟨x, l, c, zs, hcs, _, hl, hm, hz, _, hcell, hwz⟩
    · simp [Value.cells] at hcs
      obtain ⟨rfl, rfl, rfl⟩ := hcs
      exact ⟨[], rfl, ⟨fun _ => rfl, fun h => by simp at h⟩, Nat.zero_le _⟩
    · simp [Value.cells] at hcs
      obtain ⟨rfl, rfl, rfl⟩ := hcs
      have hz' : zs.length = cap1 := by simpa using hz
      have hl' : (zs.take len1).length = len1 := by rw [List.length_take]; omega
      refine ⟨zs.take len1, hl'.symm, ⟨fun h => (by cases h), fun h => ?_⟩, by rw [hl']; omega⟩
      rw [hl'] at h ⊢
      refine plain_of h (fun i hi => ?_)
      rw [hcell i (by omega)]
      simp [List.getD, hi]
  obtain ⟨L, hLl, w2, hLm, hLs⟩ : ∃ L : List ByteArray, len2 = L.length ∧ SRaw W a2 L ∧ L.length ≤ maxLen ∧ ∀ s ∈ L, s.size ≤ maxLen := by
    obtain ⟨fuel, hf⟩ := h2
    rcases open_strings Trym.underlying22 Trym.underlying9 (by kernel_rfl) hf with ⟨hcs, _⟩ | ⟨x, l, c, ss, hcs, _, hl, hm, hz, _, hcell, hws⟩
    · simp [Value.cells] at hcs
      obtain ⟨rfl, rfl, rfl⟩ := hcs
      exact ⟨[], rfl, ⟨fun _ => rfl, fun h => by simp at h⟩, Nat.zero_le _, fun s h => by simp at h⟩
    · simp [Value.cells] at hcs
      obtain ⟨rfl, rfl, rfl⟩ := hcs
      have hz' : ss.length = cap2 := by simpa using hz
      have hl' : (ss.take len2).length = len2 := by rw [List.length_take]; omega
      refine ⟨ss.take len2, hl'.symm, ⟨fun h => (by cases h), fun h => ?_⟩, by rw [hl']; omega, fun s h => hws s (List.mem_of_mem_take h)⟩
      rw [hl'] at h ⊢
      refine plain_of h (fun i hi => ?_)
      rw [hcell i (by omega)]
      simp [List.getD, hi]
  obtain ⟨x3, rfl, rfl, rfl⟩ := open_bool Trym.underlying4 (hval 3 4 v3 rfl rfl) h3
  obtain ⟨s4, rfl, rfl, rfl, hs4⟩ := open_string Trym.underlying9 (hval 4 9 v4 rfl rfl) h4
  subst hBl
  subst hZl
  subst hLl
  clear hA0 hval0
  have hs4' : s4.size ≤ 9223372036854775807 := by unfold maxLen at hs4; exact hs4
  unfold maxLen at hBm hZm hLm
  refine (law5 a0 a1 a2 cap0 cap1 cap2 B Z L x3 s4 W hBm hZm hLm hs4' hBs hLs w0 w1 w2).mono fun e W' ⟨he, bel⟩ => ?_
  subst he
  exact ⟨_, rfl, _, _, _, [], _, [], hW', trodAll_mk1 (shut_bool Trym.underlying4 _), (trodAll_cons_mk (Below.trod laidOut (by kernel_rfl) (of_decide_eq_true (by kernel_rfl)) k0 bel lt0) (trodAll_cons_mk (Below.trod laidOut (by kernel_rfl) (of_decide_eq_true (by kernel_rfl)) k1 bel lt1) (trodAll_cons_mk (Below.trod laidOut (by kernel_rfl) (of_decide_eq_true (by kernel_rfl)) k2 bel lt2) (trodAll_cons_mk (shut_bool Trym.underlying4 _) (trodAll_cons_mk (shut_string Trym.underlying9 hs4) trodAll_mk0))))), rfl, bel.frame _, fun h => by cases h⟩

theorem over : Rows.fnCounterAskedAgreesWithAfterFoldRow.holds Trym.pinned (OpenSpec.ofChange Rows.fnCounterAskedAgreesWithAfterFoldSpec) :=
  OpenClaim.holds_of_wide 5 Trym.f5 rfl rfl rfl rfl rfl rfl rfl ⟨rfl, rfl, rfl, rfl, rfl⟩ rfl rfl rfl rfl rfl (by kernel_rfl) Trym.func5 (by kernel_rfl)
    (of_decide_eq_true (by kernel_rfl)) (by unfold Func.isWrapper; first | (rw [if_pos (by decide +kernel)]; kernel_rfl) | (rw [if_neg (by decide +kernel)]; exact ⟨rfl, rfl⟩))
    (fun os started H enc _ => lifted os started H enc)

theorem proved : Rows.FnCounterAskedAgreesWithAfterFoldSaid := over
#print axioms proved
end Go.Proofs.Qxb6604216aMods.fnCounterAskedAgreesWithAfterFold
