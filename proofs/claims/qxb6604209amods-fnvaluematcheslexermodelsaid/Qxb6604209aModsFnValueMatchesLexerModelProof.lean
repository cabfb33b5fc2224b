/-
  'Rows.FnValueMatchesLexerModelSaid', proved. The frame: written by the kit's proof-skeleton.mjs; the walk: filled here out of the contracts in the Con and Val texts.
-/
import Derived.Test.Qxb6604209aModsRows
import Derived.WalkKit
import Derived.ProofKit
import Derived.OpenShut
import Derived.ShutString
import Derived.ChangeOld
import Derived.Below
import Derived.Test.Qxb6604209aModsConB
import Derived.Test.Qxb6604209aModsValF
namespace Go.Proofs.Qxb6604209aMods.fnValueMatchesLexerModel
open Go.ChangeShapes Go.WideShapes Go.ChangeAt Go.RowKit
open Go.ChangeMaps (open_string shut_string)
set_option linter.unusedVariables false

theorem own : ownKnob Trym.prog.godebug = none := by kernel_rfl
theorem laidOut : laidOutB Trym.prog = true := by kernel_rfl

/-- WHAT THE WALK IS TOLD OF A SLICE OF INTEGERS THAT CAME IN: it is nil; or it leads to a row of 'cap' cells, the numbers 'zs' (the first 'len' are its elements, the rest its spare room), each fitting its kind. -/
def IsRow (k : IntKind) (w : World) (a : Option Addr) (len cap : Nat) (zs : List Int) : Prop :=
  (a = none ∧ len = 0 ∧ cap = 0 ∧ zs = []) ∨
  ∃ x, a = some x ∧ len ≤ cap ∧ cap ≤ maxLen ∧ zs.length = cap ∧ (∀ i, i < zs.length → w.cell? (x.add i) = some (.int k (zs.getD i 0))) ∧ ∀ n ∈ zs, (Lit.int k n).wf = true

theorem IsRow.plain {k : IntKind} {w : World} {a : Option Addr} {len cap : Nat} {zs : List Int} (h : IsRow k w a len cap zs) (h0 : 0 < len) :
    ∃ b off, a = some ⟨b, off, none⟩ ∧ ∀ i, i < len → w.cell? ⟨b, off + i, none⟩ = some (.int k (zs.getD i 0)) := by
  rcases h with ⟨_, rfl, _⟩ | ⟨x, rfl, hl, _, hz, hcell, _⟩
  · omega
  · obtain ⟨b, off, spot⟩ := x
    have hspot : spot = none := by simpa [Addr.add] using World.cell?_spot (hcell 0 (by omega))
    subst hspot
    exact ⟨b, off, rfl, fun j hj => by rw [← add_plain]; exact hcell j (by omega)⟩

set_option maxHeartbeats 1000000 in
theorem walk_in (f : Nat → Int) (b off n cap pos : Nat) (w : World) (hn : n ≤ 1048576) (hp : pos < n)
    (hc : ∀ i, i < n → w.cell? ⟨b, off + i, none⟩ = some (.int .u8 (f i))) :
    Calls Trym.prog 4 #[.slice (some ⟨b, off, none⟩) n cap, .int .i64 pos] w fun e w' => e = .returned (.bool true) ∧ Below w.heap.size w w' := by
  go_enter Trym.func4, Trym.ntmps4
  go_wp2_with (first
    | (go_at_call 9; go_must (refine (bytes9_yes _ _ _ _ _ hn).mono ?_); rintro e w1 ⟨rfl, rfl⟩)
    | fail)
  refine (clone6 f b off n cap w hn (by omega) hc).mono ?_
  rintro e w1 ⟨rfl, hb1, hs1, hc1⟩
  have hc2 : ∀ i, i < n → w1.cell? ⟨w.heap.size, 0 + i, none⟩ = some (.int .u8 (f i)) := by simpa using hc1
  clear hc1
  go_wp2_with fail
  refine (valueEnd10 f w.heap.size 0 n n pos w1 hp hn hc2).mono ?_
  rintro e w2 ⟨rfl, ⟨en, hen, rfl⟩ | rfl⟩
  · have hbd := hen.bounds
    obtain ⟨hb0, hb00⟩ := hbd
    go_wp2_with fail
    refine (zzvalue11 f w.heap.size 0 n n pos en w1 hn (Nat.le_refl _) hp hc2 hen).mono ?_
    rintro e w3 ⟨j, hj, rfl, hb3⟩
    have hc3 : ∀ i, i < n → w3.cell? ⟨w.heap.size, 0 + i, none⟩ = some (.int .u8 (f i)) := cells_below hb3 hs1 hc2
    have hbb : Below w.heap.size w w3 := hb1.trans (hb3.mono (by omega))
    have hcd : ∀ i, i < n → w3.cell? ⟨w.heap.size, i, none⟩ = some (.int .u8 (f i)) := by simpa using hc3
    go_wp2_with fail
    refine (skipSpace12 f w.heap.size 0 n n en w3 hn (by omega) hc3).mono ?_
    rintro e w4 ⟨rfl, j', hj', rfl⟩
    have := hj.uniq hj'
    subst this
    clear hj hj' hc2 hen hc hb1 hb3
    have hlen : (((en - pos : Nat) : Int) != (en : Int) - (pos : Int)) = false := by simp; omega
    go_wp2
    go_loopg [9] (en - pos) (fun gn v wr => ∃ k : Nat, gn = en - pos - k ∧ k ≤ en - pos ∧ v = .int .i64 k ∧ ∃ m, wr = w3.drewN m)
    case atStart => exact ⟨0, by omega, by omega, rfl, 0, rfl⟩
    case round =>
      obtain ⟨k, rfl, hk, rfl, m, rfl⟩ := hrel
      by_cases hlt : k < en - pos
      · have hx := hcd (pos + k) (by omega)
        have i0 : (0 : Int) ≤ (k : Int) := by omega
        have i1 : (k : Int) < ((en - pos : Nat) : Int) := by omega
        have i2 : (0 : Int) ≤ (pos : Int) + (k : Int) := by omega
        have i3 : (pos : Int) + (k : Int) < (n : Int) := by omega
        go_wp2
        go_quiet (fail)
        go_wp2
        go_roundg (en - pos - (k + 1))
        case measure => omega
        case rel => exact ⟨k + 1, rfl, by omega, by go_num, _, rfl⟩
      · go_wp2
        go_ret
        exact ⟨rfl, below_drewN hbb _⟩
  · go_wp2_with fail
    go_ret
    exact ⟨rfl, hb1⟩

/-! ### STEP 1: THE WALK: the Go text returns true, AND WRITES NOTHING THAT WAS THERE: 'Below w.heap.size w w'' (Derived/Below.lean: '.refl', '.alloc', '.drew', '.setCell' at a new block, '.trans'). Open each 'IsRow' by 'rcases' AHEAD of 'go_enter'; part every test ahead of the walk. -/
theorem walk (a0 : Option Addr) (len0 cap0 : Nat) (z0 : List Int) (a1 : Int) (w : World) (w0 : IsRow .u8 w a0 len0 cap0 z0) (w1 : (Lit.int .i64 a1).wf = true) :
    Calls Trym.prog 4 #[.slice a0 len0 cap0, .int .i64 a1] w fun e w' => e = .returned (.bool true) ∧ Below w.heap.size w w' := by
  by_cases hlen : len0 ≤ 1048576
  · by_cases hp : a1 < 0
    · go_enter Trym.func4, Trym.ntmps4
      go_wp2_with (go_at_call 9; go_must (refine (bytes9_yes _ _ _ _ _ hlen).mono ?_); rintro e w1 ⟨rfl, rfl⟩)
      go_ret
      exact ⟨rfl, Below.refl _ _⟩
    · by_cases hq : (len0 : Int) ≤ a1
      · go_enter Trym.func4, Trym.ntmps4
        go_wp2_with (go_at_call 9; go_must (refine (bytes9_yes _ _ _ _ _ hlen).mono ?_); rintro e w1 ⟨rfl, rfl⟩)
        go_ret
        exact ⟨rfl, Below.refl _ _⟩
      · obtain ⟨pos, rfl⟩ : ∃ p : Nat, a1 = p := ⟨a1.toNat, by omega⟩
        have hpl : pos < len0 := by omega
        obtain ⟨b, off, rfl, hc⟩ := IsRow.plain w0 (by omega)
        obtain ⟨f, hf⟩ : ∃ f : Nat → Int, f = fun i => z0.getD i 0 := ⟨_, rfl⟩
        have hc' : ∀ i, i < len0 → w.cell? ⟨b, off + i, none⟩ = some (.int .u8 (f i)) := by rw [hf]; exact hc
        clear hc hf w0
        exact walk_in f b off len0 cap0 pos w hlen hpl hc'
  · go_enter Trym.func4, Trym.ntmps4
    go_wp2_with (go_at_call 9; go_must (refine (bytes9_no _ _ _ _ _ (by omega)).mono ?_); rintro e w1 ⟨rfl, rfl⟩)
    go_ret
    exact ⟨rfl, Below.refl _ _⟩

/-! ### THE ROW's STEP: WRITTEN OUT: LEAVE IT -/
set_option maxRecDepth 100000 in
theorem lifted (os : Os) (started : os.Started) (H : Type) (enc : TypeId × Value → H) :
    ReturnsInHanded {} Trym.checked os 4 .any (Rows.fnValueMatchesLexerModelSpec.pre6 enc Trym.prog Trym.f4 Rows.fnValueMatchesLexerModelRow.domain false) (Rows.fnValueMatchesLexerModelSpec.post enc Trym.prog Trym.f4 false true false false) := by
  refine returnsInHanded_of_change (C := Trym.checked) own started (by kernel_rfl) Trym.func4
    (ChangeSpec.witness6 (enc := enc) (C := Trym.checked) false ⟨#[], #[.slice none 0 0, .int .i64 0], []⟩ 8 (by kernel_rfl) (by kernel_rfl) (by kernel_rfl) (by kernel_rfl)) ?_
  intro W base args ds gs before hval0 hW hcnd _
  have hval : ∀ (j : Nat) t v, Trym.f4.params[j]? = some t → args[j]? = some v → Value.okWide Trym.prog W .any base t v := hval0
  have hW' := hW
  obtain ⟨p, q, hA0, hV, rfl, hfz, hnd⟩ := hW
  have hA : DataW.TrodAll enc Trym.prog W 0 (fun _ => true) true Trym.f4.params.toList args.toList ds p := hA0
  rw [Trym.params4] at hA hval
  obtain ⟨v0, vs0, d0, ds0, p0, q0, hargs, rfl, rfl, h0, r0⟩ := trodAll_cons hA
  obtain ⟨v1, vs1, d1, ds1, p1, q1, rfl, rfl, rfl, h1, r1⟩ := trodAll_cons r0
  obtain ⟨rfl, rfl, rfl⟩ := trodAll_nil r1
  obtain rfl : args = #[v0, v1] := by cases args; simp_all
  obtain ⟨rfl, rfl⟩ := trodVars_none hV
  obtain ⟨a0, len0, cap0, rfl⟩ := okWide_slice Trym.underlying22 (hval 0 22 v0 rfl rfl)
  have k0 := h0
  have lt0 : ∀ x ∈ p0, x.block < W.heap.size := by obtain ⟨m, hm⟩ := k0; exact DataW.trod_lt m _ _ _ hm
  obtain ⟨z0, w0⟩ : ∃ zs, IsRow .u8 W a0 len0 cap0 zs := by
    obtain ⟨fuel, hf⟩ := h0
    rcases open_ints Trym.underlying22 Trym.underlying5 (by kernel_rfl) hf with ⟨hcs, _⟩ | ⟨x, l, c, zs, hcs, _, hl, hm, hz, _, hcell, hwz⟩
    · simp [Value.cells] at hcs
      obtain ⟨rfl, rfl, rfl⟩ := hcs
      exact ⟨[], .inl ⟨rfl, rfl, rfl, rfl⟩⟩
    · simp [Value.cells] at hcs
      obtain ⟨rfl, rfl, rfl⟩ := hcs
      exact ⟨zs, .inr ⟨_, rfl, hl, hm, by simpa using hz, hcell, hwz⟩⟩
  obtain ⟨a1, rfl, rfl, rfl, w1⟩ := open_int Trym.underlying3 (hval 1 3 v1 rfl rfl) h1
  clear hA0 hval0
  refine (walk a0 len0 cap0 z0 a1 W w0 w1).mono fun e W' ⟨he, bel⟩ => ?_
  subst he
  exact ⟨_, rfl, _, _, _, [], _, [], hW', trodAll_mk1 (shut_bool Trym.underlying4 _), (trodAll_cons_mk (Below.trod laidOut (by kernel_rfl) (of_decide_eq_true (by kernel_rfl)) k0 bel lt0) (trodAll_cons_mk (shut_int Trym.underlying3 w1) trodAll_mk0)), rfl, bel.frame _, fun h => by cases h⟩

theorem over : Rows.fnValueMatchesLexerModelRow.holds Trym.pinned (OpenSpec.ofChange Rows.fnValueMatchesLexerModelSpec) :=
  OpenClaim.holds_of_wide 4 Trym.f4 rfl rfl rfl rfl rfl rfl rfl ⟨rfl, rfl, rfl, rfl, rfl⟩ rfl rfl rfl rfl rfl (by kernel_rfl) Trym.func4 (by kernel_rfl)
    (of_decide_eq_true (by kernel_rfl)) (by unfold Func.isWrapper; first | (rw [if_pos (by decide +kernel)]; kernel_rfl) | (rw [if_neg (by decide +kernel)]; exact ⟨rfl, rfl⟩))
    (fun os started H enc _ => lifted os started H enc)

/-- ████ THE STATEMENT ████ -/
theorem proved : Rows.FnValueMatchesLexerModelSaid := over
#print axioms proved
end Go.Proofs.Qxb6604209aMods.fnValueMatchesLexerModel
