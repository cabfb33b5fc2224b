import Derived.Test.Qxb6604563aModsConA
namespace Go.Proofs.Qxb6604563aMods
open Go.RowKit Plain

theorem own_block {w : World} {base e size n : Nat} {v : Value} {xs : List Value} (h : w.ownsRow base e size v n xs) {b : Nat} (hb : v.ownBlock = some b) : base ≤ b := by
  rcases h.2 with ⟨rfl, _⟩ | ⟨g, cap, cur, rfl, hg, _⟩
  · simp [Value.ownBlock] at hb
  · simp [Value.ownBlock] at hb; omega

theorem okw_cases (x : Int) : (okw x = true ∧ (x != 0) = true ∧ (x != 4294967296) = true) ∨ (okw x = false ∧ (x != 0) = false) ∨ (okw x = false ∧ (x != 0) = true ∧ (x != 4294967296) = false) := by
  unfold okw
  cases h1 : (x != 0) <;> cases h2 : (x != 4294967296) <;> simp

set_option maxHeartbeats 1000000 in
theorem placeable8 (a : Option Addr) (c : Nat) (O : List Int) (m steps : Nat) (w : World) (hn : O.length ≤ 8192) (hm : m + steps ≤ O.length) (h : URaw w a O) :
    Calls Trym.prog 8 #[.slice a O.length c, .int .i64 m, .int .i64 steps] w fun e w' => ∃ v, e = .returned v ∧ w'.ownsRow w.heap.size 23 1 v (pc O m steps) ((pls O m steps).map (Value.int .u64)) ∧ Below w.heap.size w w' := by
  have H : Hid (URaw w a O) := h
  clear h
  obtain ⟨i0, hi, hz0, hz1, hz2⟩ := info_parts Trym.info23
  go_enter Trym.func8, Trym.ntmps8
  go_wp2_with (at_make; refine wpList_make_own _ rfl _ _ 22 rfl w.heap.size 23 i0 (.int .u64 0) 1 Trym.underlying22 hi hz0 hz1 .i64 .i64 _ steps rfl rfl rfl ?_ ?_ ?_ ?_)
  · rw [hz2]; omega
  · unfold maxLen; omega
  · exact Nat.le_refl _
  intro w1 hown1 hgrow1
  have hb1 : Below w.heap.size w w1 := (Below.refl _ _).grown hgrow1 (Nat.le_refl _) (by simp)
  clear hgrow1
  go_wp2
  go_loopw [7, 8] (fun v vi wr => ∃ k : Nat, k ≤ steps ∧ vi = .int .i64 ((m : Int) + k) ∧ wr.ownsRow w.heap.size 23 1 v (pc O m k) ((pls O m k).map (Value.int .u64)) ∧ Below w.heap.size w wr)
    (fun _ vi _ => m + steps - (intOf vi).toNat)
  case atStart => exact ⟨0, Nat.zero_le _, by go_num, hown1, hb1⟩
  case round =>
    obtain ⟨k, hk, rfl, hown, hbel⟩ := hrel
    clear hown1 hb1
    have hple := pc_le O m k
    by_cases hlt : k < steps
    · obtain ⟨b, off, rfl, hc⟩ := H.out.2 (by omega)
      have hbl : b < w.heap.size := by simpa using block_lt_of_cell (hc (m + k) (by omega))
      obtain ⟨x, hx⟩ : ∃ x, x = O.getD (m + k) 0 := ⟨_, rfl⟩
      have hcx : wr.cell? ⟨b, off + (m + k), none⟩ = some (.int .u64 x) := by rw [hx]; exact (hbel.cell (by exact hbl)).trans (hc (m + k) (by omega))
      have HX : Hid (x = O.getD (m + k) 0) := hx
      clear hx hc
      have i0' : (0 : Int) ≤ (m : Int) + (k : Int) := by omega
      have i1' : (m : Int) + (k : Int) < (O.length : Int) := by omega
      rcases okw_cases x with ⟨ho, h1, h2⟩ | ⟨ho, h1⟩ | ⟨ho, h1, h2⟩
      · have HP : Hid (pls O m (k + 1) = pls O m k ++ [x] ∧ pc O m (k + 1) = pc O m k + 1) := by
          refine ⟨?_, ?_⟩
          · simp only [pls]; rw [← HX.out, if_pos ho]
          · simp only [pc]; rw [← HX.out, if_pos ho]
        clear ho
        go_wp2_with (at_builtin; refine wpList_append_own _ rfl _ _ 22 rfl w.heap.size 23 i0 (.int .u64 0) 1 8 Trym.underlying22 hi hz0 hz1 hz2 rfl (by decide) _ _ _ rfl (hown.alloc _) ⟨wr.heap.size, 0, none⟩ 1 1 [.int .u64 x] rfl rfl ?c1 ?c2 ?c3 ?c4 ?c5 ?_)
        case c1 =>
          intro j u hj
          match j, hj with
          | 0, hj => simp at hj; subst hj; simp [Addr.add]
        case c2 => first | rfl | (intro u hu; simp at hu; subst hu; rfl)
        case c3 => unfold maxLen; omega
        case c4 => omega
        case c5 => have := hbel.size; simp; omega
        intro v' w2 hown2 hgrow2 _
        have hb2 : Below w.heap.size w w2 := (hbel.alloc hbel.size _).grown hgrow2 (by have := hbel.size; simp; omega) (fun b hb => own_block hown hb)
        have HO : Hid (w2.ownsRow w.heap.size 23 1 v' (pc O m (k + 1)) ((pls O m (k + 1)).map (Value.int .u64))) := by
          rw [HP.out.1, HP.out.2, List.map_append]
          exact hown2
        clear hown hown2 hgrow2 hcx hbel
        go_wp2
        go_roundw
        case rel => exact ⟨k + 1, by omega, by go_num, HO.out, hb2⟩
        case measure => simp [intOf]; omega
      all_goals
        have HO : Hid (pls O m (k + 1) = pls O m k ∧ pc O m (k + 1) = pc O m k) := by
          refine ⟨?_, ?_⟩
          · simp only [pls]; rw [← HX.out, ho]; simp
          · simp only [pc]; rw [← HX.out, ho]; simp
        clear ho
        go_wp2
        go_roundw
        case rel => exact ⟨k + 1, by omega, by go_num, by rw [HO.out.1, HO.out.2]; exact hown, hbel⟩
        case measure => simp [intOf]; omega
    · go_wp2
      have hks : k = steps := by omega
      subst hks
      go_ret
      exact ⟨_, rfl, hown, hbel⟩

/-- What 'cloneWords' hands back. -/
def Cl (w' : World) (g : Nat) (a : Option Addr) (v' : Value) (A : List Int) : Prop :=
  (a = none ∧ v' = .slice none 0 0 ∧ A = []) ∨ (a ≠ none ∧ v' = .slice (some ⟨g, 0, none⟩) A.length A.length ∧ w'.ownsRow g 23 1 (.slice (some ⟨g, 0, none⟩) A.length A.length) A.length (A.map (Value.int .u64)))

set_option maxHeartbeats 1000000 in
theorem clone9 (a : Option Addr) (c : Nat) (A : List Int) (w : World) (hn : A.length ≤ 8192) (h : URaw w a A) :
    Calls Trym.prog 9 #[.slice a A.length c] w fun e w' => ∃ v', e = .returned v' ∧ Cl w' w.heap.size a v' A ∧ Below w.heap.size w w' := by
  have q22 : ∀ (w : World) (a : Option Addr) (n c n' c' : Nat), (binOp .eql 22 (.slice a n c) (.slice none n' c')).run Trym.prog w = .ok (.bool a.isNone) w := fun w a n c n' c' => Lib.run_eql_slice_nil w _ _ a n c n' c' Trym.underlying22
  obtain ⟨i0, hi, hz0, hz1, hz2⟩ := info_parts Trym.info23
  cases a with
  | none =>
    have hL := h.1 rfl
    subst hL
    go_enter Trym.func9, Trym.ntmps9
    go_wp2
    go_ret
    exact ⟨_, rfl, .inl ⟨rfl, rfl, rfl⟩, Below.refl _ _⟩
  | some x =>
    have H : Hid (URaw w (some x) A) := h
    clear h
    go_enter Trym.func9, Trym.ntmps9
    go_wp2_with (at_make; refine wpList_make_full _ rfl _ _ 22 rfl w.heap.size 23 i0 (.int .u64 0) 1 Trym.underlying22 hi hz0 hz1 .i64 .i64 _ _ A.length rfl rfl rfl rfl ?_ ?_ ?_ ?_)
    · rw [hz2]; omega
    · unfold maxLen; omega
    · exact Nat.le_refl _
    intro w1 hown hgrow
    have hb1 : Below w.heap.size w w1 := (Below.refl _ _).grown hgrow (Nat.le_refl _) (by simp)
    clear hgrow
    rw [toList_madeCells_one] at hown
    have hrow : w1.heap[w.heap.size]? = some (.cells (List.replicate A.length (Value.int .u64 0)).toArray 23 (0, 0)) := by
      rcases hown.2 with ⟨h, _⟩ | ⟨g, cap, cur, hv, _, hg, _, _, hcs, htake⟩
      · cases h
      · injection hv with e1 e2 e3
        injection e1 with e4
        injection e4 with e5
        subst e5 e3
        rw [hg]
        have : cur = (List.replicate A.length (Value.int .u64 0)).toArray := by
          apply Array.ext'
          rw [← htake, List.take_of_length_le (by rw [Array.length_toList, hcs]; exact Nat.le_refl _)]
        rw [this]
    clear hown
    obtain ⟨cs, hcs⟩ : ∃ cs, cs = A.map (Value.int .u64) := ⟨_, rfl⟩
    have HCS : Hid (cs = A.map (Value.int .u64)) := hcs
    have hcl : cs.length = A.length := by rw [hcs]; simp
    have HCL : Hid (cs.length = A.length) := hcl
    clear hcs hcl
    go_wp2_with (refine wpList_copy_splice rfl _ _ 22 22 rfl 23 Trym.underlying22 Trym.size23 _ _ _ _ _ _ rfl rfl w.heap.size 0 (List.replicate A.length (Value.int .u64 0)) 23 hrow cs ?d1 ?d2 ?d3 ?d4 w.heap.size w hb1 (Nat.le_refl _) ?_)
    case d1 => rw [HCL.out]; simp
    case d2 =>
      intro h0
      rw [HCL.out] at h0
      obtain ⟨b, off, hx, hc⟩ := H.out.2 h0
      intro j v hj
      injection hx with hx
      subst hx
      rw [HCS.out] at hj
      have hjl : j < A.length := by have := (List.getElem?_eq_some_iff.1 hj).1; simpa using this
      rw [Addr.add_lit]
      rw [hb1.cell (by simpa using block_lt_of_cell (hc j hjl)), hc j hjl]
      simp [hjl] at hj
      rw [← hj]
      simp [hjl]
    case d3 => rw [HCL.out]; simp
    case d4 => intro v hv; rw [HCS.out] at hv; obtain ⟨y, _, rfl⟩ := List.mem_map.1 hv; rfl
    intro w2 HG2 hB2
    have HO : Hid (w2.ownsRow w.heap.size 23 1 (.slice (some ⟨w.heap.size, 0, none⟩) A.length A.length) A.length (A.map (Value.int .u64))) := by
      refine ⟨by simp, .inr ⟨w.heap.size, A.length, _, rfl, Nat.le_refl _, HG2.out, Nat.le_refl _, by unfold maxLen; omega, ?_, ?_⟩⟩
      · rw [List.size_toArray, length_splice _ _ _ (by rw [HCL.out]; simp)]; simp
      · rw [splice, HCL.out, HCS.out]; simp [List.take_of_length_le]
    clear hrow
    go_wp2
    go_ret
    exact ⟨_, rfl, .inr ⟨by simp, rfl, HO.out⟩, hB2⟩

end Go.Proofs.Qxb6604563aMods
