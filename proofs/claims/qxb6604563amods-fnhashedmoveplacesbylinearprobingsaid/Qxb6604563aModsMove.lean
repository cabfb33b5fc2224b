import Derived.Test.Qxb6604563aModsConC
namespace Go.Proofs.Qxb6604563aMods
open Go.RowKit Plain

/-- The old table's slice: nil, or at a plain address in another block than xb and sb. -/
def Ol (w : World) (xb sb : Nat) (vo : Value) (O : List Int) : Prop :=
  (vo = .slice none 0 0 ∧ O = []) ∨ ∃ ob off cap, vo = .slice (some ⟨ob, off, none⟩) O.length cap ∧ ob ≠ xb ∧ ob ≠ sb ∧ ∀ j, j < O.length → w.cell? ⟨ob, off + j, none⟩ = some (.int .u64 (O.getD j 0))

theorem Ol.form {w : World} {xb sb : Nat} {vo : Value} {O : List Int} (h : Ol w xb sb vo O) : ∃ a c, vo = .slice a O.length c := by
  rcases h with ⟨rfl, rfl⟩ | ⟨ob, off, cap, rfl, _⟩
  · exact ⟨none, 0, rfl⟩
  · exact ⟨_, _, rfl⟩

theorem Ol.keep {w w' : World} {xb sb : Nat} {vo : Value} {O : List Int} (h : Ol w xb sb vo O) (hb : But xb sb w w') : Ol w' xb sb vo O := by
  rcases h with h | ⟨ob, off, cap, h1, h2, h3, h4⟩
  · exact .inl h
  · refine .inr ⟨ob, off, cap, h1, h2, h3, fun j hj => ?_⟩
    have hc := h4 j hj
    have hlt : ob < w.heap.size := by simpa using block_lt_of_cell hc
    rw [World.cell?_of_block (w := w) (hb.block ob hlt h2 h3)]
    exact hc

set_option maxHeartbeats 400000 in
theorem Tb.moved {w : World} {base xb sb L : Nat} {A : List Int} {vo : Value} {m n pre : Int} (h : Tb w base xb sb L A vo m n pre) (m' : Int) : Tb (w.setCell ⟨xb, 2, none⟩ (.int .i64 m')) base xb sb L A vo m' n pre :=
  ⟨(h.st.stored 2 (.int .i64 m')).1, ownsRow_setCell_other h.row (by simp [Value.ownBlock]; exact h.ne) _, h.ne⟩

theorem Tb.dropped {w : World} {base xb sb L : Nat} {A : List Int} {vo : Value} {m n pre : Int} (h : Tb w base xb sb L A vo m n pre) :
    Tb ((w.setCell ⟨xb, 1, none⟩ (.slice none 0 0)).setCell ⟨xb, 2, none⟩ (.int .i64 0)) base xb sb L A (.slice none 0 0) 0 n pre :=
  ⟨((h.st.stored 1 (.slice none 0 0)).1.stored 2 (.int .i64 0)).1, ownsRow_setCell_other (ownsRow_setCell_other h.row (by simp [Value.ownBlock]; exact h.ne) _) (by simp [Value.ownBlock]; exact h.ne) _, h.ne⟩

theorem Tb.drewN {w : World} {base xb sb L : Nat} {A : List Int} {vo : Value} {m n pre : Int} (h : Tb w base xb sb L A vo m n pre) (k : Nat) : Tb (w.drewN k) base xb sb L A vo m n pre := ⟨h.st, h.row, h.ne⟩

structure TbF (w : World) (xb : Nat) : Prop where
  f1 : w.frozen? ⟨xb, 1, none⟩ = false
  f2 : w.frozen? ⟨xb, 2, none⟩ = false

theorem Tb.free {w : World} {base xb sb L : Nat} {A : List Int} {vo : Value} {m n pre : Int} (h : Tb w base xb sb L A vo m n pre) : TbF w xb := ⟨h.st.frozenAt 1, h.st.frozenAt 2⟩

/-- What a move of st slots leaves. -/
structure Moved (w : World) (base xb sb L : Nat) (A O : List Int) (vo : Value) (m st : Nat) (n pre : Int) (w' : World) : Prop where
  done : m + st = O.length → Tb w' base xb sb L (mvs A L O m st) (.slice none 0 0) 0 n pre
  more : m + st ≠ O.length → Tb w' base xb sb L (mvs A L O m st) vo ((m : Int) + st) n pre
  but : But xb sb w w'

theorem steps_go {n m j : Nat} {k : Int} (h : j < stepsOf n m k) (hm : m ≤ n) : 0 < k - (j : Int) ∧ m + j < n := by
  unfold stepsOf at h
  split at h
  · omega
  · split at h <;> omega

theorem steps_end {n m : Nat} {k : Int} (hm : m ≤ n) (h : 0 < k - ((stepsOf n m k : Nat) : Int)) : m + stepsOf n m k = n := by
  unfold stepsOf at *
  split at h
  · rename_i hk; simp only [if_pos hk] at *; omega
  · rename_i hk
    rw [if_neg hk] at *
    split at h
    · rename_i h2; rw [if_pos h2] at *; omega
    · rename_i h2; rw [if_neg h2] at *; omega

set_option maxHeartbeats 4000000 in
theorem move18 (base xb sb L : Nat) (A O : List Int) (vo : Value) (m : Nat) (n pre k : Int) (w : World) (hL : 0 < L) (hL2 : L ≤ 8192) (hO : O.length ≤ 8192) (hm : m ≤ O.length) (hk1 : -9223372036854775808 ≤ k) (hk2 : k ≤ 9223372036854775807)
    (hw : ∀ x ∈ O, 0 ≤ x ∧ x ≤ 18446744073709551615) (hp : L &&& (L - 1) = 0) (hc : pc O m (stepsOf O.length m k) ≤ cf A) (h : Tb w base xb sb L A vo m n pre) (ho : Ol w xb sb vo O) :
    Calls Trym.prog 18 #[.pointer (some ⟨xb, 0, none⟩), .int .i64 k] w fun e w' => e = .returned (.tuple #[]) ∧ Moved w base xb sb L A O vo m (stepsOf O.length m k) n pre w' := by
  obtain ⟨oa, oc, rfl⟩ := ho.form
  have hlenA := h.len
  have HO : Hid (Ol w xb sb (.slice oa O.length oc) O) := ho
  have HW : Hid (∀ x ∈ O, 0 ≤ x ∧ x ≤ 18446744073709551615) := hw
  have HP : Hid (L &&& (L - 1) = 0) := hp
  have hstl := stepsOf_le O.length m k hm
  obtain ⟨st, hst⟩ : ∃ st, st = stepsOf O.length m k := ⟨_, rfl⟩
  rw [← hst] at hc hstl ⊢
  have HST : Hid (st = stepsOf O.length m k) := hst
  have HCF : Hid (A.length = L ∧ pc O m st ≤ cf A) := ⟨hlenA, hc⟩
  clear ho hw hp hc hst hlenA
  go_enter Trym.func18, Trym.ntmps18
  go_wp2
  go_loopg [1] st (fun gn vk wr => ∃ j : Nat, gn = st - j ∧ j ≤ st ∧ vk = .int .i64 (k - j) ∧ Tb wr base xb sb L (mvs A L O m j) (.slice oa O.length oc) ((m : Int) + j) n pre ∧ But xb sb w wr)
  case atStart => exact ⟨0, by omega, by omega, by go_num, by simpa [mvs] using h, But.refl _ _ _⟩
  case round =>
    obtain ⟨j, rfl, hj, rfl, hT, hB⟩ := hrel
    clear h
    have hold := hT.oldCell
    have hmv := hT.movedCell
    obtain ⟨f1, f2⟩ := hT.free
    have HT : Hid (Tb wr base xb sb L (mvs A L O m j) (.slice oa O.length oc) ((m : Int) + j) n pre) := hT
    clear hT
    by_cases hjs : j < st
    · obtain ⟨g1, g2⟩ := steps_go (by rw [← HST.out]; exact hjs) hm
      have g1' : (j : Int) < k := by omega
      have g3 : (m : Int) + (j : Int) < (O.length : Int) := by omega
      have g4 : (0 : Int) ≤ (m : Int) + (j : Int) := by omega
      have g5 : (m : Int) + (j : Int) ≤ 8192 := by omega
      obtain ⟨ob, off, hoa, hox, hos, hcx⟩ : ∃ ob off, oa = some ⟨ob, off, none⟩ ∧ ob ≠ xb ∧ ob ≠ sb ∧ wr.cell? ⟨ob, off + (m + j), none⟩ = some (.int .u64 (O.getD (m + j) 0)) := by
        rcases Ol.keep HO.out hB with ⟨_, h⟩ | ⟨ob, off, cap, h1, h2, h3, h4⟩
        · rw [h] at g2; simp at g2
        · exact ⟨ob, off, by injection h1, h2, h3, h4 (m + j) g2⟩
      subst hoa
      obtain ⟨x, hx⟩ : ∃ x, x = O.getD (m + j) 0 := ⟨_, rfl⟩
      rw [← hx] at hcx
      have hxw : 0 ≤ x ∧ x ≤ 18446744073709551615 := by
        rw [hx]; exact HW.out _ (by simp [g2])
      have HX : Hid (x = O.getD (m + j) 0) := hx
      clear hx
      obtain ⟨hx0, hx1⟩ := hxw
      rcases okw_cases x with ⟨hok, e1, e2⟩ | ⟨hok, e1⟩ | ⟨hok, e1, e2⟩
      · have HM : Hid (mvs A L O m (j + 1) = plA (mvs A L O m j) L x) := by
          show _ = _
          simp only [mvs]; rw [← HX.out, if_pos hok]
        have hfree : 0 < cf (mvs A L O m j) := by
          have h1 := cf_mvs A L O m j HCF.out.1 hL (Nat.le_trans (pc_mono O m (by omega)) HCF.out.2)
          have h2 : pc O m (j + 1) ≤ pc O m st := pc_mono O m (by omega)
          have h3 : pc O m (j + 1) = pc O m j + 1 := by simp only [pc]; rw [← HX.out, if_pos hok]
          have h4 := HCF.out.2
          omega
        clear hok
        go_wp2
        go_quiet (fail)
        go_wp2
        go_quiet (fail)
        go_wp2_with fail
        refine (place20 base xb sb L _ _ _ n pre x _ hL hL2 hx0 hx1 HP.out hfree (HT.out.drewN _)).mono ?_
        rintro e w2 ⟨rfl, hT2, hB2⟩
        have hmv2 := hT2.movedCell
        obtain ⟨f12, f22⟩ := hT2.free
        have HT2 : Hid (Tb w2 base xb sb L (mvs A L O m (j + 1)) (.slice (some ⟨ob, off, none⟩) O.length oc) ((m : Int) + j) n pre) := by rw [HM.out]; exact hT2
        clear hT2
        go_wp2
        go_roundg (st - (j + 1))
        case measure => omega
        case rel => exact ⟨j + 1, rfl, by omega, by go_num, by have := HT2.out.moved ((m : Int) + j + 1); rw [show (m : Int) + ((j + 1 : Nat) : Int) = (m : Int) + j + 1 from by omega]; exact this, ((hB.drewN _).trans hB2).setCell (by simp) _⟩
      all_goals
        have HM : Hid (mvs A L O m (j + 1) = mvs A L O m j) := by
          show _ = _
          simp only [mvs]; rw [← HX.out, hok]; simp
        clear hok
        go_wp2
        go_quiet (fail)
        go_wp2
        go_quiet (fail)
        go_wp2
        go_roundg (st - (j + 1))
        case measure => omega
        case rel => exact ⟨j + 1, rfl, by omega, by go_num, by rw [show (m : Int) + ((j + 1 : Nat) : Int) = (m : Int) + j + 1 from by omega, HM.out]; exact (HT.out.drewN _).moved _, (hB.drewN _).setCell (by simp) _⟩
    · have hjst : j = st := by omega
      subst hjst
      by_cases hkj : 0 < k - (j : Int)
      · have hend : m + j = O.length := by rw [HST.out] at hkj ⊢; exact steps_end hm hkj
        have g1' : (j : Int) < k := by omega
        have g3 : ¬ (m : Int) + (j : Int) < (O.length : Int) := by omega
        have g6 : ((m : Int) + (j : Int) == (O.length : Int)) = true := by simp; omega
        have HE : Hid (m + j = O.length) := hend
        clear hend
        go_wp2
        go_quiet (fail)
        go_wp2
        go_quiet (fail)
        go_wp2
        go_end0
        exact ⟨rfl, fun _ => (HT.out.drewN _).dropped, fun h => absurd HE.out h, ((hB.drewN _).setCell (by simp) _).setCell (by simp) _⟩
      · have hd : decide ((j : Int) < k) = false := by simp; omega
        by_cases hend : m + j = O.length
        · have g6 : ((m : Int) + (j : Int) == (O.length : Int)) = true := by simp; omega
          have HE : Hid (m + j = O.length) := hend
          clear hend
          go_wp2
          go_quiet (fail)
          go_wp2
          go_quiet (fail)
          go_wp2
          go_end0
          exact ⟨rfl, fun _ => (HT.out.drewN _).dropped, fun h => absurd HE.out h, ((hB.drewN _).setCell (by simp) _).setCell (by simp) _⟩
        · have g6 : ((m : Int) + (j : Int) == (O.length : Int)) = false := by simp; omega
          have HE : Hid (m + j ≠ O.length) := hend
          clear hend
          go_wp2
          go_quiet (fail)
          go_wp2
          go_quiet (fail)
          go_wp2
          go_end0
          exact ⟨rfl, fun h => absurd h HE.out, fun _ => (HT.out.drewN _).drewN _, (hB.drewN _).drewN _⟩

end Go.Proofs.Qxb6604563aMods
