import Derived.Test.Qxb6604563aModsConB
import Derived.Laws.BitsAllLaws
namespace Go.Proofs.Qxb6604563aMods
open Go.RowKit Plain

/-- The table behind a pointer: the struct in block xb, its slots in block sb. -/
structure Tb (w : World) (base xb sb L : Nat) (A : List Int) (vo : Value) (m n pre : Int) : Prop where
  st : w.ownsRow base 39 5 (.slice (some ⟨xb, 0, none⟩) 1 1) 1 [.slice (some ⟨sb, 0, none⟩) L L, vo, .int .i64 m, .int .i64 n, .int .u64 pre]
  row : w.ownsRow base 23 1 (.slice (some ⟨sb, 0, none⟩) L L) L (A.map (Value.int .u64))
  ne : sb ≠ xb

theorem Tb.len {w : World} {base xb sb L : Nat} {A : List Int} {vo : Value} {m n pre : Int} (h : Tb w base xb sb L A vo m n pre) : A.length = L := by
  have := h.row.1; simp at this; omega

theorem Tb.slotsCell {w : World} {base xb sb L : Nat} {A : List Int} {vo : Value} {m n pre : Int} (h : Tb w base xb sb L A vo m n pre) : w.cell? ⟨xb, 0, none⟩ = some (.slice (some ⟨sb, 0, none⟩) L L) := h.st.cellAt 0 (by omega)
theorem Tb.oldCell {w : World} {base xb sb L : Nat} {A : List Int} {vo : Value} {m n pre : Int} (h : Tb w base xb sb L A vo m n pre) : w.cell? ⟨xb, 1, none⟩ = some vo := h.st.cellAt 1 (by omega)
theorem Tb.movedCell {w : World} {base xb sb L : Nat} {A : List Int} {vo : Value} {m n pre : Int} (h : Tb w base xb sb L A vo m n pre) : w.cell? ⟨xb, 2, none⟩ = some (.int .i64 m) := h.st.cellAt 2 (by omega)
theorem Tb.nCell {w : World} {base xb sb L : Nat} {A : List Int} {vo : Value} {m n pre : Int} (h : Tb w base xb sb L A vo m n pre) : w.cell? ⟨xb, 3, none⟩ = some (.int .i64 n) := h.st.cellAt 3 (by omega)
theorem Tb.preCell {w : World} {base xb sb L : Nat} {A : List Int} {vo : Value} {m n pre : Int} (h : Tb w base xb sb L A vo m n pre) : w.cell? ⟨xb, 4, none⟩ = some (.int .u64 pre) := h.st.cellAt 4 (by omega)
theorem Tb.slotCell {w : World} {base xb sb L : Nat} {A : List Int} {vo : Value} {m n pre : Int} (h : Tb w base xb sb L A vo m n pre) {j : Nat} (hj : j < L) : w.cell? ⟨sb, j, none⟩ = some (.int .u64 (A.getD j 0)) := by
  have hl := h.len
  rw [h.row.cellAt j (by omega)]
  have : j < A.length := by omega
  simp [this]

theorem mask_mod (L x : Nat) (hL : 0 < L) (hp : L &&& (L - 1) = 0) : x &&& (L - 1) = x % L := by
  obtain ⟨p, rfl⟩ := (Nat.and_sub_one_eq_zero_iff_isPowerOfTwo (by omega)).1 hp
  exact Nat.and_two_pow_sub_one_eq_mod x p

theorem mask_home (L : Nat) (s : Int) (hL : 0 < L) (hL2 : L ≤ 8192) (hp : L &&& (L - 1) = 0) (hs0 : 0 ≤ s) (hs1 : s ≤ 18446744073709551615) : bits .and .u64 (s / 4294967296) ((L : Int) - 1) = ((hm L s : Nat) : Int) := by
  rw [u64_and _ _ (by omega) (by omega) (by omega) (by omega), show ((L : Int) - 1).toNat = L - 1 from by omega, mask_mod L _ hL hp, hm]
  congr 1
  have : (s / 4294967296).toNat = s.toNat / 4294967296 := by omega
  rw [this]

theorem mask_next (L c : Nat) (hL : 0 < L) (hL2 : L ≤ 8192) (hc : c < L) (hp : L &&& (L - 1) = 0) : bits .and .u64 ((c : Int) + 1) ((L : Int) - 1) = (((c + 1) % L : Nat) : Int) := by
  rw [u64_and _ _ (by omega) (by omega) (by omega) (by omega), show ((L : Int) - 1).toNat = L - 1 from by omega, mask_mod L _ hL hp, show ((c : Int) + 1).toNat = c + 1 from by omega]

theorem Tb.store {w : World} {base xb sb L : Nat} {A : List Int} {vo : Value} {m n pre : Int} (h : Tb w base xb sb L A vo m n pre) (j : Nat) (s : Int) : Tb (w.setCell ⟨sb, j, none⟩ (.int .u64 s)) base xb sb L (A.set j s) vo m n pre :=
  ⟨ownsRow_setCell_other h.st (by simp [Value.ownBlock]; exact fun e => h.ne e.symm) _, by rw [List.map_set]; exact (h.row.stored j (.int .u64 s)).1, h.ne⟩

theorem Tb.base_le {w : World} {base xb sb L : Nat} {A : List Int} {vo : Value} {m n pre : Int} (h : Tb w base xb sb L A vo m n pre) : base ≤ sb ∧ base ≤ xb :=
  ⟨own_block h.row rfl, own_block h.st rfl⟩

/-- Every block but xb and sb is as it was. -/
structure But (xb sb : Nat) (w w' : World) : Prop where
  os : w'.os = w.os
  tape : w'.tape = w.tape
  output : w'.output = w.output
  size : w.heap.size ≤ w'.heap.size
  block : ∀ k, k < w.heap.size → k ≠ xb → k ≠ sb → w'.heap[k]? = w.heap[k]?

theorem But.refl (xb sb : Nat) (w : World) : But xb sb w w := ⟨rfl, rfl, rfl, Nat.le_refl _, fun _ _ _ _ => rfl⟩
theorem But.trans {xb sb : Nat} {a b c : World} (h : But xb sb a b) (k : But xb sb b c) : But xb sb a c :=
  ⟨k.os.trans h.os, k.tape.trans h.tape, k.output.trans h.output, Nat.le_trans h.size k.size, fun i hi h1 h2 => (k.block i (Nat.lt_of_lt_of_le hi h.size) h1 h2).trans (h.block i hi h1 h2)⟩
theorem But.setCell {xb sb : Nat} {a w : World} (h : But xb sb a w) {p : Addr} (hp : p.block = xb ∨ p.block = sb) (u : Value) : But xb sb a (w.setCell p u) :=
  h.trans ⟨rfl, rfl, rfl, by simp, fun k _ h1 h2 => Below.heap_setCell _ _ _ _ (by rcases hp with e | e <;> omega)⟩
theorem But.drewN {xb sb : Nat} {a w : World} (h : But xb sb a w) (n : Nat) : But xb sb a (w.drewN n) := ⟨h.os, h.tape, h.output, h.size, h.block⟩
theorem But.below {xb sb base : Nat} {w w' : World} (h : But xb sb w w') (h1 : base ≤ xb) (h2 : base ≤ sb) (h3 : base ≤ w.heap.size) : Below base w w' :=
  ⟨h.os, h.tape, h.output, h.size, fun k hk => h.block k (by omega) (by omega) (by omega)⟩

set_option maxHeartbeats 1000000 in
theorem place20 (base xb sb L : Nat) (A : List Int) (vo : Value) (m n pre s : Int) (w : World) (hL : 0 < L) (hL2 : L ≤ 8192) (hs0 : 0 ≤ s) (hs1 : s ≤ 18446744073709551615) (hp : L &&& (L - 1) = 0) (hc : 0 < cf A) (h : Tb w base xb sb L A vo m n pre) :
    Calls Trym.prog 20 #[.pointer (some ⟨xb, 0, none⟩), .int .u64 s] w fun e w' => e = .returned (.tuple #[]) ∧ Tb w' base xb sb L (plA A L s) vo m n pre ∧ But xb sb w w' := by
  have HT : Hid (Tb w base xb sb L A vo m n pre) := h
  have hsc := h.slotsCell
  have hlen := h.len
  have hbl := h.base_le
  have hfree := free_near A L (hm L s) hlen (hm_lt L s hL) hc
  have HF : Hid (∃ t, t < L ∧ A.getD ((hm L s + t) % L) 0 = 0) := hfree
  have hml := hm_lt L s hL
  have hmask := mask_home L s hL hL2 hp hs0 hs1
  obtain ⟨c0, hc0⟩ : ∃ c0, c0 = hm L s := ⟨_, rfl⟩
  rw [← hc0] at hmask HF hml
  have HC : Hid (c0 = hm L s) := hc0
  have HP : Hid (L &&& (L - 1) = 0) := hp
  clear h hc0 hfree hc hp hlen
  go_enter Trym.func20, Trym.ntmps20
  go_wp2
  go_loopg [5] L (fun gf v wr => ∃ c : Nat, w = wr ∧ c < L ∧ v = .int .u64 c ∧ Hid (pos A L c gf = pos A L c0 L) ∧ Hid (∃ t, t < gf ∧ A.getD ((c + t) % L) 0 = 0))
  case atStart => exact ⟨c0, rfl, hml, rfl, rfl, HF⟩
  case round =>
    obtain ⟨c, rfl, hcl, rfl, HPOS, HZ⟩ := hrel
    clear HF hmask hml
    have hcell := HT.out.slotCell hcl
    have hfz : w.frozen? ⟨sb, c, none⟩ = false := HT.out.row.frozenAt c
    have hnext := mask_next L c hL hL2 hcl HP.out
    obtain ⟨x, hx⟩ : ∃ x, x = A.getD c 0 := ⟨_, rfl⟩
    rw [← hx] at hcell
    have HX : Hid (x = A.getD c 0) := hx
    clear hx
    have i0 : (0 : Int) ≤ (c : Int) := by omega
    have i1 : (c : Int) < (L : Int) := by omega
    by_cases h0 : x = 0
    · have hb : (x != 0) = false := by simp [h0]
      have HPL : Hid (plA A L s = A.set c s) := by
        show _ = _
        rw [plA, ← HC.out, ← HPOS.out]
        obtain ⟨t, ht, _⟩ := HZ.out
        cases gk with
        | zero => omega
        | succ g => rw [pos, if_pos (by rw [← HX.out]; exact h0)]
      clear h0
      go_wp2
      go_end0
      exact ⟨rfl, by rw [HPL.out]; exact HT.out.store c s, (But.refl _ _ _).setCell (by simp) _⟩
    · have hb : (x != 0) = true := by simp [h0]
      have HN : Hid (∃ g, gk = g + 1 ∧ pos A L ((c + 1) % L) g = pos A L c0 L ∧ ∃ t, t < g ∧ A.getD (((c + 1) % L + t) % L) 0 = 0) := by
        have hA : ¬ A.getD c 0 = 0 := by rw [← HX.out]; exact h0
        obtain ⟨t, ht, hz⟩ := HZ.out
        cases t with
        | zero => rw [Nat.add_zero, Nat.mod_eq_of_lt hcl] at hz; exact absurd hz hA
        | succ t =>
          cases gk with
          | zero => omega
          | succ g =>
            refine ⟨g, rfl, ?_, t, by omega, ?_⟩
            · have := HPOS.out; rw [pos, if_neg hA] at this; exact this
            · rw [Nat.mod_add_mod, show c + 1 + t = c + (t + 1) from by omega]; exact hz
      clear h0
      go_wp2
      obtain ⟨g, hg, hn1, hn2⟩ := HN.out
      go_roundg g
      case measure => omega
      case rel => exact ⟨(c + 1) % L, rfl, Nat.mod_lt _ hL, rfl, hn1, hn2⟩

end Go.Proofs.Qxb6604563aMods
