import Derived.Test.Qxb6604563aModsMove
namespace Go.Proofs.Qxb6604563aMods
open Go.RowKit Plain

theorem i64_and_small (a b : Nat) (ha : a ≤ 8192) (hb : b ≤ 8192) : bits .and .i64 (a : Int) (b : Int) = ((a &&& b : Nat) : Int) := by
  have hx : a &&& b ≤ a := Nat.and_le_left
  show IntKind.i64.wrap ((BitVec.ofInt 64 (a : Int) &&& BitVec.ofInt 64 (b : Int)).toNat : Int) = _
  rw [BitVec.toNat_and, ofInt_u64 a (by omega), ofInt_u64 b (by omega), IntKind.wrap_i64]
  omega

theorem cast_ne (x : Nat) : (((x : Nat) : Int) != 0) = (x != 0) := by
  cases x with
  | zero => rfl
  | succ n => simp; omega

theorem pow_test (L : Nat) (h0 : 0 < L) (hL : L ≤ 8192) : (bits .and .i64 (L : Int) ((L : Int) - 1) != 0) = ((L &&& (L - 1)) != 0) := by
  rw [show ((L : Int) - 1) = ((L - 1 : Nat) : Int) from by omega, i64_and_small L (L - 1) hL (by omega)]
  exact cast_ne _

/-- The steps of two moves. -/
theorem steps_two {n m : Nat} {a b : Int} (hm : m ≤ n) (ha : 0 ≤ a) (hb : 0 ≤ b) :
    (m + stepsOf n m a = n → stepsOf n m (a + b) = stepsOf n m a) ∧ (m + stepsOf n m a ≠ n → stepsOf n m (a + b) = stepsOf n m a + stepsOf n (m + stepsOf n m a) b) := by
  have key : ∀ k : Int, 0 ≤ k → (k < (n : Int) - (m : Int) ∧ ((stepsOf n m k : Nat) : Int) = k) ∨ ((n : Int) - (m : Int) ≤ k ∧ stepsOf n m k = n - m) := by
    intro k hk
    unfold stepsOf
    by_cases h1 : k ≤ 0
    · rw [if_pos h1]
      by_cases h2 : k < (n : Int) - (m : Int)
      · exact .inl ⟨h2, by omega⟩
      · exact .inr ⟨by omega, by omega⟩
    · rw [if_neg h1]
      by_cases h2 : k < (n : Int) - (m : Int)
      · rw [if_pos h2]; exact .inl ⟨h2, by omega⟩
      · rw [if_neg h2]; exact .inr ⟨by omega, rfl⟩
  have k1 := key a ha
  have k2 := key (a + b) (by omega)
  refine ⟨fun h => ?_, fun h => ?_⟩
  · omega
  · have h3 : stepsOf n (m + stepsOf n m a) b = if b ≤ 0 then 0 else if b < (n : Int) - ((m + stepsOf n m a : Nat) : Int) then b.toNat else n - (m + stepsOf n m a) := rfl
    by_cases h1 : b ≤ 0
    · rw [if_pos h1] at h3; omega
    · rw [if_neg h1] at h3
      by_cases h2 : b < (n : Int) - ((m + stepsOf n m a : Nat) : Int)
      · rw [if_pos h2] at h3; omega
      · rw [if_neg h2] at h3; omega

theorem steps_nil (b : Int) : stepsOf 0 0 b = 0 := by
  unfold stepsOf; split
  · rfl
  · split <;> omega

theorem ownsRow_below {w w' : World} {base e size n : Nat} {v : Value} {xs : List Value} (h : w.ownsRow base e size v n xs) (hb : Below w.heap.size w w') : w'.ownsRow base e size v n xs := by
  refine ⟨h.1, ?_⟩
  rcases h.2 with h2 | ⟨g, cap, cur, hv, hg, hh, r⟩
  · exact .inl h2
  · refine .inr ⟨g, cap, cur, hv, hg, ?_, r⟩
    rw [hb.block g (lt_of_block hh)]
    exact hh

theorem ownsRow_base {w : World} {base base' e size n : Nat} {v : Value} {xs : List Value} (h : w.ownsRow base e size v n xs) (hb : base' ≤ base) : w.ownsRow base' e size v n xs := by
  refine ⟨h.1, ?_⟩
  rcases h.2 with h2 | ⟨g, cap, cur, hv, hg, r⟩
  · exact .inl h2
  · exact .inr ⟨g, cap, cur, hv, Nat.le_trans hb hg, r⟩

theorem Tb.keep {w w' : World} {base xb sb L : Nat} {A : List Int} {vo : Value} {m n pre : Int} (h : Tb w base xb sb L A vo m n pre) (hb : Below w.heap.size w w') : Tb w' base xb sb L A vo m n pre :=
  ⟨ownsRow_below h.st hb, ownsRow_below h.row hb, h.ne⟩

theorem Tb.raw {w : World} {base xb sb L : Nat} {A : List Int} {vo : Value} {m n pre : Int} (h : Tb w base xb sb L A vo m n pre) : URaw w (some ⟨sb, 0, none⟩) A :=
  ⟨fun h => (by cases h), fun _ => ⟨sb, 0, rfl, fun j hj => by rw [Nat.zero_add]; exact h.slotCell (by have := h.len; omega)⟩⟩

theorem own_raw {w : World} {base g : Nat} {A : List Int} {c : Nat} (h : w.ownsRow base 23 1 (.slice (some ⟨g, 0, none⟩) A.length c) A.length (A.map (Value.int .u64))) : URaw w (some ⟨g, 0, none⟩) A :=
  ⟨fun h => (by cases h), fun _ => ⟨g, 0, rfl, fun j hj => by rw [Nat.zero_add, h.cellAt j (by omega)]; simp [hj]⟩⟩

theorem own_form {w : World} {base n : Nat} {v : Value} {xs : List Value} (h : w.ownsRow base 23 1 v n xs) : ∃ a c, v = .slice a n c := by
  rcases h.2 with ⟨rfl, rfl⟩ | ⟨g, cap, cur, rfl, _⟩
  · exact ⟨none, 0, rfl⟩
  · exact ⟨_, _, rfl⟩

/-- Two moves are one. -/
theorem Moved.two {w w1 w2 : World} {base xb sb L : Nat} {A O : List Int} {vo : Value} {m : Nat} {n pre a b : Int} (hm : m ≤ O.length) (ha : 0 ≤ a) (hb : 0 ≤ b)
    (h1 : Moved w base xb sb L A O vo m (stepsOf O.length m a) n pre w1)
    (h2 : (m + stepsOf O.length m a = O.length → Moved w1 base xb sb L (mvs A L O m (stepsOf O.length m a)) [] (.slice none 0 0) 0 (stepsOf 0 0 b) n pre w2) ∧
      (m + stepsOf O.length m a ≠ O.length → Moved w1 base xb sb L (mvs A L O m (stepsOf O.length m a)) O vo (m + stepsOf O.length m a) (stepsOf O.length (m + stepsOf O.length m a) b) n pre w2)) :
    Moved w base xb sb L A O vo m (stepsOf O.length m (a + b)) n pre w2 := by
  obtain ⟨e1, e2⟩ := steps_two hm ha hb
  by_cases he : m + stepsOf O.length m a = O.length
  · have h2 := h2.1 he
    rw [steps_nil] at h2
    rw [e1 he]
    exact ⟨fun _ => h2.done rfl, fun h => absurd he h, h1.but.trans h2.but⟩
  · have h2 := h2.2 he
    rw [e2 he]
    refine ⟨fun h => ?_, fun h => ?_, h1.but.trans h2.but⟩
    · rw [mvs_add]; exact h2.done (by omega)
    · rw [mvs_add]
      have := h2.more (by omega)
      rw [show ((m + stepsOf O.length m a : Nat) : Int) + ((stepsOf O.length (m + stepsOf O.length m a) b : Nat) : Int) = (m : Int) + ((stepsOf O.length m a + stepsOf O.length (m + stepsOf O.length m a) b : Nat) : Int) from by omega] at this
      exact this

end Go.Proofs.Qxb6604563aMods
