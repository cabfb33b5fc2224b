import Derived.Test.Qxb6604276aModsScA
namespace Go.Proofs.Qxb6604276aMods
open Go.RowKit

def ZzEnds (neg : Bool) (t : ByteArray) (e : Ending) : Prop :=
  ∃ E : Nat, Stop t E ∧ e = .returned (.tuple #[.bool neg, .string t, .int .i64 (ss t E).1, .int .i64 (ss t E).2.1, .int .u64 (ss t E).2.2, .bool (okB t E)])

set_option maxHeartbeats 1000000 in
theorem zzscan7 (s : ByteArray) (w : World) (hn : s.size ≤ 1048577) :
    Calls Trym.prog 7 #[.string s] w fun e w' => ZzEnds (isNeg s) (textOf s) e ∧ Below w.heap.size w w' := by
  go_enter Trym.func7, Trym.ntmps7
  go_wp2_with fail
  refine (scan11 s w hn).mono ?_
  rintro e w1 ⟨⟨E, hE, rfl⟩, hb⟩
  obtain ⟨t, ht⟩ : ∃ t, t = textOf s := ⟨_, rfl⟩
  obtain ⟨neg, hneg⟩ : ∃ b, b = isNeg s := ⟨_, rfl⟩
  obtain ⟨d, hd⟩ : ∃ d, d = (ss t E).1 := ⟨_, rfl⟩
  obtain ⟨p, hp⟩ : ∃ p, p = (ss t E).2.1 := ⟨_, rfl⟩
  obtain ⟨c, hc⟩ : ∃ c, c = (ss t E).2.2 := ⟨_, rfl⟩
  obtain ⟨ok, hok⟩ : ∃ ok, ok = okB t E := ⟨_, rfl⟩
  rw [← ht] at hE
  rw [← ht, ← hneg, ← hd, ← hp, ← hc, ← hok]
  have H : Hid (t = textOf s ∧ neg = isNeg s ∧ d = (ss t E).1 ∧ p = (ss t E).2.1 ∧ c = (ss t E).2.2 ∧ ok = okB t E) := ⟨ht, hneg, hd, hp, hc, hok⟩
  clear ht hneg hd hp hc hok
  go_wp2
  go_quiet (fail)
  go_wp2
  refine bodyPost_ret (v := .tuple #[.bool neg, .string t, .int .i64 d, .int .i64 p, .int .u64 c, .bool ok]) (by simp [results, Trym.results7, go_sem]) rfl ⟨⟨E, ?_, ?_⟩, ?_⟩
  · rw [← H.out.1]; exact hE
  · obtain ⟨h1, h2, h3, h4, h5, h6⟩ := H.out
    rw [← h1, ← h2, ← h3, ← h4, ← h5, ← h6]
  · exact below_drewN (hb.alloc hb.size _) _

set_option maxHeartbeats 400000 in
theorem bytes9_yes (s : ByteArray) (w : World) (h : s.size ≤ 1048576) :
    Calls Trym.prog 9 #[.string s] w fun e w' => e = .returned (.bool true) ∧ w = w' := by
  go_enter Trym.func9, Trym.ntmps9
  go_wp2
  go_ret
  exact ⟨rfl, rfl⟩

set_option maxHeartbeats 400000 in
theorem bytes9_no (s : ByteArray) (w : World) (h : 1048576 < s.size) (h2 : s.size ≤ 9223372036854775807) :
    Calls Trym.prog 9 #[.string s] w fun e w' => e = .returned (.bool false) ∧ w = w' := by
  go_enter Trym.func9, Trym.ntmps9
  go_wp2
  go_ret
  exact ⟨rfl, rfl⟩

set_option maxHeartbeats 400000 in
theorem bytes6_yes (s : ByteArray) (w : World) (h : s.size ≤ 1048576) :
    Calls Trym.prog 6 #[.string s] w fun e w' => e = .returned (.bool true) ∧ w = w' := by
  go_enter Trym.func6, Trym.ntmps6
  go_wp2
  go_ret
  exact ⟨rfl, rfl⟩

set_option maxHeartbeats 400000 in
theorem bytes6_no (s : ByteArray) (w : World) (h : 1048576 < s.size) (h2 : s.size ≤ 9223372036854775807) :
    Calls Trym.prog 6 #[.string s] w fun e w' => e = .returned (.bool false) ∧ w = w' := by
  go_enter Trym.func6, Trym.ntmps6
  go_wp2
  go_ret
  exact ⟨rfl, rfl⟩

theorem minus_size (s : ByteArray) : (({ data := #[45] } : ByteArray) ++ s).size = s.size + 1 := by
  rw [ByteArray.size_append]; show 1 + s.size = _; omega

theorem minus_text (s : ByteArray) : (({ data := #[45] } : ByteArray) ++ s).extract 1 (({ data := #[45] } : ByteArray) ++ s).size = s := by
  apply ByteArray.ext
  rw [ByteArray.data_extract, ByteArray.data_append, minus_size]
  apply Array.ext
  · simp
  · intro i h1 h2
    simp

theorem minus_neg (s : ByteArray) : isNeg (({ data := #[45] } : ByteArray) ++ s) = true := by
  have h0 : 0 < (({ data := #[45] } : ByteArray) ++ s).size := by rw [minus_size]; omega
  rw [isNeg, byteAt_lt h0]
  have : (({ data := #[45] } : ByteArray) ++ s)[0]'h0 = 45 := by
    show (({ data := #[45] } : ByteArray) ++ s).data[0]'h0 = 45
    simp [ByteArray.data_append]
  rw [this]; rfl

theorem minus_textOf (s : ByteArray) : textOf (({ data := #[45] } : ByteArray) ++ s) = s := by
  rw [textOf, minus_neg, if_pos rfl, minus_text]

theorem self_string (s : ByteArray) : (s.toList == s.toList) = true := by simp

set_option maxHeartbeats 1000000 in
theorem law_sign_in (s : ByteArray) (w : World) (hn : s.size ≤ 1048576) (hneg : isNeg s = false) :
    Calls Trym.prog 4 #[.string s] w fun e w' => e = .returned (.bool true) ∧ Below w.heap.size w w' := by
  have hcase : ¬ 0 < s.size ∨ (∃ h : 0 < s.size, (((s[0]'h).toNat : Int) == 45) = false) := by
    by_cases h : 0 < s.size
    · refine .inr ⟨h, ?_⟩
      rw [isNeg, byteAt_lt h] at hneg
      exact hneg
    · exact .inl h
  have HN : Hid (isNeg s = false) := hneg
  clear hneg
  rcases hcase with hs | ⟨hs, hne⟩
  all_goals
    go_enter Trym.func4, Trym.ntmps4
    go_wp2_with (go_at_call 9; go_must (refine (bytes9_yes _ _ hn).mono ?_); rintro e w1 ⟨rfl, rfl⟩)
    refine (zzscan7 s w (by omega)).mono ?_
    rintro e w1 ⟨⟨E, hE, rfl⟩, hb⟩
    have hts : textOf s = s := by rw [textOf, HN.out]; rfl
    rw [hts] at hE
    rw [hts, HN.out]
    clear hts
    go_wp2_with fail
    refine (zzscan7 _ w1 (by rw [minus_size]; omega)).mono ?_
    rintro e w2 ⟨⟨F, hF, rfl⟩, hb2⟩
    rw [minus_textOf] at hF
    rw [minus_textOf, minus_neg]
    have hEF := hF.uniq hE
    subst hEF
    have hss := self_string s
    clear hE hF
    go_wp2
    go_ret
    exact ⟨rfl, hb.trans (hb2.mono hb.size)⟩

set_option maxHeartbeats 400000 in
theorem law_sign (s : ByteArray) (w : World) (hm : s.size ≤ 9223372036854775807) :
    Calls Trym.prog 4 #[.string s] w fun e w' => e = .returned (.bool true) ∧ Below w.heap.size w w' := by
  by_cases hn : s.size ≤ 1048576
  · cases hneg : isNeg s
    · exact law_sign_in s w hn hneg
    · have hs : 0 < s.size := by
        by_cases h : 0 < s.size
        · exact h
        · simp [isNeg, byteAt, h] at hneg
      rw [isNeg, byteAt_lt hs] at hneg
      go_enter Trym.func4, Trym.ntmps4
      go_wp2_with (go_at_call 9; go_must (refine (bytes9_yes _ _ hn).mono ?_); rintro e w1 ⟨rfl, rfl⟩)
      go_ret
      exact ⟨rfl, Below.refl _ _⟩
  · go_enter Trym.func4, Trym.ntmps4
    go_wp2_with (go_at_call 9; go_must (refine (bytes9_no _ _ (by omega) hm).mono ?_); rintro e w1 ⟨rfl, rfl⟩)
    go_ret
    exact ⟨rfl, Below.refl _ _⟩

end Go.Proofs.Qxb6604276aMods
