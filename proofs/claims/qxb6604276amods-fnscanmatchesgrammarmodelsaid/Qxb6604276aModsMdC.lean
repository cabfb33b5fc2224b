import Derived.Test.Qxb6604276aModsMdB
namespace Go.Proofs.Qxb6604276aMods
open Go.RowKit Gram

set_option maxHeartbeats 2000000 in
theorem law_gram_in (s : ByteArray) (w : World) (hn : s.size ≤ 1048576) :
    Calls Trym.prog 3 #[.string s] w fun e w' => e = .returned (.bool true) ∧ Below w.heap.size w w' := by
  go_enter Trym.func3, Trym.ntmps3
  go_wp2_with (first
    | (go_at_call 6; go_must (refine (bytes6_yes _ _ hn).mono ?_); rintro e w1 ⟨rfl, rfl⟩)
    | fail)
  refine (zzscan7 s w (by omega)).mono ?_
  rintro e w1 ⟨⟨E, hE, rfl⟩, hb⟩
  go_wp2_with fail
  refine (model8 s w1 (by omega)).mono ?_
  rintro e w2 ⟨⟨F, hF, rfl⟩, hb2⟩
  have hEF := hF.uniq hE
  subst hEF
  obtain ⟨t, ht⟩ : ∃ t, t = textOf s := ⟨_, rfl⟩
  obtain ⟨neg, hneg⟩ : ∃ b, b = isNeg s := ⟨_, rfl⟩
  rw [← ht, ← hneg]
  clear ht hneg hE hF
  obtain ⟨d, hd⟩ : ∃ d, d = (ss t F).1 := ⟨_, rfl⟩
  obtain ⟨p, hp⟩ : ∃ p, p = (ss t F).2.1 := ⟨_, rfl⟩
  obtain ⟨c, hc⟩ : ∃ c, c = (ss t F).2.2 := ⟨_, rfl⟩
  obtain ⟨ok, hok⟩ : ∃ ok, ok = okB t F := ⟨_, rfl⟩
  rw [← hd, ← hp, ← hc, ← hok]
  clear hd hp hc hok
  have hss := self_string t
  have hb3 : Below w.heap.size w w2 := hb.trans (hb2.mono hb.size)
  clear hb hb2
  go_wp2
  go_ret
  exact ⟨rfl, hb3.alloc hb3.size _⟩

set_option maxHeartbeats 400000 in
theorem law_gram (s : ByteArray) (w : World) (hm : s.size ≤ 9223372036854775807) :
    Calls Trym.prog 3 #[.string s] w fun e w' => e = .returned (.bool true) ∧ Below w.heap.size w w' := by
  by_cases hn : s.size ≤ 1048576
  · exact law_gram_in s w hn
  · go_enter Trym.func3, Trym.ntmps3
    go_wp2_with (go_at_call 6; go_must (refine (bytes6_no _ _ (by omega) hm).mono ?_); rintro e w1 ⟨rfl, rfl⟩)
    go_ret
    exact ⟨rfl, Below.refl _ _⟩

end Go.Proofs.Qxb6604276aMods
