import Derived.Test.Qxb6604563aModsPlainC
namespace Go.Proofs.Qxb6604563aMods.Plain

/-! The plain law of the insertion sort. -/

/-- Z, its place i taken out, with x put in at place c. -/
def ins (Z : List Int) (i c : Nat) (x : Int) : List Int := Z.take c ++ x :: ((Z.take i).drop c ++ Z.drop (i + 1))

theorem ins_len (Z : List Int) (i c : Nat) (x : Int) (hc : c ≤ i) (hi : i < Z.length) : (ins Z i c x).length = Z.length := by
  simp [ins]; omega

theorem ins_start (Z : List Int) (i : Nat) (hi : i < Z.length) : ins Z i i (Z.getD i 0) = Z := by
  have h1 : (Z.take i).drop i = [] := List.drop_eq_nil_of_le (by simp; omega)
  have h2 : Z.getD i 0 = Z[i] := by simp [hi]
  rw [ins, h1, h2, List.nil_append, ← List.drop_eq_getElem_cons hi, List.take_append_drop]

theorem ins_set (Z : List Int) (i c : Nat) (x y : Int) (hc : c ≤ i) (hi : i < Z.length) : (ins Z i c x).set c y = ins Z i c y := by
  have h1 : (Z.take c).length = c := by simp; omega
  rw [ins, List.set_append_right _ _ (by omega), h1, Nat.sub_self, List.set_cons_zero, ins]

theorem ins_getD (Z : List Int) (i c k : Nat) (x : Int) (hk : k < c) (hc : c ≤ i) (hi : i < Z.length) : (ins Z i c x).getD k 0 = Z.getD k 0 := by
  have h1 : (Z.take c).length = c := by simp; omega
  rw [ins, List.getD_eq_getElem?_getD, List.getElem?_append_left (by omega), List.getElem?_take_of_lt hk, List.getD_eq_getElem?_getD]

theorem drop_take_cons (Z : List Int) (i c : Nat) (hc : c < i) (hi : i < Z.length) : (Z.take i).drop c = Z.getD c 0 :: (Z.take i).drop (c + 1) := by
  have h1 : c < (Z.take i).length := by simp; omega
  rw [List.drop_eq_getElem_cons h1]
  have : (Z.take i)[c] = Z.getD c 0 := by
    rw [List.getElem_take, List.getD_eq_getElem?_getD, List.getElem?_eq_getElem (by omega)]; rfl
  rw [this]

theorem ins_step (Z : List Int) (i c : Nat) (hc : c < i) (hi : i < Z.length) : ins Z i (c + 1) (Z.getD c 0) = ins Z i c (Z.getD c 0) := by
  have h0 : c < Z.length := by omega
  have h2 : Z.getD c 0 = Z[c] := by simp [h0]
  rw [ins, ins, drop_take_cons Z i c hc hi, List.take_succ_eq_append_getElem h0, h2, List.append_assoc, List.singleton_append, List.cons_append]

theorem ins_perm (Z : List Int) (i c : Nat) (hc : c ≤ i) (hi : i < Z.length) : (ins Z i c (Z.getD i 0)).Perm Z := by
  have h1 : Z.take c ++ (Z.take i).drop c = Z.take i := by
    have := List.take_append_drop c (Z.take i)
    rwa [List.take_take, Nat.min_eq_left hc] at this
  have h2 : (ins Z i c (Z.getD i 0)).Perm (Z.getD i 0 :: (Z.take c ++ ((Z.take i).drop c ++ Z.drop (i + 1)))) := List.perm_middle
  rw [← List.append_assoc, h1] at h2
  refine h2.trans ?_
  have h3 : (Z.take i ++ Z.getD i 0 :: Z.drop (i + 1)).Perm (Z.getD i 0 :: (Z.take i ++ Z.drop (i + 1))) := List.perm_middle
  have h4 : Z.take i ++ Z.getD i 0 :: Z.drop (i + 1) = Z := by
    have e : Z.getD i 0 = Z[i] := by simp [hi]
    rw [e, ← List.drop_eq_getElem_cons hi, List.take_append_drop]
  rw [h4] at h3
  exact h3.symm

theorem ins_sorted (Z : List Int) (i c : Nat) (v : Int) (hc : c ≤ i) (hi : i < Z.length) (hs : (Z.take i).Pairwise (· ≤ ·)) (hq : ∀ y ∈ (Z.take i).drop c, v < y) (hp : c = 0 ∨ Z.getD (c - 1) 0 ≤ v) :
    ((ins Z i c v).take (i + 1)).Pairwise (· ≤ ·) := by
  have h1 : Z.take c ++ (Z.take i).drop c = Z.take i := by
    have := List.take_append_drop c (Z.take i)
    rwa [List.take_take, Nat.min_eq_left hc] at this
  have hl : (Z.take c ++ v :: (Z.take i).drop c).length = i + 1 := by simp; omega
  have e : (ins Z i c v).take (i + 1) = Z.take c ++ v :: (Z.take i).drop c := by
    rw [ins, show Z.take c ++ v :: ((Z.take i).drop c ++ Z.drop (i + 1)) = (Z.take c ++ v :: (Z.take i).drop c) ++ Z.drop (i + 1) from by simp]
    rw [← hl, List.take_left]
  rw [e]
  rw [← h1] at hs
  obtain ⟨s1, s2, s3⟩ := List.pairwise_append.1 hs
  have hle : ∀ a ∈ Z.take c, a ≤ v := by
    rcases hp with h0 | h0
    · subst h0; intro a ha; simp at ha
    · cases c with
      | zero => intro a ha; simp at ha
      | succ c =>
        have hcl : c < Z.length := by omega
        intro a ha
        rw [List.take_succ_eq_append_getElem hcl] at ha s1
        have e2 : Z.getD c 0 = Z[c] := by simp [hcl]
        rw [Nat.add_sub_cancel, e2] at h0
        rcases List.mem_append.1 ha with ha | ha
        · exact Int.le_trans ((List.pairwise_append.1 s1).2.2 a ha _ (by simp)) h0
        · simp at ha; omega
  refine List.pairwise_append.2 ⟨s1, List.pairwise_cons.2 ⟨fun y hy => Int.le_of_lt (hq y hy), s2⟩, fun a ha b hb => ?_⟩
  rcases List.mem_cons.1 hb with rfl | hb
  · exact hle a ha
  · exact s3 a ha b hb

end Go.Proofs.Qxb6604563aMods.Plain
