import Derived.Test.Qxb6604563aModsLawA
import Derived.Test.Qxb6604563aModsSort
namespace Go.Proofs.Qxb6604563aMods
open Go.RowKit Plain

/-- Only v's own block may have changed. -/
structure Only (v : Value) (w w' : World) : Prop where
  os : w'.os = w.os
  tape : w'.tape = w.tape
  output : w'.output = w.output
  size : w.heap.size ≤ w'.heap.size
  block : ∀ k, k < w.heap.size → v.ownBlock ≠ some k → w'.heap[k]? = w.heap[k]?

theorem Only.below {v : Value} {base : Nat} {w w' : World} (h : Only v w w') (h1 : ∀ k, v.ownBlock = some k → base ≤ k) (h2 : base ≤ w.heap.size) : Below base w w' :=
  ⟨h.os, h.tape, h.output, h.size, fun k hk => h.block k (by omega) (fun e => by have := h1 k e; omega)⟩

theorem Cl.own {w : World} {g : Nat} {ao : Option Addr} {v : Value} {A : List Int} (h : Cl w g ao v A) {k : Nat} (hk : v.ownBlock = some k) : k = g ∧ g < w.heap.size := by
  rcases h with ⟨_, rfl, _⟩ | ⟨_, rfl, h3⟩
  · simp [Value.ownBlock] at hk
  · simp [Value.ownBlock] at hk
    rcases h3.2 with ⟨h, _⟩ | ⟨g', cap, cur, hv, _, hg, _⟩
    · cases h
    · injection hv with e1 e2 e3
      injection e1 with e4
      injection e4 with e5
      subst e5
      exact ⟨hk.symm, (Array.getElem?_eq_some_iff.1 hg).1⟩

theorem Cl.same {w w' : World} {g : Nat} {ao : Option Addr} {v : Value} {A : List Int} (h : Cl w g ao v A) (hb : v.ownBlock = some g → w'.heap[g]? = w.heap[g]?) : Cl w' g ao v A := by
  rcases h with h | ⟨h1, rfl, h3⟩
  · exact .inl h
  · refine .inr ⟨h1, rfl, h3.1, ?_⟩
    rcases h3.2 with ⟨h, _⟩ | ⟨g', cap, cur, hv, hl, hg, hr⟩
    · cases h
    · injection hv with e1 e2 e3
      injection e1 with e4
      injection e4 with e5
      subst e5 e3
      exact .inr ⟨g, A.length, cur, rfl, hl, by rw [hb rfl]; exact hg, hr⟩

theorem Cl.only {w w' : World} {g : Nat} {ao : Option Addr} {v v' : Value} {A : List Int} (h : Cl w g ao v A) (ho : Only v' w w') (hd : ∀ k, v.ownBlock = some k → v'.ownBlock ≠ some k) : Cl w' g ao v A :=
  h.same fun e => ho.block g (h.own e).2 (hd g e)

theorem Cl.keep {w w' : World} {g : Nat} {ao : Option Addr} {v : Value} {A : List Int} (h : Cl w g ao v A) (hb : Below w.heap.size w w') : Cl w' g ao v A :=
  h.same fun e => hb.block g (h.own e).2

theorem sortCl {w : World} {g : Nat} {ao : Option Addr} {v : Value} {A : List Int} (hn : A.length ≤ 8192) (h : Cl w g ao v A) :
    Calls Trym.prog 19 #[v] w fun e w' => e = .returned (.tuple #[]) ∧ ∃ Y, Y.Perm A ∧ Y.Pairwise (· ≤ ·) ∧ Cl w' g ao v Y ∧ Only v w w' := by
  rcases h with ⟨h1, rfl, rfl⟩ | ⟨h1, rfl, h3⟩
  · refine (sort19_nil w).mono ?_
    rintro e w' ⟨rfl, rfl⟩
    exact ⟨rfl, [], List.Perm.refl _, List.Pairwise.nil, .inl ⟨h1, rfl, rfl⟩, ⟨rfl, rfl, rfl, Nat.le_refl _, fun _ _ _ => rfl⟩⟩
  · refine (sort19 g A.length A w hn h3).mono ?_
    rintro e w' ⟨rfl, Y, hp, hs, hR, hB⟩
    refine ⟨rfl, Y, hp, hs, .inr ⟨h1, by rw [hp.length_eq], by rw [hp.length_eq]; exact hR⟩, ⟨hB.os, hB.tape, hB.output, hB.size, fun k hk hne => hB.block k hk ?_ ?_⟩⟩
    · intro e; subst e; exact hne rfl
    · intro e; subst e; exact hne rfl

set_option maxHeartbeats 400000 in
/-- sameMultiset, where the one is a shuffle of the other. -/
theorem multi15 (a1 a2 : Option Addr) (n c1 c2 : Nat) (X Y : List Int) (w : World) (hX : X.length = n) (hY : Y.length = n) (hn : n ≤ 8192) (hp : X.Perm Y) (h1 : URaw w a1 X) (h2 : URaw w a2 Y) :
    Calls Trym.prog 15 #[.slice a1 n c1, .slice a2 n c2] w fun e w' => e = .returned (.bool true) ∧ Below w.heap.size w w' := by
  have HH : Hid (X.length = n ∧ Y.length = n ∧ X.Perm Y ∧ URaw w a1 X ∧ URaw w a2 Y) := ⟨hX, hY, hp, h1, h2⟩
  have hb : ((n : Int) != (n : Int)) = false := by simp
  clear hp h1 h2 hX hY
  go_enter Trym.func15, Trym.ntmps15
  go_wp2_with fail
  have k1 := clone9 a1 c1 X w (by rw [HH.out.1]; exact hn) HH.out.2.2.2.1
  rw [HH.out.1] at k1
  refine k1.mono ?_
  clear k1
  rintro e wa ⟨v1, rfl, hc1, hba⟩
  have HC1 : Hid (Cl wa w.heap.size a1 v1 X) := hc1
  clear hc1
  go_wp2_with fail
  have k1 := clone9 a2 c2 Y wa (by rw [HH.out.2.1]; exact hn) (HH.out.2.2.2.2.keep hba)
  rw [HH.out.2.1] at k1
  refine k1.mono ?_
  clear k1
  rintro e wb ⟨v2, rfl, hc2, hbb⟩
  have HC2 : Hid (Cl wb wa.heap.size a2 v2 Y) := hc2
  have HC1b : Hid (Cl wb w.heap.size a1 v1 X) := HC1.out.keep hbb
  have HD : Hid (∀ k, v1.ownBlock = some k → v2.ownBlock ≠ some k) := by
    intro k e1 e2
    have q1 := HC1.out.own e1
    have q2 := HC2.out.own e2
    omega
  have HB2 : Hid (Below w.heap.size w wb) := hba.trans (hbb.mono hba.size)
  have hsa := hba.size
  clear hc2 hba hbb HC1
  go_wp2_with fail
  refine (sortCl (by rw [HH.out.1]; exact hn) HC1b.out).mono ?_
  rintro e wc ⟨rfl, Y1, hp1, hs1, hcl1, ho1⟩
  have HC2c : Hid (Cl wc wa.heap.size a2 v2 Y) := HC2.out.only ho1 (fun k e1 e2 => HD.out k e2 e1)
  have HBc : Hid (Below w.heap.size w wc) := HB2.out.trans (ho1.below (fun k e => by have := HC1b.out.own e; omega) HB2.out.size)
  have HS1 : Hid (Y1.Perm X ∧ Y1.Pairwise (· ≤ ·) ∧ Cl wc w.heap.size a1 v1 Y1) := ⟨hp1, hs1, hcl1⟩
  clear hp1 hs1 hcl1 ho1
  go_wp2_with fail
  refine (sortCl (by rw [HH.out.2.1]; exact hn) HC2c.out).mono ?_
  rintro e wd ⟨rfl, Y2, hp2, hs2, hcl2, ho2⟩
  have hC1d : Cl wd w.heap.size a1 v1 Y1 := HS1.out.2.2.only ho2 (fun k e1 e2 => HD.out k e1 e2)
  have HBd : Hid (Below w.heap.size w wd) := HBc.out.trans (ho2.below (fun k e => by have := HC2c.out.own e; omega) HBc.out.size)
  have heq : Y1 = Y2 := sorted_eq (HS1.out.1.trans (HH.out.2.2.1.trans hp2.symm)) HS1.out.2.1 hs2
  have hl1 : Y1.length = n := by rw [HS1.out.1.length_eq]; exact HH.out.1
  subst heq
  obtain ⟨b1, d1, rfl, hr1, _⟩ := hC1d.form
  obtain ⟨b2, d2, rfl, hr2, _⟩ := hcl2.form
  have HR : Hid (URaw wd b1 Y1 ∧ URaw wd b2 Y1 ∧ Y1.length ≤ 8192) := ⟨hr1, hr2, by omega⟩
  clear hr1 hr2 hcl2 hC1d hs2 hp2 ho2 hl1
  go_wp2_with fail
  refine (same17 b1 b2 d1 d2 Y1 wd HR.out.2.2 HR.out.1 HR.out.2.1).mono ?_
  rintro e we ⟨rfl, m, rfl⟩
  go_wp2
  go_ret
  exact ⟨rfl, below_drewN HBd.out _⟩

end Go.Proofs.Qxb6604563aMods
