import Derived.Test.Qxb6604563aModsPlainB
import Derived.Test.Qxb6604563aModsConD
namespace Go.Proofs.Qxb6604563aMods
open Go.RowKit Plain

theorem Cl.form {w : World} {g : Nat} {ao : Option Addr} {v : Value} {O : List Int} (h : Cl w g ao v O) : ∃ a c, v = .slice a O.length c ∧ URaw w a O ∧ a.isNone = ao.isNone ∧ (a = none ∨ a = some ⟨g, 0, none⟩) := by
  rcases h with ⟨rfl, rfl, rfl⟩ | ⟨h1, rfl, h3⟩
  · exact ⟨none, 0, rfl, ⟨fun _ => rfl, fun h => by simp at h⟩, rfl, .inl rfl⟩
  · refine ⟨_, _, rfl, own_raw h3, ?_, .inr rfl⟩
    cases ao with
    | none => exact absurd rfl h1
    | some x => rfl

theorem Ol.of_raw {w : World} {g xb sb : Nat} {a : Option Addr} {c : Nat} {O : List Int} (h : URaw w a O) (ha : a = none ∨ a = some ⟨g, 0, none⟩) (hn : a = none → c = 0) (h1 : a = some ⟨g, 0, none⟩ → g ≠ xb) (h2 : a = some ⟨g, 0, none⟩ → g ≠ sb) : Ol w xb sb (.slice a O.length c) O := by
  rcases ha with rfl | rfl
  · have := h.1 rfl
    subst this
    exact .inl ⟨by rw [hn rfl]; rfl, rfl⟩
  · refine .inr ⟨g, 0, c, rfl, h1 rfl, h2 rfl, fun j hj => ?_⟩
    obtain ⟨b, off, e, hc⟩ := h.2 (by omega)
    injection e with e
    injection e with e1 e2
    subst e1 e2
    exact hc j hj

theorem Cl.cap {w : World} {g : Nat} {ao a : Option Addr} {c n : Nat} {O : List Int} (h : Cl w g ao (.slice a n c) O) : a = none → c = 0 := by
  intro e
  rcases h with ⟨_, h, _⟩ | ⟨_, h, _⟩
  · injection h
  · subst e; injection h with h1; cases h1

theorem Cl.lt {w : World} {g : Nat} {ao a : Option Addr} {c n : Nat} {O : List Int} (h : Cl w g ao (.slice a n c) O) : a = some ⟨g, 0, none⟩ → g < w.heap.size := by
  intro e
  rcases h with ⟨_, h, _⟩ | ⟨_, h, h3⟩
  · subst e; injection h with h1; cases h1
  · rcases h3.2 with ⟨h4, _⟩ | ⟨g', cap, cur, hv, _, hg, _⟩
    · cases h4
    · injection hv with e1
      injection e1 with e2
      injection e2 with e3
      subst e3
      exact lt_of_block hg

theorem Cl.slots {w : World} {g : Nat} {ao : Option Addr} {v : Value} {A : List Int} (h : Cl w g ao v A) (hA : 0 < A.length) : v = .slice (some ⟨g, 0, none⟩) A.length A.length ∧ w.ownsRow g 23 1 (.slice (some ⟨g, 0, none⟩) A.length A.length) A.length (A.map (Value.int .u64)) ∧ g < w.heap.size := by
  have h' := h
  rcases h with ⟨_, _, h⟩ | ⟨_, rfl, h3⟩
  · rw [h] at hA; simp at hA
  · exact ⟨rfl, h3, h'.lt rfl⟩

theorem URaw.drewN {w : World} {a : Option Addr} {A : List Int} (h : URaw w a A) (k : Nat) : URaw (w.drewN k) a A := h

theorem pc_empty (b : Int) : pc [] 0 (stepsOf ([] : List Int).length 0 b) = 0 := by
  have : stepsOf ([] : List Int).length 0 b = 0 := steps_nil b
  rw [this]; rfl

/-- The second of two moves, said of both. -/
theorem second_move {w w1 : World} {base xb sb L : Nat} {A O : List Int} {vo : Value} {m : Nat} {n pre a b : Int} (hL : 0 < L) (hL2 : L ≤ 8192) (hlen : A.length = L) (hO : O.length ≤ 8192) (hm : m ≤ O.length) (ha : 0 ≤ a) (hb : 0 ≤ b) (hb2 : b ≤ 9223372036854775807)
    (hw : ∀ x ∈ O, 0 ≤ x ∧ x ≤ 18446744073709551615) (hp : L &&& (L - 1) = 0) (hc : pc O m (stepsOf O.length m (a + b)) ≤ cf A) (ho : Ol w xb sb vo O)
    (h1 : Moved w base xb sb L A O vo m (stepsOf O.length m a) n pre w1) :
    Calls Trym.prog 11 #[.pointer (some ⟨xb, 0, none⟩), .int .i64 b] w1 fun e w' => e = .returned (.tuple #[]) ∧ Moved w base xb sb L A O vo m (stepsOf O.length m (a + b)) n pre w' := by
  obtain ⟨e1, e2⟩ := steps_two hm ha hb
  by_cases he : m + stepsOf O.length m a = O.length
  · refine (zzmove11 base xb sb L _ [] (.slice none 0 0) 0 0 n pre b w1 rfl hL hL2 (by simp) (by simp) (by omega) hb2 (by simp) hp (by rw [pc_empty]; omega) (h1.done he) (.inl ⟨rfl, rfl⟩)).mono ?_
    rintro e w' ⟨rfl, h2⟩
    exact ⟨rfl, Moved.two hm ha hb h1 ⟨fun _ => h2, fun h => absurd he h⟩⟩
  · have hs := e2 he
    have hle := stepsOf_le O.length m a hm
    rw [hs, pc_add] at hc
    have hcm := cf_mvs A L O m (stepsOf O.length m a) hlen hL (by omega)
    refine (zzmove11 base xb sb L _ O vo (m + stepsOf O.length m a) _ n pre b w1 (by omega) hL hL2 hO hle (by omega) hb2 hw hp (by omega) (h1.more he) (ho.keep h1.but)).mono ?_
    rintro e w' ⟨rfl, h2⟩
    exact ⟨rfl, Moved.two hm ha hb h1 ⟨fun h => absurd h he, fun _ => h2⟩⟩

end Go.Proofs.Qxb6604563aMods
