import Derived.Test.Qxb6604563aModsMulti
import Derived.Test.Qxb6604563aModsConE
namespace Go.Proofs.Qxb6604563aMods
open Go.RowKit Plain

theorem own_raw2 {w : World} {base n : Nat} {a : Option Addr} {X : List Int} {c : Nat} (h : w.ownsRow base 23 1 (.slice a n c) n (X.map (Value.int .u64))) : X.length = n ∧ URaw w a X := by
  have hl : X.length = n := by have := h.1; simp at this; omega
  subst hl
  refine ⟨rfl, ?_⟩
  have h' := h
  rcases h'.2 with ⟨h1, h2⟩ | ⟨g, cap, cur, hv, _⟩
  · injection h1 with e1 e2 e3
    subst e1
    have : X = [] := List.eq_nil_of_length_eq_zero e2
    subst this
    exact ⟨fun _ => rfl, fun h => by simp at h⟩
  · injection hv with e1 e2 e3
    subst e1
    exact own_raw h

theorem mvs_bd (A : List Int) (L : Nat) (O : List Int) (m k : Nat) (hA : ∀ x ∈ A, 0 ≤ x ∧ x ≤ 18446744073709551615) (hO : ∀ x ∈ O, 0 ≤ x ∧ x ≤ 18446744073709551615) : ∀ x ∈ mvs A L O m k, 0 ≤ x ∧ x ≤ 18446744073709551615 := by
  induction k with
  | zero => exact hA
  | succ k ih =>
    simp only [mvs]
    split
    · intro x hx
      rcases List.mem_or_eq_of_mem_set hx with h | h
      · exact ih x h
      · rw [h, List.getD_eq_getElem?_getD]
        by_cases hlt : m + k < O.length
        · rw [List.getElem?_eq_getElem hlt]; exact hO _ (List.getElem_mem hlt)
        · rw [List.getElem?_eq_none (by omega)]; simp
    · exact ih

theorem getD_bd {G : List Int} {i : Nat} (h : ∀ x ∈ G, 0 ≤ x ∧ x ≤ 18446744073709551615) : 0 ≤ G.getD i 0 ∧ G.getD i 0 ≤ 18446744073709551615 := by
  rw [List.getD_eq_getElem?_getD]
  by_cases hlt : i < G.length
  · rw [List.getElem?_eq_getElem hlt]; exact h _ (List.getElem_mem hlt)
  · rw [List.getElem?_eq_none (by omega)]; simp

/-- The fields behind a move, and what oldAsExpected says of them. -/
theorem moved_old {w w' : World} {base xb sb L : Nat} {A O : List Int} {ob ao : Option Addr} {cb co : Nat} {m st : Nat} {n pre : Int} (hO : O.length ≤ 8192) (hM : Moved w base xb sb L A O (.slice ob O.length cb) m st n pre w') (ho : Ol w xb sb (.slice ob O.length cb) O) (hnil : ob.isNone = ao.isNone) (hu : URaw w' ao O) :
    ∃ a' l' c' m', Tb w' base xb sb L (mvs A L O m st) (.slice a' l' c') m' n pre ∧ ∀ k, Calls Trym.prog 13 #[.slice ao O.length co, .int .i64 ((m : Int) + st), .slice a' l' c', .int .i64 m'] (w'.drewN k) fun e w2 => e = .returned (.bool true) ∧ ∃ q, w2 = w'.drewN q := by
  by_cases hend : m + st = O.length
  · refine ⟨none, 0, 0, 0, hM.done hend, fun k => (oldDone13 ao O.length co _ _ (by omega)).mono ?_⟩
    rintro e w2 ⟨rfl, q, rfl⟩
    exact ⟨rfl, k + q, by rw [World.drewN_drewN]⟩
  · refine ⟨ob, O.length, cb, _, hM.more hend, fun k => (oldMore13 ao ob co cb O _ _ hO (by omega) hnil (hu.drewN _) ?_).mono ?_⟩
    · refine URaw.drewN ?_ _
      rcases Ol.keep ho hM.but with ⟨h1, h⟩ | ⟨x, o, cap, h1, _, _, h4⟩
      · injection h1 with e1
        subst e1
        exact ⟨fun _ => h, fun h0 => by rw [h] at h0; simp at h0⟩
      · injection h1 with e1
        subst e1
        exact ⟨fun h => (by cases h), fun _ => ⟨x, o, rfl, h4⟩⟩
    · rintro e w2 ⟨rfl, q, rfl⟩
      exact ⟨rfl, k + q, by rw [World.drewN_drewN]⟩

end Go.Proofs.Qxb6604563aMods
