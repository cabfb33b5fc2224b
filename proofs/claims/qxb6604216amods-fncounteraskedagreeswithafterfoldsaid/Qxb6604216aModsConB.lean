import Derived.Test.Qxb6604216aModsConA
namespace Go.Proofs.Qxb6604216aMods
open Go.RowKit Go.Maps Go.WideMaps

/-- v is a slice of the strings L: nil, or at a plain address. -/
def Sl (w : World) (v : Value) (L : List ByteArray) : Prop :=
  (v = .slice none 0 0 ∧ L = []) ∨ ∃ b off cap, v = .slice (some ⟨b, off, none⟩) L.length cap ∧ L.length ≤ cap ∧ ∀ j u, (L.map Value.string)[j]? = some u → w.cell? ⟨b, off + j, none⟩ = some u

theorem Sl.keep {w w' : World} {v : Value} {L : List ByteArray} (h : Sl w v L) (hb : Below w.heap.size w w') : Sl w' v L := by
  rcases h with h | ⟨b, off, cap, h1, h2, h3⟩
  · exact .inl h
  · refine .inr ⟨b, off, cap, h1, h2, fun j u hj => ?_⟩
    have hc := h3 j u hj
    rw [hb.cell (by simpa using block_lt_of_cell hc)]
    exact hc

theorem Sl.own {w : World} {base n : Nat} {v : Value} {L : List ByteArray} (h : w.ownsRow base 9 1 v n (L.map Value.string)) : Sl w v L := by
  have hn : n = L.length := by have := h.1; simp at this; omega
  subst hn
  rcases h.2 with ⟨h1, h2⟩ | ⟨g, cap, cur, hv, hg, hh, hnc, _, hcs, htake⟩
  · exact .inl ⟨h1, List.length_eq_zero_iff.1 h2⟩
  · refine .inr ⟨g, 0, cap, hv, hnc, fun j u hj => ?_⟩
    rw [Nat.zero_add]
    have hjl : j < L.length := by have := (List.getElem?_eq_some_iff.1 hj).1; simpa using this
    have h' := h
    rw [hv] at h'
    exact (h'.cellAt j (by omega)).trans hj

/-- v is a slice of int64s: nil, or at a plain address. -/
def Il (w : World) (v : Value) (Z : List Int) : Prop :=
  (v = .slice none 0 0 ∧ Z = []) ∨ ∃ b off cap, v = .slice (some ⟨b, off, none⟩) Z.length cap ∧ ∀ j u, (Z.map (Value.int .i64))[j]? = some u → w.cell? ⟨b, off + j, none⟩ = some u

theorem Il.keep {w w' : World} {v : Value} {L : List Int} (h : Il w v L) (hb : Below w.heap.size w w') : Il w' v L := by
  rcases h with h | ⟨b, off, cap, h1, h3⟩
  · exact .inl h
  · refine .inr ⟨b, off, cap, h1, fun j u hj => ?_⟩
    have hc := h3 j u hj
    rw [hb.cell (by simpa using block_lt_of_cell hc)]
    exact hc

theorem Il.own {w : World} {base n : Nat} {v : Value} {L : List Int} (h : w.ownsRow base 2 1 v n (L.map (Value.int .i64))) : Il w v L := by
  have hn : n = L.length := by have := h.1; simp at this; omega
  subst hn
  rcases h.2 with ⟨h1, h2⟩ | ⟨g, cap, cur, hv, hg, hh, hnc, _, hcs, htake⟩
  · exact .inl ⟨h1, List.length_eq_zero_iff.1 h2⟩
  · refine .inr ⟨g, 0, cap, hv, fun j u hj => ?_⟩
    rw [Nat.zero_add]
    have hjl : j < L.length := by have := (List.getElem?_eq_some_iff.1 hj).1; simpa using this
    have h' := h
    rw [hv] at h'
    exact (h'.cellAt j (by omega)).trans hj

/-- slices.Clone. -/
theorem clone24 (v : Value) (L : List ByteArray) (w : World) (hn : L.length ≤ 1048576) (h : Sl w v L) :
    Calls Trym.prog 24 #[v] w fun e w' => ∃ v', e = .returned v' ∧ w'.ownsRow w.heap.size 9 1 v' L.length (L.map Value.string) ∧ Below w.heap.size w w' := by
  have q22 : ∀ (w : World) (a : Option Addr) (n c n' c' : Nat), (binOp .eql 22 (.slice a n c) (.slice none n' c')).run Trym.prog w = .ok (.bool a.isNone) w := fun w a n c n' c' => Lib.run_eql_slice_nil w _ _ a n c n' c' Trym.underlying22
  obtain ⟨i0, hi, hz0, hz1, hz2⟩ := info_parts Trym.info9
  rcases h with ⟨rfl, rfl⟩ | ⟨b, off, cap, rfl, hcap, hc⟩
  · go_enter Trym.func24, Trym.ntmps24
    go_wp2
    go_ret
    exact ⟨_, rfl, World.ownsRow_nil _ _ _ _, Below.refl _ _⟩
  · have HC : Hid (∀ j u, (L.map Value.string)[j]? = some u → w.cell? ⟨b, off + j, none⟩ = some u) := hc
    clear hc
    go_enter Trym.func24, Trym.ntmps24
    go_wp2_with (at_builtin; refine wpList_append_own _ rfl _ _ 22 rfl w.heap.size 9 i0 (.string { data := #[] }) 1 16 Trym.underlying22 hi hz0 hz1 hz2 rfl (by decide) _ _ _ rfl (World.ownsRow_lit w #[] 0 (Nat.le_refl _) (Nat.zero_le _) rfl) ⟨b, off, none⟩ L.length cap (L.map Value.string) rfl ?qc1 ?qc2 ?qc3 ?qc4 ?qc5 ?qc6 ?_)
    case qc1 => simp
    case qc2 =>
      intro j u hj
      rw [Addr.add_lit]
      exact Lib.cell?_alloc_some _ (HC.out j u hj)
    case qc3 => intro u hu; obtain ⟨x, _, rfl⟩ := List.mem_map.1 hu; rfl
    case qc4 => unfold maxLen; omega
    case qc5 => omega
    case qc6 => simp
    intro v' w1 hown hgrow hnil
    go_wp2
    go_ret
    refine ⟨v', rfl, by simpa using hown, ?_⟩
    exact ((Below.refl _ w).alloc (Nat.le_refl _) _).grown hgrow (by simp) (by intro k hk; simp [Value.ownBlock] at hk; omega)

end Go.Proofs.Qxb6604216aMods
