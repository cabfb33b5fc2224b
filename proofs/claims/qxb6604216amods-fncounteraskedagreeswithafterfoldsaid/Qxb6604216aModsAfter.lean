import Derived.Test.Qxb6604216aModsAsk
import Derived.Test.Qxb6604216aModsHome
namespace Go.Proofs.Qxb6604216aMods
open Go.RowKit Go.Maps Go.WideMaps

theorem Sl.form {w : World} {v : Value} {L : List ByteArray} (h : Sl w v L) : ∃ a c, v = .slice a L.length c := by
  rcases h with ⟨rfl, rfl⟩ | ⟨b, off, cap, rfl, _⟩
  · exact ⟨none, 0, rfl⟩
  · exact ⟨_, _, rfl⟩

/-- homeOf at a slice of at most ten strings. -/
theorem home25 (v : Value) (M : List ByteArray) (home : ByteArray) (unsure : Bool) (w : World) (hM : M.length ≤ 1048576) (hh : home.size ≤ maxLen) (hs : ∀ s ∈ M, s.size ≤ maxLen) (h : Sl w v M) :
    Calls Trym.prog 25 #[v, .string home, .bool unsure] w fun e w' => ∃ (h : ByteArray) (u : Bool), h.size ≤ maxLen ∧ e = .returned (.tuple #[.string h, .bool u]) ∧ Below w.heap.size w w' := by
  by_cases h10 : M.length < 10
  · obtain ⟨a, c, rfl⟩ := h.form
    exact home_few a M.length c home unsure w h10
  · rcases h with ⟨_, rfl⟩ | ⟨b, off, cap, rfl, _, hc⟩
    · simp at h10
    · refine home_many b off M.length cap (fun i => M.getD i ByteArray.empty) home unsure w (by omega) hM hh (fun i hi => ?_) (fun i hi => ?_)
      · exact hs _ (by simp [hi])
      · exact hc i _ (by simp [hi])

theorem Trym.info47 : (Trym.prog.info? 47).map (fun i => (i.zero, i.size, i.bytes)) = some (some (.agg #[.slice none 0 0, .bool false, .slice none 0 0]), 3, 56) := by kernel_rfl

theorem win_sizes {L : List ByteArray} {region : ByteArray} (hs : ∀ s ∈ L, s.size ≤ maxLen) (hr : region.size ≤ maxLen) : ∀ s ∈ win (L ++ [region]), s.size ≤ maxLen := by
  intro s h
  have := List.mem_of_mem_drop h
  simp at this
  rcases this with h | rfl
  · exact hs s h
  · exact hr

theorem Sl.set {w : World} {b off n cap : Nat} {L : List ByteArray} (h : Sl w (.slice (some ⟨b, off, none⟩) n cap) L) (p : Addr) (u : Value) (hp : p.block ≠ b) : Sl (w.setCell p u) (.slice (some ⟨b, off, none⟩) n cap) L := by
  rcases h with ⟨h, _⟩ | ⟨b', off', cap', h1, h2, h3⟩
  · cases h
  · refine .inr ⟨b', off', cap', h1, h2, fun j x hj => ?_⟩
    have e : b = b' := by injection h1 with e1; injection e1 with e2; injection e2
    rw [World.cell?_setCell_other _ _ _ _ (by intro hh; apply hp; rw [hh, e])]
    exact h3 j x hj

theorem Sl.drew {w : World} {v : Value} {L : List ByteArray} (h : Sl w v L) : Sl w.drew v L := h

theorem two_cell (w : World) (o : Obj) (c : Array Value) (t : TypeId) (i : Nat) : ((w.alloc o).alloc (.cells c t)).cell? ⟨w.heap.size + 1, i, none⟩ = c[i]? := by
  have h := World.cell?_alloc_new (w.alloc o) c t i
  rw [World.size_alloc] at h
  exact h

theorem two_free (w : World) (o : Obj) (c : Array Value) (t : TypeId) (i : Nat) : ((w.alloc o).alloc (.cells c t)).frozen? ⟨w.heap.size + 1, i, none⟩ = false := by
  have h := World.frozen?_alloc_new (w.alloc o) c t i
  rw [World.size_alloc] at h
  exact h

set_option maxHeartbeats 1000000 in
theorem after22 (v : Value) (L : List ByteArray) (home region : ByteArray) (unsure : Bool) (w : World) (hL : L.length ≤ 10) (hh : home.size ≤ maxLen) (hr : region.size ≤ maxLen) (hs : ∀ s ∈ L, s.size ≤ maxLen) (h : Sl w v L) :
    Calls Trym.prog 22 #[.agg #[v, .bool unsure, .slice none 0 0], .string home, .string region] w fun e w' => ∃ (v' : Value) (h' : ByteArray) (u' : Bool),
      e = .returned (.tuple #[.string h', .agg #[v', .bool u', .slice none 0 0]]) ∧ Sl w' v' (win (L ++ [region])) ∧ h'.size ≤ maxLen ∧ Below w.heap.size w w' := by
  obtain ⟨a, c, rfl⟩ := h.form
  obtain ⟨i0, hi, hz0, hz1, hz2⟩ := info_parts Trym.info9
  have H : Hid (Sl w (.slice a L.length c) L) := h
  clear h
  go_enter Trym.func22, Trym.ntmps22
  go_wp2_with fail
  obtain ⟨W, hW⟩ : ∃ W, W = (w.alloc (Obj.cells #[Value.slice a L.length c, Value.bool unsure, Value.slice none 0 0] 47)).alloc (Obj.cells #[Value.slice none 0 0, Value.bool false, Value.slice none 0 0] 47) := ⟨_, rfl⟩
  have hbW : Below w.heap.size w W := by rw [hW]; exact ((Below.refl _ _).alloc (Nat.le_refl _) _).alloc (by simp) _
  have hsW : W.heap.size = w.heap.size + 2 := by rw [hW]; simp
  have hc1 : W.cell? ⟨w.heap.size, 1, none⟩ = some (.bool unsure) := by rw [hW, World.cell?_alloc_lt _ _ _ (by simp)]; simp
  have hd : ∃ x0 x1 x2, W.cell? ⟨w.heap.size + 1, 0, none⟩ = some x0 ∧ W.cell? ⟨w.heap.size + 1, 1, none⟩ = some x1 ∧ W.cell? ⟨w.heap.size + 1, 2, none⟩ = some x2 := by
    rw [hW]
    exact ⟨.slice none 0 0, .bool false, .slice none 0 0, two_cell w _ _ _ 0, two_cell w _ _ _ 1, two_cell w _ _ _ 2⟩
  have hf : ∀ o, W.frozen? ⟨w.heap.size + 1, o, none⟩ = false := by
    intro o
    rw [hW]
    exact two_free w _ _ _ o
  rw [← hW]
  clear hW
  have hSW := H.out.keep hbW
  refine (clone24 _ L W (by omega) hSW).mono ?_
  rintro e w1 ⟨v1, rfl, hown1, hbel1⟩
  rw [hsW] at hbel1 hown1
  have hsz1 := hbel1.size
  rw [hsW] at hsz1
  go_wp2_with (at_builtin; refine wpList_append_own _ rfl _ _ 22 rfl (w.heap.size + 2) 9 i0 (.string { data := #[] }) 1 16 Trym.underlying22 hi hz0 hz1 hz2 rfl (by decide) _ _ _ rfl (hown1.alloc _) ⟨w1.heap.size, 0, none⟩ 1 1 [.string region] rfl rfl ?c1 ?c2 ?c3 ?c4 ?c5 ?_)
  case c1 =>
    intro j u hj
    match j, hj with
    | 0, hj => simp at hj; subst hj; simp [Addr.add]
  case c2 => first | rfl | (intro u hu; simp at hu; subst hu; rfl)
  case c3 => unfold maxLen; omega
  case c4 => omega
  case c5 => simp; omega
  intro v2 w2 hown2 hgrow2 hnil2
  have hb2 : Below (w.heap.size + 2) W w2 := (hbel1.alloc hsz1 _).grown hgrow2 (by simp <;> omega) (fun b hb => own_block hown1 hb)
  have hsz2 := hb2.size
  rw [hsW] at hsz2
  have eL : L.map Value.string ++ [.string region] = (L ++ [region]).map Value.string := by simp
  rw [eL] at hown2
  have hS2 := Sl.own hown2
  have hob : ∀ b, v2.ownBlock = some b → w.heap.size + 2 ≤ b := fun b hb => own_block hown2 hb
  have hbw2 : Below w.heap.size w w2 := hbW.trans (hb2.mono (by omega))
  obtain ⟨x0, x1, x2, d0, d1, d2⟩ := hd
  have c1 : w2.cell? ⟨w.heap.size, 1, none⟩ = some (.bool unsure) := (hb2.cell (by simp)).trans hc1
  have e0 : w2.cell? ⟨w.heap.size + 1, 0, none⟩ = some x0 := (hb2.cell (by simp)).trans d0
  have e1 : w2.cell? ⟨w.heap.size + 1, 1, none⟩ = some x1 := (hb2.cell (by simp)).trans d1
  have e2 : w2.cell? ⟨w.heap.size + 1, 2, none⟩ = some x2 := (hb2.cell (by simp)).trans d2
  have f0 : w2.frozen? ⟨w.heap.size + 1, 0, none⟩ = false := (hb2.frozen (by simp)).trans (hf 0)
  have f1 : w2.frozen? ⟨w.heap.size + 1, 1, none⟩ = false := (hb2.frozen (by simp)).trans (hf 1)
  have f2 : w2.frozen? ⟨w.heap.size + 1, 2, none⟩ = false := (hb2.frozen (by simp)).trans (hf 2)
  clear eL hown1 hgrow2 hbel1 hown2 d0 d1 d2 hf hc1 hSW hb2 hbW hsz1 hsW H
  obtain ⟨g, off, cap2, hv2, hgb, hcap2, hcells⟩ : ∃ g off cap2, v2 = .slice (some ⟨g, off, none⟩) (L.length + 1) cap2 ∧ w.heap.size + 2 ≤ g ∧ L.length + 1 ≤ cap2 ∧ ∀ j u, ((L ++ [region]).map Value.string)[j]? = some u → w2.cell? ⟨g, off + j, none⟩ = some u := by
    rcases hS2 with ⟨h, _⟩ | ⟨g, off, cap2, h1, h2, h3⟩
    · exact absurd h hnil2
    · simp only [List.length_append, List.length_cons, List.length_nil] at h1 h2
      exact ⟨g, off, cap2, h1, hob g (by rw [h1]; rfl), h2, h3⟩
  have hgl : g < w2.heap.size := by simpa using block_lt_of_cell (hcells 0 _ (List.getElem?_eq_getElem (by simp)))
  have HC : Hid (_) := hcells
  clear hcells hnil2 hS2 hob
  subst hv2
  have g0 : w.heap.size < w2.heap.size := by omega
  have g1 : w.heap.size + 1 < w2.heap.size := by omega
  by_cases h10 : L.length < 10
  · have hSv : Sl w2 (.slice (some ⟨g, off, none⟩) (L.length + 1) cap2) (win (L ++ [region])) := by
      have := Sl.win_short (cap := cap2) HC (by simpa using hcap2) (by simp <;> omega)
      simpa using this
    go_wp2_with fail
    have hs3 : ∀ s ∈ win (L ++ [region]), s.size ≤ maxLen := win_sizes hs hr
    have hb2a : Below w.heap.size w (w2.alloc (.cells #[.slice (some ⟨g, off, none⟩) (L.length + 1) cap2, .bool false, .slice none 0 0] 47)) := hbw2.alloc hbw2.size _
    refine (home25 _ (win (L ++ [region])) home unsure _ (by rw [win, List.length_drop]; omega) hh hs3 (hSv.keep ((Below.refl _ _).alloc (Nat.le_refl _) _))).mono ?_
    rintro e w3 ⟨h', u', hh', rfl, hb3⟩
    rw [World.size_alloc] at hb3
    have hS3 : Sl w3 _ (win (L ++ [region])) := hSv.keep (((Below.refl _ _).alloc (Nat.le_refl _) _).trans (hb3.mono (by omega)))
    have hb3w : Below w.heap.size w w3 := hb2a.trans (hb3.mono (by omega))
    have k0 : w3.cell? ⟨w2.heap.size, 0, none⟩ = some (.slice (some ⟨g, off, none⟩) (L.length + 1) cap2) := (hb3.cell (by simp)).trans (by simp)
    have k1 : w3.cell? ⟨w2.heap.size, 1, none⟩ = some (.bool false) := (hb3.cell (by simp)).trans (by simp)
    have k2 : w3.cell? ⟨w2.heap.size, 2, none⟩ = some (.slice none 0 0) := (hb3.cell (by simp)).trans (by simp)
    have m0 : w3.frozen? ⟨w2.heap.size, 0, none⟩ = false := (hb3.frozen (by simp)).trans (by simp)
    have m1 : w3.frozen? ⟨w2.heap.size, 1, none⟩ = false := (hb3.frozen (by simp)).trans (by simp)
    have n0 : w3.cell? ⟨w.heap.size + 1, 0, none⟩ = some x0 := (hb3.cell (by simp <;> omega)).trans ((World.cell?_alloc_lt _ _ _ (by simp <;> omega)).trans e0)
    have n1 : w3.cell? ⟨w.heap.size + 1, 1, none⟩ = some x1 := (hb3.cell (by simp <;> omega)).trans ((World.cell?_alloc_lt _ _ _ (by simp <;> omega)).trans e1)
    have n2 : w3.cell? ⟨w.heap.size + 1, 2, none⟩ = some x2 := (hb3.cell (by simp <;> omega)).trans ((World.cell?_alloc_lt _ _ _ (by simp <;> omega)).trans e2)
    have p0 : w3.frozen? ⟨w.heap.size + 1, 0, none⟩ = false := (hb3.frozen (by simp <;> omega)).trans ((World.frozen?_alloc_old _ _ _ (by simp <;> omega)).trans f0)
    have p1 : w3.frozen? ⟨w.heap.size + 1, 1, none⟩ = false := (hb3.frozen (by simp <;> omega)).trans ((World.frozen?_alloc_old _ _ _ (by simp <;> omega)).trans f1)
    have p2 : w3.frozen? ⟨w.heap.size + 1, 2, none⟩ = false := (hb3.frozen (by simp <;> omega)).trans ((World.frozen?_alloc_old _ _ _ (by simp <;> omega)).trans f2)
    have q0 : (w.heap.size + 1 = w2.heap.size) = False := by simp; omega
    have q1 : (w2.heap.size = w.heap.size + 1) = False := by simp; omega
    have HS3 : Hid (_) := hS3
    clear e0 e1 e2 f0 f1 f2 c1 hb3 hSv hS3 hs3 hb2a
    go_wp2
    obtain ⟨W3, hW3⟩ : ∃ W3, W3 = w3.setCell ⟨w2.heap.size, 1, none⟩ (.bool u') := ⟨_, rfl⟩
    rw [← hW3]
    have r0 : W3.cell? ⟨w2.heap.size, 0, none⟩ = some (.slice (some ⟨g, off, none⟩) (L.length + 1) cap2) := by rw [hW3, World.cell?_setCell_other _ _ _ _ (by simp)]; exact k0
    have r1 : W3.cell? ⟨w2.heap.size, 1, none⟩ = some (.bool u') := by rw [hW3]; exact World.cell?_setCell_same _ _ _ k1
    have r2 : W3.cell? ⟨w2.heap.size, 2, none⟩ = some (.slice none 0 0) := by rw [hW3, World.cell?_setCell_other _ _ _ _ (by simp)]; exact k2
    have s0 : W3.cell? ⟨w.heap.size + 1, 0, none⟩ = some x0 := by rw [hW3, World.cell?_setCell_other _ _ _ _ (by simp <;> omega)]; exact n0
    have s1 : W3.cell? ⟨w.heap.size + 1, 1, none⟩ = some x1 := by rw [hW3, World.cell?_setCell_other _ _ _ _ (by simp <;> omega)]; exact n1
    have s2 : W3.cell? ⟨w.heap.size + 1, 2, none⟩ = some x2 := by rw [hW3, World.cell?_setCell_other _ _ _ _ (by simp <;> omega)]; exact n2
    have t0 : W3.frozen? ⟨w.heap.size + 1, 0, none⟩ = false := by rw [hW3, World.frozen?_setCell]; exact p0
    have t1 : W3.frozen? ⟨w.heap.size + 1, 1, none⟩ = false := by rw [hW3, World.frozen?_setCell]; exact p1
    have t2 : W3.frozen? ⟨w.heap.size + 1, 2, none⟩ = false := by rw [hW3, World.frozen?_setCell]; exact p2
    have hbW3 : Below w.heap.size w W3 := by rw [hW3]; exact hb3w.setCell (by simp <;> omega) _
    have HW : Hid (W3 = w3.setCell ⟨w2.heap.size, 1, none⟩ (.bool u')) := hW3
    clear hW3 k0 k1 k2 m0 m1 n0 n1 n2 p0 p1 p2 q0 q1
    go_region
    go_wp2
    refine bodyPost_ret (v := .tuple #[.string h', .agg #[.slice (some ⟨g, off, none⟩) (L.length + 1) cap2, .bool u', .slice none 0 0]]) (by simp [results, Trym.results22, go_sem, s0, s1, s2]) rfl ⟨.slice (some ⟨g, off, none⟩) (L.length + 1) cap2, h', u', rfl, ?_, hh', ?_⟩
    · refine Sl.drew (Sl.set (Sl.set (Sl.set ?_ _ _ (by simp <;> omega)) _ _ (by simp <;> omega)) _ _ (by simp <;> omega))
      rw [HW.out]
      exact Sl.set HS3.out _ _ (by simp <;> omega)
    · exact (((hbW3.setCell (by simp) _).setCell (by simp) _).setCell (by simp) _).drew
  · have hSv : Sl w2 (.slice (some ⟨g, off + (L.length - 9), none⟩) (L.length + 1 - (L.length - 9)) (cap2 - (L.length - 9))) (win (L ++ [region])) := by
      have := Sl.win_long (cap := cap2) (d := L.length - 9) HC (by simpa using hcap2) (by simp <;> omega)
      simpa using this
    go_wp2_with fail
    have hs3 : ∀ s ∈ win (L ++ [region]), s.size ≤ maxLen := win_sizes hs hr
    have hb2a : Below w.heap.size w (w2.alloc (.cells #[.slice (some ⟨g, off + (L.length - 9), none⟩) (L.length + 1 - (L.length - 9)) (cap2 - (L.length - 9)), .bool false, .slice none 0 0] 47)) := hbw2.alloc hbw2.size _
    refine (home25 _ (win (L ++ [region])) home unsure _ (by rw [win, List.length_drop]; omega) hh hs3 (hSv.keep ((Below.refl _ _).alloc (Nat.le_refl _) _))).mono ?_
    rintro e w3 ⟨h', u', hh', rfl, hb3⟩
    rw [World.size_alloc] at hb3
    have hS3 : Sl w3 _ (win (L ++ [region])) := hSv.keep (((Below.refl _ _).alloc (Nat.le_refl _) _).trans (hb3.mono (by omega)))
    have hb3w : Below w.heap.size w w3 := hb2a.trans (hb3.mono (by omega))
    have k0 : w3.cell? ⟨w2.heap.size, 0, none⟩ = some (.slice (some ⟨g, off + (L.length - 9), none⟩) (L.length + 1 - (L.length - 9)) (cap2 - (L.length - 9))) := (hb3.cell (by simp)).trans (by simp)
    have k1 : w3.cell? ⟨w2.heap.size, 1, none⟩ = some (.bool false) := (hb3.cell (by simp)).trans (by simp)
    have k2 : w3.cell? ⟨w2.heap.size, 2, none⟩ = some (.slice none 0 0) := (hb3.cell (by simp)).trans (by simp)
    have m0 : w3.frozen? ⟨w2.heap.size, 0, none⟩ = false := (hb3.frozen (by simp)).trans (by simp)
    have m1 : w3.frozen? ⟨w2.heap.size, 1, none⟩ = false := (hb3.frozen (by simp)).trans (by simp)
    have n0 : w3.cell? ⟨w.heap.size + 1, 0, none⟩ = some x0 := (hb3.cell (by simp <;> omega)).trans ((World.cell?_alloc_lt _ _ _ (by simp <;> omega)).trans e0)
    have n1 : w3.cell? ⟨w.heap.size + 1, 1, none⟩ = some x1 := (hb3.cell (by simp <;> omega)).trans ((World.cell?_alloc_lt _ _ _ (by simp <;> omega)).trans e1)
    have n2 : w3.cell? ⟨w.heap.size + 1, 2, none⟩ = some x2 := (hb3.cell (by simp <;> omega)).trans ((World.cell?_alloc_lt _ _ _ (by simp <;> omega)).trans e2)
    have p0 : w3.frozen? ⟨w.heap.size + 1, 0, none⟩ = false := (hb3.frozen (by simp <;> omega)).trans ((World.frozen?_alloc_old _ _ _ (by simp <;> omega)).trans f0)
    have p1 : w3.frozen? ⟨w.heap.size + 1, 1, none⟩ = false := (hb3.frozen (by simp <;> omega)).trans ((World.frozen?_alloc_old _ _ _ (by simp <;> omega)).trans f1)
    have p2 : w3.frozen? ⟨w.heap.size + 1, 2, none⟩ = false := (hb3.frozen (by simp <;> omega)).trans ((World.frozen?_alloc_old _ _ _ (by simp <;> omega)).trans f2)
    have q0 : (w.heap.size + 1 = w2.heap.size) = False := by simp; omega
    have q1 : (w2.heap.size = w.heap.size + 1) = False := by simp; omega
    have HS3 : Hid (_) := hS3
    clear e0 e1 e2 f0 f1 f2 c1 hb3 hSv hS3 hs3 hb2a
    go_wp2
    obtain ⟨W3, hW3⟩ : ∃ W3, W3 = w3.setCell ⟨w2.heap.size, 1, none⟩ (.bool u') := ⟨_, rfl⟩
    rw [← hW3]
    have r0 : W3.cell? ⟨w2.heap.size, 0, none⟩ = some (.slice (some ⟨g, off + (L.length - 9), none⟩) (L.length + 1 - (L.length - 9)) (cap2 - (L.length - 9))) := by rw [hW3, World.cell?_setCell_other _ _ _ _ (by simp)]; exact k0
    have r1 : W3.cell? ⟨w2.heap.size, 1, none⟩ = some (.bool u') := by rw [hW3]; exact World.cell?_setCell_same _ _ _ k1
    have r2 : W3.cell? ⟨w2.heap.size, 2, none⟩ = some (.slice none 0 0) := by rw [hW3, World.cell?_setCell_other _ _ _ _ (by simp)]; exact k2
    have s0 : W3.cell? ⟨w.heap.size + 1, 0, none⟩ = some x0 := by rw [hW3, World.cell?_setCell_other _ _ _ _ (by simp <;> omega)]; exact n0
    have s1 : W3.cell? ⟨w.heap.size + 1, 1, none⟩ = some x1 := by rw [hW3, World.cell?_setCell_other _ _ _ _ (by simp <;> omega)]; exact n1
    have s2 : W3.cell? ⟨w.heap.size + 1, 2, none⟩ = some x2 := by rw [hW3, World.cell?_setCell_other _ _ _ _ (by simp <;> omega)]; exact n2
    have t0 : W3.frozen? ⟨w.heap.size + 1, 0, none⟩ = false := by rw [hW3, World.frozen?_setCell]; exact p0
    have t1 : W3.frozen? ⟨w.heap.size + 1, 1, none⟩ = false := by rw [hW3, World.frozen?_setCell]; exact p1
    have t2 : W3.frozen? ⟨w.heap.size + 1, 2, none⟩ = false := by rw [hW3, World.frozen?_setCell]; exact p2
    have hbW3 : Below w.heap.size w W3 := by rw [hW3]; exact hb3w.setCell (by simp <;> omega) _
    have HW : Hid (W3 = w3.setCell ⟨w2.heap.size, 1, none⟩ (.bool u')) := hW3
    clear hW3 k0 k1 k2 m0 m1 n0 n1 n2 p0 p1 p2 q0 q1
    go_region
    go_wp2
    refine bodyPost_ret (v := .tuple #[.string h', .agg #[.slice (some ⟨g, off + (L.length - 9), none⟩) (L.length + 1 - (L.length - 9)) (cap2 - (L.length - 9)), .bool u', .slice none 0 0]]) (by simp [results, Trym.results22, go_sem, s0, s1, s2]) rfl ⟨.slice (some ⟨g, off + (L.length - 9), none⟩) (L.length + 1 - (L.length - 9)) (cap2 - (L.length - 9)), h', u', rfl, ?_, hh', ?_⟩
    · refine Sl.drew (Sl.set (Sl.set (Sl.set ?_ _ _ (by simp <;> omega)) _ _ (by simp <;> omega)) _ _ (by simp <;> omega))
      rw [HW.out]
      exact Sl.set HS3.out _ _ (by simp <;> omega)
    · exact (((hbW3.setCell (by simp) _).setCell (by simp) _).setCell (by simp) _).drew

end Go.Proofs.Qxb6604216aMods
