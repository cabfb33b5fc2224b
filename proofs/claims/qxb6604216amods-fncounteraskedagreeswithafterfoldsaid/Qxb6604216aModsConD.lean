import Derived.Test.Qxb6604216aModsConC
namespace Go.Proofs.Qxb6604216aMods
open Go.RowKit Go.Maps Go.WideMaps

theorem SRaw.cellAt {w : World} {a : Option Addr} {L : List ByteArray} (h : Hid (SRaw w a L)) {k : Nat} (hk : k < L.length) (hs : ∀ s ∈ L, s.size ≤ maxLen) :
    ∃ b off s, a = some ⟨b, off, none⟩ ∧ w.cell? ⟨b, off + k, none⟩ = some (.string s) ∧ s.size ≤ 9223372036854775807 := by
  obtain ⟨b, off, h1, h2⟩ := h.out.2 (by omega)
  refine ⟨b, off, _, h1, h2 k hk, ?_⟩
  have := hs (L.getD k ByteArray.empty) (by rw [List.getD_eq_getElem?_getD, List.getElem?_eq_getElem hk]; exact List.getElem_mem hk)
  unfold maxLen at this
  exact this

/-- The ending of a function that answers some number up to 2^20 + 1; where it is no more than 2^20, p holds. -/
def RetNum (p : Prop) (e : Ending) : Prop := ∃ r : Int, e = .returned (.int .i64 r) ∧ 0 ≤ r ∧ r ≤ 1048577 ∧ (r ≤ 1048576 → p)

/-- The ending of a function that answers some bool. -/
def RetBool (e : Ending) : Prop := ∃ x : Bool, e = .returned (.bool x)

theorem ret_int {k : IntKind} {a b : Int} (h : a = b) : Ending.returned (.int k a) = .returned (.int k b) := by rw [h]

set_option maxHeartbeats 1000000 in
/-- zzStringsBytesB1: some number up to 2^20 + 1; where it is no more than 2^20 the slice is short. -/
theorem sbytes7 (a : Option Addr) (cap : Nat) (L : List ByteArray) (w : World) (hn : L.length ≤ 9223372036854775807) (hs : ∀ s ∈ L, s.size ≤ maxLen) (h : SRaw w a L) :
    Calls Trym.prog 7 #[.slice a L.length cap] w fun e w' => w = w' ∧ RetNum (L.length ≤ 65536) e := by
  have H : Hid (SRaw w a L) := h
  clear h
  by_cases hl : L.length ≤ 65536
  · go_enter Trym.func7, Trym.ntmps7
    go_wp2
    go_loop [3, 4] (fun vn vi => ∃ (k : Nat) (r : Int), k ≤ L.length ∧ vi = .int .i64 k ∧ vn = .int .i64 r ∧ 0 ≤ r ∧ r ≤ 1048576) (fun _ vi => L.length - (intOf vi).toNat)
    case atStart => exact ⟨0, _, Nat.zero_le _, rfl, rfl, by omega, by omega⟩
    case round =>
      obtain ⟨k, r, hk, rfl, rfl, hr0, hr1⟩ := hrel
      by_cases hlt : k < L.length
      · obtain ⟨b, off, s, rfl, hcx, hsz⟩ := SRaw.cellAt H hlt hs
        by_cases ht : 1048576 - r < (s.size : Int)
        · go_wp2
          go_ret
          exact ⟨rfl, _, rfl, by omega, by omega, fun _ => by first | exact hl | trivial⟩
        · go_wp2
          go_round
          case rel => exact ⟨k + 1, _, by omega, by go_num, rfl, by omega, by omega⟩
          case measure => simp [intOf]; omega
      · go_wp2
        go_ret
        exact ⟨rfl, _, rfl, by omega, by omega, fun _ => by first | exact hl | trivial⟩
  · go_enter Trym.func7, Trym.ntmps7
    go_wp2
    go_ret
    exact ⟨rfl, _, rfl, by omega, by omega, fun h => by omega⟩

set_option maxHeartbeats 400000 in
theorem ibytes8 (a : Option Addr) (n cap : Nat) (w : World) (hn : n ≤ 9223372036854775807) :
    Calls Trym.prog 8 #[.slice a n cap] w fun e w' => w = w' ∧ RetNum (n ≤ 131072) e := by
  by_cases hl : n ≤ 131072
  · go_enter Trym.func8, Trym.ntmps8
    go_wp2
    go_ret
    exact ⟨rfl, _, rfl, by omega, by omega, fun _ => by first | exact hl | trivial⟩
  · go_enter Trym.func8, Trym.ntmps8
    go_wp2
    go_ret
    exact ⟨rfl, _, rfl, by omega, by omega, fun h => by omega⟩

set_option maxHeartbeats 400000 in
theorem cap9 (n : Nat) (w : World) (_hn : n ≤ 9223372036854775807) :
    Calls Trym.prog 9 #[.int .i64 n] w fun e w' => w = w' ∧ RetNum True e := by
  by_cases hl : n ≤ 1048576
  · go_enter Trym.func9, Trym.ntmps9
    go_wp2
    go_ret
    exact ⟨rfl, _, rfl, by omega, by omega, fun _ => trivial⟩
  · go_enter Trym.func9, Trym.ntmps9
    go_wp2
    go_ret
    exact ⟨rfl, _, rfl, by omega, by omega, fun _ => trivial⟩

set_option maxHeartbeats 400000 in
theorem min20 (a b : Nat) (w : World) :
    Calls Trym.prog 20 #[.int .i64 a, .int .i64 b] w fun e w' => w = w' ∧ e = .returned (.int .i64 (min a b : Nat)) := by
  by_cases hl : a < b
  · go_enter Trym.func20, Trym.ntmps20
    go_wp2
    go_ret
    exact ⟨rfl, ret_int (by omega)⟩
  · go_enter Trym.func20, Trym.ntmps20
    go_wp2
    go_ret
    exact ⟨rfl, ret_int (by omega)⟩

set_option maxHeartbeats 2000000 in
/-- zzBytes: some answer; nothing turns. -/
theorem bytes18 (a1 a2 a3 : Option Addr) (n2 c1 c2 c3 : Nat) (L1 L3 : List ByteArray) (unsure : Bool) (home : ByteArray) (w : World)
    (hn1 : L1.length ≤ 9223372036854775807) (hn2 : n2 ≤ 9223372036854775807) (hn3 : L3.length ≤ 9223372036854775807) (hh : home.size ≤ 9223372036854775807)
    (hs1 : ∀ s ∈ L1, s.size ≤ maxLen) (hs3 : ∀ s ∈ L3, s.size ≤ maxLen) (h1 : SRaw w a1 L1) (h3 : SRaw w a3 L3) :
    Calls Trym.prog 18 #[.slice a1 L1.length c1, .slice a2 n2 c2, .slice a3 L3.length c3, .bool unsure, .string home] w fun e w' => w = w' ∧ RetBool e := by
  have H1 : Hid (SRaw w a1 L1) := h1
  have H3 : Hid (SRaw w a3 L3) := h3
  clear h1 h3
  by_cases hl1 : L1.length ≤ 1048576
  · go_enter Trym.func18, Trym.ntmps18
    go_wp2
    go_loop [11, 12] (fun vn vi => ∃ (k : Nat) (r : Int), k ≤ L1.length ∧ vi = .int .i64 k ∧ vn = .int .i64 r ∧ 0 ≤ r ∧ r ≤ 1048576) (fun _ vi => L1.length - (intOf vi).toNat)
    case atStart => exact ⟨0, _, Nat.zero_le _, rfl, rfl, by omega, by omega⟩
    case round =>
      obtain ⟨k, r, hk, rfl, rfl, hr0, hr1⟩ := hrel
      by_cases hlt : k < L1.length
      · obtain ⟨b, off, s, rfl, hcx, hsz⟩ := SRaw.cellAt H1 hlt hs1
        go_wp2
        all_goals first
          | (go_round
             case rel => exact ⟨k + 1, _, by omega, by go_num, rfl, by omega, by omega⟩
             case measure => simp [intOf]; omega)
          | (go_ret
             exact ⟨rfl, _, rfl⟩)
      · go_wp2
        all_goals try (go_ret; exact ⟨rfl, _, rfl⟩)
        go_loop [11, 13] (fun vn vi => ∃ (k : Nat) (r : Int), k ≤ L3.length ∧ vi = .int .i64 k ∧ vn = .int .i64 r ∧ 0 ≤ r ∧ r ≤ 1048576) (fun _ vi => L3.length - (intOf vi).toNat)
        case atStart => exact ⟨0, _, Nat.zero_le _, rfl, rfl, by omega, by omega⟩
        case round =>
          clear hr0 hr1 hk hlt
          obtain ⟨k, r, hk, rfl, rfl, hr0, hr1⟩ := hrel
          by_cases hlt : k < L3.length
          · obtain ⟨b, off, s, rfl, hcx, hsz⟩ := SRaw.cellAt H3 hlt hs3
            go_wp2
            all_goals first
              | (go_round
                 case rel => exact ⟨k + 1, _, by omega, by go_num, rfl, by omega, by omega⟩
                 case measure => simp [intOf]; omega)
              | (go_ret
                 exact ⟨rfl, _, rfl⟩)
          · go_wp2
            all_goals
              go_ret
              exact ⟨rfl, _, rfl⟩
  · go_enter Trym.func18, Trym.ntmps18
    go_wp2
    go_ret
    exact ⟨rfl, _, rfl⟩

end Go.Proofs.Qxb6604216aMods
