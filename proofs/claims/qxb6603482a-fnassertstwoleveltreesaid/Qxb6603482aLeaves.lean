import Derived.Test.Qxb6603482aRows
import Derived.WalkKit
import Derived.WalkSpells
import Derived.WalkLawsBesides
namespace Go.Proofs.Qxb6603482a
open Go.RowKit

/-- The closed form of the six assertion operators, by number. -/
def isA (n : Int) : Bool := decide (7 ≤ n) && decide (n ≤ 12)

theorem ret_bool {a b : Bool} (h : a = b) : Ending.returned (.bool a) = .returned (.bool b) := by rw [h]

theorem isA_yes {n : Int} (h : 7 ≤ n) (h' : n ≤ 12) : isA n = true := by unfold isA; simp; omega
theorem isA_lo {n : Int} (h : n < 7) : isA n = false := by unfold isA; simp; omega
theorem isA_hi {n : Int} (h : 12 < n) : isA n = false := by unfold isA; simp; omega

set_option maxHeartbeats 400000 in
theorem c7 (n : Int) (w : World) : Calls Try.prog 7 #[.int .u8 n] w fun e w' => e = .returned (.bool (isA n)) ∧ w' = w := by
  by_cases h7 : 7 ≤ n
  · by_cases h12 : n ≤ 12
    · rw [isA_yes h7 h12]
      go_enter Try.func7, Try.ntmps7
      go_wp2
      go_ret
      exact ⟨rfl, rfl⟩
    · rw [isA_hi (by omega)]
      go_enter Try.func7, Try.ntmps7
      go_wp2
      go_ret
      exact ⟨rfl, rfl⟩
  · rw [isA_lo (by omega)]
    go_enter Try.func7, Try.ntmps7
    go_wp2
    go_ret
    exact ⟨rfl, rfl⟩

set_option maxHeartbeats 400000 in
theorem c15 (n : Int) (w : World) : Calls Try.prog 15 #[.int .u8 n] w fun e w' => e = .returned (.bool (isA n)) ∧ w' = w := by
  by_cases h7 : 7 ≤ n
  · by_cases h12 : n ≤ 12
    · rw [isA_yes h7 h12]
      rcases (show n = 7 ∨ n = 8 ∨ n = 9 ∨ n = 10 ∨ n = 11 ∨ n = 12 by omega) with h | h | h | h | h | h
      all_goals
        subst h
        go_enter Try.func15, Try.ntmps15
        go_wp2
        go_ret
        exact ⟨rfl, rfl⟩
    · rw [isA_hi (by omega)]
      go_enter Try.func15, Try.ntmps15
      go_wp2
      go_ret
      exact ⟨rfl, rfl⟩
  · rw [isA_lo (by omega)]
    go_enter Try.func15, Try.ntmps15
    go_wp2
    go_ret
    exact ⟨rfl, rfl⟩

set_option maxHeartbeats 400000 in
theorem c6 (n : Int) (w : World) : Calls Try.prog 6 #[.int .u8 n] w fun e w' => e = .returned (.bool (isA n)) ∧ w' = w := by
  go_enter Try.func6, Try.ntmps6
  go_wp2_with (go_at_call 15; refine (c15 _ _).mono ?_; rintro e w' ⟨rfl, rfl⟩)
  go_ret
  exact ⟨rfl, rfl⟩

/-- A new node: its operator, nothing else. -/
def nodeCells (n : Int) : Array Value :=
  #[.int .u8 n, .int .u16 0, .slice none 0 0, .pointer none, .slice none 0 0, .int .i32 0, .int .i32 0, .int .i64 0, .int .i64 0, .int .i64 0, .string { data := #[] }]

set_option maxHeartbeats 400000 in
theorem c8 (n : Int) (w : World) : Calls Try.prog 8 #[.int .u8 n] w fun e w' => e = .returned (.pointer (some ⟨w.heap.size, 0, none⟩)) ∧ w' = w.alloc (.cells (nodeCells n) 45) := by
  go_enter Try.func8, Try.ntmps8
  go_wp2
  go_ret
  exact ⟨rfl, rfl⟩

/-- A function that returns an index, or -1: what ContainsFunc makes of it. -/
theorem any_take_succ (rs : List Bool) (k : Nat) (h : k < rs.length) : (rs.take (k + 1)).any id = ((rs.take k).any id || rs.getD k false) := by
  rw [List.take_succ_eq_append_getElem h, List.any_append]
  simp [List.getD, h]

theorem any_of_get (rs : List Bool) (k : Nat) (h : k < rs.length) (hk : rs.getD k false = true) : rs.any id = true := by
  rw [List.any_eq_true]
  refine ⟨rs[k], List.getElem_mem h, ?_⟩
  simpa [List.getD, h] using hk

set_option maxHeartbeats 400000 in
theorem c18 (w : World) (a : Option Addr) (len cap : Nat) (ks : List Nat) (rs : List Bool) (hm : len ≤ maxLen) (hl : rs.length = len)
    (hc : ∀ j, j < len → ∃ g, a = some ⟨g, 0, none⟩ ∧ w.cell? ⟨g, j, none⟩ = some (.pointer (some ⟨ks.getD j 0, 0, none⟩)))
    (ih : ∀ j, j < len → Calls Try.prog 16 #[.pointer (some ⟨ks.getD j 0, 0, none⟩)] w fun e w' => e = .returned (.bool (rs.getD j false)) ∧ w' = w) :
    Calls Try.prog 18 #[.slice a len cap, .func (.func 16) #[] #[]] w fun e w' => ∃ n : Int, e = .returned (.int .i64 n) ∧ decide (0 ≤ n) = rs.any id ∧ w' = w := by
  unfold maxLen at hm
  have HL : Hid (rs.length = len) := hl
  clear hl
  have IH := ih
  clear ih
  go_enter Try.func18, Try.ntmps18
  go_wp2_with fail
  go_loop [8, 5] (fun c _ => ∃ k : Nat, k ≤ len ∧ c = .int .i64 k ∧ (rs.take k).any id = false) (fun c _ => len - (intOf c).toNat)
  case atStart => exact ⟨0, Nat.zero_le _, rfl, by simp⟩
  case round =>
    obtain ⟨k, hk, rfl, hno⟩ := hrel
    by_cases hlt : k < len
    · obtain ⟨g, rfl, hcell⟩ := hc k hlt
      have hih := IH k hlt
      have HN : Hid ((rs.take k).any id = false) := hno
      clear hno
      cases hb : rs.getD k false
      · rw [hb] at hih
        go_wp2_with (go_at_call 16; refine hih.mono ?_; rintro e w' ⟨rfl, rfl⟩)
        go_round
        case rel => exact ⟨k + 1, by omega, by go_num, by rw [any_take_succ rs k (by rw [HL.out]; exact hlt), HN.out, hb]; rfl⟩
        case measure => simp [intOf]; omega
      · rw [hb] at hih
        go_wp2_with (go_at_call 16; refine hih.mono ?_; rintro e w' ⟨rfl, rfl⟩)
        go_ret
        exact ⟨k, rfl, by rw [any_of_get rs k (by rw [HL.out]; exact hlt) hb]; simp, rfl⟩
    · have HN : Hid ((rs.take k).any id = false) := hno
      clear hno
      go_wp2_with fail
      go_ret
      refine ⟨-1, rfl, ?_, rfl⟩
      have h1 := HN.out
      rw [List.take_of_length_le (by rw [HL.out]; omega)] at h1
      rw [h1]
      rfl

set_option maxHeartbeats 400000 in
theorem c17 (w : World) (a : Option Addr) (len cap : Nat) (ks : List Nat) (rs : List Bool) (hm : len ≤ maxLen) (hl : rs.length = len)
    (hc : ∀ j, j < len → ∃ g, a = some ⟨g, 0, none⟩ ∧ w.cell? ⟨g, j, none⟩ = some (.pointer (some ⟨ks.getD j 0, 0, none⟩)))
    (ih : ∀ j, j < len → Calls Try.prog 16 #[.pointer (some ⟨ks.getD j 0, 0, none⟩)] w fun e w' => e = .returned (.bool (rs.getD j false)) ∧ w' = w) :
    Calls Try.prog 17 #[.slice a len cap, .func (.func 16) #[] #[]] w fun e w' => e = .returned (.bool (rs.any id)) ∧ w' = w := by
  have h18 := c18 w a len cap ks rs hm hl hc ih
  clear hc ih hl hm
  go_enter Try.func17, Try.ntmps17
  go_wp2_with (go_at_call 18; refine h18.mono ?_; rintro e w' ⟨n, rfl, hn, rfl⟩)
  go_ret
  exact ⟨by simp [*], rfl⟩

end Go.Proofs.Qxb6603482a
