import Derived.Test.Qxb6002787aRows
import Derived.WalkKit
import Derived.WalkSpells
import Derived.WalkLawsBesides
namespace Go.Proofs.Qxb6002787a
open Go.RowKit

/-- One hexadecimal digit. -/
def hexVal (c : Int) : Option Int :=
  if 48 ≤ c ∧ c ≤ 57 then some (c - 48) else if 97 ≤ c ∧ c ≤ 102 then some (c - 87) else if 65 ≤ c ∧ c ≤ 70 then some (c - 55) else none

/-- The first k digits of z read as a number. -/
def hexPre (z : Nat → Int) : Nat → Option Int
  | 0 => some 0
  | k + 1 => (hexPre z k).bind fun u => (hexVal (z k)).map fun d => u * 16 + d

theorem hexVal_num {c : Int} (h : 48 ≤ c) (h' : c ≤ 57) : hexVal c = some (c - 48) := by unfold hexVal; rw [if_pos ⟨h, h'⟩]
theorem hexVal_low {c : Int} (h : 97 ≤ c) (h' : c ≤ 102) : hexVal c = some (c - 87) := by unfold hexVal; rw [if_neg (by omega), if_pos ⟨h, h'⟩]
theorem hexVal_up {c : Int} (h : 65 ≤ c) (h' : c ≤ 70) : hexVal c = some (c - 55) := by unfold hexVal; rw [if_neg (by omega), if_neg (by omega), if_pos ⟨h, h'⟩]
theorem hexVal_no {c : Int} (h : ¬ (48 ≤ c ∧ c ≤ 57)) (h' : ¬ (97 ≤ c ∧ c ≤ 102)) (h'' : ¬ (65 ≤ c ∧ c ≤ 70)) : hexVal c = none := by unfold hexVal; rw [if_neg h, if_neg h', if_neg h'']
theorem hexVal_bd {c d : Int} (h : hexVal c = some d) : 0 ≤ d ∧ d < 16 := by
  unfold hexVal at h
  split at h
  · simp at h; omega
  · split at h
    · simp at h; omega
    · split at h
      · simp at h; omega
      · cases h

theorem hexPre_succ {z : Nat → Int} {k : Nat} {u d : Int} (h : hexPre z k = some u) (h' : hexVal (z k) = some d) : hexPre z (k + 1) = some (u * 16 + d) := by simp [hexPre, h, h']
theorem hexPre_stop {z : Nat → Int} {k : Nat} (h : hexVal (z k) = none) : hexPre z (k + 1) = none := by simp [hexPre, h]
theorem hexPre_none {z : Nat → Int} {k : Nat} (h : hexPre z k = none) : ∀ j, hexPre z (k + j) = none := by
  intro j
  induction j with
  | zero => exact h
  | succ j ih => rw [← Nat.add_assoc]; simp [hexPre, ih]

theorem i32_or4 (U d : Int) (h0 : 0 ≤ U) (h1 : U < 4096) (h2 : 0 ≤ d) (h3 : d < 16) : bits .or .i32 (U * 16) d = U * 16 + d :=
  bits_join .i32 31 (by decide) wraps_i32 4 (U * 16) d (by omega) (by omega) (by omega) h2 h3 (by omega)

theorem pow_bd {U : Int} {k : Nat} (h : U < 16 ^ k) (hk : k < 4) : U < 4096 := by
  have : k = 0 ∨ k = 1 ∨ k = 2 ∨ k = 3 := by omega
  rcases this with h' | h' | h' | h' <;> subst h' <;> simp at h <;> omega
theorem pow_step {U d : Int} {k : Nat} (h : U < 16 ^ k) (hd : d < 16) : U * 16 + d < 16 ^ (k + 1) := by
  rw [Int.pow_succ]; omega

/-- What hex4 hands back. -/
def hexRes (z : Nat → Int) : Ending := .returned (.tuple #[.int .i32 ((hexPre z 4).getD 0), .bool (hexPre z 4).isSome])

theorem hexRes_some {z : Nat → Int} {u : Int} (h : hexPre z 4 = some u) : hexRes z = .returned (.tuple #[.int .i32 u, .bool true]) := by simp [hexRes, h]
theorem hexRes_none {z : Nat → Int} (h : hexPre z 4 = none) : hexRes z = .returned (.tuple #[.int .i32 0, .bool false]) := by simp [hexRes, h]

set_option maxHeartbeats 400000 in
theorem c24_row (w : World) (b off len cap : Nat) (z : Nat → Int) (hl : 4 ≤ len) (hm : len ≤ cap) (hc : ∀ i, i < 4 → w.cell? ⟨b, off + i, none⟩ = some (.int .u8 (z i))) :
    Calls Try.prog 24 #[.slice (some ⟨b, off, none⟩) len cap] w fun e w' => e = hexRes z ∧ w' = w := by
  go_enter Try.func24, Try.ntmps24
  go_wp2_with fail
  go_loop [4, 13] (fun u i => ∃ (k : Nat) (U : Int), k ≤ 4 ∧ i = .int .i64 k ∧ u = .int .i32 U ∧ 0 ≤ U ∧ U < 16 ^ k ∧ hexPre z k = some U) (fun _ i => 4 - (intOf i).toNat)
  case atStart => exact ⟨0, 0, Nat.zero_le _, rfl, rfl, by omega, by simp, rfl⟩
  case round =>
    obtain ⟨k, U, hk, rfl, rfl, hU0, hU1, hpre⟩ := hrel
    have HP : Hid (hexPre z k = some U) := hpre
    clear hpre
    have HU : Hid (U < 16 ^ k) := hU1
    clear hU1
    by_cases hlt : k < 4
    · have hcell := hc k hlt
      have hU2 : U < 4096 := pow_bd HU.out hlt
      obtain ⟨c, hzc⟩ : ∃ c, z k = c := ⟨_, rfl⟩
      rw [hzc] at hcell
      have HC : Hid (z k = c) := hzc
      clear hzc hc
      by_cases h0 : 48 ≤ c ∧ c ≤ 57
      · obtain ⟨h0, h1⟩ := h0
        have hv : Hid (hexVal c = some (c - 48)) := hexVal_num h0 h1
        go_wp2_with fail
        go_round
        case rel => exact ⟨k + 1, U * 16 + (c - 48), by omega, by go_num, by rw [i32_or4 U (c - 48) hU0 hU2 (by omega) (by omega)], by omega, pow_step HU.out (by omega), hexPre_succ HP.out (by rw [HC.out]; exact hv.out)⟩
        case measure => simp [intOf]; omega
      by_cases h2 : 97 ≤ c ∧ c ≤ 102
      · obtain ⟨h2, h3⟩ := h2
        clear h0
        have hv : Hid (hexVal c = some (c - 87)) := hexVal_low h2 h3
        go_wp2_with fail
        go_round
        case rel => exact ⟨k + 1, U * 16 + (c - 87), by omega, by go_num, by rw [i32_or4 U (c - 87) hU0 hU2 (by omega) (by omega)], by omega, pow_step HU.out (by omega), hexPre_succ HP.out (by rw [HC.out]; exact hv.out)⟩
        case measure => simp [intOf]; omega
      by_cases h4 : 65 ≤ c ∧ c ≤ 70
      · obtain ⟨h4, h5⟩ := h4
        clear h0 h2
        have hv : Hid (hexVal c = some (c - 55)) := hexVal_up h4 h5
        go_wp2_with fail
        go_round
        case rel => exact ⟨k + 1, U * 16 + (c - 55), by omega, by go_num, by rw [i32_or4 U (c - 55) hU0 hU2 (by omega) (by omega)], by omega, pow_step HU.out (by omega), hexPre_succ HP.out (by rw [HC.out]; exact hv.out)⟩
        case measure => simp [intOf]; omega
      have hv : hexVal (z k) = none := by rw [HC.out]; exact hexVal_no h0 h2 h4
      have hr : Hid (hexRes z = .returned (.tuple #[.int .i32 0, .bool false])) := hexRes_none (by
        have := hexPre_none (hexPre_stop hv) (3 - k)
        rwa [show k + 1 + (3 - k) = 4 by omega] at this)
      clear hv
      rcases (show c < 48 ∨ (58 ≤ c ∧ c < 65) ∨ (71 ≤ c ∧ c < 97) ∨ 103 ≤ c by omega) with h6 | ⟨h6, h7⟩ | ⟨h6, h7⟩ | h6
      all_goals
        clear h0 h2 h4
        go_wp2_with fail
        go_ret2
        exact ⟨hr.out.symm, rfl⟩
    · obtain rfl : k = 4 := by omega
      have hr : Hid (hexRes z = .returned (.tuple #[.int .i32 U, .bool true])) := hexRes_some HP.out
      clear hc
      go_wp2_with fail
      go_ret2
      exact ⟨hr.out.symm, rfl⟩

set_option maxHeartbeats 400000 in
theorem c24_short (w : World) (a : Option Addr) (len cap : Nat) (hl : len < 4) :
    Calls Try.prog 24 #[.slice a len cap] w fun e w' => e = .returned (.tuple #[.int .i32 0, .bool false]) ∧ w' = w := by
  go_enter Try.func24, Try.ntmps24
  go_wp2_with fail
  go_ret2
  exact ⟨rfl, rfl⟩

/-- What hex4 hands back of a slice of whatever length. -/
def hexOf (len : Nat) (z : Nat → Int) : Option Int := if len < 4 then none else hexPre z 4

theorem c24 (w : World) (a : Option Addr) (len cap : Nat) (z : Nat → Int) (hm : len ≤ cap) (hc : 4 ≤ len → ∃ b off, a = some ⟨b, off, none⟩ ∧ ∀ i, i < 4 → w.cell? ⟨b, off + i, none⟩ = some (.int .u8 (z i))) :
    Calls Try.prog 24 #[.slice a len cap] w fun e w' => e = .returned (.tuple #[.int .i32 ((hexOf len z).getD 0), .bool (hexOf len z).isSome]) ∧ w' = w := by
  by_cases h : len < 4
  · have e : hexOf len z = none := by unfold hexOf; rw [if_pos h]
    rw [e]
    exact c24_short w a len cap h
  · have e : hexOf len z = hexPre z 4 := by unfold hexOf; rw [if_neg h]
    rw [e]
    obtain ⟨b, off, rfl, hcell⟩ := hc (by omega)
    exact c24_row w b off len cap z (by omega) hm hcell

set_option maxHeartbeats 400000 in
theorem c15 (w : World) (a : Option Addr) (len cap : Nat) (z : Nat → Int) (hm : len ≤ cap) (hc : 4 ≤ len → ∃ b off, a = some ⟨b, off, none⟩ ∧ ∀ i, i < 4 → w.cell? ⟨b, off + i, none⟩ = some (.int .u8 (z i))) :
    Calls Try.prog 15 #[.slice a len cap] w fun e w' => e = .returned (.tuple #[.int .i32 ((hexOf len z).getD 0), .bool (hexOf len z).isSome]) ∧ w' = w := by
  have h24 := c24 w a len cap z hm hc
  clear hc hm
  generalize (hexOf len z).getD 0 = n at *
  generalize (hexOf len z).isSome = q at *
  go_enter Try.func15, Try.ntmps15
  go_wp2_with (go_at_call 24; refine h24.mono ?_; rintro e w' ⟨rfl, rfl⟩)
  go_ret2
  exact ⟨rfl, rfl⟩

end Go.Proofs.Qxb6002787a
