import Derived.Test.Qxb6002787aCopy
namespace Go.Proofs.Qxb6002787a
open Go.RowKit

/-- The table of hexIndex. -/
def tab (d : Int) : Int := if d < 10 then 48 + d else 87 + d
/-- A capital letter is made small. -/
def low (c : Int) : Int := if 65 ≤ c ∧ c ≤ 90 then c + 32 else c

theorem tab_at (k : Nat) (h1 : k < 16) : ∀ h, ((({ data := #[48, 49, 50, 51, 52, 53, 54, 55, 56, 57, 97, 98, 99, 100, 101, 102] } : ByteArray)[k]'h).toNat : Int) = tab k := by
  intro h
  match k, h1 with
  | 0, _ => rfl
  | 1, _ => rfl
  | 2, _ => rfl
  | 3, _ => rfl
  | 4, _ => rfl
  | 5, _ => rfl
  | 6, _ => rfl
  | 7, _ => rfl
  | 8, _ => rfl
  | 9, _ => rfl
  | 10, _ => rfl
  | 11, _ => rfl
  | 12, _ => rfl
  | 13, _ => rfl
  | 14, _ => rfl
  | 15, _ => rfl
  | n + 16, h => omega

theorem tab_hit (k : Nat) (h : k < 16) (c : Int) (he : tab k = low c) : hexVal c = some k := by
  unfold tab low at he
  by_cases hk : (k : Int) < 10
  · rw [if_pos hk] at he
    split at he
    · omega
    · rw [hexVal_num (by omega) (by omega)]; congr 1; omega
  · rw [if_neg hk] at he
    split at he
    · rw [hexVal_up (by omega) (by omega)]; congr 1; omega
    · rw [hexVal_low (by omega) (by omega)]; congr 1; omega

theorem tab_miss (c : Int) (h : ∀ k : Nat, k < 16 → tab k ≠ low c) : hexVal c = none := by
  cases hv : hexVal c with
  | none => rfl
  | some d =>
    exfalso
    have hb := hexVal_bd hv
    obtain ⟨k, rfl⟩ := Int.eq_ofNat_of_zero_le hb.1
    refine h k (by omega) ?_
    unfold hexVal at hv
    unfold tab low
    split at hv
    · simp at hv; rw [if_pos (by omega), if_neg (by omega)]; omega
    · split at hv
      · simp at hv; rw [if_neg (by omega), if_neg (by omega)]; omega
      · split at hv
        · simp at hv; rw [if_neg (by omega), if_pos (by omega)]; omega
        · cases hv

/-- None of the first k entries of the table is x. -/
def NoTab (x : Int) (k : Nat) : Prop := ∀ i : Nat, i < k → tab i ≠ x
theorem NoTab.succ {x : Int} {k : Nat} (h : NoTab x k) (h' : tab k ≠ x) : NoTab x (k + 1) := by
  intro i hi
  by_cases e : i = k
  · rw [e]; exact h'
  · exact h i (by omega)

/-- What hexIndex hands back. -/
def hexIx (c : Int) : Int := (hexVal c).getD (-1)

set_option maxHeartbeats 800000 in
theorem c25 (c : Int) (w : World) (h0 : 0 ≤ c) (h1 : c ≤ 255) : Calls Try.prog 25 #[.int .u8 c] w fun e w' => e = .returned (.int .i64 (hexIx c)) ∧ w' = w := by
  have hit : Hid (∀ k : Nat, k < 16 → tab k = low c → hexIx c = k) := fun k hk he => by unfold hexIx; rw [tab_hit k hk c he]; rfl
  have miss : Hid ((∀ k : Nat, k < 16 → tab k ≠ low c) → hexIx c = -1) := fun h => by unfold hexIx; rw [tab_miss c h]; rfl
  obtain ⟨x, hx⟩ : ∃ x, x = low c := ⟨_, rfl⟩
  rw [← hx] at hit miss
  obtain ⟨y, hy⟩ : ∃ y, y = hexIx c := ⟨_, rfl⟩
  rw [← hy] at hit miss ⊢
  clear hy
  have core : (65 ≤ c ∧ c ≤ 90 ∧ x = c + 32) ∨ ((c < 65 ∨ 90 < c) ∧ x = c) := by
    rw [hx]; unfold low; split <;> omega
  clear hx
  have three : (65 ≤ c ∧ c ≤ 90 ∧ x = c + 32) ∨ (c < 65 ∧ x = c) ∨ (65 ≤ c ∧ 90 < c ∧ x = c) := by omega
  clear core
  rcases three with ⟨h2, h3, h4⟩ | ⟨h2, h4⟩ | ⟨h2, h3, h4⟩
  · subst h4
    go_enter Try.func25, Try.ntmps25
    go_wp2_with fail
    go_loop [3] (fun j => ∃ k : Nat, k ≤ 16 ∧ j = .int .i64 k ∧ NoTab (c + 32) k) (fun j => 16 - (intOf j).toNat)
    case atStart => exact ⟨0, Nat.zero_le _, rfl, fun i hi => by omega⟩
    case round =>
      obtain ⟨k, hk, rfl, hno⟩ := hrel
      by_cases hlt : k < 16
      · have ht := tab_at k hlt
        obtain ⟨T, hT⟩ : ∃ T, T = tab k := ⟨_, rfl⟩
        rw [← hT] at ht
        have HT : Hid (T = tab k) := hT
        clear hT
        by_cases heq : T = (c + 32)
        · have hy : Hid (y = k) := hit.out k hlt (by rw [← HT.out]; exact heq)
          have hbq : (T == (c + 32)) = true := by simp [heq]
          clear heq
          go_wp2_with fail
          go_ret
          exact ⟨by rw [hy.out]; rfl, rfl⟩
        · have hbq : (T == (c + 32)) = false := by simp [heq]
          have hn2 : NoTab (c + 32) (k + 1) := hno.succ (by rw [← HT.out]; exact heq)
          clear heq
          go_wp2_with fail
          go_round
          case rel => exact ⟨k + 1, by omega, by go_num, hn2⟩
          case measure => simp [intOf]; omega
      · obtain rfl : k = 16 := by omega
        have hy : Hid (y = -1) := miss.out hno
        go_wp2_with fail
        go_ret
        exact ⟨by rw [hy.out]; rfl, rfl⟩
  · subst h4
    go_enter Try.func25, Try.ntmps25
    go_wp2_with fail
    go_loop [3] (fun j => ∃ k : Nat, k ≤ 16 ∧ j = .int .i64 k ∧ NoTab x k) (fun j => 16 - (intOf j).toNat)
    case atStart => exact ⟨0, Nat.zero_le _, rfl, fun i hi => by omega⟩
    case round =>
      obtain ⟨k, hk, rfl, hno⟩ := hrel
      by_cases hlt : k < 16
      · have ht := tab_at k hlt
        obtain ⟨T, hT⟩ : ∃ T, T = tab k := ⟨_, rfl⟩
        rw [← hT] at ht
        have HT : Hid (T = tab k) := hT
        clear hT
        by_cases heq : T = x
        · have hy : Hid (y = k) := hit.out k hlt (by rw [← HT.out]; exact heq)
          have hbq : (T == x) = true := by simp [heq]
          clear heq
          go_wp2_with fail
          go_ret
          exact ⟨by rw [hy.out]; rfl, rfl⟩
        · have hbq : (T == x) = false := by simp [heq]
          have hn2 : NoTab x (k + 1) := hno.succ (by rw [← HT.out]; exact heq)
          clear heq
          go_wp2_with fail
          go_round
          case rel => exact ⟨k + 1, by omega, by go_num, hn2⟩
          case measure => simp [intOf]; omega
      · obtain rfl : k = 16 := by omega
        have hy : Hid (y = -1) := miss.out hno
        go_wp2_with fail
        go_ret
        exact ⟨by rw [hy.out]; rfl, rfl⟩
  · subst h4
    go_enter Try.func25, Try.ntmps25
    go_wp2_with fail
    go_loop [3] (fun j => ∃ k : Nat, k ≤ 16 ∧ j = .int .i64 k ∧ NoTab x k) (fun j => 16 - (intOf j).toNat)
    case atStart => exact ⟨0, Nat.zero_le _, rfl, fun i hi => by omega⟩
    case round =>
      obtain ⟨k, hk, rfl, hno⟩ := hrel
      by_cases hlt : k < 16
      · have ht := tab_at k hlt
        obtain ⟨T, hT⟩ : ∃ T, T = tab k := ⟨_, rfl⟩
        rw [← hT] at ht
        have HT : Hid (T = tab k) := hT
        clear hT
        by_cases heq : T = x
        · have hy : Hid (y = k) := hit.out k hlt (by rw [← HT.out]; exact heq)
          have hbq : (T == x) = true := by simp [heq]
          clear heq
          go_wp2_with fail
          go_ret
          exact ⟨by rw [hy.out]; rfl, rfl⟩
        · have hbq : (T == x) = false := by simp [heq]
          have hn2 : NoTab x (k + 1) := hno.succ (by rw [← HT.out]; exact heq)
          clear heq
          go_wp2_with fail
          go_round
          case rel => exact ⟨k + 1, by omega, by go_num, hn2⟩
          case measure => simp [intOf]; omega
      · obtain rfl : k = 16 := by omega
        have hy : Hid (y = -1) := miss.out hno
        go_wp2_with fail
        go_ret
        exact ⟨by rw [hy.out]; rfl, rfl⟩

set_option maxHeartbeats 800000 in
theorem c17_row (w : World) (b off len cap : Nat) (z : Nat → Int) (hl : 4 ≤ len) (hc : ∀ i, i < 4 → w.cell? ⟨b, off + i, none⟩ = some (.int .u8 (z i))) (hz : ∀ i, i < 4 → 0 ≤ z i ∧ z i ≤ 255) :
    Calls Try.prog 17 #[.slice (some ⟨b, off, none⟩) len cap] w fun e w' => e = hexRes z ∧ w' = w := by
  go_enter Try.func17, Try.ntmps17
  go_wp2_with fail
  go_loop [4, 5] (fun u i => ∃ (k : Nat) (U : Int), k ≤ 4 ∧ i = .int .i64 k ∧ u = .int .i32 U ∧ 0 ≤ U ∧ U < 16 ^ k ∧ hexPre z k = some U) (fun _ i => 4 - (intOf i).toNat)
  case atStart => exact ⟨0, 0, Nat.zero_le _, rfl, rfl, by omega, by simp, rfl⟩
  case round =>
    obtain ⟨k, U, hk, rfl, rfl, hU0, hU1, hpre⟩ := hrel
    have HP : Hid (hexPre z k = some U) := hpre
    clear hpre
    have HU : Hid (U < 16 ^ k) := hU1
    clear hU1
    by_cases hlt : k < 4
    · have hcell := hc k hlt
      obtain ⟨hc0, hc1⟩ := hz k hlt
      have hU2 : U < 4096 := pow_bd HU.out hlt
      obtain ⟨c, hzc⟩ : ∃ c, z k = c := ⟨_, rfl⟩
      rw [hzc] at hcell hc0 hc1
      have HC : Hid (z k = c) := hzc
      have h25 := c25 c w hc0 hc1
      clear hzc hc hz
      cases hv : hexVal c with
      | none =>
        have hr : Hid (hexRes z = .returned (.tuple #[.int .i32 0, .bool false])) := hexRes_none (by
          have := hexPre_none (hexPre_stop (show hexVal (z k) = none by rw [HC.out]; exact hv)) (3 - k)
          rwa [show k + 1 + (3 - k) = 4 by omega] at this)
        have he : hexIx c = -1 := by unfold hexIx; rw [hv]; rfl
        rw [he] at h25
        clear hv he
        go_wp2_with (go_at_call 25; refine h25.mono ?_; rintro e w' ⟨rfl, rfl⟩)
        go_ret2
        exact ⟨hr.out.symm, rfl⟩
      | some d =>
        obtain ⟨hd0, hd1⟩ := hexVal_bd hv
        have hp : Hid (hexPre z (k + 1) = some (U * 16 + d)) := hexPre_succ HP.out (by rw [HC.out]; exact hv)
        have he : hexIx c = d := by unfold hexIx; rw [hv]; rfl
        rw [he] at h25
        clear hv he
        go_wp2_with (go_at_call 25; refine h25.mono ?_; rintro e w' ⟨rfl, rfl⟩)
        go_round
        case rel => exact ⟨k + 1, U * 16 + d, by omega, by go_num, by go_num, by omega, pow_step HU.out hd1, hp.out⟩
        case measure => simp [intOf]; omega
    · obtain rfl : k = 4 := by omega
      have hr : Hid (hexRes z = .returned (.tuple #[.int .i32 U, .bool true])) := hexRes_some HP.out
      clear hc
      go_wp2_with fail
      go_ret2
      exact ⟨hr.out.symm, rfl⟩

set_option maxHeartbeats 400000 in
theorem c17_short (w : World) (a : Option Addr) (len cap : Nat) (hl : len < 4) :
    Calls Try.prog 17 #[.slice a len cap] w fun e w' => e = .returned (.tuple #[.int .i32 0, .bool false]) ∧ w' = w := by
  go_enter Try.func17, Try.ntmps17
  go_wp2_with fail
  go_ret2
  exact ⟨rfl, rfl⟩

theorem c17 (w : World) (a : Option Addr) (len cap : Nat) (z : Nat → Int) (hc : 4 ≤ len → ∃ b off, a = some ⟨b, off, none⟩ ∧ ∀ i, i < 4 → w.cell? ⟨b, off + i, none⟩ = some (.int .u8 (z i))) (hz : 4 ≤ len → ∀ i, i < 4 → 0 ≤ z i ∧ z i ≤ 255) :
    Calls Try.prog 17 #[.slice a len cap] w fun e w' => e = .returned (.tuple #[.int .i32 ((hexOf len z).getD 0), .bool (hexOf len z).isSome]) ∧ w' = w := by
  by_cases h : len < 4
  · have e : hexOf len z = none := by unfold hexOf; rw [if_pos h]
    rw [e]
    exact c17_short w a len cap h
  · have e : hexOf len z = hexPre z 4 := by unfold hexOf; rw [if_neg h]
    rw [e]
    obtain ⟨b, off, rfl, hcell⟩ := hc (by omega)
    exact c17_row w b off len cap z (by omega) hcell (hz (by omega))

set_option maxHeartbeats 400000 in
theorem c16_yes (a : Option Addr) (len cap : Nat) (w : World) (h : len ≤ 1048576) : Calls Try.prog 16 #[.slice a len cap] w fun e w' => e = .returned (.bool true) ∧ w' = w := by
  go_enter Try.func16, Try.ntmps16
  go_wp2
  go_ret
  exact ⟨rfl, rfl⟩

set_option maxHeartbeats 400000 in
theorem c16_no (a : Option Addr) (len cap : Nat) (w : World) (h : ¬ len ≤ 1048576) : Calls Try.prog 16 #[.slice a len cap] w fun e w' => e = .returned (.bool false) ∧ w' = w := by
  go_enter Try.func16, Try.ntmps16
  go_wp2
  go_ret
  exact ⟨rfl, rfl⟩

set_option maxHeartbeats 400000 in
theorem model_no (a : Option Addr) (len cap : Nat) (w : World) (h : ¬ len ≤ 1048576) : Calls Try.prog 6 #[.slice a len cap] w fun e w' => e = .returned (.bool true) ∧ Below w.heap.size w w' := by
  have h16 := c16_no a len cap w h
  go_enter Try.func6, Try.ntmps6
  go_wp2_with (go_at_call 16; refine h16.mono ?_; rintro e w' ⟨rfl, rfl⟩)
  go_ret
  exact ⟨rfl, Below.refl _ _⟩

set_option maxHeartbeats 400000 in
theorem model_long (a : Option Addr) (len cap : Nat) (w : World) (h : len ≤ 1048576) (h' : ¬ len ≤ 65536) : Calls Try.prog 6 #[.slice a len cap] w fun e w' => e = .returned (.bool true) ∧ Below w.heap.size w w' := by
  have h16 := c16_yes a len cap w h
  go_enter Try.func6, Try.ntmps6
  go_wp2_with (go_at_call 16; refine h16.mono ?_; rintro e w' ⟨rfl, rfl⟩)
  go_ret
  exact ⟨rfl, Below.refl _ _⟩

set_option maxHeartbeats 800000 in
theorem model_walk (a : Option Addr) (len cap : Nat) (zs : List Int) (w : World) (h : len ≤ 65536) (hr : IsRow .u8 w a len cap zs) (hzb : ∀ i, 0 ≤ zs.getD i 0 ∧ zs.getD i 0 ≤ 255) :
    Calls Try.prog 6 #[.slice a len cap] w fun e w' => e = .returned (.bool true) ∧ Below w.heap.size w w' := by
  have h16 := c16_yes a len cap w (by omega)
  have h10 := c10 w a len cap zs hr (by omega)
  clear hr
  go_enter Try.func6, Try.ntmps6
  go_wp2_with (go_at_call 16; refine h16.mono ?_; rintro e w' ⟨rfl, rfl⟩)
  clear h16
  refine h10.mono ?_
  rintro e w1 ⟨a', cap', rfl, hb1, hcp, hnone, hcap⟩
  have hcl : 4 ≤ len → ∃ b off, a' = some ⟨b, off, none⟩ ∧ ∀ i, i < 4 → w1.cell? ⟨b, off + i, none⟩ = some (.int .u8 (zs.getD i 0)) := by
    intro h4
    obtain ⟨g, hg, _, _, _⟩ := hcp 0 (by omega)
    refine ⟨g, 0, hg, fun i hi => ?_⟩
    obtain ⟨g', hg', _, _, hcell⟩ := hcp i (by omega)
    obtain rfl : g = g' := by rw [hg] at hg'; simpa using hg'
    rw [Nat.zero_add]
    exact hcell
  have h15 := c15 w1 a' len cap' (fun i => zs.getD i 0) hcap hcl
  have h17 := c17 w1 a' len cap' (fun i => zs.getD i 0) hcl (fun _ i _ => hzb i)
  clear h10 hcl hcp hnone hzb
  generalize (hexOf len fun i => zs.getD i 0).getD 0 = n at *
  generalize (hexOf len fun i => zs.getD i 0).isSome = q at *
  go_wp2_with (first | (go_at_call 15; refine h15.mono ?_; rintro e w' ⟨rfl, rfl⟩) | (go_at_call 17; refine h17.mono ?_; rintro e w' ⟨rfl, rfl⟩))
  go_ret
  exact ⟨rfl, hb1⟩

end Go.Proofs.Qxb6002787a
