import Derived.Test.Qxb6602859aZzWalk
namespace Go.Proofs.Qxb6602859a
open Go.RowKit Go.Maps

/-- It returned a bool. -/
def AnyBool (e : Ending) : Prop := ∃ r, e = .returned (.bool r)

set_option maxHeartbeats 1600000 in
theorem c24 (w : World) (nd : Value) (ca fa ta ka ra aa : Option Addr) (cl cc fl fc tl tc kl kc rl rc al ac : Nat) :
    Calls Try.prog 24 #[.slice ca cl cc, nd, .slice fa fl fc, .slice ta tl tc, .slice ka kl kc, .slice ra rl rc, .slice aa al ac] w fun e w' => AnyBool e ∧ w' = w := by
  go_enter Try.func24, Try.ntmps24
  go_wp2
  all_goals
    go_ret
    exact ⟨⟨_, rfl⟩, rfl⟩

theorem inL_hit {R : List Nat} {k : Nat} {x : Nat} (hk : k < R.length) (he : ((R.getD k 0 : Nat) : Int) = (x : Int)) : inL R (x : Int) = true := by
  rw [inL_iff]
  have e1 : R.getD k 0 = R[k] := by simp [List.getD, hk]
  have : R[k] = x := by rw [← e1]; omega
  rw [← this]
  simp
theorem inL_step {R : List Nat} {k : Nat} {x : Nat} (hk : k < R.length) (h : inL (R.take k) (x : Int) = false) (he : ((R.getD k 0 : Nat) : Int) ≠ (x : Int)) : inL (R.take (k + 1)) (x : Int) = false := by
  rw [take_snocN R k hk, ← inL_snoc]
  show (((x : Int) == ((R.getD k 0 : Nat) : Int)) || inL (R.take k) (x : Int)) = false
  rw [h, Bool.or_false]
  exact beq_eq_false_iff_ne.2 (fun q => he q.symm)

set_option maxHeartbeats 800000 in
theorem c25 (w : World) (R : List Nat) (ra : Option Addr) (rl rc : Nat) (HRl : Hid (R.length = rl)) (hr1 : rl ≤ 4096) (hR : 0 < rl → ∃ b o, ra = some ⟨b, o, none⟩ ∧ ∀ j, j < rl → w.cell? ⟨b, o + j, none⟩ = some (.int .i64 (R.getD j 0 : Nat))) (x : Nat) :
    Calls Try.prog 25 #[.int .i64 x, .slice ra rl rc] w fun e w' => e = .returned (.bool (inL R (x : Int))) ∧ w' = w := by
  have hcase : inL R (x : Int) = inL (R.take rl) (x : Int) := by rw [List.take_of_length_le (by rw [HRl.out]; exact Nat.le_refl _)]
  obtain ⟨y, hy⟩ : ∃ y, inL R (x : Int) = y := ⟨_, rfl⟩
  rw [hy] at hcase ⊢
  have HY : Hid (inL R (x : Int) = y) := hy
  have HC : Hid (y = inL (R.take rl) (x : Int)) := hcase
  clear hy hcase
  go_enter Try.func25, Try.ntmps25
  go_wp2_with fail
  go_loop [5] (fun i => ∃ k : Nat, k ≤ rl ∧ i = .int .i64 k ∧ Hid (inL (R.take k) (x : Int) = false)) (fun i => rl - (intOf i).toNat)
  case atStart => exact ⟨0, Nat.zero_le _, rfl, rfl⟩
  case round =>
    obtain ⟨k, hk, rfl, hno⟩ := hrel
    by_cases hlt : k < rl
    · obtain ⟨b, o, hra, hc⟩ := hR (by omega)
      subst hra
      have hc1 := hc k hlt
      have hkR : k < R.length := by rw [HRl.out]; exact hlt
      clear hc hR
      by_cases he : ((R.getD k 0 : Nat) : Int) = (x : Int)
      · have hyt : Hid (y = true) := by have := HY.out; rw [inL_hit hkR he] at this; exact this.symm
        have hb : (((R.getD k 0 : Nat) : Int) == (x : Int)) = true := beq_iff_eq.2 he
        clear he
        generalize R.getD k 0 = r at *
        go_wp2_with fail
        go_ret
        exact ⟨by rw [hyt.out]; rfl, rfl⟩
      · have hn2 : Hid (inL (R.take (k + 1)) (x : Int) = false) := inL_step hkR hno.out he
        have hb : (((R.getD k 0 : Nat) : Int) == (x : Int)) = false := beq_eq_false_iff_ne.2 he
        clear he
        generalize R.getD k 0 = r at *
        go_wp2_with fail
        go_round
        case rel => exact ⟨k + 1, by omega, by go_num, hn2⟩
        case measure => simp [intOf]; omega
    · obtain rfl : k = rl := by omega
      have hyf : Hid (y = false) := by have := HC.out; rw [hno.out] at this; exact this
      clear hR
      go_wp2_with fail
      go_ret
      exact ⟨by rw [hyf.out]; rfl, rfl⟩

end Go.Proofs.Qxb6602859a
