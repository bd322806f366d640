import Derived.Test.Qxb6602859aLawParts
namespace Go.Proofs.Qxb6602859a
open Go.RowKit Go.Maps

set_option maxRecDepth 20000 in
set_option maxHeartbeats 12800000 in
theorem law_no (w : World) (ca fa ta ka ra aa : Option Addr) (cl cc n fc tl tc kl kc rl rc al ac : Nat) (nd : Int) (h : ¬ (cl ≤ 4096 ∧ n ≤ 65536 ∧ tl ≤ 65536 ∧ kl ≤ 65536 ∧ rl ≤ 4096 ∧ al ≤ 4096 ∧ n = tl ∧ n = kl ∧ 0 ≤ nd)) :
    Calls Try.prog 8 #[.slice ca cl cc, .int .i64 nd, .slice fa n fc, .slice ta tl tc, .slice ka kl kc, .slice ra rl rc, .slice aa al ac] w fun e w' => e = .returned (.bool true) ∧ Below w.heap.size w w' := by
  go_enter Try.func8, Try.ntmps8
  go_wp2_with fail
  refine (c24 w _ ca fa ta ka ra aa cl cc n fc tl tc kl kc rl rc al ac).mono ?_
  rintro e w' ⟨⟨b0, rfl⟩, hw⟩
  obtain rfl : w = w' := hw.symm
  clear hw
  cases b0
  · go_wp2_with fail
    go_ret
    exact ⟨rfl, Below.refl _ _⟩
  by_cases hcl : cl ≤ 4096
  rotate_left
  · clear h
    go_wp2_with fail
    go_ret
    exact ⟨rfl, Below.refl _ _⟩
  by_cases hn : n ≤ 65536
  rotate_left
  · clear h
    go_wp2_with fail
    go_ret
    exact ⟨rfl, Below.refl _ _⟩
  by_cases htl : tl ≤ 65536
  rotate_left
  · clear h
    go_wp2_with fail
    go_ret
    exact ⟨rfl, Below.refl _ _⟩
  by_cases hkl : kl ≤ 65536
  rotate_left
  · clear h
    go_wp2_with fail
    go_ret
    exact ⟨rfl, Below.refl _ _⟩
  by_cases hrl : rl ≤ 4096
  rotate_left
  · clear h
    go_wp2_with fail
    go_ret
    exact ⟨rfl, Below.refl _ _⟩
  by_cases hal : al ≤ 4096
  rotate_left
  · clear h
    go_wp2_with fail
    go_ret
    exact ⟨rfl, Below.refl _ _⟩
  by_cases h1 : n = tl
  rotate_left
  · have hb1 : ((n : Int) == (tl : Int)) = false := beq_eq_false_iff_ne.2 (by omega)
    clear h
    go_wp2_with fail
    go_ret
    exact ⟨rfl, Below.refl _ _⟩
  subst h1
  by_cases h2 : n = kl
  rotate_left
  · have hb1 : ((n : Int) == (kl : Int)) = false := beq_eq_false_iff_ne.2 (by omega)
    clear h
    go_wp2_with fail
    go_ret
    exact ⟨rfl, Below.refl _ _⟩
  subst h2
  clear htl hkl
  by_cases h3 : 0 ≤ nd
  rotate_left
  · clear h
    go_wp2_with fail
    go_ret
    exact ⟨rfl, Below.refl _ _⟩
  exact absurd ⟨hcl, hn, hn, hn, hrl, hal, rfl, rfl, h3⟩ h

end Go.Proofs.Qxb6602859a
