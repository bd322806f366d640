import Derived.Test.Qxb6603482aSeg
namespace Go.Proofs.Qxb6603482a
open Go.RowKit

set_option maxHeartbeats 400000 in
theorem c13_yes (a0 : Int) (a : Option Addr) (len cap : Nat) (w : World) (h : len ≤ 1048576) : Calls Try.prog 13 #[.int .u8 a0, .slice a len cap] w fun e w' => e = .returned (.bool true) ∧ w' = w := by
  go_enter Try.func13, Try.ntmps13
  go_wp2
  go_ret
  exact ⟨rfl, rfl⟩

set_option maxHeartbeats 400000 in
theorem c13_no (a0 : Int) (a : Option Addr) (len cap : Nat) (w : World) (h : ¬ len ≤ 1048576) : Calls Try.prog 13 #[.int .u8 a0, .slice a len cap] w fun e w' => e = .returned (.bool false) ∧ w' = w := by
  go_enter Try.func13, Try.ntmps13
  go_wp2
  go_ret
  exact ⟨rfl, rfl⟩

set_option maxHeartbeats 400000 in
theorem chain_no (a0 : Int) (a : Option Addr) (len cap : Nat) (w : World) (h : ¬ len ≤ 1048576) : Calls Try.prog 5 #[.int .u8 a0, .slice a len cap] w fun e w' => e = .returned (.bool true) ∧ Below w.heap.size w w' := by
  have h13 := c13_no a0 a len cap w h
  go_enter Try.func5, Try.ntmps5
  go_wp2_with (go_at_call 13; refine h13.mono ?_; rintro e w' ⟨rfl, rfl⟩)
  go_ret
  exact ⟨rfl, Below.refl _ _⟩

set_option maxHeartbeats 400000 in
theorem chain_long (a0 : Int) (a : Option Addr) (len cap : Nat) (w : World) (h : len ≤ 1048576) (h' : ¬ len ≤ 65536) : Calls Try.prog 5 #[.int .u8 a0, .slice a len cap] w fun e w' => e = .returned (.bool true) ∧ Below w.heap.size w w' := by
  have h13 := c13_yes a0 a len cap w h
  go_enter Try.func5, Try.ntmps5
  go_wp2_with (go_at_call 13; refine h13.mono ?_; rintro e w' ⟨rfl, rfl⟩)
  go_ret
  exact ⟨rfl, Below.refl _ _⟩

set_option maxHeartbeats 1600000 in
theorem chain_walk (a0 : Int) (a : Option Addr) (len cap : Nat) (zs : List Int) (w : World) (h : len ≤ 65536) (hr : IsRow .u8 w a len cap zs) (hzl : len ≤ zs.length) :
    Calls Try.prog 5 #[.int .u8 a0, .slice a len cap] w fun e w' => e = .returned (.bool true) ∧ Below w.heap.size w w' := by
  have h13 := c13_yes a0 a len cap w (by omega)
  have h14 := c14 w a len cap zs hr (by omega)
  clear hr
  go_enter Try.func5, Try.ntmps5
  go_wp2_with (go_at_call 13; refine h13.mono ?_; rintro e w' ⟨rfl, rfl⟩)
  rename_i w0
  clear h13
  refine h14.mono ?_
  rintro e w1 ⟨a', cap', rfl, hb1, hcp⟩
  go_wp2_with fail
  refine (c8 _ _).mono ?_
  rintro e w2 ⟨rfl, hw2⟩
  have hch := Chain.start w1 a0
  have hb2 : Below w1.heap.size w1 w2 := by rw [hw2]; exact (Below.refl _ _).alloc (Nat.le_refl _) _
  rw [← hw2] at hch
  clear hw2
  go_wp2_with fail
  refine (c7 _ _).mono ?_
  rintro e w2' ⟨rfl, hw'⟩
  subst hw'
  go_wp2_with fail
  go_loopw [6, 7, 8] (fun q c i wr => ∃ (k e : Nat) (os : List Int) (o : Int), k ≤ len ∧ i = .int .i64 k ∧ c = .pointer (some ⟨e, 0, none⟩) ∧ q = .bool ((a0 :: zs.take k).any isA) ∧
      Chain wr w1.heap.size w1.heap.size os o e ∧ os ++ [o] = a0 :: zs.take k ∧ Below w1.heap.size w1 wr) (fun _ _ i _ => len - (intOf i).toNat)
  case atStart => exact ⟨0, w1.heap.size, [], a0, Nat.zero_le _, rfl, rfl, by simp, hch, rfl, hb2⟩
  case round =>
    clear hch hb2
    obtain ⟨k, e, os, o, hk, rfl, rfl, rfl, hch, hos, hbel⟩ := hrel
    have HOS : Hid (os ++ [o] = a0 :: zs.take k) := hos
    clear hos
    by_cases hlt : k < len
    · obtain ⟨g, ha', hg0, hg1, hcell⟩ := hcp k hlt
      subst ha'
      have hst : Hid ((a0 :: zs.take (k + 1)).any isA = ((a0 :: zs.take k).any isA || isA (zs.getD k 0))) := any_step a0 zs k (by omega)
      have hsn : Hid (zs.take (k + 1) = zs.take k ++ [zs.getD k 0]) := take_snoc' zs k (by omega)
      generalize zs.getD k 0 = z at *
      have hcr : wr.cell? ⟨g, k, none⟩ = some (.int .u8 z) := (hbel.cell (p := ⟨g, k, none⟩) hg1).trans hcell
      clear hcp hcell h14
      go_wp2_with fail
      refine (c8 _ _).mono ?_
      rintro e1 w3 ⟨rfl, hw3⟩
      obtain ⟨f2, ff, fl⟩ := hch.alloc z
      have hb3 : Below w1.heap.size w1 w3 := by rw [hw3]; exact hbel.alloc (by have := hbel.size; omega) _
      rw [← hw3] at f2 ff fl
      have HW3 : Hid (w3 = wr.alloc (.cells (nodeCells z) 45)) := hw3
      clear hw3
      go_wp2_with fail
      refine (c10 w3 e wr.heap.size (.slice none 0 0) 0 [] fl (by omega) f2 ff (World.ownsRow_nil _ _ _ _) (by simp [Value.ownBlock])).mono ?_
      rintro e2 w4 ⟨rfl, hadd⟩
      obtain ⟨v', hp⟩ := hadd.parts fl f2 (by simp [Value.ownBlock])
      have hb4 := hb3.trans (hp.below (B := w1.heap.size) hch.lo hb3.size (by simp [Value.ownBlock]))
      have hch4 : Chain w4 w1.heap.size w1.heap.size (os ++ [o]) z wr.heap.size := hch.step (by rw [← HW3.out]; exact hp)
      have hc4 : w4.cell? ⟨g, k, none⟩ = some (.int .u8 z) := (hb4.cell (p := ⟨g, k, none⟩) hg1).trans ((hbel.cell (p := ⟨g, k, none⟩) hg1).symm.trans hcr)
      clear hadd hp f2 ff fl hb3 hcr hch
      have hc7 := c7 z w4
      cases hz : isA z
      · rw [hz] at hc7
        go_wp2_with (go_at_call 7; refine hc7.mono ?_; rintro e w7 ⟨rfl, rfl⟩)
        go_roundw
        case rel => exact ⟨k + 1, wr.heap.size, os ++ [o], z, by omega, by go_num, rfl, by rw [hst.out, hz]; simp, hch4, by rw [HOS.out, hsn.out]; rfl, hb4⟩
        case measure => simp [intOf]; omega
      · rw [hz] at hc7
        go_wp2_with (go_at_call 7; refine hc7.mono ?_; rintro e w7 ⟨rfl, rfl⟩)
        go_roundw
        case rel => exact ⟨k + 1, wr.heap.size, os ++ [o], z, by omega, by go_num, rfl, by rw [hst.out, hz]; simp, hch4, by rw [HOS.out, hsn.out]; rfl, hb4⟩
        case measure => simp [intOf]; omega
    · obtain ⟨d, hn⟩ := hch.whole
      have hq : (os ++ [o]).any isA = (a0 :: zs.take k).any isA := by rw [HOS.out]
      rw [hq] at hn
      generalize (a0 :: zs.take k).any isA = q at *
      clear hq hch
      go_wp2_with fail
      refine (c9 _ _ _ _ _ hn).mono ?_
      rintro e w3 ⟨rfl, hw'⟩
      subst hw'
      go_wp2_with fail
      go_ret
      exact ⟨rfl, hb1.trans (hbel.mono hb1.size)⟩

end Go.Proofs.Qxb6603482a
