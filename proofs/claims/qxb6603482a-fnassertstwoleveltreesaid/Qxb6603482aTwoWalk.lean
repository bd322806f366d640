import Derived.Test.Qxb6603482aRoot
namespace Go.Proofs.Qxb6603482a
open Go.RowKit

set_option maxHeartbeats 3200000 in
theorem two_walk (w : World) (a0 : Int) (a : Option Addr) (b off len cap : Nat) (op : Nat → Int) (ad : Nat → Option Addr) (ln cp : Nat → Nat) (zs : Nat → List Int) (hnone : a = none → len = 0 ∧ cap = 0) (hk : KidCells w a b off len op ad ln cp)
    (hrow : ∀ i, i < len → IsRow .u8 w (ad i) (ln i) (cp i) (zs i)) (hzl : ∀ i, i < len → ln i ≤ (zs i).length) :
    Calls Try.prog 4 #[.int .u8 a0, .slice a len cap] w fun e w' => e = .returned (.bool true) ∧ Below w.heap.size w w' := by
  have h11 := c11 w a0 a b off len cap op ad ln cp hk
  go_enter Try.func4, Try.ntmps4
  go_wp2_with fail
  refine h11.mono ?_
  rintro e w' ⟨⟨r, rfl⟩, hw'⟩
  subst hw'
  clear h11
  cases r
  · go_wp2_with fail
    go_ret
    exact ⟨rfl, Below.refl _ _⟩
  by_cases h1 : len ≤ 32768
  rotate_left
  · go_wp2_with fail
    go_ret
    exact ⟨rfl, Below.refl _ _⟩
  have hkk := hk
  obtain ⟨ha, hc⟩ := hk
  go_wp2_with fail
  go_loop [5, 6] (fun t i => ∃ (k : Nat) (z : Int), k ≤ len ∧ i = .int .i64 k ∧ t = .int .i64 z ∧ 0 ≤ z ∧ z ≤ 1048576 ∧ ∀ j, j < k → ln j ≤ 1048576) (fun _ i => len - (intOf i).toNat)
  case atStart => exact ⟨0, 32 * len, Nat.zero_le _, rfl, rfl, by omega, by omega, fun j hj => by omega⟩
  case round =>
    obtain ⟨k, z, hk, rfl, rfl, hz0, hz1, hall⟩ := hrel
    by_cases hlt : k < len
    · obtain ⟨rfl, hb⟩ := ha (by omega)
      obtain ⟨c0, c1⟩ := hc k hlt
      have HA : Hid (∀ j, j < k → ln j ≤ 1048576) := hall
      clear hc ha hkk hrow hzl hnone hall
      obtain ⟨n, hn⟩ : ∃ n, n = ln k := ⟨_, rfl⟩
      rw [← hn] at c1
      have HN : Hid (n = ln k) := hn
      clear hn
      by_cases h2 : n ≤ 1048576
      · by_cases h3 : z + n ≤ 1048576
        · go_wp2_with fail
          go_round
          case rel =>
            refine ⟨k + 1, z + n, by omega, by go_num, rfl, by omega, by omega, fun j hj => ?_⟩
            by_cases hjk : j = k
            · rw [hjk, ← HN.out]; exact h2
            · exact HA.out j (by omega)
          case measure => simp [intOf]; omega
        · go_wp2_with fail
          go_ret
          exact ⟨rfl, Below.refl _ _⟩
      · go_wp2_with fail
        go_ret
        exact ⟨rfl, Below.refl _ _⟩
    · obtain rfl : k = len := by omega
      have h12 := c12 w' a b off k cap op ad ln cp zs h1 hnone hkk hall hrow
      have HA : Hid (∀ j, j < k → ln j ≤ 1048576) := hall
      have HZ : Hid (∀ i, i < k → ln i ≤ (zs i).length) := hzl
      clear hall hc ha hkk hrow hzl
      go_wp2_with fail
      refine h12.mono ?_
      rintro e w1 ⟨a', cap', rfl, hb1, hkc⟩
      have HKC : Hid (∀ i, i < k → ∃ g, a' = some ⟨g, 0, none⟩ ∧ g < w1.heap.size ∧ KidsCopy w1 g k op ln zs) := hkc
      clear h12 hkc hnone
      go_wp2_with fail
      refine (c8 _ _).mono ?_
      rintro e w2 ⟨rfl, hw2⟩
      have hrt := Root.start w1 2 a0
      have hb2 : Below w1.heap.size w1 w2 := by rw [hw2]; exact (Below.refl _ _).alloc (Nat.le_refl _) _
      rw [← hw2] at hrt
      clear hw2
      go_wp2_with fail
      refine (c7 _ _).mono ?_
      rintro e w2' ⟨rfl, hw'⟩
      subst hw'
      go_wp2_with fail
      go_loopw [8, 9] (fun q i wr => ∃ (m : Nat) (v : Value) (kbs : List Nat) (rs : List Bool), m ≤ k ∧ i = .int .i64 m ∧ q = .bool (isA a0 || rs.any id) ∧ Root wr 2 w1.heap.size a0 v kbs rs ∧ kbs.length = m ∧
          Below w1.heap.size w1 wr) (fun _ i _ => k - (intOf i).toNat)
      case atStart => exact ⟨0, _, [], [], Nat.zero_le _, rfl, by simp, hrt, rfl, hb2⟩
      case round =>
        clear hrt hb2
        obtain ⟨m, v, kbs, rs, hm, rfl, rfl, hrt, hkl, hbel⟩ := hrel
        have HKL : Hid (kbs.length = m) := hkl
        clear hkl
        by_cases hmk : m < k
        · obtain ⟨g, ha', hg1, hcopy⟩ := HKC.out m hmk
          subst ha'
          obtain ⟨e0, a1, c1, e1, hsub⟩ := hcopy m hmk
          have f0 : wr.cell? ⟨g, m * 2, none⟩ = some (.int .u8 (op m)) := (hbel.cell (p := ⟨g, m * 2, none⟩) hg1).trans e0
          have hl0 := HA.out m hmk
          have hz0 := HZ.out m hmk
          generalize ln m = n at *
          generalize zs m = Z at *
          generalize op m = o at *
          obtain ⟨Q, hQ⟩ : ∃ Q, Q = (isA a0 || rs.any id) := ⟨_, rfl⟩
          rw [← hQ]
          have HQ : Hid (Q = (isA a0 || rs.any id)) := hQ
          clear hQ hcopy
          go_wp2_with fail
          refine (c8 _ _).mono ?_
          rintro e w3 ⟨rfl, hw3⟩
          have hkid := Root.start wr 1 o
          have hb3 : Below wr.heap.size wr w3 := by rw [hw3]; exact (Below.refl _ _).alloc (Nat.le_refl _) _
          rw [← hw3] at hkid
          clear hw3
          have hb3' : Below w1.heap.size w1 w3 := hbel.trans (hb3.mono hbel.size)
          have f3 : w3.cell? ⟨g, m * 2, none⟩ = some (.int .u8 o) := (hb3'.cell (p := ⟨g, m * 2, none⟩) hg1).trans e0
          clear f0
          have hc7 := c7 o w3
          obtain ⟨wo, hwo⟩ : ∃ wo : World, wo = wr := ⟨_, rfl⟩
          subst hwo
          cases hzo : isA o
          all_goals
            rw [hzo] at hc7
            go_wp2_with (go_at_call 7; refine hc7.mono ?_; rintro e w7 ⟨rfl, rfl⟩)
            clear hc7 f3
            go_loopw [8, 11] (fun q j wi => ∃ (t : Nat) (u : Value) (lbs : List Nat), t ≤ n ∧ j = .int .i64 t ∧ q = .bool (Q || isA o || (Z.take t).any isA) ∧ Root wi 1 wo.heap.size o u lbs ((Z.take t).map isA) ∧ lbs.length = t ∧
                Below wo.heap.size wo wi) (fun _ j _ => n - (intOf j).toNat)
            case atStart => exact ⟨0, _, [], Nat.zero_le _, rfl, by simp [hzo], hkid, rfl, hb3⟩
            case round =>
              clear hkid hb3 hb3'
              obtain ⟨t, u, lbs, ht, rfl, rfl, hkid, hll, hbi⟩ := hrel
              have HLL : Hid (lbs.length = t) := hll
              have HZO : Hid (isA o = _) := hzo
              clear hll hzo
              have hbi1 : Below w1.heap.size w1 wr := hbel.trans (hbi.mono hbel.size)
              have fs : wr.cell? ⟨g, m * 2 + 1, none⟩ = some (.slice a1 n c1) := (hbi1.cell (p := ⟨g, m * 2 + 1, none⟩) hg1).trans e1
              by_cases htn : t < n
              · obtain ⟨g2, ha1, _, hg2, hcz⟩ := hsub t htn
                subst ha1
                have hst := take_any Z t (by omega)
                have hst' : (Z.take (t + 1)).any isA = ((Z.take t).any isA || isA (Z.getD t 0)) := by rw [take_snoc' Z t (by omega)]; simp
                have HST : Hid _ := hst
                have HST' : Hid _ := hst'
                clear hst hst'
                generalize Z.getD t 0 = z at *
                have fz : wr.cell? ⟨g2, t, none⟩ = some (.int .u8 z) := (hbi1.cell (p := ⟨g2, t, none⟩) hg2).trans hcz
                clear hsub
                go_wp2_with fail
                refine (c8 _ _).mono ?_
                rintro e w4 ⟨rfl, hw4⟩
                have hk4 := hkid.keep (w' := w4) (by rw [hw4]; exact (Below.refl _ _).alloc (Nat.le_refl _) _)
                have HW4 : Hid (w4 = wr.alloc (.cells (nodeCells z) 45)) := hw4
                have hb4 : Below wo.heap.size wo w4 := by rw [hw4]; exact hbi.alloc hbi.size _
                clear hw4
                go_wp2_with fail
                refine (c10_root hk4 (by rw [HLL.out]; omega) _).mono ?_
                rintro e w5 ⟨rfl, v5, ha5⟩
                have hk5 := hkid.leaf (z := z) (by rw [← HW4.out]; exact ha5)
                have hb5 := hb4.trans (ha5.belowRoot hk4 (Nat.le_refl _))
                clear hk4 hb4 ha5 HW4 fs fz hkid hbi hbi1
                have hc7 := c7 z w5
                cases hzz : isA z
                all_goals
                  rw [hzz] at hc7
                  go_wp2_with (go_at_call 7; refine hc7.mono ?_; rintro e w6 ⟨rfl, rfl⟩)
                  go_roundw
                  case rel => exact ⟨t + 1, v5, _, by omega, by go_num, by rw [HST'.out, hzz]; simp, by rw [HST.out]; exact hk5, by simp [HLL.out], hb5⟩
                  case measure => simp [intOf]; omega
              · have hw' : (Q || isA o || (Z.take t).any isA) = (isA a0 || (rs ++ [isA o || ((Z.take t).map isA).any id]).any id) := by
                  rw [HQ.out, any_map, List.any_append]; simp [Bool.or_assoc]
                have HW : Hid _ := hw'
                clear hw'
                generalize (Q || isA o || (Z.take t).any isA) = Q1 at *
                clear hsub e0 e1
                go_wp2_with fail
                refine (c10_root (hrt.keep hbi) (by rw [HKL.out]; omega) _).mono ?_
                rintro e w5 ⟨rfl, v5, ha5⟩
                have hr5 := hrt.child hbi hkid.node ha5
                have hb5 := hbi1.trans (ha5.belowRoot (hrt.keep hbi) (Nat.le_refl _))
                clear ha5 hbi1 hbi hkid hrt fs hbel
                go_wp2_with fail
                go_roundw
                case rel => exact ⟨m + 1, v5, _, _, by omega, by go_num, by rw [HW.out], hr5, by simp [HKL.out], hb5⟩
                case measure => simp [intOf]; omega
        · have hn := hrt.node
          generalize (isA a0 || rs.any id) = Q at *
          go_wp2_with fail
          refine (c9 _ _ _ _ _ hn).mono ?_
          rintro e w3 ⟨rfl, hw'⟩
          subst hw'
          go_wp2_with fail
          go_ret
          exact ⟨rfl, hb1.trans (hbel.mono hb1.size)⟩

end Go.Proofs.Qxb6603482a
