import Derived.Test.Qxb6002787aJoinWalk
namespace Go.Proofs.Qxb6002787a
open Go.RowKit

/-- Do the first n answers agree with bit j? -/
def mt (got : Nat → Bool) (j : Nat) : Nat → Bool
  | 0 => true
  | n + 1 => mt got j n && (got n == bt n j)

theorem mt_succ (got : Nat → Bool) (j n : Nat) : mt got j (n + 1) = (mt got j n && (got n == bt n j)) := rfl

theorem pow_le4 {e : Nat} (h : e ≤ 2) : 2 ^ e ≤ 4 := by
  have : e = 0 ∨ e = 1 ∨ e = 2 := by omega
  rcases this with rfl | rfl | rfl <;> decide

set_option maxHeartbeats 6400000 in
theorem join_core2 (s : ByteArray) (w : World) (got : Nat → Bool) (t : Nat) (ht : t ≤ 2) (j1 : (s.toList == [112, 117, 98, 108, 105, 99]) = false) (j2 : (s.toList == [105, 110, 118, 105, 116, 101]) = false) (hgood : Good got true false)
    (HT : Hid (∀ e, e ≤ t → mt got (2 ^ e) 8 = decide (e = t)))
    (h19 : Calls Try.prog 19 #[.string s] w fun e w' => e = .returned (.bool true) ∧ w' = w) (h20 : Calls Try.prog 20 #[.string s] w fun e w' => Needs e true ∧ w' = w)
    (h21 : Hid (∀ wx m, m < 8 → Calls Try.prog 21 #[.string { data := #[] }, .bool (bt m 1), .bool (bt m 2), .bool (bt m 4), .string s] wx fun e w' => e = .returned (.bool (got m)) ∧ Below wx.heap.size wx w')) (hs : s.size ≤ 65536) :
    Calls Try.prog 8 #[.string s] w fun e w' => e = .returned (.bool true) ∧ Below w.heap.size w w' := by
  go_enter Try.func8, Try.ntmps8
  go_wp2_with (go_at_call 19; refine h19.mono ?_; rintro e w' ⟨rfl, rfl⟩)
  refine h20.mono ?_
  rintro e w1 ⟨⟨n, rfl⟩, hw1⟩
  subst hw1
  clear h19 h20
  go_wp2_with fail
  have hg0 := got_start w1 got 39
  have hb0 : Below w1.heap.size w1 (w1.alloc (.cells #[.bool false, .bool false, .bool false, .bool false, .bool false, .bool false, .bool false, .bool false] 39)) := (Below.refl _ _).alloc (Nat.le_refl _) _
  go_loopw [7] (fun i wr => ∃ m : Nat, m ≤ 8 ∧ i = .int .i64 m ∧ GotCells wr w1.heap.size m got ∧ Below w1.heap.size w1 wr) (fun i _ => 8 - (intOf i).toNat)
  case atStart => exact ⟨0, Nat.zero_le _, rfl, hg0, hb0⟩
  case round =>
    clear hg0 hb0
    obtain ⟨m, hm, rfl, hg, hbel⟩ := hrel
    by_cases hlt : m < 8
    · have q1 : (bits .and .i64 (m : Int) 1 != 0) = bt m 1 := bt_int m 1 (by omega) (by omega)
      have q2 : (bits .and .i64 (m : Int) 2 != 0) = bt m 2 := bt_int m 2 (by omega) (by omega)
      have q4 : (bits .and .i64 (m : Int) 4 != 0) = bt m 4 := bt_int m 4 (by omega) (by omega)
      have hcall := h21.out wr m hlt
      generalize bt m 1 = b1 at *
      generalize bt m 2 = b2 at *
      generalize bt m 4 = b4 at *
      go_wp2_with fail
      refine hcall.mono ?_
      rintro e w3 ⟨rfl, hb3⟩
      have hc3 := (hb3.cell (p := ⟨w1.heap.size, m, none⟩) hg.1).trans (hg.2 m hlt).1
      have hf3 := (hb3.frozen (p := ⟨w1.heap.size, m, none⟩) hg.1).trans (hg.2 m hlt).2
      have hg3 := hg.step hlt hb3
      have hb4 := (hbel.trans (hb3.mono hbel.size)).setCell (p := ⟨w1.heap.size, m, none⟩) (Nat.le_refl _) (.bool (got m))
      clear hcall hg hbel hb3
      go_wp2_with fail
      go_roundw
      case rel => exact ⟨m + 1, by omega, by go_num, hg3, hb4⟩
      case measure => simp [intOf]; omega
    · obtain rfl : m = 8 := by omega
      have hcells : ∀ j, j < 8 → wr.cell? ⟨w1.heap.size, j, none⟩ = some (.bool (got j)) := fun j hj => by rw [(hg.2 j hj).1, if_pos hj]
      have g0 := hcells 0 (by omega)
      have g7 := hcells 7 (by omega)
      rw [hgood.at0] at g0
      rw [hgood.at7] at g7
      have HC : Hid (∀ j, j < 8 → wr.cell? ⟨w1.heap.size, j, none⟩ = some (.bool (got j))) := hcells
      have HM : Hid (∀ m, m < 8 → ∀ m2, m2 < 8 → ((m &&& m2) == m) = true → got m = true → got m2 = true) := hgood.mono
      clear hcells hg hgood
      go_wp2_with fail
      clear g0 g7
      go_loop [8, 9] (fun i _ => ∃ m : Nat, m ≤ 8 ∧ i = .int .i64 m) (fun i _ => 8 - (intOf i).toNat)
      case atStart => exact ⟨0, Nat.zero_le _, rfl⟩
      case round =>
        obtain ⟨m, hm, rfl⟩ := hrel
        by_cases hlt : m < 8
        · have gm := HC.out m hlt
          have hmono := HM.out m hlt
          go_wp2_with fail
          go_loop [9] (fun i => ∃ t : Nat, t ≤ 8 ∧ i = .int .i64 t) (fun i => 8 - (intOf i).toNat)
          case atStart => exact ⟨0, Nat.zero_le _, rfl⟩
          case round =>
            obtain ⟨t, ht, rfl⟩ := hrel
            by_cases hlt2 : t < 8
            · have gt := HC.out t hlt2
              have hmo := hmono t hlt2
              have qq := i64_and_eq m t (by omega) (by omega)
              clear hmono
              generalize got m = x at *
              generalize got t = y at *
              generalize ((m &&& t) == m) = c at *
              have hcases : (c = false) ∨ (c = true ∧ x = false) ∨ (c = true ∧ x = true ∧ y = true) := by
                cases c
                · exact .inl rfl
                · cases x
                  · exact .inr (.inl ⟨rfl, rfl⟩)
                  · exact .inr (.inr ⟨rfl, rfl, hmo rfl rfl⟩)
              clear hmo
              rcases hcases with rfl | ⟨rfl, rfl⟩ | ⟨rfl, rfl, rfl⟩
              all_goals
                go_wp2_with fail
                go_round
                case rel => exact ⟨t + 1, by omega, by go_num⟩
                case measure => simp [intOf]; omega
            · clear hmono
              go_wp2_with fail
              go_round
              case rel => exact ⟨m + 1, by omega, by go_num⟩
              case measure => simp [intOf]; omega
        · obtain rfl : m = 8 := by omega
          go_wp2_with fail
          go_loop [10, 11, 12] (fun j _ _ => ∃ e : Nat, e ≤ t ∧ j = .int .i64 ((2 ^ e : Nat) : Int)) (fun j _ _ => 8 - (intOf j).toNat)
          case atStart => exact ⟨0, Nat.zero_le _, rfl⟩
          case round =>
            obtain ⟨e, he, rfl⟩ := hrel
            have hJ4 : 2 ^ e ≤ 4 := pow_le4 (by omega)
            have hJ0 : 1 ≤ 2 ^ e := Nat.one_le_two_pow
            have hmt := HT.out e he
            obtain ⟨J, hJ⟩ : ∃ J, J = 2 ^ e := ⟨_, rfl⟩
            rw [← hJ] at hJ4 hJ0 hmt ⊢
            have HJ : Hid (J = 2 ^ e) := hJ
            have HMT : Hid (mt got J 8 = decide (e = t)) := hmt
            clear hJ hmt
            go_wp2_with fail
            go_loop [11, 12] (fun q i => ∃ m : Nat, m ≤ 8 ∧ i = .int .i64 m ∧ q = .bool (mt got J m)) (fun _ i => 8 - (intOf i).toNat)
            case atStart => exact ⟨0, Nat.zero_le _, rfl, rfl⟩
            case round =>
              obtain ⟨m, hm, rfl, rfl⟩ := hrel
              by_cases hlt : m < 8
              · have gm := HC.out m hlt
                have qj := bt_int m J (by omega) (by omega)
                have hst : Hid (mt got J (m + 1) = (mt got J m && (got m == bt m J))) := mt_succ got J m
                generalize got m = x at *
                generalize bt m J = y at *
                generalize mt got J m = z at *
                cases x <;> cases y
                all_goals
                  go_wp2_with fail
                  go_round
                  case rel => exact ⟨m + 1, by omega, by go_num, by rw [hst.out]; simp⟩
                  case measure => simp [intOf]; omega
              · obtain rfl : m = 8 := by omega
                rw [HMT.out]
                by_cases het : e = t
                · have hd : decide (e = t) = true := by simp [het]
                  rw [hd]
                  clear hd
                  go_wp2_with fail
                  go_ret
                  exact ⟨rfl, hbel⟩
                · have hd : decide (e = t) = false := by simp [het]
                  rw [hd]
                  clear hd
                  go_wp2_with fail
                  go_round
                  case rel => exact ⟨e + 1, by omega, by rw [Nat.pow_succ, ← HJ.out]; go_num⟩
                  case measure => simp [intOf]; omega

theorem join_walk (s : ByteArray) (w : World) (hs : s.size ≤ 65536) : Calls Try.prog 8 #[.string s] w fun e w' => e = .returned (.bool true) ∧ Below w.heap.size w w' := by
  obtain ⟨p, i, k, r, q, h, h6⟩ := J_six s
  have hgood := good_all p i k r q h6
  have h19 := c19_yes s w (by omega)
  have h20 := c20 s w p i k r q h h6
  have h21 : Hid (∀ wx m, m < 8 → Calls Try.prog 21 #[.string { data := #[] }, .bool (bt m 1), .bool (bt m 2), .bool (bt m 4), .string s] wx fun e w' => e = .returned (.bool (gotF p i k r q m)) ∧ Below wx.heap.size wx w') :=
    fun wx m _ => c21 s wx p i k r q (bt m 1) (bt m 2) (bt m 4) h h6
  rcases h6 with ⟨rfl, rfl, rfl, rfl, rfl⟩ | ⟨rfl, rfl, rfl, rfl, rfl⟩ | ⟨rfl, rfl, rfl, rfl, rfl⟩ | ⟨rfl, rfl, rfl, rfl, rfl⟩ | ⟨rfl, rfl, rfl, rfl, rfl⟩ | ⟨rfl, rfl, rfl, rfl, rfl⟩
  · exact join_core1 s w _ true true false h.pub h.inv hgood h19 h20 h21 (.inl ⟨rfl, rfl⟩) hs
  · exact join_core1 s w _ true false true h.pub h.inv hgood h19 h20 h21 (.inr (.inl ⟨rfl, rfl, rfl⟩)) hs
  · exact join_core2 s w _ 0 (by omega) h.pub h.inv hgood (by have : ∀ e, e ≤ 0 → mt (gotF false false true false false) (2 ^ e) 8 = decide (e = 0) := (by decide); exact this) h19 h20 h21 hs
  · exact join_core2 s w _ 1 (by omega) h.pub h.inv hgood (by have : ∀ e, e ≤ 1 → mt (gotF false false false true false) (2 ^ e) 8 = decide (e = 1) := (by decide); exact this) h19 h20 h21 hs
  · exact join_core2 s w _ 2 (by omega) h.pub h.inv hgood (by have : ∀ e, e ≤ 2 → mt (gotF false false false false true) (2 ^ e) 8 = decide (e = 2) := (by decide); exact this) h19 h20 h21 hs
  · exact join_core1 s w _ false false false h.pub h.inv hgood h19 h20 h21 (.inr (.inr ⟨rfl, rfl, rfl⟩)) hs

set_option maxHeartbeats 400000 in
theorem join_long (s : ByteArray) (w : World) (h : s.size ≤ 1048576) (h' : ¬ s.size ≤ 65536) : Calls Try.prog 8 #[.string s] w fun e w' => e = .returned (.bool true) ∧ Below w.heap.size w w' := by
  have h19 := c19_yes s w h
  go_enter Try.func8, Try.ntmps8
  go_wp2_with (go_at_call 19; refine h19.mono ?_; rintro e w' ⟨rfl, rfl⟩)
  go_ret
  exact ⟨rfl, Below.refl _ _⟩

set_option maxHeartbeats 400000 in
theorem join_no (s : ByteArray) (w : World) (h : ¬ s.size ≤ 1048576) (hm : s.size ≤ maxLen) : Calls Try.prog 8 #[.string s] w fun e w' => e = .returned (.bool true) ∧ Below w.heap.size w w' := by
  have h19 := c19_no s w h hm
  go_enter Try.func8, Try.ntmps8
  go_wp2_with (go_at_call 19; refine h19.mono ?_; rintro e w' ⟨rfl, rfl⟩)
  go_ret
  exact ⟨rfl, Below.refl _ _⟩

end Go.Proofs.Qxb6002787a
