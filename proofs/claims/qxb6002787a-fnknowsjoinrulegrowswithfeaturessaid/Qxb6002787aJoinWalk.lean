import Derived.Test.Qxb6002787aJoin
namespace Go.Proofs.Qxb6002787a
open Go.RowKit

/-- Is bit j of m set? -/
def bt (m j : Nat) : Bool := (m &&& j) != 0

/-- The eight answers. -/
def gotF (p i k r q : Bool) (m : Nat) : Bool := kf p i k r q (bt m 1) (bt m 2) (bt m 4)

theorem i64_and_nat (a b : Nat) (ha : a < 4294967296) (hb : b < 4294967296) : bits .and .i64 (a : Int) (b : Int) = ((a &&& b : Nat) : Int) := by
  have hx : a &&& b < 2 ^ 32 := Nat.and_lt_two_pow _ (by omega)
  show IntKind.i64.wrap ((BitVec.ofInt 64 (a : Int) &&& BitVec.ofInt 64 (b : Int)).toNat : Int) = _
  rw [BitVec.toNat_and, BitVec.ofInt_natCast, BitVec.ofInt_natCast, BitVec.toNat_ofNat, BitVec.toNat_ofNat, Nat.mod_eq_of_lt (show a < 2 ^ 64 by omega), Nat.mod_eq_of_lt (show b < 2 ^ 64 by omega), IntKind.wrap_i64]
  omega

theorem bt_int (m j : Nat) (hm : m < 4294967296) (hj : j < 4294967296) : (bits .and .i64 (m : Int) (j : Int) != 0) = bt m j := by
  rw [i64_and_nat m j hm hj]
  unfold bt
  rw [Bool.eq_iff_iff]
  simp [bne_iff_ne]

/-- The array of answers: its first k cells are laid. -/
def GotCells (w : World) (G k : Nat) (got : Nat → Bool) : Prop :=
  G < w.heap.size ∧ ∀ j, j < 8 → w.cell? ⟨G, j, none⟩ = some (.bool (if j < k then got j else false)) ∧ w.frozen? ⟨G, j, none⟩ = false

theorem GotCells.step {w w' : World} {G k : Nat} {got : Nat → Bool} (h : GotCells w G k got) (hk : k < 8) (hb : Below w.heap.size w w') : GotCells (w'.setCell ⟨G, k, none⟩ (.bool (got k))) G (k + 1) got := by
  obtain ⟨hG, hc⟩ := h
  refine ⟨?_, fun j hj => ⟨?_, ?_⟩⟩
  · have := hb.size
    have e : (w'.setCell ⟨G, k, none⟩ (.bool (got k))).heap.size = w'.heap.size := by simp [World.setCell]
    omega
  · by_cases hjk : j = k
    · subst hjk
      rw [if_pos (by omega)]
      exact World.cell?_setCell_same _ _ _ ((hb.cell (p := ⟨G, j, none⟩) hG).trans (hc j hj).1)
    · have e := World.cell?_setCell_other w' ⟨G, k, none⟩ ⟨G, j, none⟩ (.bool (got k)) (fun h => hjk (by have := congrArg Addr.off h; simpa using this.symm))
      rw [e, hb.cell (p := ⟨G, j, none⟩) hG, (hc j hj).1]
      by_cases h1 : j < k
      · rw [if_pos h1, if_pos (by omega)]
      · rw [if_neg h1, if_neg (by omega)]
  · rw [World.frozen?_setCell, hb.frozen (p := ⟨G, j, none⟩) hG]
    exact (hc j hj).2

theorem i64_and_eq (m m2 : Nat) (hm : m < 4294967296) (hj : m2 < 4294967296) : (bits .and .i64 (m : Int) (m2 : Int) == (m : Int)) = ((m &&& m2) == m) := by
  rw [i64_and_nat m m2 hm hj, Bool.eq_iff_iff]
  simp only [beq_iff_eq]
  omega

/-- What the law asks of the eight answers. -/
structure Good (got : Nat → Bool) (known base : Bool) : Prop where
  at0 : got 0 = base
  at7 : got 7 = known
  mono : ∀ m, m < 8 → ∀ m2, m2 < 8 → ((m &&& m2) == m) = true → got m = true → got m2 = true

theorem good_all (p i k r q : Bool) (h6 : Six p i k r q) : Good (gotF p i k r q) (p || i || k || r || q) (p || i) := by
  rcases h6 with ⟨rfl, rfl, rfl, rfl, rfl⟩ | ⟨rfl, rfl, rfl, rfl, rfl⟩ | ⟨rfl, rfl, rfl, rfl, rfl⟩ | ⟨rfl, rfl, rfl, rfl, rfl⟩ | ⟨rfl, rfl, rfl, rfl, rfl⟩ | ⟨rfl, rfl, rfl, rfl, rfl⟩
  all_goals exact ⟨by decide, by decide, by decide⟩

theorem got_start (w : World) (got : Nat → Bool) (t : TypeId) : GotCells (w.alloc (.cells #[.bool false, .bool false, .bool false, .bool false, .bool false, .bool false, .bool false, .bool false] t)) w.heap.size 0 got := by
  refine ⟨by simp, fun j hj => ⟨?_, by simp⟩⟩
  rw [World.cell?_alloc_new, if_neg (by omega)]
  match j, hj with
  | 0, _ => rfl
  | 1, _ => rfl
  | 2, _ => rfl
  | 3, _ => rfl
  | 4, _ => rfl
  | 5, _ => rfl
  | 6, _ => rfl
  | 7, _ => rfl

set_option maxHeartbeats 6400000 in
theorem join_core1 (s : ByteArray) (w : World) (got : Nat → Bool) (known p i : Bool) (j1 : (s.toList == [112, 117, 98, 108, 105, 99]) = p) (j2 : (s.toList == [105, 110, 118, 105, 116, 101]) = i) (hgood : Good got known (p || i))
    (h19 : Calls Try.prog 19 #[.string s] w fun e w' => e = .returned (.bool true) ∧ w' = w) (h20 : Calls Try.prog 20 #[.string s] w fun e w' => Needs e known ∧ w' = w)
    (h21 : Hid (∀ wx m, m < 8 → Calls Try.prog 21 #[.string { data := #[] }, .bool (bt m 1), .bool (bt m 2), .bool (bt m 4), .string s] wx fun e w' => e = .returned (.bool (got m)) ∧ Below wx.heap.size wx w'))
    (hend : (p = true ∧ known = true) ∨ (p = false ∧ i = true ∧ known = true) ∨ (p = false ∧ i = false ∧ known = false)) (hs : s.size ≤ 65536) :
    Calls Try.prog 8 #[.string s] w fun e w' => e = .returned (.bool true) ∧ Below w.heap.size w w' := by
  rcases hend with ⟨rfl, rfl⟩ | ⟨rfl, rfl, rfl⟩ | ⟨rfl, rfl, rfl⟩
  all_goals
    simp only [Bool.true_or, Bool.false_or] at hgood
    go_enter Try.func8, Try.ntmps8
    go_wp2_with (go_at_call 19; refine h19.mono ?_; rintro e w' ⟨rfl, rfl⟩)
    refine h20.mono ?_
    rintro e w1 ⟨⟨n, rfl⟩, hw1⟩
    subst hw1
    clear h19 h20
    go_wp2_with fail
    have hg0 := got_start w1 got 39
    have hb0 : Below w1.heap.size w1 (w1.alloc (.cells #[.bool false, .bool false, .bool false, .bool false, .bool false, .bool false, .bool false, .bool false] 39)) := (Below.refl _ _).alloc (Nat.le_refl _) _
    go_loopw [7] (fun i wr => ∃ m : Nat, m ≤ 8 ∧ i = .int .i64 m ∧ GotCells wr w1.heap.size m got ∧ Below w1.heap.size w1 wr) (fun i _ => 8 - (intOf i).toNat)
    case atStart => exact ⟨0, Nat.zero_le _, rfl, hg0, hb0⟩
    case round =>
      clear hg0 hb0
      obtain ⟨m, hm, rfl, hg, hbel⟩ := hrel
      by_cases hlt : m < 8
      · have q1 : (bits .and .i64 (m : Int) 1 != 0) = bt m 1 := bt_int m 1 (by omega) (by omega)
        have q2 : (bits .and .i64 (m : Int) 2 != 0) = bt m 2 := bt_int m 2 (by omega) (by omega)
        have q4 : (bits .and .i64 (m : Int) 4 != 0) = bt m 4 := bt_int m 4 (by omega) (by omega)
        have hcall := h21.out wr m hlt
        generalize bt m 1 = b1 at *
        generalize bt m 2 = b2 at *
        generalize bt m 4 = b4 at *
        go_wp2_with fail
        refine hcall.mono ?_
        rintro e w3 ⟨rfl, hb3⟩
        have hc3 := (hb3.cell (p := ⟨w1.heap.size, m, none⟩) hg.1).trans (hg.2 m hlt).1
        have hf3 := (hb3.frozen (p := ⟨w1.heap.size, m, none⟩) hg.1).trans (hg.2 m hlt).2
        have hg3 := hg.step hlt hb3
        have hb4 := (hbel.trans (hb3.mono hbel.size)).setCell (p := ⟨w1.heap.size, m, none⟩) (Nat.le_refl _) (.bool (got m))
        clear hcall hg hbel hb3
        go_wp2_with fail
        go_roundw
        case rel => exact ⟨m + 1, by omega, by go_num, hg3, hb4⟩
        case measure => simp [intOf]; omega
      · obtain rfl : m = 8 := by omega
        have hcells : ∀ j, j < 8 → wr.cell? ⟨w1.heap.size, j, none⟩ = some (.bool (got j)) := fun j hj => by rw [(hg.2 j hj).1, if_pos hj]
        have g0 := hcells 0 (by omega)
        have g7 := hcells 7 (by omega)
        rw [hgood.at0] at g0
        rw [hgood.at7] at g7
        have HC : Hid (∀ j, j < 8 → wr.cell? ⟨w1.heap.size, j, none⟩ = some (.bool (got j))) := hcells
        have HM : Hid (∀ m, m < 8 → ∀ m2, m2 < 8 → ((m &&& m2) == m) = true → got m = true → got m2 = true) := hgood.mono
        clear hcells hg hgood
        go_wp2_with fail
        clear g0 g7
        go_loop [8, 9] (fun i _ => ∃ m : Nat, m ≤ 8 ∧ i = .int .i64 m) (fun i _ => 8 - (intOf i).toNat)
        case atStart => exact ⟨0, Nat.zero_le _, rfl⟩
        case round =>
          obtain ⟨m, hm, rfl⟩ := hrel
          by_cases hlt : m < 8
          · have gm := HC.out m hlt
            have hmono := HM.out m hlt
            go_wp2_with fail
            go_loop [9] (fun i => ∃ t : Nat, t ≤ 8 ∧ i = .int .i64 t) (fun i => 8 - (intOf i).toNat)
            case atStart => exact ⟨0, Nat.zero_le _, rfl⟩
            case round =>
              obtain ⟨t, ht, rfl⟩ := hrel
              by_cases hlt2 : t < 8
              · have gt := HC.out t hlt2
                have hmo := hmono t hlt2
                have qq := i64_and_eq m t (by omega) (by omega)
                clear hmono
                generalize got m = x at *
                generalize got t = y at *
                generalize ((m &&& t) == m) = c at *
                have hcases : (c = false) ∨ (c = true ∧ x = false) ∨ (c = true ∧ x = true ∧ y = true) := by
                  cases c
                  · exact .inl rfl
                  · cases x
                    · exact .inr (.inl ⟨rfl, rfl⟩)
                    · exact .inr (.inr ⟨rfl, rfl, hmo rfl rfl⟩)
                clear hmo
                rcases hcases with rfl | ⟨rfl, rfl⟩ | ⟨rfl, rfl, rfl⟩
                all_goals
                  go_wp2_with fail
                  go_round
                  case rel => exact ⟨t + 1, by omega, by go_num⟩
                  case measure => simp [intOf]; omega
              · clear hmono
                go_wp2_with fail
                go_round
                case rel => exact ⟨m + 1, by omega, by go_num⟩
                case measure => simp [intOf]; omega
          · go_wp2_with fail
            go_ret
            exact ⟨rfl, hbel⟩

end Go.Proofs.Qxb6002787a
