import Derived.Test.Qxb6002787aCopy
namespace Go.Proofs.Qxb6002787a
open Go.RowKit

/-- 'make([]T, n, m)': the law for whatever length within the capacity. -/
theorem wpList_make_part {P : Program} (w : World) {ops : Array Oper} {rest : List Oper} {o : Oper} {a : Act} {Q : Exit → Act → World → Prop}
    (hg : o.guard = none) (l c : Operand) (t : TypeId) (hop : o.op = Op.makeSlice t l c)
    (base : Nat) (e : TypeId) (i : TypeInfo) (z : Value) (h1 : P.underlying t = some (.slice e)) (h2 : P.info? e = some i) (h3 : i.zero = some z) (h4 : i.size = 1)
    (kl kc : IntKind) (L C : Int) (n m : Nat) (hl : a.eval l = .int kl L) (hc : a.eval c = .int kc C) (hL : L = (n : Int)) (hC : C = (m : Int)) (hnm : n ≤ m) (b2 : (i.bytes : Int) * (m : Int) ≤ 281474976710656) (b3 : m ≤ maxLen) (b4 : base ≤ w.heap.size)
    (hK : ∀ w' xs, w'.ownsRow base e 1 (.slice (some ⟨w.heap.size, 0, none⟩) n m) n xs → w.grownBy w' none → wpList P ops Q rest (a.put o.dst (.slice (some ⟨w.heap.size, 0, none⟩) n m)) w') :
    wpList P ops Q (o :: rest) a w := by
  refine wpList_plain hg fun K hK' => ?_
  have b3' : (m : Int) ≤ 9223372036854775807 := by
    have h := b3
    simp only [maxLen] at h
    omega
  have hr := run_make (P := P) w t e i z h1 h2 h3 kl kc n m (by omega) (by omega) b2 b3'
  simp only [Int.toNat_natCast, h4, Nat.mul_one] at hr
  subst hL
  subst hC
  unfold Oper.wp
  simp [execOp, hop, hl, hc, hr, Result.andThen]
  refine hK' _ _ (hK _ ((madeCells z.cells m).toList.take n) ⟨?_, .inr ⟨w.heap.size, m, _, rfl, b4, heap_alloc_new w _, hnm, b3, by simp [size_madeCells], by simp⟩⟩ (World.grownBy_alloc w _ none))
  simp [size_madeCells]
  omega

/-- A hexadecimal digit in either case. -/
def wd (up : Bool) (d : Int) : Int := if d < 10 then 48 + d else if up then 55 + d else 87 + d

theorem wd_low (d : Int) (h0 : 0 ≤ d) (h1 : d < 16) : ∀ h, ((({ data := #[48, 49, 50, 51, 52, 53, 54, 55, 56, 57, 97, 98, 99, 100, 101, 102] } : ByteArray)[d.toNat]'h).toNat : Int) = wd false d := by
  intro h
  obtain ⟨n, rfl⟩ := Int.eq_ofNat_of_zero_le h0
  match n, h1 with
  | 0, _ => rfl
  | 1, _ => rfl
  | 2, _ => rfl
  | 3, _ => rfl
  | 4, _ => rfl
  | 5, _ => rfl
  | 6, _ => rfl
  | 7, _ => rfl
  | 8, _ => rfl
  | 9, _ => rfl
  | 10, _ => rfl
  | 11, _ => rfl
  | 12, _ => rfl
  | 13, _ => rfl
  | 14, _ => rfl
  | 15, _ => rfl
  | n + 16, h => omega

theorem wd_up (d : Int) (h0 : 0 ≤ d) (h1 : d < 16) : ∀ h, ((({ data := #[48, 49, 50, 51, 52, 53, 54, 55, 56, 57, 65, 66, 67, 68, 69, 70] } : ByteArray)[d.toNat]'h).toNat : Int) = wd true d := by
  intro h
  obtain ⟨n, rfl⟩ := Int.eq_ofNat_of_zero_le h0
  match n, h1 with
  | 0, _ => rfl
  | 1, _ => rfl
  | 2, _ => rfl
  | 3, _ => rfl
  | 4, _ => rfl
  | 5, _ => rfl
  | 6, _ => rfl
  | 7, _ => rfl
  | 8, _ => rfl
  | 9, _ => rfl
  | 10, _ => rfl
  | 11, _ => rfl
  | 12, _ => rfl
  | 13, _ => rfl
  | 14, _ => rfl
  | 15, _ => rfl
  | n + 16, h => omega

theorem wd_val (up : Bool) (d : Int) (h0 : 0 ≤ d) (h1 : d < 16) : hexVal (wd up d) = some d := by
  unfold wd
  split
  · rw [hexVal_num (by omega) (by omega)]; congr 1; omega
  · split
    · rw [hexVal_up (by omega) (by omega)]; congr 1; omega
    · rw [hexVal_low (by omega) (by omega)]; congr 1; omega

/-- The four digits of u, the highest first. -/
def udig (u : Int) : Nat → Int
  | 0 => u / 4096 % 16 | 1 => u / 256 % 16 | 2 => u / 16 % 16 | _ => u % 16

theorem udig_bd (u : Int) (j : Nat) : 0 ≤ udig u j ∧ udig u j < 16 := by
  unfold udig
  split <;> omega

theorem udig_val (up : Bool) (u : Int) (n : Nat) (h0 : 0 ≤ u) (h1 : u ≤ 65535) (hn : 4 ≤ n) : hexOf n (fun j => wd up (udig u j)) = some u := by
  have e : ∀ j, hexVal (wd up (udig u j)) = some (udig u j) := fun j => wd_val up _ (udig_bd u j).1 (udig_bd u j).2
  have hn' : ¬ n < 4 := by omega
  simp [hexOf, hn', hexPre, e]
  simp [udig]
  omega

theorem u16_and15 (x : Int) (h0 : 0 ≤ x) (h1 : x < 65536) : bits .and .u16 x 15 = x % 16 :=
  bits_mask .u16 16 (by decide) (fun n h₀ h₁ => by simp [IntKind.wrap, IntKind.bits, IntKind.signed]; omega) 4 (by decide) x h0 h1

set_option maxHeartbeats 400000 in
theorem c18_yes (a0 : Int) (q : Bool) (a : Option Addr) (len cap : Nat) (w : World) (h : len ≤ 1048576) : Calls Try.prog 18 #[.int .u16 a0, .bool q, .slice a len cap] w fun e w' => e = .returned (.bool true) ∧ w' = w := by
  go_enter Try.func18, Try.ntmps18
  go_wp2
  go_ret
  exact ⟨rfl, rfl⟩

set_option maxHeartbeats 400000 in
theorem c18_no (a0 : Int) (q : Bool) (a : Option Addr) (len cap : Nat) (w : World) (h : ¬ len ≤ 1048576) : Calls Try.prog 18 #[.int .u16 a0, .bool q, .slice a len cap] w fun e w' => e = .returned (.bool false) ∧ w' = w := by
  go_enter Try.func18, Try.ntmps18
  go_wp2
  go_ret
  exact ⟨rfl, rfl⟩

set_option maxHeartbeats 400000 in
theorem write_no (a0 : Int) (q : Bool) (a : Option Addr) (len cap : Nat) (w : World) (h : ¬ len ≤ 1048576) : Calls Try.prog 7 #[.int .u16 a0, .bool q, .slice a len cap] w fun e w' => e = .returned (.bool true) ∧ Below w.heap.size w w' := by
  have h18 := c18_no a0 q a len cap w h
  go_enter Try.func7, Try.ntmps7
  go_wp2_with (go_at_call 18; refine h18.mono ?_; rintro e w' ⟨rfl, rfl⟩)
  go_ret
  exact ⟨rfl, Below.refl _ _⟩

set_option maxHeartbeats 400000 in
theorem write_long (a0 : Int) (q : Bool) (a : Option Addr) (len cap : Nat) (w : World) (h : len ≤ 1048576) (h' : ¬ len ≤ 65536) : Calls Try.prog 7 #[.int .u16 a0, .bool q, .slice a len cap] w fun e w' => e = .returned (.bool true) ∧ Below w.heap.size w w' := by
  have h18 := c18_yes a0 q a len cap w h
  go_enter Try.func7, Try.ntmps7
  go_wp2_with (go_at_call 18; refine h18.mono ?_; rintro e w' ⟨rfl, rfl⟩)
  go_ret
  exact ⟨rfl, Below.refl _ _⟩

set_option maxHeartbeats 1600000 in
theorem write_walk (u : Int) (q : Bool) (a : Option Addr) (len cap : Nat) (zs : List Int) (w : World) (hu0 : 0 ≤ u) (hu1 : u ≤ 65535) (h : len ≤ 65536) (hr : IsRow .u8 w a len cap zs) (hzl : len ≤ zs.length) :
    Calls Try.prog 7 #[.int .u16 u, .bool q, .slice a len cap] w fun e w' => e = .returned (.bool true) ∧ Below w.heap.size w w' := by
  obtain ⟨i0, hi, hz0, hz1, hz2⟩ := info_parts Try.inf5
  have h18 := c18_yes u q a len cap w (by omega)
  have h10 := c10 w a len cap zs hr (by omega)
  clear hr
  go_enter Try.func7, Try.ntmps7
  go_wp2_with (go_at_call 18; refine h18.mono ?_; rintro e w' ⟨rfl, rfl⟩)
  rename_i w0
  clear h18
  refine h10.mono ?_
  rintro e w1 ⟨a', cap', rfl, hb1, hcp, hnone, hcap⟩
  clear h10
  go_wp2_with (at_make; refine wpList_make_part _ rfl (.const (.int .i64 4)) (.tmp 24) 22 rfl w1.heap.size 5 i0 (.int .u8 0) Try.underlying22 hi hz0 hz1 .i64 .i64 4 (4 + len) 4 (4 + len) rfl rfl rfl (by omega) (by omega) (by rw [hz2]; omega) (by unfold maxLen; omega) (Nat.le_refl _) ?_)
  intro w2 xs hown hgr
  have hb2 : Below w1.heap.size w1 w2 := (Below.refl _ _).grown hgr (Nat.le_refl _) (fun k h => by cases h)
  clear hgr
  go_wp2_with fail
  go_loopw [8] (fun i wr => ∃ (k : Nat) (xs : List Value), k ≤ 4 ∧ i = .int .i64 k ∧ wr.ownsRow w1.heap.size 5 1 (.slice (some ⟨w1.heap.size, 0, none⟩) 4 (4 + len)) 4 xs ∧
      (∀ j, j < k → xs[j]? = some (.int .u8 (wd q (udig u j)))) ∧ Below w1.heap.size w1 wr) (fun i _ => 4 - (intOf i).toNat)
  case atStart => exact ⟨0, xs, Nat.zero_le _, rfl, hown, fun j hj => by omega, hb2⟩
  case round =>
    clear hown hb2
    obtain ⟨k, xs, hk, rfl, hown, hxs, hbel⟩ := hrel
    have hxl : xs.length = 4 := by simpa using hown.1
    by_cases hlt : k < 4
    · have hd := udig_bd u k
      obtain ⟨old, hcd⟩ : ∃ old, wr.cell? ⟨w1.heap.size, k, none⟩ = some old := ⟨xs[k], by rw [hown.cellAt k (by omega)]; simp [hxl, hlt]⟩
      have hfd := hown.frozenAt k
      have HS := hown.stored k (.int .u8 (wd q (udig u k)))
      have HX : Hid (xs.length = 4) := hxl
      have HXS : Hid (∀ j, j < k → xs[j]? = some (.int .u8 (wd q (udig u j)))) := hxs
      clear hxl hxs hown
      have HST : Hid (∀ j, j < k + 1 → (xs.set k (.int .u8 (wd q (udig u k))))[j]? = some (.int .u8 (wd q (udig u j)))) := by
        have : ∀ j, j < k + 1 → (xs.set k (.int .u8 (wd q (udig u k))))[j]? = some (.int .u8 (wd q (udig u j))) := by
          intro j hj
          by_cases hjk : j = k
          · subst hjk
            rw [List.getElem?_set_self (by rw [HX.out]; exact hlt)]
          · rw [List.getElem?_set_ne (by omega)]
            exact HXS.out j (by omega)
        exact this
      rcases (show k = 0 ∨ k = 1 ∨ k = 2 ∨ k = 3 by omega) with h | h | h | h
      · subst h
        have q4 : bits .and .u16 (u / 4096) 15 = udig u 0 := u16_and15 (u / 4096) (by omega) (by omega)
        generalize udig u 0 = d at *
        obtain ⟨hd0, hd1⟩ := hd
        cases q
        · have q5 := wd_low d hd0 hd1
          go_wp2_with fail
          go_roundw
          case rel => exact ⟨0 + 1, xs.set 0 (.int .u8 (wd false d)), by omega, by go_num, HS.1, HST.out, hbel.setCell (Nat.le_refl _) _⟩
          case measure => simp [intOf]
        · have q5 := wd_up d hd0 hd1
          go_wp2_with fail
          go_roundw
          case rel => exact ⟨0 + 1, xs.set 0 (.int .u8 (wd true d)), by omega, by go_num, HS.1, HST.out, hbel.setCell (Nat.le_refl _) _⟩
          case measure => simp [intOf]
      · subst h
        have q4 : bits .and .u16 (u / 256) 15 = udig u 1 := u16_and15 (u / 256) (by omega) (by omega)
        generalize udig u 1 = d at *
        obtain ⟨hd0, hd1⟩ := hd
        cases q
        · have q5 := wd_low d hd0 hd1
          go_wp2_with fail
          go_roundw
          case rel => exact ⟨1 + 1, xs.set 1 (.int .u8 (wd false d)), by omega, by go_num, HS.1, HST.out, hbel.setCell (Nat.le_refl _) _⟩
          case measure => simp [intOf]
        · have q5 := wd_up d hd0 hd1
          go_wp2_with fail
          go_roundw
          case rel => exact ⟨1 + 1, xs.set 1 (.int .u8 (wd true d)), by omega, by go_num, HS.1, HST.out, hbel.setCell (Nat.le_refl _) _⟩
          case measure => simp [intOf]
      · subst h
        have q4 : bits .and .u16 (u / 16) 15 = udig u 2 := u16_and15 (u / 16) (by omega) (by omega)
        generalize udig u 2 = d at *
        obtain ⟨hd0, hd1⟩ := hd
        cases q
        · have q5 := wd_low d hd0 hd1
          go_wp2_with fail
          go_roundw
          case rel => exact ⟨2 + 1, xs.set 2 (.int .u8 (wd false d)), by omega, by go_num, HS.1, HST.out, hbel.setCell (Nat.le_refl _) _⟩
          case measure => simp [intOf]
        · have q5 := wd_up d hd0 hd1
          go_wp2_with fail
          go_roundw
          case rel => exact ⟨2 + 1, xs.set 2 (.int .u8 (wd true d)), by omega, by go_num, HS.1, HST.out, hbel.setCell (Nat.le_refl _) _⟩
          case measure => simp [intOf]
      · subst h
        have q4 : bits .and .u16 (u) 15 = udig u 3 := u16_and15 (u) (by omega) (by omega)
        generalize udig u 3 = d at *
        obtain ⟨hd0, hd1⟩ := hd
        cases q
        · have q5 := wd_low d hd0 hd1
          go_wp2_with fail
          go_roundw
          case rel => exact ⟨3 + 1, xs.set 3 (.int .u8 (wd false d)), by omega, by go_num, HS.1, HST.out, hbel.setCell (Nat.le_refl _) _⟩
          case measure => simp [intOf]
        · have q5 := wd_up d hd0 hd1
          go_wp2_with fail
          go_roundw
          case rel => exact ⟨3 + 1, xs.set 3 (.int .u8 (wd true d)), by omega, by go_num, HS.1, HST.out, hbel.setCell (Nat.le_refl _) _⟩
          case measure => simp [intOf]
    · obtain rfl : k = 4 := by omega
      obtain ⟨news, hnl, hnews⟩ : ∃ news : List Value, news = (zs.take len).map (Value.int .u8) ∧ news.length = len := ⟨_, rfl, by simp; omega⟩
      have HN : Hid (news = (zs.take len).map (Value.int .u8)) := hnl
      clear hnl
      have hcells : ∀ ad, a' = some ad → ∀ j x, news[j]? = some x → wr.cell? (ad.add j) = some x := by
        intro ad had j x hx
        have hj : j < len := by have := (List.getElem?_eq_some_iff.1 hx).1; omega
        obtain ⟨g, hg, _, hg1, hcell⟩ := hcp j hj
        obtain rfl : ad = ⟨g, 0, none⟩ := by rw [had] at hg; simpa using hg
        rw [show (⟨g, 0, none⟩ : Addr).add j = ⟨g, j, none⟩ by unfold Addr.add; split <;> simp_all, hbel.cell (p := ⟨g, j, none⟩) hg1, hcell, ← hx, HN.out]
        simp [List.getD, hj, show j < zs.length by omega]
      have hone : ∀ x ∈ news, x.oneCell' = true := by
        intro x hx
        rw [HN.out] at hx
        obtain ⟨y, _, rfl⟩ := List.mem_map.1 hx
        rfl
      clear hcp
      go_wp2_with (at_builtin; refine wpList_append_fits_any _ rfl (.tmp 48) (.tmp 49) 22 rfl w1.heap.size 5 i0 1 Try.underlying22 hi hz1 w1.heap.size 4 (4 + len) xs rfl hown a' len cap' news rfl (by rw [hnews]; omega) hnone hcells hone (by omega) ?_)
      intro w3 hown3 hgr3
      have hb3 : Below w1.heap.size w1 w3 := hbel.grown hgr3 hbel.size (fun k e => by simp at e; omega)
      have h15 := c15 w3 (some ⟨w1.heap.size, 0, none⟩) (4 + len) (4 + len) (fun j => wd q (udig u j)) (Nat.le_refl _) (fun _ => ⟨w1.heap.size, 0, rfl, fun i hi => by
        rw [Nat.zero_add, hown3.cellAt i (by omega), List.getElem?_append_left (by omega)]
        exact hxs i hi⟩)
      rw [udig_val q u (4 + len) hu0 hu1 (by omega)] at h15
      simp only [Option.getD_some, Option.isSome_some] at h15
      clear hown3 hgr3 hown hxs hcells hone hnews hnone hbel
      go_wp2_with (go_at_call 15; refine h15.mono ?_; rintro e w4 ⟨rfl, rfl⟩)
      go_ret
      exact ⟨rfl, hb1.trans (hb3.mono hb1.size)⟩

end Go.Proofs.Qxb6002787a
