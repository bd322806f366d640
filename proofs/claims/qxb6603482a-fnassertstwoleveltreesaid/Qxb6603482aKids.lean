import Derived.Test.Qxb6603482aCopy
namespace Go.Proofs.Qxb6603482a
open Go.RowKit

/-- The kids that came in, by index: operator, the children's slice (address, length, capacity). -/
def KidCells (w : World) (a : Option Addr) (b off len : Nat) (op : Nat → Int) (ad : Nat → Option Addr) (ln cp : Nat → Nat) : Prop :=
  (0 < len → a = some ⟨b, off, none⟩ ∧ b < w.heap.size) ∧
  ∀ i, i < len → w.cell? ⟨b, off + i * 2, none⟩ = some (.int .u8 (op i)) ∧ w.cell? ⟨b, off + i * 2 + 1, none⟩ = some (.slice (ad i) (ln i) (cp i))

/-- It returned a bool. -/
def AnyBool (e : Ending) : Prop := ∃ r, e = .returned (.bool r)

set_option maxHeartbeats 800000 in
theorem c11 (w : World) (a0 : Int) (a : Option Addr) (b off len cap : Nat) (op : Nat → Int) (ad : Nat → Option Addr) (ln cp : Nat → Nat) (hk : KidCells w a b off len op ad ln cp) :
    Calls Try.prog 11 #[.int .u8 a0, .slice a len cap] w fun e w' => AnyBool e ∧ w' = w := by
  obtain ⟨ha, hc⟩ := hk
  by_cases h1 : len ≤ 1048576
  · go_enter Try.func11, Try.ntmps11
    go_wp2_with fail
    go_loop [5, 6] (fun s i => ∃ (k : Nat) (z : Int), k ≤ len ∧ i = .int .i64 k ∧ s = .int .i64 z ∧ 0 ≤ z ∧ z ≤ 1048576) (fun _ i => len - (intOf i).toNat)
    case atStart => exact ⟨0, len, Nat.zero_le _, rfl, by simp, by omega, by omega⟩
    case round =>
      obtain ⟨k, z, hk, rfl, rfl, hz0, hz1⟩ := hrel
      by_cases hlt : k < len
      · obtain ⟨rfl, hb⟩ := ha (by omega)
        obtain ⟨c0, c1⟩ := hc k hlt
        clear hc ha
        generalize ln k = n at *
        by_cases h2 : n ≤ 1048576
        · by_cases h3 : z + n ≤ 1048576
          · go_wp2_with fail
            go_round
            case rel => exact ⟨k + 1, z + n, by omega, by go_num, rfl, by omega, by omega⟩
            case measure => simp [intOf]; omega
          · go_wp2_with fail
            go_ret
            exact ⟨⟨false, rfl⟩, rfl⟩
        · go_wp2_with fail
          go_ret
          exact ⟨⟨false, rfl⟩, rfl⟩
      · go_wp2_with fail
        go_ret
        exact ⟨⟨true, rfl⟩, rfl⟩
  · go_enter Try.func11, Try.ntmps11
    go_wp2_with fail
    go_ret
    exact ⟨⟨false, rfl⟩, rfl⟩

theorem Try.info32 : (Try.prog.info? 32).map (fun i => (i.zero, i.size, i.bytes)) = some (some (.agg #[.int .u8 0, .slice none 0 0]), 2, 32) := by kernel_rfl

theorem IsCopy.weak {w : World} {B B' : Nat} {a : Option Addr} {len : Nat} {zs : List Int} (h : IsCopy w B a len zs) (hB : B' ≤ B) : IsCopy w B' a len zs := by
  intro j hj
  obtain ⟨g, h1, h2, h3, h4⟩ := h j hj
  exact ⟨g, h1, by omega, h3, h4⟩

theorem IsCopy.keep {w w' : World} {B : Nat} {a : Option Addr} {len : Nat} {zs : List Int} (h : IsCopy w B a len zs) (hs : w.heap.size ≤ w'.heap.size) (hw : ∀ k, B ≤ k → k < w.heap.size → w'.heap[k]? = w.heap[k]?) : IsCopy w' B a len zs := by
  intro j hj
  obtain ⟨g, h1, h2, h3, h4⟩ := h j hj
  exact ⟨g, h1, h2, by omega, (World.cell?_of_block (a := ⟨g, j, none⟩) (hw g h2 h3)).trans h4⟩

/-- The first k kids of the copy, whose array is block g. -/
def KidsCopy (w : World) (g k : Nat) (op : Nat → Int) (ln : Nat → Nat) (zs : Nat → List Int) : Prop :=
  ∀ j, j < k → w.cell? ⟨g, j * 2, none⟩ = some (.int .u8 (op j)) ∧ ∃ a1 c1, w.cell? ⟨g, j * 2 + 1, none⟩ = some (.slice a1 (ln j) c1) ∧ IsCopy w (g + 1) a1 (ln j) (zs j)

theorem size_setCell (w : World) (a : Addr) (u : Value) : (w.setCell a u).heap.size = w.heap.size := by simp [World.setCell]

theorem grownBy_of_below {w w' : World} (h : Below w.heap.size w w') : w.grownBy w' none := ⟨h.os, h.tape, h.output, h.size, fun k hk _ => h.block k hk⟩

theorem IsRow.below {w w' : World} {a : Option Addr} {len cap : Nat} {zs : List Int} {k : IntKind} (h : IsRow k w a len cap zs) (hb : Below w.heap.size w w') : IsRow k w' a len cap zs := by
  rcases h with h | ⟨x, h1, h2, h3, h4, h5, h6⟩
  · exact Or.inl h
  · refine Or.inr ⟨x, h1, h2, h3, h4, fun i hi => ?_, h6⟩
    exact (hb.cell (World.block_lt_of_cell? w _ (h5 i hi))).trans (h5 i hi)

theorem KidsCopy.step {wr w3 : World} {g k : Nat} {op : Nat → Int} {ln : Nat → Nat} {zs : Nat → List Int} {old old2 : Value} {a1 : Option Addr} {c1 : Nat} (hk : KidsCopy wr g k op ln zs) (hg : g < wr.heap.size)
    (ho : wr.cell? ⟨g, k * 2, none⟩ = some old) (hb : Below wr.heap.size (wr.setCell ⟨g, k * 2, none⟩ (.int .u8 (op k))) w3) (hcp : IsCopy w3 wr.heap.size a1 (ln k) (zs k)) (ho2 : w3.cell? ⟨g, k * 2 + 1, none⟩ = some old2) :
    KidsCopy (w3.setCell ⟨g, k * 2 + 1, none⟩ (.slice a1 (ln k) c1)) g (k + 1) op ln zs := by
  have hs3 : wr.heap.size ≤ w3.heap.size := by have := hb.size; rwa [size_setCell] at this
  have hother : ∀ x, g + 1 ≤ x → x < wr.heap.size → (w3.setCell ⟨g, k * 2 + 1, none⟩ (.slice a1 (ln k) c1)).heap[x]? = wr.heap[x]? := fun x h1 h2 => by
    rw [Below.heap_setCell _ _ _ _ (show x ≠ g by omega), hb.block x h2, Below.heap_setCell _ _ _ _ (show x ≠ g by omega)]
  have hcell : ∀ i, i ≠ k * 2 → i ≠ k * 2 + 1 → (w3.setCell ⟨g, k * 2 + 1, none⟩ (.slice a1 (ln k) c1)).cell? ⟨g, i, none⟩ = wr.cell? ⟨g, i, none⟩ := fun i h1 h2 => by
    have e1 := World.cell?_setCell_other w3 ⟨g, k * 2 + 1, none⟩ ⟨g, i, none⟩ (.slice a1 (ln k) c1) (fun h => by have := congrArg Addr.off h; simp at this; omega)
    have e2 := World.cell?_setCell_other wr ⟨g, k * 2, none⟩ ⟨g, i, none⟩ (.int .u8 (op k)) (fun h => by have := congrArg Addr.off h; simp at this; omega)
    rw [e1, hb.cell (p := ⟨g, i, none⟩) hg, e2]
  intro j hj
  by_cases hjk : j = k
  · subst hjk
    refine ⟨?_, a1, c1, ?_, ?_⟩
    · have e1 := World.cell?_setCell_other w3 ⟨g, j * 2 + 1, none⟩ ⟨g, j * 2, none⟩ (.slice a1 (ln j) c1) (by simp)
      rw [e1, hb.cell (p := ⟨g, j * 2, none⟩) hg]
      exact World.cell?_setCell_same _ _ _ ho
    · exact World.cell?_setCell_same _ _ _ ho2
    · refine (hcp.weak (by omega)).keep (by rw [size_setCell]; exact Nat.le_refl _) (fun x h1 h2 => ?_)
      exact Below.heap_setCell _ _ _ _ (show x ≠ g by omega)
  · obtain ⟨h1, a2, c2, h2, h3⟩ := hk j (by omega)
    refine ⟨(hcell _ (by omega) (by omega)).trans h1, a2, c2, (hcell _ (by omega) (by omega)).trans h2, ?_⟩
    exact h3.keep (by rw [size_setCell]; exact hs3) hother

set_option maxHeartbeats 800000 in
theorem c12_row (w : World) (x : Addr) (b off len cap : Nat) (op : Nat → Int) (ad : Nat → Option Addr) (ln cp : Nat → Nat) (zs : Nat → List Int) (h0 : len ≤ 32768) (hk : KidCells w (some x) b off len op ad ln cp)
    (hln : ∀ i, i < len → ln i ≤ 1048576) (hrow : ∀ i, i < len → IsRow .u8 w (ad i) (ln i) (cp i) (zs i)) :
    Calls Try.prog 12 #[.slice (some x) len cap] w fun e w' => e = .returned (.slice (some ⟨w.heap.size, 0, none⟩) len len) ∧ Below w.heap.size w w' ∧ w.heap.size < w'.heap.size ∧ KidsCopy w' w.heap.size len op ln zs := by
  obtain ⟨ha, hc⟩ := hk
  obtain ⟨i0, hi, hz0, hz1, hz2⟩ := info_parts Try.info32
  have hnil : ∀ wx, (binOp .eql 28 (.slice (some x) len cap) (.slice none 0 0)).run Try.prog wx = .ok (.bool false) wx := fun wx => by
    rw [Lib.run_eql_slice_nil wx 28 32 (some x) len cap 0 0 Try.underlying28]; rfl
  go_enter Try.func12, Try.ntmps12
  go_wp2_with (at_make; refine wpList_make_full _ rfl (.tmp 8) (.tmp 8) 28 rfl w.heap.size 32 i0 (.agg #[.int .u8 0, .slice none 0 0]) 2 Try.underlying28 hi hz0 hz1 .i64 .i64 len len len rfl rfl rfl rfl (by rw [hz2]; omega) (by unfold maxLen; omega) (Nat.le_refl _) ?_)
  intro w1 hown hgr
  have hsz : w.heap.size < w1.heap.size := (hown.lt _ rfl).2
  have hbel : Below w.heap.size w w1 := (Below.refl _ _).grown hgr (Nat.le_refl _) (fun k h => by cases h)
  obtain ⟨xs, hown⟩ : ∃ xs, w1.ownsRow w.heap.size 32 2 (.slice (some ⟨w.heap.size, 0, none⟩) len len) len xs := ⟨_, hown⟩
  clear hgr
  go_wp2_with fail
  go_loopw [4] (fun i wr => ∃ (k : Nat) (xs : List Value), k ≤ len ∧ i = .int .i64 k ∧ wr.ownsRow w.heap.size 32 2 (.slice (some ⟨w.heap.size, 0, none⟩) len len) len xs ∧
      KidsCopy wr w.heap.size k op ln zs ∧ Below w.heap.size w wr ∧ w.heap.size < wr.heap.size) (fun i _ => len - (intOf i).toNat)
  case atStart => exact ⟨0, xs, Nat.zero_le _, rfl, hown, fun j hj => by omega, hbel, hsz⟩
  case round =>
    clear hown hbel hsz
    obtain ⟨k, xs, hk, rfl, hown, hkc, hbel, hsz⟩ := hrel
    by_cases hlt : k < len
    · obtain ⟨hx, hb⟩ := ha (by omega)
      obtain rfl : x = ⟨b, off, none⟩ := by simpa using hx
      obtain ⟨c0, c1⟩ := hc k hlt
      have d0 : wr.cell? ⟨b, off + k * 2, none⟩ = some (.int .u8 (op k)) := (hbel.cell (p := ⟨b, off + k * 2, none⟩) hb).trans c0
      have d1 : wr.cell? ⟨b, off + k * 2 + 1, none⟩ = some (.slice (ad k) (ln k) (cp k)) := (hbel.cell (p := ⟨b, off + k * 2 + 1, none⟩) hb).trans c1
      have hxl : xs.length = len * 2 := by simpa using hown.1
      obtain ⟨old, hcd⟩ : ∃ old, wr.cell? ⟨w.heap.size, k * 2, none⟩ = some old := ⟨xs[k * 2]'(by omega), by rw [hown.cellAt (k * 2) (by omega)]; simp⟩
      have hfd := hown.frozenAt (k * 2)
      have HK := hkc
      have HO := hown
      have hne : b ≠ w.heap.size := by omega
      have HX : Hid (xs.length = len * 2) := hxl
      clear hkc hown hxl c0 c1 hc hx
      have hr0 := hrow k hlt
      have hl0 := hln k hlt
      have HS := HO.stored (k * 2) (.int .u8 (op k))
      have hb1 : Below w.heap.size w (wr.setCell ⟨w.heap.size, k * 2, none⟩ (.int .u8 (op k))) := hbel.setCell (Nat.le_refl _) _
      have h14 := c14 _ _ _ _ _ (hr0.below hb1) hl0
      clear hr0 hl0
      go_wp2_with fail
      refine h14.mono ?_
      rintro e w3 ⟨a1, c1, rfl, hb3, hcp⟩
      rw [size_setCell] at hb3 hcp
      have HO3 := HS.1.kept (grownBy_of_below (by rw [size_setCell]; exact hb3)) (Or.inr (by simp [Value.ownBlock]))
      have hxl2 : (xs.set (k * 2) (Value.int IntKind.u8 (op k))).length = len * 2 := by rw [List.length_set]; exact HX.out
      obtain ⟨old2, ho2⟩ : ∃ old2, w3.cell? ⟨w.heap.size, k * 2 + 1, none⟩ = some old2 :=
        ⟨(xs.set (k * 2) (Value.int IntKind.u8 (op k)))[k * 2 + 1]'(by omega), by rw [HO3.cellAt (k * 2 + 1) (by omega)]; exact List.getElem?_eq_getElem _⟩
      clear hxl2
      have hf2 := HO3.frozenAt (k * 2 + 1)
      have HK4 := HK.step (c1 := c1) hsz hcd hb3 hcp ho2
      have HS4 := HO3.stored (k * 2 + 1) (.slice a1 (ln k) c1)
      have hb4 : Below w.heap.size w (w3.setCell ⟨w.heap.size, k * 2 + 1, none⟩ (.slice a1 (ln k) c1)) := (hb1.trans (hb3.mono (by omega))).setCell (Nat.le_refl _) _
      have hs4 : w.heap.size < (w3.setCell ⟨w.heap.size, k * 2 + 1, none⟩ (.slice a1 (ln k) c1)).heap.size := by
        have := hb3.size
        rw [size_setCell] at this ⊢
        omega
      clear h14 HS HO HO3 HK hcd hfd d0 d1 hb3 hcp hb1
      go_wp2_with fail
      go_roundw
      case rel => exact ⟨k + 1, _, by omega, by go_num, HS4.1, HK4, hb4, hs4⟩
      case measure => simp [intOf]; omega
    · go_wp2_with fail
      go_ret
      obtain rfl : k = len := by omega
      exact ⟨rfl, hbel, hsz, hkc⟩

set_option maxHeartbeats 400000 in
theorem c12_nil (w : World) : Calls Try.prog 12 #[.slice none 0 0] w fun e w' => e = .returned (.slice none 0 0) ∧ w' = w := by
  have hnil : ∀ wx, (binOp .eql 28 (.slice none 0 0) (.slice none 0 0)).run Try.prog wx = .ok (.bool true) wx := fun wx => by
    rw [Lib.run_eql_slice_nil wx 28 32 none 0 0 0 0 Try.underlying28]; rfl
  go_enter Try.func12, Try.ntmps12
  go_wp2_with fail
  go_ret
  exact ⟨rfl, rfl⟩

theorem c12 (w : World) (a : Option Addr) (b off len cap : Nat) (op : Nat → Int) (ad : Nat → Option Addr) (ln cp : Nat → Nat) (zs : Nat → List Int) (h0 : len ≤ 32768) (hnone : a = none → len = 0 ∧ cap = 0) (hk : KidCells w a b off len op ad ln cp)
    (hln : ∀ i, i < len → ln i ≤ 1048576) (hrow : ∀ i, i < len → IsRow .u8 w (ad i) (ln i) (cp i) (zs i)) :
    Calls Try.prog 12 #[.slice a len cap] w fun e w' => ∃ a' cap', e = .returned (.slice a' len cap') ∧ Below w.heap.size w w' ∧ ∀ i, i < len → ∃ g, a' = some ⟨g, 0, none⟩ ∧ g < w'.heap.size ∧ KidsCopy w' g len op ln zs := by
  cases a with
  | none =>
    obtain ⟨rfl, rfl⟩ := hnone rfl
    refine (c12_nil w).mono ?_
    rintro e w' ⟨rfl, rfl⟩
    exact ⟨none, 0, rfl, Below.refl _ _, fun i hi => by omega⟩
  | some x =>
    refine (c12_row w x b off len cap op ad ln cp zs h0 hk hln hrow).mono ?_
    rintro e w' ⟨rfl, hbel, hsz, hkc⟩
    exact ⟨_, _, rfl, hbel, fun i hi => ⟨_, rfl, hsz, hkc⟩⟩

end Go.Proofs.Qxb6603482a
