import Derived.Test.Qxb6002787aHex
namespace Go.Proofs.Qxb6002787a
open Go.RowKit

theorem Try.inf5 : (Try.prog.info? 5).map (fun i => (i.zero, i.size, i.bytes)) = some (some (.int .u8 0), 1, 1) := by kernel_rfl

/-- A slice of bytes that came in: nil, or a row of 'cap' cells. -/
def IsRow (k : IntKind) (w : World) (a : Option Addr) (len cap : Nat) (zs : List Int) : Prop :=
  (a = none ∧ len = 0 ∧ cap = 0 ∧ zs = []) ∨
  ∃ x, a = some x ∧ len ≤ cap ∧ cap ≤ maxLen ∧ zs.length = cap ∧ (∀ i, i < zs.length → w.cell? (x.add i) = some (.int k (zs.getD i 0))) ∧ ∀ n ∈ zs, (Lit.int k n).wf = true

/-- The copy: its cells lie at the head of a block from B on. -/
def IsCopy (w : World) (B : Nat) (a : Option Addr) (len : Nat) (zs : List Int) : Prop :=
  ∀ j, j < len → ∃ g, a = some ⟨g, 0, none⟩ ∧ B ≤ g ∧ g < w.heap.size ∧ w.cell? ⟨g, j, none⟩ = some (.int .u8 (zs.getD j 0))

theorem row_at {w : World} {x : Addr} {zs : List Int} {k : IntKind} (hc : ∀ i, i < zs.length → w.cell? (x.add i) = some (.int k (zs.getD i 0))) (h : 0 < zs.length) :
    ∃ b off, x = ⟨b, off, none⟩ ∧ b < w.heap.size ∧ ∀ i, i < zs.length → w.cell? ⟨b, off + i, none⟩ = some (.int k (zs.getD i 0)) := by
  obtain ⟨b, off, spot⟩ := x
  have hspot : spot = none := by simpa [Addr.add] using World.cell?_spot (hc 0 h)
  subst hspot
  refine ⟨b, off, rfl, ?_, fun i hi => ?_⟩
  · have := World.block_lt_of_cell? w _ (hc 0 h)
    exact this
  · have := hc i hi
    rwa [show (⟨b, off, none⟩ : Addr).add i = ⟨b, off + i, none⟩ by unfold Addr.add; split <;> simp_all] at this

set_option maxHeartbeats 800000 in
theorem c10_row (w : World) (b off len cap : Nat) (zs : List Int) (h0 : len ≤ 1048576) (hb : 0 < len → b < w.heap.size)
    (hc : ∀ i, i < len → w.cell? ⟨b, off + i, none⟩ = some (.int .u8 (zs.getD i 0))) (x : Addr) (hx : 0 < len → x = ⟨b, off, none⟩) :
    Calls Try.prog 10 #[.slice (some x) len cap] w fun e w' => e = .returned (.slice (some ⟨w.heap.size, 0, none⟩) len len) ∧ Below w.heap.size w w' ∧ w.heap.size < w'.heap.size ∧
      ∀ j, j < len → w'.cell? ⟨w.heap.size, j, none⟩ = some (.int .u8 (zs.getD j 0)) := by
  obtain ⟨i0, hi, hz0, hz1, hz2⟩ := info_parts Try.inf5
  have hnil : ∀ wx, (binOp .eql 22 (.slice (some x) len cap) (.slice none 0 0)).run Try.prog wx = .ok (.bool false) wx := fun wx => by
    rw [Lib.run_eql_slice_nil wx 22 5 (some x) len cap 0 0 Try.underlying22]; rfl
  have HB : Hid (0 < len → b < w.heap.size) := hb
  clear hb
  go_enter Try.func10, Try.ntmps10
  go_wp2_with (at_make; refine wpList_make_full _ rfl (.tmp 8) (.tmp 8) 22 rfl w.heap.size 5 i0 (.int .u8 0) 1 Try.underlying22 hi hz0 hz1 .i64 .i64 len len len rfl rfl rfl rfl (by rw [hz2]; omega) (by unfold maxLen; omega) (Nat.le_refl _) ?_)
  intro w1 hown hgr
  have hsz : w.heap.size < w1.heap.size := (hown.lt _ rfl).2
  have hbel : Below w.heap.size w w1 := (Below.refl _ _).grown hgr (Nat.le_refl _) (fun k h => by cases h)
  obtain ⟨xs, hown⟩ : ∃ xs, w1.ownsRow w.heap.size 5 1 (.slice (some ⟨w.heap.size, 0, none⟩) len len) len xs := ⟨_, hown⟩
  clear hgr
  go_wp2_with fail
  go_loopw [4] (fun i wr => ∃ (k : Nat) (xs : List Value), k ≤ len ∧ i = .int .i64 k ∧ wr.ownsRow w.heap.size 5 1 (.slice (some ⟨w.heap.size, 0, none⟩) len len) len xs ∧
      (∀ j, j < k → xs[j]? = some (.int .u8 (zs.getD j 0))) ∧ Below w.heap.size w wr ∧ w.heap.size < wr.heap.size) (fun i _ => len - (intOf i).toNat)
  case atStart => exact ⟨0, xs, Nat.zero_le _, rfl, hown, fun j hj => by omega, hbel, hsz⟩
  case round =>
    clear hown hbel hsz
    obtain ⟨k, xs, hk, rfl, hown, hxs, hbel, hsz⟩ := hrel
    by_cases hlt : k < len
    · obtain rfl := hx (by omega)
      have hcs : wr.cell? ⟨b, off + k, none⟩ = some (.int .u8 (zs.getD k 0)) := (hbel.cell (p := ⟨b, off + k, none⟩) (HB.out (by omega))).trans (hc k hlt)
      have hxl : xs.length = len := by simpa using hown.1
      obtain ⟨old, hcd⟩ : ∃ old, wr.cell? ⟨w.heap.size, k, none⟩ = some old := ⟨xs[k], by rw [hown.cellAt k (by omega)]; simp [hxl, hlt]⟩
      have hfd := hown.frozenAt k
      have HS := hown.stored k (.int .u8 (zs.getD k 0))
      have HX : Hid (xs.length = len) := hxl
      have HXS : Hid (∀ j, j < k → xs[j]? = some (.int .u8 (zs.getD j 0))) := hxs
      have HCC : Hid (∀ i, i < len → w.cell? ⟨b, off + i, none⟩ = some (.int .u8 (zs.getD i 0))) := hc
      clear hxl hxs hown hc
      go_wp2_with fail
      go_roundw
      case rel =>
        refine ⟨k + 1, xs.set k (.int .u8 (zs.getD k 0)), by omega, by go_num, HS.1, ?_, hbel.setCell (Nat.le_refl _) _, ?_⟩
        · intro j hj
          by_cases hjk : j = k
          · subst hjk
            rw [List.getElem?_set_self (by rw [HX.out]; exact hlt)]
          · rw [List.getElem?_set_ne (by omega)]
            exact HXS.out j (by omega)
        · exact Nat.lt_of_lt_of_le hsz HS.2.size
      case measure => simp [intOf]; omega
    · go_wp2_with fail
      go_ret
      refine ⟨rfl, hbel, hsz, fun j hj => ?_⟩
      rw [hown.cellAt j (by omega)]
      exact hxs j (by omega)

set_option maxHeartbeats 400000 in
theorem c10_nil (w : World) : Calls Try.prog 10 #[.slice none 0 0] w fun e w' => e = .returned (.slice none 0 0) ∧ w' = w := by
  have hnil : ∀ wx, (binOp .eql 22 (.slice none 0 0) (.slice none 0 0)).run Try.prog wx = .ok (.bool true) wx := fun wx => by
    rw [Lib.run_eql_slice_nil wx 22 5 none 0 0 0 0 Try.underlying22]; rfl
  go_enter Try.func10, Try.ntmps10
  go_wp2_with fail
  go_ret
  exact ⟨rfl, rfl⟩

theorem c10 (w : World) (a : Option Addr) (len cap : Nat) (zs : List Int) (hr : IsRow .u8 w a len cap zs) (h0 : len ≤ 1048576) :
    Calls Try.prog 10 #[.slice a len cap] w fun e w' => ∃ a' cap', e = .returned (.slice a' len cap') ∧ Below w.heap.size w w' ∧ IsCopy w' w.heap.size a' len zs ∧ (a' = none → len = 0 ∧ cap' = 0) ∧ len ≤ cap' := by
  rcases hr with ⟨rfl, rfl, rfl, rfl⟩ | ⟨x, rfl, hl, hm, hz, hc, hwf⟩
  · refine (c10_nil w).mono ?_
    rintro e w' ⟨rfl, rfl⟩
    exact ⟨none, 0, rfl, Below.refl _ _, fun j hj => by omega, fun _ => ⟨rfl, rfl⟩, Nat.le_refl _⟩
  · by_cases hpos : 0 < len
    · obtain ⟨b, off, rfl, hb, hc'⟩ := row_at hc (by omega)
      refine (c10_row w b off len cap zs h0 (fun _ => hb) (fun i hi => hc' i (by omega)) ⟨b, off, none⟩ (fun _ => rfl)).mono ?_
      rintro e w' ⟨rfl, hbel, hsz, hcell⟩
      exact ⟨_, _, rfl, hbel, fun j hj => ⟨_, rfl, Nat.le_refl _, hsz, hcell j hj⟩, (fun h => by cases h), Nat.le_refl _⟩
    · refine (c10_row w 0 0 len cap zs h0 (fun h => by omega) (fun i hi => by omega) x (fun h => by omega)).mono ?_
      rintro e w' ⟨rfl, hbel, hsz, hcell⟩
      exact ⟨_, _, rfl, hbel, fun j hj => ⟨_, rfl, Nat.le_refl _, hsz, hcell j hj⟩, (fun h => by cases h), Nat.le_refl _⟩

end Go.Proofs.Qxb6002787a
