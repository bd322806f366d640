import Derived.Test.Qxb6602859aPrec
import Derived.RegionTactic
import Derived.BigRegion
namespace Go.Proofs.Qxb6602859a
open Go.RowKit Go.Maps

theorem c29 (w : World) (Bd cl cc : Nat) (ca : Option Addr) (cm : Nat → Bool) (nodes : Nat) (v : Value) (es : List (Int × Int × Int)) (h : Bld w Bd ca cl cc cm nodes v es) (R A : List Nat) (ra aa : Option Addr) (rc ac : Nat)
    (hr1 : R.length ≤ 4096) (ha1 : A.length ≤ 4096) (hes : es.length ≤ 65536) (hcl : cl ≤ 4096) (hn1 : nodes ≤ 9223372036854775807)
    (hR : Sl w (Safe w Bd v) ra R.length (fun j => .int .i64 (R.getD j 0 : Nat))) (hA : Sl w (Safe w Bd v) aa A.length (fun j => .int .i64 (A.getD j 0 : Nat)))
    (HRb : ∀ x ∈ R, x ≤ 9223372036854775807) (HAb : ∀ x ∈ A, x ≤ 9223372036854775807) :
    Calls Try.prog 29 #[.pointer (some ⟨Bd, 0, none⟩), .slice ra R.length rc, .slice aa A.length ac] w fun e w' => e = .returned (.tuple #[]) ∧ PrecPost w w' Bd cl cc ca cm nodes v es R A := by
  by_cases h0 : R.length = 0 ∨ A.length = 0
  · refine (c29_empty w _ ra aa R.length rc A.length ac h0).mono ?_
    rintro e w' ⟨rfl, rfl⟩
    refine ⟨rfl, v, es, nodes, h, Fr.refl _ _ _, fun _ => ⟨rfl, rfl⟩, fun h1 h2 => ?_⟩
    rcases h0 with h0 | h0
    · exact absurd (List.length_eq_zero_iff.1 h0) h1
    · exact absurd (List.length_eq_zero_iff.1 h0) h2
  · exact c29_walk w Bd cl cc ca cm nodes v es h R A ra aa R.length rc A.length ac rfl rfl (by omega) (by omega) hr1 ha1 hes hcl hn1 hR hA HRb HAb

/-- The edges that came in. -/
def esOf (n : Nat) (f t k : Nat → Int) : List (Int × Int × Int) := (List.range n).map (fun j => (f j, t j, k j))

theorem esCells_get (es : List (Int × Int × Int)) (j : Nat) (e : Int × Int × Int) (h : es[j]? = some e) : (esCells es)[j * 3]? = some (.int .i32 e.1) ∧ (esCells es)[j * 3 + 1]? = some (.int .i32 e.2.1) ∧ (esCells es)[j * 3 + 2]? = some (.int .u8 e.2.2) := by
  induction es generalizing j with
  | nil => simp at h
  | cons x es ih =>
    cases j with
    | zero =>
      simp at h
      subst h
      simp [esCells, edgeCells]
    | succ j =>
      have := ih j (by simpa using h)
      have e1 : esCells (x :: es) = edgeCells x ++ esCells es := by simp [esCells]
      have hl : (edgeCells x).length = 3 := rfl
      rw [e1]
      refine ⟨?_, ?_, ?_⟩
      · rw [List.getElem?_append_right (by omega), hl, show (j + 1) * 3 - 3 = j * 3 by omega]; exact this.1
      · rw [List.getElem?_append_right (by omega), hl, show (j + 1) * 3 + 1 - 3 = j * 3 + 1 by omega]; exact this.2.1
      · rw [List.getElem?_append_right (by omega), hl, show (j + 1) * 3 + 2 - 3 = j * 3 + 2 by omega]; exact this.2.2

/-- The row of edges is filled up to k. -/
def Filled (xs : List Value) (f t k : Nat → Int) (m : Nat) : Prop :=
  ∀ j, j < m → xs[j * 3]? = some (.int .i32 (f j)) ∧ xs[j * 3 + 1]? = some (.int .i32 (t j)) ∧ xs[j * 3 + 2]? = some (.int .u8 (k j))

theorem filled_all {xs : List Value} {f t k : Nat → Int} {n : Nat} (h : Filled xs f t k n) (hl : xs.length = n * 3) : xs = esCells (esOf n f t k) := by
  have hel : (esCells (esOf n f t k)).length = n * 3 := by rw [esCells_length]; simp [esOf]
  apply List.ext_getElem?
  intro i
  by_cases hi : i < n * 3
  · have hj : i / 3 < n := by omega
    have h1 := h (i / 3) hj
    have h2 := esCells_get (esOf n f t k) (i / 3) (f (i / 3), t (i / 3), k (i / 3)) (by simp [esOf, hj])
    have hr : i = i / 3 * 3 ∨ i = i / 3 * 3 + 1 ∨ i = i / 3 * 3 + 2 := by omega
    rcases hr with hr | hr | hr
    · rw [hr, h1.1, h2.1]
    · rw [hr, h1.2.1, h2.2.1]
    · rw [hr, h1.2.2, h2.2.2]
  · rw [List.getElem?_eq_none (by omega), List.getElem?_eq_none (by omega)]

theorem Filled.step {xs : List Value} {f t k : Nat → Int} {m : Nat} (h : Filled xs f t k m) (hl : m * 3 + 2 < xs.length) :
    Filled (((xs.set (m * 3) (.int .i32 (f m))).set (m * 3 + 1) (.int .i32 (t m))).set (m * 3 + 2) (.int .u8 (k m))) f t k (m + 1) := by
  intro j hj
  by_cases hjm : j = m
  · subst hjm
    refine ⟨?_, ?_, ?_⟩
    · rw [List.getElem?_set_ne (by omega), List.getElem?_set_ne (by omega), List.getElem?_set_self (by omega)]
    · rw [List.getElem?_set_ne (by omega), List.getElem?_set_self (by simp; omega)]
    · rw [List.getElem?_set_self (by simp; omega)]
  · have := h j (by omega)
    refine ⟨?_, ?_, ?_⟩
    · rw [List.getElem?_set_ne (by omega), List.getElem?_set_ne (by omega), List.getElem?_set_ne (by omega)]; exact this.1
    · rw [List.getElem?_set_ne (by omega), List.getElem?_set_ne (by omega), List.getElem?_set_ne (by omega)]; exact this.2.1
    · rw [List.getElem?_set_ne (by omega), List.getElem?_set_ne (by omega), List.getElem?_set_ne (by omega)]; exact this.2.2

end Go.Proofs.Qxb6602859a
