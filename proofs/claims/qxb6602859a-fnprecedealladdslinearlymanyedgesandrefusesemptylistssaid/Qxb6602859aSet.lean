import Derived.Test.Qxb6602859aRows
import Derived.WalkKit
import Derived.WalkSpells
import Derived.WalkLawsBesides
import Derived.Maps.OwnOps
import Derived.Maps.OwnSet
namespace Go.Proofs.Qxb6602859a
open Go.RowKit Go.Maps

theorem law3 : Keyed Try.prog 3 := int_keyed Try.underlying3
theorem zero4 (w : World) : (zeroValue 4).run Try.prog w = .ok (.bool false) w := by kernel_rfl

/-- BLOCK b IS A map[int]bool OF AT MOST n ENTRIES; at the key x it answers S x. -/
def HasSet (w : World) (b n : Nat) (S : Int → Bool) : Prop :=
  ∃ D : DataW Unit, w.ownsMap Try.prog 3 (plainElem Try.prog 4) b n D ∧ ∀ x, (Lit.int .i64 x).wf = true → D.atKey (.int .i64 x) (.lit (.bool false)) = .lit (.bool (S x))

theorem HasSet.lt {w : World} {b n : Nat} {S : Int → Bool} (h : HasSet w b n S) : b < w.heap.size := by
  obtain ⟨D, h1, _⟩ := h
  exact h1.lt

theorem hasSet_made (w : World) : HasSet (w.alloc (.map #[] 0)) w.heap.size 0 (fun _ => false) :=
  ⟨.map [], World.ownsMap_made w _ _ _, fun _ _ => rfl⟩

theorem HasSet.kept {w w' : World} {b n : Nat} {S : Int → Bool} {row : Option Nat} (h : HasSet w b n S) (hg : w.grownBy w' row) (hne : some b ≠ row) : HasSet w' b n S := by
  obtain ⟨D, h1, h2⟩ := h
  exact ⟨D, h1.kept hg hne, h2⟩

theorem plainElem_bool_inv {v : Value} {z : DataW Unit × List MemPlace} (h : plainElem Try.prog 4 v = some z) : ∃ x, v = .bool x ∧ z = (.lit (.bool x), []) := by
  unfold plainElem at h
  rw [Try.underlying4] at h
  cases v <;> simp at h
  exact ⟨_, rfl, h.symm⟩

/-- 'm[x]'. -/
theorem wpList_set_get (w : World) {ops : Array Oper} {rest : List Oper} {o : Oper} {a : Act} {Q : Exit → Act → World → Prop}
    (hg : o.guard = none) (m x : Operand) (hop : o.op = Op.lookup 66 m x false) (b n : Nat) (S : Int → Bool) (hm : a.eval m = .map (some b)) (hown : HasSet w b n S) (k : Int) (hx : a.eval x = .int .i64 k) (hk : (Lit.int .i64 k).wf = true)
    (hK : wpList Try.prog ops Q rest (a.put o.dst (.bool (S k))) w) : wpList Try.prog ops Q (o :: rest) a w := by
  refine wpList_plain hg fun K' hK' => ?_
  obtain ⟨D, h1, h2⟩ := hown
  obtain ⟨v, ps, hrun, hv⟩ := h1.lookup law3 Try.underlying66 (zero4 w) (plainElem_bool Try.underlying4 false) (keyOf_int_mk Try.underlying3 hk)
  rw [h2 k hk] at hv
  obtain ⟨y, rfl, hy⟩ := plainElem_bool_inv hv
  have e : S k = y := by simp at hy; exact hy.1
  unfold Oper.wp
  simp [execOp, hop, hm, hx, hrun, Result.andThen]
  rw [← e]
  exact hK' _ _ hK

/-- .. where the answer is known. -/
theorem wpList_set_is (w : World) {ops : Array Oper} {rest : List Oper} {o : Oper} {a : Act} {Q : Exit → Act → World → Prop}
    (hg : o.guard = none) (m x : Operand) (hop : o.op = Op.lookup 66 m x false) (b n : Nat) (S : Int → Bool) (hm : a.eval m = .map (some b)) (hown : HasSet w b n S) (k : Int) (hx : a.eval x = .int .i64 k) (hk : (Lit.int .i64 k).wf = true) (y : Bool) (hy : S k = y)
    (hK : wpList Try.prog ops Q rest (a.put o.dst (.bool y)) w) : wpList Try.prog ops Q (o :: rest) a w :=
  wpList_set_get w hg m x hop b n S hm hown k hx hk (by rw [hy]; exact hK)

/-- 'm[x] = true'. -/
theorem wpList_set_put (w : World) {ops : Array Oper} {rest : List Oper} {o : Oper} {a : Act} {Q : Exit → Act → World → Prop}
    (hg : o.guard = none) (m x v : Operand) (hop : o.op = Op.mapUpdate 66 m x v) (b n : Nat) (S : Int → Bool) (hm : a.eval m = .map (some b)) (hown : HasSet w b n S) (hn : n < maxLen) (k : Int) (hx : a.eval x = .int .i64 k) (hv : a.eval v = .bool true) (hk : (Lit.int .i64 k).wf = true)
    (hK : ∀ w', HasSet w' b (n + 1) (fun y => y == k || S y) → w.grownBy w' (some b) → wpList Try.prog ops Q rest (a.put o.dst undef) w') : wpList Try.prog ops Q (o :: rest) a w := by
  obtain ⟨D, h1, h2⟩ := hown
  refine wpList_mapUpdate_own w hg m x v 66 hop 3 4 law3 Try.underlying66 _ b n D hm h1 hn _ _ _ hx hv (keyOf_int_mk Try.underlying3 hk) _ _ (plainElem_bool Try.underlying4 true) ?_
  intro w' h3 h4
  refine hK w' ⟨_, h3, fun y hy => ?_⟩ h4
  by_cases e : y = k
  · subst e
    rw [atKey_put_same h1.isMap (law3.key (keyOf_int_mk Try.underlying3 hk))]
    simp
  · rw [atKey_put_other (by intro h; exact e (by simpa using h)), h2 y hy]
    simp [e]

/-- 'make(map[int]bool, n)'. -/
theorem run_makeMap_hint (n : Int) (w : World) : (Instr.makeMap 66 (some (.int .i64 n))).run Try.prog w = .ok (.map (some w.heap.size)) (w.alloc (.map #[] 0)) := by
  simp [Instr.makeMap, run_underlying Try.underlying66, asInt, asIntOf, Result.andThen]

end Go.Proofs.Qxb6602859a
