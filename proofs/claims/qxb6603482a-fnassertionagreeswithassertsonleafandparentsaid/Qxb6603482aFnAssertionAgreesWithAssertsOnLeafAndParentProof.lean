import Derived.Test.Qxb6603482aAddP
import Derived.ProofKit
import Derived.OpenShut
import Derived.ShutString
import Derived.ChangeOld
import Derived.Below
namespace Go.Proofs.Qxb6603482a.fnAssertionAgreesWithAssertsOnLeafAndParent
open Go.ChangeShapes Go.WideShapes Go.ChangeAt Go.RowKit
set_option linter.unusedVariables false

theorem own : ownKnob Try.prog.godebug = none := by kernel_rfl

/-- The parent with its one child. -/
theorem parent_node {w w' : World} {b s : Nat} {v' : Value} {m n : Int} (h : AddP w w' b s (.slice none 0 0) v' 0 []) (hb : b < w.heap.size) (hs : s < w.heap.size) (hsb : s ≠ b)
    (b0 : w.cell? ⟨b, 0, none⟩ = some (.int .u8 m)) (s0 : w.cell? ⟨s, 0, none⟩ = some (.int .u8 n)) (s2 : w.cell? ⟨s, 2, none⟩ = some (.slice none 0 0)) :
    Node w' (fun _ => True) 2 b (isA m || isA n) := by
  have hsh := h.old s hs hsb (by simp [Value.ownBlock])
  refine ⟨trivial, m, v', [s], [isA n], h.cell0.trans b0, h.cell2, row_of_owns (n := 0 + 1) (base := 0) (by simpa using h.owns) (fun _ _ => trivial), rfl, ?_, by simp⟩
  intro j hj
  have hj0 : j = 0 := by simpa using hj
  subst hj0
  exact leaf_of _ trivial ((World.cell?_of_block (a := ⟨s, 0, none⟩) hsh).trans s0) ((World.cell?_of_block (a := ⟨s, 2, none⟩) hsh).trans s2)

set_option maxHeartbeats 800000 in
theorem walk (a0 : Int) (a1 : Int) (w : World) :
    Calls Try.prog 3 #[.int .u8 a0, .int .u8 a1] w fun e w' => e = .returned (.bool true) ∧ Below w.heap.size w w' := by
  have b1 : Below w.heap.size w (w.alloc (.cells (nodeCells a0) 45)) := (Below.refl _ _).alloc (Nat.le_refl _) _
  have n1 := leaf_of (fun _ => True) trivial (new_cell0 w a0) (new_cell2 w a0)
  go_enter Try.func3, Try.ntmps3
  go_wp2_with fail
  refine (c6 _ _).mono ?_
  rintro e w' ⟨rfl, hw'⟩
  subst hw'
  go_wp2_with fail
  refine (c7 _ _).mono ?_
  rintro e w1 ⟨rfl, hw'⟩
  subst hw'
  go_wp2_with fail
  refine (c8 _ _).mono ?_
  rintro e w2 ⟨rfl, hw'⟩
  rw [← hw'] at b1 n1
  have s2 : w2.heap.size = w1.heap.size + 1 := by rw [hw']; simp
  have S2 : Hid (w2.heap.size = w1.heap.size + 1) := s2
  clear hw' s2
  go_wp2_with fail
  refine (c9 w2 _ 1 _ _ n1).mono ?_
  rintro e w2' ⟨rfl, hw'⟩
  subst hw'
  clear n1
  go_wp2_with fail
  refine (c8 _ _).mono ?_
  rintro e w3 ⟨rfl, hw3⟩
  have b3 : Below w1.heap.size w1 w3 := by rw [hw3]; exact b1.alloc (by rw [S2.out]; omega) _
  have f30 := new_cell0 w2' a1
  have f32 := new_cell2 w2' a1
  have f3f := new_frozen w2' a1 2
  rw [← hw3] at f30 f32 f3f
  have S3 : Hid (w3.heap.size = w2'.heap.size + 1) := by have h : w3.heap.size = w2'.heap.size + 1 := (by rw [hw3]; simp); exact h
  clear hw3 b1
  go_wp2_with fail
  refine (c8 _ _).mono ?_
  rintro e w4 ⟨rfl, hw4⟩
  have b4 : Below w1.heap.size w1 w4 := by rw [hw4]; exact b3.alloc (by rw [S3.out, S2.out]; omega) _
  have l3 : w2'.heap.size < w3.heap.size := by rw [S3.out]; omega
  have f40 : w4.cell? ⟨w2'.heap.size, 0, none⟩ = some (.int .u8 a1) := by rw [hw4, World.cell?_alloc_past _ _ _ l3]; exact f30
  have f42 : w4.cell? ⟨w2'.heap.size, 2, none⟩ = some (.slice none 0 0) := by rw [hw4, World.cell?_alloc_past _ _ _ l3]; exact f32
  have f4f : w4.frozen? ⟨w2'.heap.size, 2, none⟩ = false := by rw [hw4, World.frozen?_alloc_past _ _ _ l3]; exact f3f
  have g40 := new_cell0 w3 a0
  have g42 := new_cell2 w3 a0
  rw [← hw4] at g40 g42
  have S4 : Hid (w4.heap.size = w3.heap.size + 1) := by have h : w4.heap.size = w3.heap.size + 1 := (by rw [hw4]; simp); exact h
  have l4 : w2'.heap.size < w4.heap.size := by rw [S4.out]; omega
  have l5 : w3.heap.size < w4.heap.size := by rw [S4.out]; omega
  clear hw4 f30 f32 f3f b3
  go_wp2_with fail
  refine (c10 w4 w2'.heap.size w3.heap.size (.slice none 0 0) 0 [] l4 (by omega) f42 f4f (World.ownsRow_nil _ _ _ _) (by simp [Value.ownBlock])).mono ?_
  rintro e w5 ⟨rfl, hadd⟩
  obtain ⟨v', hp⟩ := hadd.parts l4 f42 (by simp [Value.ownBlock])
  have n5 := parent_node hp l4 l5 (by omega) f40 g40 g42
  have b5 := b4.trans (hp.below (B := w1.heap.size) (by have := S2.out; omega) (by have := S2.out; omega) (by simp [Value.ownBlock]))
  clear hadd hp f40 f42 f4f g40 g42 b4
  go_wp2_with fail
  refine (c9 w5 _ 2 _ _ n5).mono ?_
  rintro e w6 ⟨rfl, hw'⟩
  subst hw'
  clear n5
  have hc7 := c7 a1 w6
  cases h0 : isA a0 <;> cases h1 : isA a1
  all_goals
    rw [h1] at hc7
    go_wp2_with (go_at_call 7; refine hc7.mono ?_; rintro e w7 ⟨rfl, rfl⟩)
    go_ret
    exact ⟨rfl, b5⟩

/-! ### THE ROW's STEP -/
set_option maxRecDepth 100000 in
theorem lifted (os : Os) (started : os.Started) (H : Type) (enc : TypeId × Value → H) :
    ReturnsInHanded {} Try.checked os 3 .any (Rows.fnAssertionAgreesWithAssertsOnLeafAndParentSpec.pre6 enc Try.prog Try.f3 Rows.fnAssertionAgreesWithAssertsOnLeafAndParentRow.domain false) (Rows.fnAssertionAgreesWithAssertsOnLeafAndParentSpec.post enc Try.prog Try.f3 false true false false) := by
  refine returnsInHanded_of_change (C := Try.checked) own started (by kernel_rfl) Try.func3
    (ChangeSpec.witness6 (enc := enc) (C := Try.checked) false ⟨#[], #[.int .u8 0, .int .u8 0], []⟩ 8 (by kernel_rfl) (by kernel_rfl) (by kernel_rfl) (by kernel_rfl)) ?_
  intro W base args ds gs before hval0 hW hcnd _
  have hval : ∀ (j : Nat) t v, Try.f3.params[j]? = some t → args[j]? = some v → Value.okWide Try.prog W .any base t v := hval0
  have hW' := hW
  obtain ⟨p, q, hA0, hV, rfl, hfz, hnd⟩ := hW
  have hA : DataW.TrodAll enc Try.prog W 0 (fun _ => true) true Try.f3.params.toList args.toList ds p := hA0
  rw [Try.params3] at hA hval
  obtain ⟨v0, vs0, d0, ds0, p0, q0, hargs, rfl, rfl, h0, r0⟩ := trodAll_cons hA
  obtain ⟨v1, vs1, d1, ds1, p1, q1, rfl, rfl, rfl, h1, r1⟩ := trodAll_cons r0
  obtain ⟨rfl, rfl, rfl⟩ := trodAll_nil r1
  obtain rfl : args = #[v0, v1] := by cases args; simp_all
  obtain ⟨rfl, rfl⟩ := trodVars_none hV
  obtain ⟨a0, rfl, rfl, rfl, w0⟩ := open_int Try.underlying5 (hval 0 5 v0 rfl rfl) h0
  obtain ⟨a1, rfl, rfl, rfl, w1⟩ := open_int Try.underlying5 (hval 1 5 v1 rfl rfl) h1
  clear hA0 hval0
  refine (walk a0 a1 W).mono fun e W' ⟨he, bel⟩ => ?_
  subst he
  exact ⟨_, rfl, _, _, _, [], _, [], hW', trodAll_mk1 (shut_bool Try.underlying4 _), (trodAll_cons_mk (shut_int Try.underlying5 w0) (trodAll_cons_mk (shut_int Try.underlying5 w1) trodAll_mk0)), rfl, bel.frame _, fun h => by cases h⟩

theorem over : Rows.fnAssertionAgreesWithAssertsOnLeafAndParentRow.holds Try.pinned (OpenSpec.ofChange Rows.fnAssertionAgreesWithAssertsOnLeafAndParentSpec) :=
  OpenClaim.holds_of_wide 3 Try.f3 rfl rfl rfl rfl rfl rfl rfl ⟨rfl, rfl, rfl, rfl, rfl⟩ rfl rfl rfl rfl rfl (by kernel_rfl) Try.func3 (by kernel_rfl)
    (of_decide_eq_true (by kernel_rfl)) (by unfold Func.isWrapper; first | (rw [if_pos (by decide +kernel)]; kernel_rfl) | (rw [if_neg (by decide +kernel)]; exact ⟨rfl, rfl⟩))
    (fun os started H enc _ => lifted os started H enc)

/-- THE STATEMENT -/
theorem proved : Rows.FnAssertionAgreesWithAssertsOnLeafAndParentSaid := over
#print axioms proved
end Go.Proofs.Qxb6603482a.fnAssertionAgreesWithAssertsOnLeafAndParent
