import Derived.Test.Qxb6603482aAddSub
namespace Go.Proofs.Qxb6603482a
open Go.RowKit

/-- The slice v leads to the nodes ks; its array lies in a block of which F holds. -/
def Row (w : World) (F : Nat → Prop) (v : Value) (ks : List Nat) : Prop :=
  ∃ a cap, v = .slice a ks.length cap ∧ ks.length ≤ maxLen ∧ ∀ j, j < ks.length → ∃ g, a = some ⟨g, 0, none⟩ ∧ F g ∧ w.cell? ⟨g, j, none⟩ = some (.pointer (some ⟨ks.getD j 0, 0, none⟩))

/-- A tree of at most d levels with its root in block b: r says whether an operator in it is an assertion; F holds of every block that it takes. -/
def Node (w : World) (F : Nat → Prop) : Nat → Nat → Bool → Prop
  | 0, _, _ => False
  | d + 1, b, r => F b ∧ ∃ (op : Int) (v : Value) (ks : List Nat) (rs : List Bool),
      w.cell? ⟨b, 0, none⟩ = some (.int .u8 op) ∧ w.cell? ⟨b, 2, none⟩ = some v ∧ Row w F v ks ∧ rs.length = ks.length ∧
      (∀ j, j < ks.length → Node w F d (ks.getD j 0) (rs.getD j false)) ∧ r = (isA op || rs.any id)

theorem Row.keep {w w' : World} {F F' : Nat → Prop} {v : Value} {ks : List Nat} (h : Row w F v ks) (hw : ∀ k, F k → w'.heap[k]? = w.heap[k]?) (hF : ∀ k, F k → F' k) : Row w' F' v ks := by
  obtain ⟨a, cap, hv, hm, hc⟩ := h
  refine ⟨a, cap, hv, hm, fun j hj => ?_⟩
  obtain ⟨g, ha, hg, hcell⟩ := hc j hj
  exact ⟨g, ha, hF g hg, (World.cell?_of_block (a := ⟨g, j, none⟩) (hw g hg)).trans hcell⟩

theorem Node.keep {w w' : World} {F F' : Nat → Prop} (hw : ∀ k, F k → w'.heap[k]? = w.heap[k]?) (hF : ∀ k, F k → F' k) : ∀ (d b : Nat) (r : Bool), Node w F d b r → Node w' F' d b r := by
  intro d
  induction d with
  | zero => intro b r h; exact h
  | succ d ih =>
    intro b r h
    obtain ⟨hb, op, v, ks, rs, h0, h2, hrow, hl, hk, hr⟩ := h
    exact ⟨hF b hb, op, v, ks, rs, (World.cell?_of_block (a := ⟨b, 0, none⟩) (hw b hb)).trans h0, (World.cell?_of_block (a := ⟨b, 2, none⟩) (hw b hb)).trans h2, hrow.keep hw hF, hl, fun j hj => ih _ _ (hk j hj), hr⟩

theorem row_nil (w : World) (F : Nat → Prop) : Row w F (.slice none 0 0) [] := ⟨none, 0, rfl, by simp, fun j hj => by simp at hj⟩

theorem row_of_owns {w : World} {F : Nat → Prop} {base : Nat} {v : Value} {n : Nat} {ks : List Nat} (h : w.ownsRow base 23 1 v n (ks.map ptrTo)) (hF : ∀ g, v.ownBlock = some g → F g) : Row w F v ks := by
  have hl : ks.length = n := by simpa using h.1
  rcases h.2 with ⟨hv, hn⟩ | ⟨g, cap, cur, hv, _, _, hnc, hcm, _⟩
  · have : ks = [] := List.eq_nil_of_length_eq_zero (by omega)
    subst this
    rw [hv]
    exact row_nil w F
  · refine ⟨some ⟨g, 0, none⟩, cap, by rw [hl]; exact hv, by omega, fun j hj => ⟨g, rfl, hF g (by rw [hv]; rfl), ?_⟩⟩
    have hg : v.ownBlock = some g := by rw [hv]; rfl
    have := h.cells hg j (ptrTo (ks.getD j 0)) (by simp [hj])
    have hadd : (⟨g, 0, none⟩ : Addr).add j = ⟨g, j, none⟩ := by unfold Addr.add; split <;> simp_all
    rw [hadd] at this
    exact this

set_option maxHeartbeats 400000 in
theorem c16_step (w : World) (b : Nat) (op : Int) (a : Option Addr) (len cap : Nat) (q : Bool) (h0 : w.cell? ⟨b, 0, none⟩ = some (.int .u8 op)) (h2 : w.cell? ⟨b, 2, none⟩ = some (.slice a len cap))
    (h17 : Calls Try.prog 17 #[.slice a len cap, .func (.func 16) #[] #[]] w fun e w' => e = .returned (.bool q) ∧ w' = w) :
    Calls Try.prog 16 #[.pointer (some ⟨b, 0, none⟩)] w fun e w' => e = .returned (.bool (isA op || q)) ∧ w' = w := by
  have h15 := c15 op w
  cases hA : isA op
  · rw [hA] at h15
    simp only [Bool.false_or]
    go_enter Try.func16, Try.ntmps16
    go_wp2_with (first | (go_at_call 15; refine h15.mono ?_; rintro e w' ⟨rfl, rfl⟩) | (go_at_call 17; refine h17.mono ?_; rintro e w' ⟨rfl, rfl⟩))
    go_ret
    exact ⟨rfl, rfl⟩
  · rw [hA] at h15
    simp only [Bool.true_or]
    go_enter Try.func16, Try.ntmps16
    go_wp2_with (go_at_call 15; refine h15.mono ?_; rintro e w' ⟨rfl, rfl⟩)
    go_ret
    exact ⟨rfl, rfl⟩

theorem c16 (w : World) (F : Nat → Prop) : ∀ (d b : Nat) (r : Bool), Node w F d b r →
    Calls Try.prog 16 #[.pointer (some ⟨b, 0, none⟩)] w fun e w' => e = .returned (.bool r) ∧ w' = w := by
  intro d
  induction d with
  | zero => intro b r h; exact h.elim
  | succ d ih =>
    intro b r h
    obtain ⟨hb, op, v, ks, rs, h0, h2, ⟨a, cap, hv, hm, hc⟩, hl, hk, hr⟩ := h
    subst hv
    rw [hr]
    refine c16_step w b op a ks.length cap _ h0 h2 ?_
    refine c17 w a ks.length cap ks rs hm hl (fun j hj => ?_) (fun j hj => ih _ _ (hk j hj))
    obtain ⟨g, ha, _, hcell⟩ := hc j hj
    exact ⟨g, ha, hcell⟩

set_option maxHeartbeats 400000 in
theorem c9 (w : World) (F : Nat → Prop) (d b : Nat) (r : Bool) (h : Node w F d b r) :
    Calls Try.prog 9 #[.pointer (some ⟨b, 0, none⟩)] w fun e w' => e = .returned (.bool r) ∧ w' = w := by
  have h16 := c16 w F d b r h
  clear h
  go_enter Try.func9, Try.ntmps9
  go_wp2_with (go_at_call 16; refine h16.mono ?_; rintro e w' ⟨rfl, rfl⟩)
  go_ret
  exact ⟨rfl, rfl⟩

/-- WHAT A NEW NODE IS: a leaf. -/
theorem leaf_of {w : World} {b : Nat} {n : Int} (F : Nat → Prop) (hF : F b) (h0 : w.cell? ⟨b, 0, none⟩ = some (.int .u8 n)) (h2 : w.cell? ⟨b, 2, none⟩ = some (.slice none 0 0)) : Node w F 1 b (isA n) :=
  ⟨hF, n, .slice none 0 0, [], [], h0, h2, row_nil w F, rfl, fun j hj => by simp at hj, by simp⟩

end Go.Proofs.Qxb6603482a
