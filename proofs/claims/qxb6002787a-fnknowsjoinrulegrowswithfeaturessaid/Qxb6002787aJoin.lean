import Derived.Test.Qxb6002787aRows
import Derived.WalkKit
import Derived.WalkSpells
import Derived.WalkLawsBesides
namespace Go.Proofs.Qxb6002787a
open Go.RowKit

/-- Which of the five names the rule is. -/
structure J (s : ByteArray) (p i k r q : Bool) : Prop where
  pub : (s.toList == [112, 117, 98, 108, 105, 99]) = p
  inv : (s.toList == [105, 110, 118, 105, 116, 101]) = i
  kno : (s.toList == [107, 110, 111, 99, 107]) = k
  res : (s.toList == [114, 101, 115, 116, 114, 105, 99, 116, 101, 100]) = r
  kre : (s.toList == [107, 110, 111, 99, 107, 95, 114, 101, 115, 116, 114, 105, 99, 116, 101, 100]) = q

/-- At most one of them. -/
def Six (p i k r q : Bool) : Prop :=
  (p = true ∧ i = false ∧ k = false ∧ r = false ∧ q = false) ∨ (p = false ∧ i = true ∧ k = false ∧ r = false ∧ q = false) ∨ (p = false ∧ i = false ∧ k = true ∧ r = false ∧ q = false) ∨
  (p = false ∧ i = false ∧ k = false ∧ r = true ∧ q = false) ∨ (p = false ∧ i = false ∧ k = false ∧ r = false ∧ q = true) ∨ (p = false ∧ i = false ∧ k = false ∧ r = false ∧ q = false)

theorem J_six (s : ByteArray) : ∃ p i k r q, J s p i k r q ∧ Six p i k r q := by
  generalize hl : s.toList = l
  have e : ∀ p i k r q, (l == [112, 117, 98, 108, 105, 99]) = p → (l == [105, 110, 118, 105, 116, 101]) = i → (l == [107, 110, 111, 99, 107]) = k → (l == [114, 101, 115, 116, 114, 105, 99, 116, 101, 100]) = r → (l == [107, 110, 111, 99, 107, 95, 114, 101, 115, 116, 114, 105, 99, 116, 101, 100]) = q → J s p i k r q := by
    intro p i k r q h1 h2 h3 h4 h5
    exact ⟨by rw [hl]; exact h1, by rw [hl]; exact h2, by rw [hl]; exact h3, by rw [hl]; exact h4, by rw [hl]; exact h5⟩
  by_cases h1 : l = [112, 117, 98, 108, 105, 99]
  · subst h1; exact ⟨true, false, false, false, false, e _ _ _ _ _ rfl rfl rfl rfl rfl, .inl ⟨rfl, rfl, rfl, rfl, rfl⟩⟩
  by_cases h2 : l = [105, 110, 118, 105, 116, 101]
  · subst h2; exact ⟨false, true, false, false, false, e _ _ _ _ _ rfl rfl rfl rfl rfl, .inr (.inl ⟨rfl, rfl, rfl, rfl, rfl⟩)⟩
  by_cases h3 : l = [107, 110, 111, 99, 107]
  · subst h3; exact ⟨false, false, true, false, false, e _ _ _ _ _ rfl rfl rfl rfl rfl, .inr (.inr (.inl ⟨rfl, rfl, rfl, rfl, rfl⟩))⟩
  by_cases h4 : l = [114, 101, 115, 116, 114, 105, 99, 116, 101, 100]
  · subst h4; exact ⟨false, false, false, true, false, e _ _ _ _ _ rfl rfl rfl rfl rfl, .inr (.inr (.inr (.inl ⟨rfl, rfl, rfl, rfl, rfl⟩)))⟩
  by_cases h5 : l = [107, 110, 111, 99, 107, 95, 114, 101, 115, 116, 114, 105, 99, 116, 101, 100]
  · subst h5; exact ⟨false, false, false, false, true, e _ _ _ _ _ rfl rfl rfl rfl rfl, .inr (.inr (.inr (.inr (.inl ⟨rfl, rfl, rfl, rfl, rfl⟩))))⟩
  · exact ⟨false, false, false, false, false, e _ _ _ _ _ (by simp [h1]) (by simp [h2]) (by simp [h3]) (by simp [h4]) (by simp [h5]), .inr (.inr (.inr (.inr (.inr ⟨rfl, rfl, rfl, rfl, rfl⟩))))⟩

/-- What knowsJoinRule answers under three features. -/
def kf (p i k r q a b d : Bool) : Bool := p || i || (k && a) || (r && b) || (q && d)

/-- joinRuleNeeds hands back some number and whether the rule is known. -/
def Needs (e : Ending) (b : Bool) : Prop := ∃ n, e = .returned (.tuple #[.int .i64 n, .bool b])

set_option maxHeartbeats 800000 in
theorem c20 (s : ByteArray) (w : World) (p i k r q : Bool) (h : J s p i k r q) (h6 : Six p i k r q) :
    Calls Try.prog 20 #[.string s] w fun e w' => Needs e (p || i || k || r || q) ∧ w' = w := by
  obtain ⟨h1, h2, h3, h4, h5⟩ := h
  rcases h6 with ⟨rfl, rfl, rfl, rfl, rfl⟩ | ⟨rfl, rfl, rfl, rfl, rfl⟩ | ⟨rfl, rfl, rfl, rfl, rfl⟩ | ⟨rfl, rfl, rfl, rfl, rfl⟩ | ⟨rfl, rfl, rfl, rfl, rfl⟩ | ⟨rfl, rfl, rfl, rfl, rfl⟩
  all_goals
    go_enter Try.func20, Try.ntmps20
    go_wp2
    go_ret2
    exact ⟨⟨_, rfl⟩, rfl⟩

set_option maxHeartbeats 800000 in
theorem c26 (s : ByteArray) (w : World) (p i k r q a b d : Bool) (g : Nat) (h : J s p i k r q) (h6 : Six p i k r q) (ca : w.cell? ⟨g, 12, none⟩ = some (.bool a)) (cb : w.cell? ⟨g, 13, none⟩ = some (.bool b)) (cd : w.cell? ⟨g, 14, none⟩ = some (.bool d)) :
    Calls Try.prog 26 #[.pointer (some ⟨g, 0, none⟩), .string s] w fun e w' => e = .returned (.bool (kf p i k r q a b d)) ∧ w' = w := by
  obtain ⟨h1, h2, h3, h4, h5⟩ := h
  rcases h6 with ⟨rfl, rfl, rfl, rfl, rfl⟩ | ⟨rfl, rfl, rfl, rfl, rfl⟩ | ⟨rfl, rfl, rfl, rfl, rfl⟩ | ⟨rfl, rfl, rfl, rfl, rfl⟩ | ⟨rfl, rfl, rfl, rfl, rfl⟩ | ⟨rfl, rfl, rfl, rfl, rfl⟩
  all_goals
    go_enter Try.func26, Try.ntmps26
    go_wp2
    go_ret
    exact ⟨by simp [kf], rfl⟩

set_option maxHeartbeats 800000 in
theorem c21 (s : ByteArray) (w : World) (p i k r q a b d : Bool) (h : J s p i k r q) (h6 : Six p i k r q) :
    Calls Try.prog 21 #[.string { data := #[] }, .bool a, .bool b, .bool d, .string s] w fun e w' => e = .returned (.bool (kf p i k r q a b d)) ∧ Below w.heap.size w w' := by
  go_enter Try.func21, Try.ntmps21
  go_wp2_with fail
  refine (c26 s _ p i k r q a b d w.heap.size h h6 (by simp) (by simp) (by simp)).mono ?_
  rintro e w' ⟨rfl, hw'⟩
  have hb : Below w.heap.size w w' := by rw [hw']; exact (Below.refl _ _).alloc (Nat.le_refl _) _
  clear hw' h
  go_wp2_with fail
  go_ret
  exact ⟨rfl, hb⟩

set_option maxHeartbeats 400000 in
theorem c19_yes (s : ByteArray) (w : World) (h : s.size ≤ 1048576) : Calls Try.prog 19 #[.string s] w fun e w' => e = .returned (.bool true) ∧ w' = w := by
  go_enter Try.func19, Try.ntmps19
  go_wp2
  go_ret
  exact ⟨rfl, rfl⟩

set_option maxHeartbeats 400000 in
theorem c19_no (s : ByteArray) (w : World) (h : ¬ s.size ≤ 1048576) (hm : s.size ≤ maxLen) : Calls Try.prog 19 #[.string s] w fun e w' => e = .returned (.bool false) ∧ w' = w := by
  unfold maxLen at hm
  go_enter Try.func19, Try.ntmps19
  go_wp2
  go_ret
  exact ⟨rfl, rfl⟩
end Go.Proofs.Qxb6002787a
