import Derived.Test.Qxb6603482aCopy
namespace Go.Proofs.Qxb6603482a
open Go.RowKit

/-- A chain from block b to block e, each node the only child of the one before; the operators of all but e. -/
def Seg (w : World) (F : Nat → Prop) : List Int → Nat → Nat → Prop
  | [], b, e => b = e
  | o :: os, b, e => F b ∧ ∃ r cap k, F r ∧ w.cell? ⟨b, 0, none⟩ = some (.int .u8 o) ∧ w.cell? ⟨b, 2, none⟩ = some (.slice (some ⟨r, 0, none⟩) 1 cap) ∧
      w.cell? ⟨r, 0, none⟩ = some (.pointer (some ⟨k, 0, none⟩)) ∧ Seg w F os k e

theorem Seg.keep {w w' : World} {F F' : Nat → Prop} (hw : ∀ k, F k → w'.heap[k]? = w.heap[k]?) (hF : ∀ k, F k → F' k) : ∀ (os : List Int) (b e : Nat), Seg w F os b e → Seg w' F' os b e := by
  intro os
  induction os with
  | nil => intro b e h; exact h
  | cons o os ih =>
    intro b e h
    obtain ⟨hb, r, cap, k, hr, h0, h2, hp, hs⟩ := h
    exact ⟨hF b hb, r, cap, k, hF r hr, (World.cell?_of_block (a := ⟨b, 0, none⟩) (hw b hb)).trans h0, (World.cell?_of_block (a := ⟨b, 2, none⟩) (hw b hb)).trans h2, (World.cell?_of_block (a := ⟨r, 0, none⟩) (hw r hr)).trans hp, ih _ _ hs⟩

theorem Seg.snoc {w : World} {F : Nat → Prop} {o : Int} {e r cap k : Nat} (he : F e) (hr : F r) (h0 : w.cell? ⟨e, 0, none⟩ = some (.int .u8 o)) (h2 : w.cell? ⟨e, 2, none⟩ = some (.slice (some ⟨r, 0, none⟩) 1 cap))
    (hp : w.cell? ⟨r, 0, none⟩ = some (.pointer (some ⟨k, 0, none⟩))) : ∀ (os : List Int) (b : Nat), Seg w F os b e → Seg w F (os ++ [o]) b k := by
  intro os
  induction os with
  | nil => intro b h; obtain rfl : b = e := h; exact ⟨he, r, cap, k, hr, h0, h2, hp, rfl⟩
  | cons o' os ih =>
    intro b h
    obtain ⟨hb, r', cap', k', hr', h0', h2', hp', hs⟩ := h
    exact ⟨hb, r', cap', k', hr', h0', h2', hp', ih _ hs⟩

theorem Seg.node {w : World} {F : Nat → Prop} {e d : Nat} {q : Bool} (hn : Node w F d e q) : ∀ (os : List Int) (b : Nat), Seg w F os b e → ∃ d', Node w F d' b (os.any isA || q) := by
  intro os
  induction os with
  | nil => intro b h; obtain rfl : b = e := h; exact ⟨d, by simpa using hn⟩
  | cons o os ih =>
    intro b h
    obtain ⟨hb, r, cap, k, hr, h0, h2, hp, hs⟩ := h
    obtain ⟨d', hd'⟩ := ih _ hs
    refine ⟨d' + 1, hb, o, _, [k], [os.any isA || q], h0, h2, ⟨some ⟨r, 0, none⟩, cap, rfl, by simp [maxLen], fun j hj => ?_⟩, rfl, fun j hj => ?_, by simp [Bool.or_assoc]⟩
    · have hj0 : j = 0 := by simpa using hj
      subst hj0
      exact ⟨r, rfl, hr, by simpa using hp⟩
    · have hj0 : j = 0 := by simpa using hj
      subst hj0
      simpa using hd'

/-- THE STATE OF THE CHAIN AT A ROUND's HEAD: from the root R the operators 'os', then the last node e, of operator o, with no child yet. -/
structure Chain (w : World) (B R : Nat) (os : List Int) (o : Int) (e : Nat) : Prop where
  seg : Seg w (fun x => x ≠ e ∧ B ≤ x ∧ x < w.heap.size) os R e
  lo : B ≤ e
  lt : e < w.heap.size
  op : w.cell? ⟨e, 0, none⟩ = some (.int .u8 o)
  bare : w.cell? ⟨e, 2, none⟩ = some (.slice none 0 0)
  free : w.frozen? ⟨e, 2, none⟩ = false

theorem Chain.start (w : World) (n : Int) : Chain (w.alloc (.cells (nodeCells n) 45)) w.heap.size w.heap.size [] n w.heap.size :=
  ⟨rfl, Nat.le_refl _, by simp, new_cell0 w n, new_cell2 w n, new_frozen w n 2⟩

theorem Chain.whole {w : World} {B R : Nat} {os : List Int} {o : Int} {e : Nat} (h : Chain w B R os o e) : ∃ d, Node w (fun _ => True) d R ((os ++ [o]).any isA) := by
  have hs := h.seg.keep (w' := w) (F' := fun _ => True) (fun _ _ => rfl) (fun _ _ => trivial)
  obtain ⟨d, hd⟩ := hs.node (leaf_of (fun _ => True) trivial h.op h.bare)
  exact ⟨d, by simpa using hd⟩

/-- The world behind 'n := ZZnewRegexp(m)'. -/
theorem Chain.alloc {w : World} {B R : Nat} {os : List Int} {o : Int} {e : Nat} (h : Chain w B R os o e) (m : Int) :
    (w.alloc (.cells (nodeCells m) 45)).cell? ⟨e, 2, none⟩ = some (.slice none 0 0) ∧ (w.alloc (.cells (nodeCells m) 45)).frozen? ⟨e, 2, none⟩ = false ∧ e < (w.alloc (.cells (nodeCells m) 45)).heap.size := by
  refine ⟨?_, ?_, ?_⟩
  · rw [World.cell?_alloc_past _ _ _ h.lt]; exact h.bare
  · rw [World.frozen?_alloc_past _ _ _ h.lt]; exact h.free
  · have := h.lt; simp; omega

theorem Chain.step {w w' : World} {B R : Nat} {os : List Int} {o m : Int} {e : Nat} {v' : Value} (h : Chain w B R os o e)
    (ha : AddP (w.alloc (.cells (nodeCells m) 45)) w' e w.heap.size (.slice none 0 0) v' 0 []) : Chain w' B R (os ++ [o]) m w.heap.size := by
  have hsz := ha.size
  have hs1 : (w.alloc (.cells (nodeCells m) 45)).heap.size = w.heap.size + 1 := by simp
  rw [hs1] at hsz
  have hlt := h.lt
  have hlo := h.lo
  have hnb : ∀ k, (Value.slice none 0 0).ownBlock ≠ some k := by simp [Value.ownBlock]
  have hold : ∀ k, k < w.heap.size → k ≠ e → w'.heap[k]? = w.heap[k]? := fun k hk hne => (ha.old k (by omega) hne (hnb k)).trans (Below.heap_alloc w _ k hk)
  have hnew : w'.heap[w.heap.size]? = (w.alloc (.cells (nodeCells m) 45)).heap[w.heap.size]? := ha.old _ (by omega) (by omega) (hnb _)
  obtain ⟨r, cap, hv⟩ : ∃ r cap, v' = .slice (some ⟨r, 0, none⟩) 1 cap := by
    rcases ha.owns.2 with ⟨_, h'⟩ | ⟨r, cap, _, h', _⟩
    · omega
    · exact ⟨r, cap, h'⟩
  have hr := ha.row r (by rw [hv]; rfl)
  have hr1 : w.heap.size + 1 ≤ r := by
    rcases hr with hr | hr
    · exact absurd hr (hnb r)
    · omega
  have hr2 := (ha.owns.lt r (by rw [hv]; rfl)).2
  have hcr : w'.cell? ⟨r, 0, none⟩ = some (.pointer (some ⟨w.heap.size, 0, none⟩)) := by
    have := ha.owns.cells (g := r) (by rw [hv]; rfl) 0 (ptrTo w.heap.size) (by simp)
    simpa [Addr.add, ptrTo] using this
  have h0 : w'.cell? ⟨e, 0, none⟩ = some (.int .u8 o) := by
    rw [ha.cell0, World.cell?_alloc_past _ _ _ hlt]; exact h.op
  refine ⟨?_, by omega, by omega, ?_, ?_, ?_⟩
  · refine Seg.snoc (o := o) (e := e) (r := r) (cap := cap) (k := w.heap.size) ⟨by omega, hlo, by omega⟩ ⟨by omega, by omega, hr2⟩ h0 (by rw [ha.cell2, hv]) hcr os R ?_
    exact h.seg.keep (fun k hk => hold k hk.2.2 hk.1) (fun k hk => ⟨by have := hk.2.2; omega, hk.2.1, by have := hk.2.2; omega⟩)
  · exact (World.cell?_of_block (a := ⟨w.heap.size, 0, none⟩) hnew).trans (new_cell0 w m)
  · exact (World.cell?_of_block (a := ⟨w.heap.size, 2, none⟩) hnew).trans (new_cell2 w m)
  · exact (World.frozen?_of_block (a := ⟨w.heap.size, 2, none⟩) hnew).trans (new_frozen w m 2)

theorem take_snoc' (zs : List Int) (k : Nat) (h : k < zs.length) : zs.take (k + 1) = zs.take k ++ [zs.getD k 0] := by
  rw [List.take_succ_eq_append_getElem h]; simp [List.getD, h]

theorem any_step (n : Int) (zs : List Int) (k : Nat) (h : k < zs.length) : (n :: zs.take (k + 1)).any isA = ((n :: zs.take k).any isA || isA (zs.getD k 0)) := by
  rw [take_snoc' zs k h, ← List.cons_append, List.any_append]; simp

end Go.Proofs.Qxb6603482a
