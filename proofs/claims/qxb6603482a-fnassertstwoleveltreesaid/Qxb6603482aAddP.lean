import Derived.Test.Qxb6603482aTree
namespace Go.Proofs.Qxb6603482a
open Go.RowKit

/-- What the addition of a child leaves, fact by fact; v: the slice of children before, v': behind. -/
structure AddP (w w' : World) (b s : Nat) (v v' : Value) (n : Nat) (xs : List Value) : Prop where
  os : w'.os = w.os
  tape : w'.tape = w.tape
  output : w'.output = w.output
  size : w.heap.size ≤ w'.heap.size
  old : ∀ k, k < w.heap.size → k ≠ b → v.ownBlock ≠ some k → w'.heap[k]? = w.heap[k]?
  cell0 : w'.cell? ⟨b, 0, none⟩ = w.cell? ⟨b, 0, none⟩
  cell2 : w'.cell? ⟨b, 2, none⟩ = some v'
  frozen : w'.frozen? ⟨b, 2, none⟩ = w.frozen? ⟨b, 2, none⟩
  owns : w'.ownsRow 0 23 1 v' (n + 1) (xs ++ [ptrTo s])
  row : ∀ k, v'.ownBlock = some k → v.ownBlock = some k ∨ w.heap.size ≤ k

theorem Added.parts {w w' : World} {b s : Nat} {v : Value} {n : Nat} {xs : List Value} (h : Added w w' b s v n xs) (hb : b < w.heap.size) {u : Value} (hv : w.cell? ⟨b, 2, none⟩ = some u) (hne : v.ownBlock ≠ some b) :
    ∃ v', AddP w w' b s v v' n xs := by
  obtain ⟨g, cap', w1, hown, hgr, hg, rfl⟩ := h
  have hbb := hgr.block b hb (fun e => hne e.symm)
  have hgb : g ≠ b := by
    rcases hg with hg | hg
    · intro e; exact hne (by rw [hg, e])
    · omega
  refine ⟨.slice (some ⟨g, 0, none⟩) (n + 1) cap', ⟨hgr.os, hgr.tape, hgr.output, ?_, ?_, ?_, ?_, ?_, ?_, ?_⟩⟩
  · have := hgr.size
    simpa [World.setCell] using this
  · intro k hk hkb hkv
    rw [Below.heap_setCell _ _ _ _ hkb]
    exact hgr.block k hk (fun e => hkv e.symm)
  · exact (World.cell?_setCell_other _ _ _ _ (by simp)).trans (World.cell?_of_block hbb)
  · exact World.cell?_setCell_same _ _ _ (u := u) ((World.cell?_of_block (a := ⟨b, 2, none⟩) hbb).trans hv)
  · rw [World.frozen?_setCell]
    exact World.frozen?_of_block hbb
  · exact ownsRow_setCell_other hown (by simpa [Value.ownBlock] using hgb) _
  · intro k hk
    simp [Value.ownBlock] at hk
    subst hk
    exact hg

theorem AddP.below {w w' : World} {b s : Nat} {v v' : Value} {n : Nat} {xs : List Value} (h : AddP w w' b s v v' n xs) {B : Nat} (hB : B ≤ b) (hs : B ≤ w.heap.size) (hr : ∀ k, v.ownBlock = some k → B ≤ k) : Below B w w' :=
  ⟨h.os, h.tape, h.output, h.size, fun k hk => h.old k (by omega) (by omega) (fun e => by have := hr k e; omega)⟩

theorem new_cell0 (w : World) (n : Int) : (w.alloc (.cells (nodeCells n) 45)).cell? ⟨w.heap.size, 0, none⟩ = some (.int .u8 n) := by
  rw [World.cell?_alloc_new]; rfl
theorem new_cell2 (w : World) (n : Int) : (w.alloc (.cells (nodeCells n) 45)).cell? ⟨w.heap.size, 2, none⟩ = some (.slice none 0 0) := by
  rw [World.cell?_alloc_new]; rfl
theorem new_frozen (w : World) (n : Int) (j : Nat) : (w.alloc (.cells (nodeCells n) 45)).frozen? ⟨w.heap.size, j, none⟩ = false := by
  simp

end Go.Proofs.Qxb6603482a
