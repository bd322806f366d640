import Derived.Test.Qxb6603482aKids
import Derived.Test.Qxb6603482aSeg
namespace Go.Proofs.Qxb6603482a
open Go.RowKit

/-- A NODE THAT IS BEING FILLED: block R, operator o, its children so far kbs (each a tree of d levels; rs: what asserts says of each), in the slice v. -/
structure Root (w : World) (d R : Nat) (o : Int) (v : Value) (kbs : List Nat) (rs : List Bool) : Prop where
  lt : R < w.heap.size
  op : w.cell? ⟨R, 0, none⟩ = some (.int .u8 o)
  fld : w.cell? ⟨R, 2, none⟩ = some v
  free : w.frozen? ⟨R, 2, none⟩ = false
  owns : w.ownsRow 0 23 1 v kbs.length (kbs.map ptrTo)
  own : ∀ g, v.ownBlock = some g → R < g
  len : rs.length = kbs.length
  kids : ∀ j, j < kbs.length → Node w (fun x => x ≠ R ∧ v.ownBlock ≠ some x ∧ R ≤ x ∧ x < w.heap.size) d (kbs.getD j 0) (rs.getD j false)

theorem Root.start (w : World) (d : Nat) (n : Int) : Root (w.alloc (.cells (nodeCells n) 45)) d w.heap.size n (.slice none 0 0) [] [] :=
  ⟨by simp, new_cell0 w n, new_cell2 w n, new_frozen w n 2, World.ownsRow_nil _ _ _ _, by simp [Value.ownBlock], rfl, fun j hj => by simp at hj⟩

theorem Root.keep {w w' : World} {d R : Nat} {o : Int} {v : Value} {kbs : List Nat} {rs : List Bool} (h : Root w d R o v kbs rs) (hb : Below w.heap.size w w') : Root w' d R o v kbs rs := by
  have hs := hb.size
  have hlt := h.lt
  refine ⟨by omega, (hb.cell (p := ⟨R, 0, none⟩) hlt).trans h.op, (hb.cell (p := ⟨R, 2, none⟩) hlt).trans h.fld, (hb.frozen (p := ⟨R, 2, none⟩) hlt).trans h.free,
    h.owns.kept (grownBy_of_below hb) (by cases v.ownBlock <;> simp), h.own, h.len, fun j hj => ?_⟩
  exact Node.keep (fun k hk => hb.block k hk.2.2.2) (fun k hk => ⟨hk.1, hk.2.1, hk.2.2.1, by have := hk.2.2.2; omega⟩) _ _ _ (h.kids j hj)

theorem Root.node {w : World} {d R : Nat} {o : Int} {v : Value} {kbs : List Nat} {rs : List Bool} (h : Root w d R o v kbs rs) : Node w (fun x => R ≤ x ∧ x < w.heap.size) (d + 1) R (isA o || rs.any id) := by
  refine ⟨⟨Nat.le_refl _, h.lt⟩, o, v, kbs, rs, h.op, h.fld, row_of_owns h.owns (fun g hg => ⟨by have := h.own g hg; omega, (h.owns.lt g hg).2⟩), h.len, fun j hj => ?_, rfl⟩
  exact Node.keep (fun _ _ => rfl) (fun k hk => ⟨hk.2.2.1, hk.2.2.2⟩) _ _ _ (h.kids j hj)

theorem Root.add {w w' : World} {d R s : Nat} {o : Int} {v v' : Value} {kbs : List Nat} {rs : List Bool} {r : Bool} {G : Nat → Prop} (h : Root w d R o v kbs rs) (hn : Node w G d s r)
    (hG : ∀ x, G x → x ≠ R ∧ v.ownBlock ≠ some x ∧ R ≤ x ∧ x < w.heap.size) (ha : AddP w w' R s v v' kbs.length (kbs.map ptrTo)) : Root w' d R o v' (kbs ++ [s]) (rs ++ [r]) := by
  have hs := ha.size
  have hlt := h.lt
  have hF : ∀ x, (x ≠ R ∧ v.ownBlock ≠ some x ∧ R ≤ x ∧ x < w.heap.size) → (x ≠ R ∧ v'.ownBlock ≠ some x ∧ R ≤ x ∧ x < w'.heap.size) := fun x hx => by
    refine ⟨hx.1, fun e => ?_, hx.2.2.1, by have := hx.2.2.2; omega⟩
    rcases ha.row x e with e' | e'
    · exact hx.2.1 e'
    · have := hx.2.2.2; omega
  have hold : ∀ x, (x ≠ R ∧ v.ownBlock ≠ some x ∧ R ≤ x ∧ x < w.heap.size) → w'.heap[x]? = w.heap[x]? := fun x hx => ha.old x hx.2.2.2 hx.1 hx.2.1
  refine ⟨by omega, ha.cell0.trans h.op, ha.cell2, ha.frozen.trans h.free, by simpa using ha.owns, ?_, by simp [h.len], fun j hj => ?_⟩
  · intro g hg
    rcases ha.row g hg with e' | e'
    · exact h.own g e'
    · omega
  · simp only [List.length_append, List.length_cons, List.length_nil] at hj
    by_cases hjl : j < kbs.length
    · have e1 : (kbs ++ [s]).getD j 0 = kbs.getD j 0 := by simp [List.getD, List.getElem?_append_left hjl]
      have e2 : (rs ++ [r]).getD j false = rs.getD j false := by simp [List.getD, List.getElem?_append_left (show j < rs.length by rw [h.len]; exact hjl)]
      rw [e1, e2]
      exact Node.keep hold hF _ _ _ (h.kids j hjl)
    · obtain rfl : j = kbs.length := by omega
      have e1 : (kbs ++ [s]).getD kbs.length 0 = s := by simp [List.getD]
      have e2 : (rs ++ [r]).getD kbs.length false = r := by rw [← h.len]; simp [List.getD]
      rw [e1, e2]
      exact Node.keep (fun x hx => hold x (hG x hx)) (fun x hx => hF x (hG x hx)) _ _ _ hn

theorem c10_root {w : World} {d R : Nat} {o : Int} {v : Value} {kbs : List Nat} {rs : List Bool} (h : Root w d R o v kbs rs) (hn : kbs.length ≤ 1048576) (s : Nat) :
    Calls Try.prog 10 #[.pointer (some ⟨R, 0, none⟩), .pointer (some ⟨s, 0, none⟩)] w fun e w' => e = .returned (.tuple #[]) ∧ ∃ v', AddP w w' R s v v' kbs.length (kbs.map ptrTo) := by
  have hne : v.ownBlock ≠ some R := fun e => by have := h.own R e; omega
  refine (c10 w R s v kbs.length (kbs.map ptrTo) h.lt hn h.fld h.free h.owns hne).mono ?_
  rintro e w' ⟨rfl, hadd⟩
  exact ⟨rfl, hadd.parts h.lt h.fld hne⟩

theorem Root.leaf {w w' : World} {K : Nat} {o z : Int} {v v' : Value} {lbs : List Nat} {rs : List Bool} (h : Root w 1 K o v lbs rs)
    (ha : AddP (w.alloc (.cells (nodeCells z) 45)) w' K w.heap.size v v' lbs.length (lbs.map ptrTo)) : Root w' 1 K o v' (lbs ++ [w.heap.size]) (rs ++ [isA z]) := by
  have hk := h.keep (w' := w.alloc (.cells (nodeCells z) 45)) ((Below.refl _ _).alloc (Nat.le_refl _) _)
  refine hk.add (G := fun x => x = w.heap.size) (leaf_of _ rfl (new_cell0 w z) (new_cell2 w z)) (fun x hx => ?_) ha
  subst hx
  have hlt := h.lt
  refine ⟨by omega, fun e => ?_, by omega, by simp⟩
  have := (h.owns.lt _ e).2
  omega

theorem Root.child {wr wi w' : World} {d R : Nat} {o : Int} {v v' : Value} {kbs : List Nat} {rs : List Bool} {r : Bool} (h : Root wr d R o v kbs rs) (hb : Below wr.heap.size wr wi)
    (hn : Node wi (fun x => wr.heap.size ≤ x ∧ x < wi.heap.size) d wr.heap.size r) (ha : AddP wi w' R wr.heap.size v v' kbs.length (kbs.map ptrTo)) : Root w' d R o v' (kbs ++ [wr.heap.size]) (rs ++ [r]) := by
  refine (h.keep hb).add hn (fun x hx => ?_) ha
  have hlt := h.lt
  refine ⟨by omega, fun e => ?_, by omega, hx.2⟩
  have := (h.owns.lt _ e).2
  omega

theorem AddP.belowRoot {w w' : World} {d R s : Nat} {o : Int} {v v' : Value} {kbs : List Nat} {rs : List Bool} (ha : AddP w w' R s v v' kbs.length (kbs.map ptrTo)) (h : Root w d R o v kbs rs) {B : Nat} (hB : B ≤ R) : Below B w w' :=
  ha.below hB (by have := h.lt; omega) (fun k e => by have := h.own k e; omega)

theorem take_any (zs : List Int) (k : Nat) (h : k < zs.length) : ((zs.take (k + 1)).map isA) = (zs.take k).map isA ++ [isA (zs.getD k 0)] := by
  rw [take_snoc' zs k h]; simp

theorem any_map (zs : List Int) : (zs.map isA).any id = zs.any isA := by simp [List.any_map]

end Go.Proofs.Qxb6603482a
