import Derived.Test.Qxb6602859aSet
import Derived.Deep.AppendLies
namespace Go.Proofs.Qxb6602859a
open Go.RowKit Go.Maps

theorem Try.info53 : (Try.prog.info? 53).map (fun i => (i.zero, i.size, i.bytes)) = some (some (.agg #[.int .i32 0, .int .i32 0, .int .u8 0]), 3, 12) := by kernel_rfl

/-- An edge's three cells. -/
def edgeCells (e : Int × Int × Int) : List Value := [.int .i32 e.1, .int .i32 e.2.1, .int .u8 e.2.2]
def esCells (es : List (Int × Int × Int)) : List Value := es.flatMap edgeCells

theorem esCells_length (es : List (Int × Int × Int)) : (esCells es).length = es.length * 3 := by
  induction es with
  | nil => rfl
  | cons e es ih => simp [esCells, edgeCells] at ih ⊢; omega

theorem esCells_snoc (es : List (Int × Int × Int)) (e : Int × Int × Int) : esCells (es ++ [e]) = esCells es ++ edgeCells e := by simp [esCells]

/-- Block x is none of the builder's. -/
def Safe (w : World) (Bd : Nat) (v : Value) (x : Nat) : Prop := x < w.heap.size ∧ x ≠ Bd ∧ v.ownBlock ≠ some x

/-- What a step on the builder leaves alone. v, v': the edges' slice before and behind. -/
structure Fr (w w' : World) (Bd : Nat) (v v' : Value) : Prop where
  os : w'.os = w.os
  tape : w'.tape = w.tape
  output : w'.output = w.output
  size : w.heap.size ≤ w'.heap.size
  old : ∀ k, Safe w Bd v k → w'.heap[k]? = w.heap[k]?
  row : ∀ k, v'.ownBlock = some k → v.ownBlock = some k ∨ w.heap.size ≤ k

theorem Fr.refl (w : World) (Bd : Nat) (v : Value) : Fr w w Bd v v := ⟨rfl, rfl, rfl, Nat.le_refl _, fun _ _ => rfl, fun _ h => .inl h⟩

theorem Fr.safe {w w' : World} {Bd : Nat} {v v' : Value} (h : Fr w w' Bd v v') {x : Nat} (hx : Safe w Bd v x) : Safe w' Bd v' x := by
  obtain ⟨h1, h2, h3⟩ := hx
  refine ⟨Nat.lt_of_lt_of_le h1 h.size, h2, fun e => ?_⟩
  rcases h.row x e with e' | e'
  · exact h3 e'
  · omega

theorem Fr.trans {w w' w'' : World} {Bd : Nat} {v v' v'' : Value} (h : Fr w w' Bd v v') (k : Fr w' w'' Bd v' v'') : Fr w w'' Bd v v'' := by
  refine ⟨k.os.trans h.os, k.tape.trans h.tape, k.output.trans h.output, Nat.le_trans h.size k.size, fun x hx => (k.old x (h.safe hx)).trans (h.old x hx), fun x hx => ?_⟩
  rcases k.row x hx with e | e
  · exact h.row x e
  · exact .inr (Nat.le_trans h.size e)

theorem Fr.cell {w w' : World} {Bd : Nat} {v v' : Value} (h : Fr w w' Bd v v') {x o : Nat} (hx : Safe w Bd v x) : w'.cell? ⟨x, o, none⟩ = w.cell? ⟨x, o, none⟩ :=
  World.cell?_of_block (a := ⟨x, o, none⟩) (h.old x hx)

theorem Fr.below {w w' : World} {Bd : Nat} {v v' : Value} (h : Fr w w' Bd v v') {B : Nat} (hB : B ≤ Bd) (hs : B ≤ w.heap.size) (hr : ∀ k, v.ownBlock = some k → B ≤ k) : Below B w w' :=
  ⟨h.os, h.tape, h.output, h.size, fun k hk => h.old k ⟨by omega, by omega, fun e => by have := hr k e; omega⟩⟩

/-- A slice whose cells can be read in safe blocks. -/
def Sl (w : World) (ok : Nat → Prop) (a : Option Addr) (len : Nat) (c : Nat → Value) : Prop :=
  0 < len → ∃ b o, a = some ⟨b, o, none⟩ ∧ ok b ∧ ∀ j, j < len → w.cell? ⟨b, o + j, none⟩ = some (c j)

theorem Sl.keep {w w' : World} {ok ok' : Nat → Prop} {a : Option Addr} {len : Nat} {c : Nat → Value} (h : Sl w ok a len c) (hw : ∀ k, ok k → w'.heap[k]? = w.heap[k]?) (hok : ∀ k, ok k → ok' k) : Sl w' ok' a len c := by
  intro hl
  obtain ⟨b, o, ha, hb, hc⟩ := h hl
  exact ⟨b, o, ha, hok b hb, fun j hj => (World.cell?_of_block (a := ⟨b, o + j, none⟩) (hw b hb)).trans (hc j hj)⟩

theorem Sl.fr {w w' : World} {Bd : Nat} {v v' : Value} {a : Option Addr} {len : Nat} {c : Nat → Value} (h : Sl w (Safe w Bd v) a len c) (hf : Fr w w' Bd v v') : Sl w' (Safe w' Bd v') a len c :=
  h.keep (fun k hk => hf.old k hk) (fun _ hk => hf.safe hk)

/-- THE BUILDER in block Bd: the committed flags (a slice that can be read), the number of nodes, the edges. -/
structure Bld (w : World) (Bd : Nat) (ca : Option Addr) (cl cc : Nat) (cm : Nat → Bool) (nodes : Int) (v : Value) (es : List (Int × Int × Int)) : Prop where
  lt : Bd < w.heap.size
  com : w.cell? ⟨Bd, 0, none⟩ = some (.slice ca cl cc)
  nod : w.cell? ⟨Bd, 1, none⟩ = some (.int .i64 nodes)
  edg : w.cell? ⟨Bd, 2, none⟩ = some v
  fr1 : w.frozen? ⟨Bd, 1, none⟩ = false
  fr2 : w.frozen? ⟨Bd, 2, none⟩ = false
  owns : w.ownsRow 0 53 3 v es.length (esCells es)
  own : v.ownBlock ≠ some Bd
  sl : Sl w (Safe w Bd v) ca cl (fun j => .bool (cm j))

theorem res33 : Try.f33.results = #[] := by kernel_rfl

set_option maxHeartbeats 1600000 in
/-- add where nothing is added. -/
theorem c33_none (w : World) (Bd cl cc : Nat) (ca : Option Addr) (cm : Nat → Bool) (u t : Nat) (k : Int) (com : w.cell? ⟨Bd, 0, none⟩ = some (.slice ca cl cc)) (hu : u ≤ 9223372036854775807) (ht : t ≤ 9223372036854775807) (hcl : cl ≤ 4096)
    (sl : 0 < cl → ∃ b o, ca = some ⟨b, o, none⟩ ∧ ∀ j, j < cl → w.cell? ⟨b, o + j, none⟩ = some (.bool (cm j)))
    (hno : u = t ∨ (u ≠ t ∧ u < cl ∧ cm u = false) ∨ (u ≠ t ∧ cl ≤ u ∧ t < cl ∧ cm t = false) ∨ (u ≠ t ∧ u < cl ∧ cm u = true ∧ t < cl ∧ cm t = false)) :
    Calls Try.prog 33 #[.pointer (some ⟨Bd, 0, none⟩), .int .i64 u, .int .i64 t, .int .u8 k] w fun e w' => e = .returned (.tuple #[]) ∧ w' = w := by
  rcases hno with rfl | ⟨hne, h1, h2⟩ | ⟨hne, h1, h2, h3⟩ | ⟨hne, h1, h2, h3, h4⟩
  · clear sl
    go_enter Try.func33, Try.ntmps33
    go_wp2_with fail
    exact bodyPost_ret (results_none res33 _ _ _) rfl ⟨rfl, rfl⟩
  · obtain ⟨b, o, rfl, hc⟩ := sl (by omega)
    have c1 := hc u h1
    rw [h2] at c1
    have hb : ((u : Int) == (t : Int)) = false := by simp; omega
    clear sl hc
    go_enter Try.func33, Try.ntmps33
    go_wp2_with fail
    exact bodyPost_ret (results_none res33 _ _ _) rfl ⟨rfl, rfl⟩
  · obtain ⟨b, o, rfl, hc⟩ := sl (by omega)
    have c1 := hc t h2
    rw [h3] at c1
    have hb : ((u : Int) == (t : Int)) = false := by simp; omega
    have hd : decide ((u : Int) < (cl : Int)) = false := by simp; omega
    clear sl hc
    go_enter Try.func33, Try.ntmps33
    go_wp2_with fail
    exact bodyPost_ret (results_none res33 _ _ _) rfl ⟨rfl, rfl⟩
  · obtain ⟨b, o, rfl, hc⟩ := sl (by omega)
    have c1 := hc u h1
    rw [h2] at c1
    have c2 := hc t h3
    rw [h4] at c2
    have hb : ((u : Int) == (t : Int)) = false := by simp; omega
    clear sl hc
    go_enter Try.func33, Try.ntmps33
    go_wp2_with fail
    exact bodyPost_ret (results_none res33 _ _ _) rfl ⟨rfl, rfl⟩

theorem grownBy_of_alloc {w w1 : World} {o : Obj} {row : Option Nat} (h : (w.alloc o).grownBy w1 row) : w.grownBy w1 row :=
  ⟨h.os, h.tape, h.output, Nat.le_trans (by simp) h.size, fun k hk hne => (h.block k (by simp; omega) hne).trans (Below.heap_alloc w o k hk)⟩

/-- The world behind the append and the store into the field. -/
def Put (w w' : World) (Bd : Nat) (v : Value) (es : List (Int × Int × Int)) (e : Int × Int × Int) : Prop :=
  ∃ g cap w1, w1.ownsRow 0 53 3 (.slice (some ⟨g, 0, none⟩) (es.length + 1) cap) (es.length + 1) (esCells es ++ edgeCells e) ∧ w.grownBy w1 v.ownBlock ∧ (v.ownBlock = some g ∨ w.heap.size ≤ g) ∧
    w' = w1.setCell ⟨Bd, 2, none⟩ (.slice (some ⟨g, 0, none⟩) (es.length + 1) cap)

theorem news_alloc (w : World) (cs : List Value) (e : TypeId) : ∀ j u, cs[j]? = some u → (w.alloc (.cells cs.toArray e)).cell? ((⟨w.heap.size, 0, none⟩ : Addr).add j) = some u := by
  intro j u h
  rw [show (⟨w.heap.size, 0, none⟩ : Addr).add j = ⟨w.heap.size, j, none⟩ by unfold Addr.add; split <;> simp_all, World.cell?_alloc_new]
  simpa using h

set_option maxHeartbeats 1600000 in
/-- add where an edge is added. -/
theorem c33_some (w : World) (Bd cl cc : Nat) (ca : Option Addr) (cm : Nat → Bool) (nodes : Int) (v : Value) (es : List (Int × Int × Int)) (h : Bld w Bd ca cl cc cm nodes v es) (hes : es.length ≤ 1048576) (u t : Nat) (hu : u ≤ 9223372036854775807) (ht : t ≤ 9223372036854775807) (hcl : cl ≤ 4096)
    (hyes : u ≠ t ∧ ((u < cl ∧ cm u = true) ∨ cl ≤ u) ∧ ((t < cl ∧ cm t = true) ∨ cl ≤ t)) :
    Calls Try.prog 33 #[.pointer (some ⟨Bd, 0, none⟩), .int .i64 u, .int .i64 t, .int .u8 4] w fun e w' => e = .returned (.tuple #[]) ∧ ∃ x y, Put w w' Bd v es (x, y, 4) := by
  obtain ⟨i0, hi, hz0, hz1, hz2⟩ := info_parts Try.info53
  obtain ⟨hne, hcu, hct⟩ := hyes
  have hb : ((u : Int) == (t : Int)) = false := by simp; omega
  have com := h.com
  have edg := h.edg
  have hlt := h.lt
  have fr2 := h.fr2
  have hown := h.owns
  have hrb := h.own
  have sl := h.sl
  clear h
  rcases hcu with ⟨hcu, hcu'⟩ | hcu
  · obtain ⟨b, o, hca, _, hc⟩ := sl (by omega)
    subst hca
    have c1 := hc u hcu
    simp only [hcu'] at c1
    rcases hct with ⟨hct, hct'⟩ | hct
    · have c2 := hc t hct
      simp only [hct'] at c2
      clear sl hc
      go_enter Try.func33, Try.ntmps33
      go_wp2_with (at_builtin; refine wpList_append_lies _ rfl (.tmp 53) (.tmp 60) 49 rfl 0 53 i0 (.agg #[.int .i32 0, .int .i32 0, .int .u8 0]) 3 12 Try.underlying49 hi hz0 hz1 hz2 rfl (by decide) v es.length (esCells es) rfl (hown.alloc _) ⟨w.heap.size, 0, none⟩ 1 1 (edgeCells ((u : Int), (t : Int), 4)) rfl rfl (news_alloc w (edgeCells ((u : Int), (t : Int), 4)) 53) ?c2a (by decide) (by unfold maxLen; omega) (by omega) (Nat.zero_le _) _ rfl ?_)
      case c2a => intro x hx; simp [edgeCells] at hx; rcases hx with rfl | rfl | rfl <;> rfl
      intro g cap w1 hown1 hgr hat _
      have hgr' := grownBy_of_alloc hgr
      have hat' : v.ownBlock = some g ∨ w.heap.size ≤ g := by
        rcases hat with e | e
        · exact .inl e
        · exact .inr (by rw [e]; simp)
      have k0 := (World.cell?_of_block (a := ⟨Bd, 2, none⟩) (hgr'.block Bd hlt (fun e => hrb e.symm))).trans edg
      have e0 := (World.frozen?_of_block (a := ⟨Bd, 2, none⟩) (hgr'.block Bd hlt (fun e => hrb e.symm))).trans fr2
      clear hgr hat hown edg com
      go_wp2
      go_end0
      exact ⟨rfl, (u : Int), (t : Int), g, cap, w1, hown1, hgr', hat', rfl⟩
    · have hd2 : decide ((t : Int) < (cl : Int)) = false := by simp; omega
      clear sl hc
      go_enter Try.func33, Try.ntmps33
      go_wp2_with (at_builtin; refine wpList_append_lies _ rfl (.tmp 53) (.tmp 60) 49 rfl 0 53 i0 (.agg #[.int .i32 0, .int .i32 0, .int .u8 0]) 3 12 Try.underlying49 hi hz0 hz1 hz2 rfl (by decide) v es.length (esCells es) rfl (hown.alloc _) ⟨w.heap.size, 0, none⟩ 1 1 (edgeCells ((u : Int), wrap32 t, 4)) rfl rfl (news_alloc w (edgeCells ((u : Int), wrap32 t, 4)) 53) ?c2b (by decide) (by unfold maxLen; omega) (by omega) (Nat.zero_le _) _ rfl ?_)
      case c2b => intro x hx; simp [edgeCells] at hx; rcases hx with rfl | rfl | rfl <;> rfl
      intro g cap w1 hown1 hgr hat _
      have hgr' := grownBy_of_alloc hgr
      have hat' : v.ownBlock = some g ∨ w.heap.size ≤ g := by
        rcases hat with e | e
        · exact .inl e
        · exact .inr (by rw [e]; simp)
      have k0 := (World.cell?_of_block (a := ⟨Bd, 2, none⟩) (hgr'.block Bd hlt (fun e => hrb e.symm))).trans edg
      have e0 := (World.frozen?_of_block (a := ⟨Bd, 2, none⟩) (hgr'.block Bd hlt (fun e => hrb e.symm))).trans fr2
      clear hgr hat hown edg com
      go_wp2
      go_end0
      exact ⟨rfl, (u : Int), wrap32 t, g, cap, w1, hown1, hgr', hat', rfl⟩
  · have hd1 : decide ((u : Int) < (cl : Int)) = false := by simp; omega
    rcases hct with ⟨hct, hct'⟩ | hct
    · obtain ⟨b, o, hca, _, hc⟩ := sl (by omega)
      subst hca
      have c2 := hc t hct
      simp only [hct'] at c2
      clear sl hc
      go_enter Try.func33, Try.ntmps33
      go_wp2_with (at_builtin; refine wpList_append_lies _ rfl (.tmp 53) (.tmp 60) 49 rfl 0 53 i0 (.agg #[.int .i32 0, .int .i32 0, .int .u8 0]) 3 12 Try.underlying49 hi hz0 hz1 hz2 rfl (by decide) v es.length (esCells es) rfl (hown.alloc _) ⟨w.heap.size, 0, none⟩ 1 1 (edgeCells (wrap32 u, (t : Int), 4)) rfl rfl (news_alloc w (edgeCells (wrap32 u, (t : Int), 4)) 53) ?c2c (by decide) (by unfold maxLen; omega) (by omega) (Nat.zero_le _) _ rfl ?_)
      case c2c => intro x hx; simp [edgeCells] at hx; rcases hx with rfl | rfl | rfl <;> rfl
      intro g cap w1 hown1 hgr hat _
      have hgr' := grownBy_of_alloc hgr
      have hat' : v.ownBlock = some g ∨ w.heap.size ≤ g := by
        rcases hat with e | e
        · exact .inl e
        · exact .inr (by rw [e]; simp)
      have k0 := (World.cell?_of_block (a := ⟨Bd, 2, none⟩) (hgr'.block Bd hlt (fun e => hrb e.symm))).trans edg
      have e0 := (World.frozen?_of_block (a := ⟨Bd, 2, none⟩) (hgr'.block Bd hlt (fun e => hrb e.symm))).trans fr2
      clear hgr hat hown edg com
      go_wp2
      go_end0
      exact ⟨rfl, wrap32 u, (t : Int), g, cap, w1, hown1, hgr', hat', rfl⟩
    · have hd2 : decide ((t : Int) < (cl : Int)) = false := by simp; omega
      clear sl
      go_enter Try.func33, Try.ntmps33
      go_wp2_with (at_builtin; refine wpList_append_lies _ rfl (.tmp 53) (.tmp 60) 49 rfl 0 53 i0 (.agg #[.int .i32 0, .int .i32 0, .int .u8 0]) 3 12 Try.underlying49 hi hz0 hz1 hz2 rfl (by decide) v es.length (esCells es) rfl (hown.alloc _) ⟨w.heap.size, 0, none⟩ 1 1 (edgeCells (wrap32 u, wrap32 t, 4)) rfl rfl (news_alloc w (edgeCells (wrap32 u, wrap32 t, 4)) 53) ?c2d (by decide) (by unfold maxLen; omega) (by omega) (Nat.zero_le _) _ rfl ?_)
      case c2d => intro x hx; simp [edgeCells] at hx; rcases hx with rfl | rfl | rfl <;> rfl
      intro g cap w1 hown1 hgr hat _
      have hgr' := grownBy_of_alloc hgr
      have hat' : v.ownBlock = some g ∨ w.heap.size ≤ g := by
        rcases hat with e | e
        · exact .inl e
        · exact .inr (by rw [e]; simp)
      have k0 := (World.cell?_of_block (a := ⟨Bd, 2, none⟩) (hgr'.block Bd hlt (fun e => hrb e.symm))).trans edg
      have e0 := (World.frozen?_of_block (a := ⟨Bd, 2, none⟩) (hgr'.block Bd hlt (fun e => hrb e.symm))).trans fr2
      clear hgr hat hown edg com
      go_wp2
      go_end0
      exact ⟨rfl, wrap32 u, wrap32 t, g, cap, w1, hown1, hgr', hat', rfl⟩

end Go.Proofs.Qxb6602859a
