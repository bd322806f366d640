import Derived.Test.Qxb6602859aAdd
namespace Go.Proofs.Qxb6602859a
open Go.RowKit Go.Maps

/-- Is y among the ids L? -/
def inL (L : List Nat) (y : Int) : Bool := L.any (fun r => y == (r : Int))

theorem inL_nil : inL [] = fun _ => false := rfl
theorem inL_snoc (L : List Nat) (r : Nat) : (fun y : Int => y == (r : Int) || inL L y) = inL (L ++ [r]) := by
  funext y
  unfold inL
  rw [List.any_append, Bool.or_comm]
  simp
theorem inL_iff (L : List Nat) (x : Nat) : inL L (x : Int) = L.contains x := by
  unfold inL
  rw [Bool.eq_iff_iff]
  simp only [List.any_eq_true, beq_iff_eq, List.contains_iff_mem]
  constructor
  · rintro ⟨r, hr, e⟩
    have : x = r := by omega
    rw [this]; exact hr
  · intro h
    exact ⟨x, h, rfl⟩

/-- The appenders that are readers; those that are not. -/
def bothL (R A : List Nat) : List Nat := A.filter (fun a => inL R (a : Int))
def othL (R A : List Nat) : List Nat := A.filter (fun a => !inL R (a : Int))

theorem take_snocN (L : List Nat) (k : Nat) (h : k < L.length) : L.take (k + 1) = L.take k ++ [L.getD k 0] := by
  rw [List.take_succ_eq_append_getElem h]; simp [List.getD, h]

theorem both_yes (R A : List Nat) (k : Nat) (h : k < A.length) (hi : inL R (A.getD k 0 : Nat) = true) : bothL R (A.take (k + 1)) = bothL R (A.take k) ++ [A.getD k 0] := by
  rw [take_snocN A k h]; unfold bothL; rw [List.filter_append]; simp only [List.filter_cons, hi, List.filter_nil, if_true]
theorem oth_yes (R A : List Nat) (k : Nat) (h : k < A.length) (hi : inL R (A.getD k 0 : Nat) = true) : othL R (A.take (k + 1)) = othL R (A.take k) := by
  rw [take_snocN A k h]; unfold othL; rw [List.filter_append]; simp only [List.filter_cons, hi, List.filter_nil]; simp
theorem both_no (R A : List Nat) (k : Nat) (h : k < A.length) (hi : inL R (A.getD k 0 : Nat) = false) : bothL R (A.take (k + 1)) = bothL R (A.take k) := by
  rw [take_snocN A k h]; unfold bothL; rw [List.filter_append]; simp only [List.filter_cons, hi, List.filter_nil]; simp
theorem oth_no (R A : List Nat) (k : Nat) (h : k < A.length) (hi : inL R (A.getD k 0 : Nat) = false) : othL R (A.take (k + 1)) = othL R (A.take k) ++ [A.getD k 0] := by
  rw [take_snocN A k h]; unfold othL; rw [List.filter_append]; simp only [List.filter_cons, hi, List.filter_nil]; simp

theorem both_len (R A : List Nat) : (bothL R A).length + (othL R A).length = A.length := by
  unfold bothL othL
  induction A with
  | nil => rfl
  | cons a A ih =>
    simp only [List.filter_cons, List.length_cons]
    cases inL R (a : Int) <;> simp <;> omega
theorem both_le (R A : List Nat) : (bothL R A).length ≤ A.length := List.length_filter_le _ _
theorem oth_le (R A : List Nat) : (othL R A).length ≤ A.length := List.length_filter_le _ _

theorem both_mem {R A : List Nat} {N : Nat} (h : ∀ x ∈ A, x ≤ N) : ∀ x ∈ bothL R A, x ≤ N := fun x hx => h x (List.mem_filter.1 hx).1
theorem oth_mem {R A : List Nat} {N : Nat} (h : ∀ x ∈ A, x ≤ N) : ∀ x ∈ othL R A, x ≤ N := fun x hx => h x (List.mem_filter.1 hx).1

theorem getD_le {L : List Nat} {N : Nat} (h : ∀ x ∈ L, x ≤ N) (j : Nat) : L.getD j 0 ≤ N := by
  by_cases hj : j < L.length
  · have : L.getD j 0 = L[j] := by simp [List.getD, hj]
    rw [this]; exact h _ (List.getElem_mem hj)
  · have : L.getD j 0 = 0 := by simp [List.getD, hj]
    omega

/-- Ids as values. -/
def ids (L : List Nat) : List Value := L.map (fun (x : Nat) => Value.int .i64 (x : Int))

theorem ids_snoc (L : List Nat) (x : Nat) : ids L ++ [.int .i64 (x : Int)] = ids (L ++ [x]) := by simp [ids]

/-- What has been added to the edges: at most n, each of kind 4. -/
def New (es0 es : List (Int × Int × Int)) (n : Nat) : Prop := ∃ new, es = es0 ++ new ∧ new.length ≤ n ∧ ∀ e ∈ new, e.2.2 = 4

theorem New.refl (es : List (Int × Int × Int)) : New es es 0 := ⟨[], by simp, by simp, by simp⟩
theorem New.mono {es0 es : List (Int × Int × Int)} {n m : Nat} (h : New es0 es n) (hm : n ≤ m) : New es0 es m := by
  obtain ⟨new, h1, h2, h3⟩ := h
  exact ⟨new, h1, by omega, h3⟩
theorem New.step {es0 es es' : List (Int × Int × Int)} {n : Nat} (h : New es0 es n) (hs : es' = es ∨ ∃ x y, es' = es ++ [(x, y, 4)]) : New es0 es' (n + 1) := by
  obtain ⟨new, h1, h2, h3⟩ := h
  rcases hs with rfl | ⟨x, y, rfl⟩
  · exact ⟨new, h1, by omega, h3⟩
  · refine ⟨new ++ [(x, y, 4)], by rw [h1, List.append_assoc], by simp; omega, fun e he => ?_⟩
    rcases List.mem_append.1 he with he | he
    · exact h3 e he
    · simp at he; rw [he]
theorem New.len {es0 es : List (Int × Int × Int)} {n : Nat} (h : New es0 es n) : es.length ≤ es0.length + n := by
  obtain ⟨new, h1, h2, _⟩ := h
  rw [h1, List.length_append]; omega

/-- A map's block is no block of cells. -/
theorem HasSet.apart {w : World} {M n : Nat} {S : Int → Bool} (h : HasSet w M n S) {b o : Nat} {x : Value} (hc : w.cell? ⟨b, o, none⟩ = some x) : b ≠ M := by
  intro e
  subst e
  obtain ⟨D, ⟨es, clock, hb, _⟩, _⟩ := h
  simp [World.cell?, hb] at hc

theorem HasSet.apartRow {w : World} {M n : Nat} {S : Int → Bool} (h : HasSet w M n S) {base : Nat} {e : TypeId} {size : Nat} {v : Value} {m : Nat} {xs : List Value} (ho : w.ownsRow base e size v m xs) : v.ownBlock ≠ some M := by
  intro ee
  obtain ⟨D, ⟨es, clock, hb, _⟩, _⟩ := h
  rcases ho.2 with ⟨rfl, _⟩ | ⟨g, cap, cur, rfl, _, hg, _⟩
  · simp [Value.ownBlock] at ee
  · simp [Value.ownBlock] at ee
    subst ee
    rw [hb] at hg
    cases hg

theorem HasSet.fr {w w' : World} {M n Bd : Nat} {S : Int → Bool} {v v' : Value} (h : HasSet w M n S) (hs : Safe w Bd v M) (hf : Fr w w' Bd v v') : HasSet w' M n S := by
  obtain ⟨D, ⟨es, clock, hb, r⟩, h2⟩ := h
  exact ⟨D, ⟨es, clock, (hf.old M hs).trans hb, r⟩, h2⟩

theorem Bld.safeMap {w : World} {M n Bd cl cc : Nat} {S : Int → Bool} {ca : Option Addr} {cm : Nat → Bool} {nodes : Int} {v : Value} {es : List (Int × Int × Int)} (h : Bld w Bd ca cl cc cm nodes v es) (hs : HasSet w M n S) : Safe w Bd v M :=
  ⟨hs.lt, fun e => hs.apart h.com e.symm, hs.apartRow h.owns⟩

theorem ownsRow_of_blocks {w w' : World} {base : Nat} {e : TypeId} {size : Nat} {v : Value} {n : Nat} {xs : List Value} (h : w.ownsRow base e size v n xs) (hw : ∀ g, v.ownBlock = some g → w'.heap[g]? = w.heap[g]?) : w'.ownsRow base e size v n xs := by
  refine ⟨h.1, ?_⟩
  rcases h.2 with hn | ⟨g, cap, cur, rfl, hb, hgg, rest⟩
  · exact .inl hn
  · exact .inr ⟨g, cap, cur, rfl, hb, (hw g rfl).trans hgg, rest⟩

/-- The builder stays while blocks that are none of its own turn. -/
theorem Bld.keep {w w' : World} {Bd cl cc : Nat} {ca : Option Addr} {cm : Nat → Bool} {nodes : Int} {v : Value} {es : List (Int × Int × Int)} (h : Bld w Bd ca cl cc cm nodes v es) (hs : w.heap.size ≤ w'.heap.size)
    (hb : w'.heap[Bd]? = w.heap[Bd]?) (hv : ∀ g, v.ownBlock = some g → w'.heap[g]? = w.heap[g]?) (hc : Sl w' (Safe w' Bd v) ca cl (fun j => .bool (cm j))) : Bld w' Bd ca cl cc cm nodes v es :=
  ⟨Nat.lt_of_lt_of_le h.lt hs, (World.cell?_of_block (a := ⟨Bd, 0, none⟩) hb).trans h.com, (World.cell?_of_block (a := ⟨Bd, 1, none⟩) hb).trans h.nod, (World.cell?_of_block (a := ⟨Bd, 2, none⟩) hb).trans h.edg,
    (World.frozen?_of_block (a := ⟨Bd, 1, none⟩) hb).trans h.fr1, (World.frozen?_of_block (a := ⟨Bd, 2, none⟩) hb).trans h.fr2, ownsRow_of_blocks h.owns hv, h.own, hc⟩

theorem Safe.mono {w w' : World} {Bd : Nat} {v : Value} {x : Nat} (h : Safe w Bd v x) (hs : w.heap.size ≤ w'.heap.size) : Safe w' Bd v x := ⟨Nat.lt_of_lt_of_le h.1 hs, h.2.1, h.2.2⟩

theorem Bld.below {w w' : World} {Bd cl cc : Nat} {ca : Option Addr} {cm : Nat → Bool} {nodes : Int} {v : Value} {es : List (Int × Int × Int)} (h : Bld w Bd ca cl cc cm nodes v es) (hb : Below w.heap.size w w') : Bld w' Bd ca cl cc cm nodes v es :=
  h.keep hb.size (hb.block Bd h.lt) (fun g hg => hb.block g (h.owns.lt g hg).2) (h.sl.keep (fun k hk => hb.block k hk.1) (fun _ hk => hk.mono hb.size))

theorem Sl.below {w w' : World} {Bd : Nat} {v : Value} {a : Option Addr} {len : Nat} {c : Nat → Value} (h : Sl w (Safe w Bd v) a len c) (hb : Below w.heap.size w w') : Sl w' (Safe w' Bd v) a len c :=
  h.keep (fun k hk => hb.block k hk.1) (fun _ hk => hk.mono hb.size)

/-- .. while a map is written. -/
theorem Sl.map {w w' : World} {M n Bd : Nat} {S : Int → Bool} {v : Value} {a : Option Addr} {len : Nat} {c : Nat → Value} (h : Sl w (Safe w Bd v) a len c) (hm : HasSet w M n S) (hg : w.grownBy w' (some M)) : Sl w' (Safe w' Bd v) a len c := by
  intro hl
  obtain ⟨b, o, ha, hb, hc⟩ := h hl
  have hne : b ≠ M := hm.apart (by have := hc 0 hl; exact this)
  exact ⟨b, o, ha, hb.mono hg.size, fun j hj => (World.cell?_of_block (a := ⟨b, o + j, none⟩) (hg.block b hb.1 (by simpa using hne))).trans (hc j hj)⟩

theorem Bld.map {w w' : World} {M n Bd cl cc : Nat} {S : Int → Bool} {ca : Option Addr} {cm : Nat → Bool} {nodes : Int} {v : Value} {es : List (Int × Int × Int)} (h : Bld w Bd ca cl cc cm nodes v es) (hm : HasSet w M n S) (hg : w.grownBy w' (some M)) : Bld w' Bd ca cl cc cm nodes v es :=
  h.keep hg.size (hg.block Bd h.lt (by have := hm.apart h.com; simpa using this)) (fun g hgg => hg.block g (h.owns.lt g hgg).2 (by
    intro e; have : g = M := by simpa using e
    rw [this] at hgg; exact hm.apartRow h.owns hgg)) (h.sl.map hm hg)

/-- A step on the builder, behind blocks that were made since. -/
theorem Fr.grown {w w' w'' : World} {Bd : Nat} {v v' : Value} (h : Fr w w' Bd v v') {M : Nat} (hM : w.heap.size ≤ M) (hg : w'.grownBy w'' (some M)) : Fr w w'' Bd v v' := by
  refine ⟨hg.os.trans h.os, hg.tape.trans h.tape, hg.output.trans h.output, Nat.le_trans h.size hg.size, fun k hk => ?_, h.row⟩
  have h1 := hk.1
  have h2 := h.size
  exact (hg.block k (by omega) (by intro e; have : k = M := by simpa using e
                                   omega)).trans (h.old k hk)

theorem Fr.alloc {w w' : World} {Bd : Nat} {v v' : Value} (h : Fr w w' Bd v v') (o : Obj) : Fr w (w'.alloc o) Bd v v' := by
  refine ⟨h.os, h.tape, h.output, Nat.le_trans h.size (by simp), fun k hk => ?_, h.row⟩
  have h1 := hk.1
  have h2 := h.size
  exact (Below.heap_alloc w' o k (by omega)).trans (h.old k hk)

/-- A row that the call owns, as a slice that can be read. -/
theorem sl_of_owns {w : World} {base : Nat} {ao : Option Addr} {L : List Nat} {cap : Nat} (h : w.ownsRow base 3 1 (.slice ao L.length cap) L.length (ids L)) (ok : Nat → Prop) (hok : ∀ g, base ≤ g → g < w.heap.size → ok g) :
    Sl w ok ao L.length (fun j => .int .i64 (L.getD j 0 : Nat)) := by
  intro hl
  rcases h.2 with ⟨_, h0⟩ | ⟨g, cap', cur, hv, hb, hg, _⟩
  · omega
  · simp only [Value.slice.injEq] at hv
    obtain ⟨rfl, _, _⟩ := hv
    refine ⟨g, 0, rfl, hok g hb (Array.getElem?_eq_some_iff.1 hg).1, fun j hj => ?_⟩
    have := h.cells (g := g) rfl j (.int .i64 (L.getD j 0 : Nat)) (by simp [ids, hj])
    rw [show (⟨g, 0, none⟩ : Addr).add j = ⟨g, 0 + j, none⟩ by unfold Addr.add; split <;> simp_all] at this
    exact this

end Go.Proofs.Qxb6602859a
