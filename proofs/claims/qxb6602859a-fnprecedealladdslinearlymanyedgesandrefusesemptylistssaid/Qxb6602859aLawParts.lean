import Derived.Test.Qxb6602859aSmall
import Derived.Laws.CopyOwn
import Derived.WalkSpells
import Derived.Deep.QuietTactic
import Derived.BigQuiet
namespace Go.Proofs.Qxb6602859a
open Go.RowKit Go.Maps

theorem Try.info4 : (Try.prog.info? 4).map (fun i => (i.zero, i.size, i.bytes)) = some (some (.bool false), 1, 1) := by kernel_rfl
theorem size4 : (Try.prog.info? 4).map (·.size) = some 1 := by kernel_rfl
theorem size21 : (Try.prog.info? 21).map (·.size) = some 1 := by kernel_rfl
theorem size5 : (Try.prog.info? 5).map (·.size) = some 1 := by kernel_rfl
theorem size3 : (Try.prog.info? 3).map (·.size) = some 1 := by kernel_rfl

/-- A slice that came in, read. -/
def In (w : World) (a : Option Addr) (len : Nat) (c : Nat → Value) : Prop := 0 < len → ∃ ad, a = some ad ∧ ∀ j, j < len → w.cell? (ad.add j) = some (c j)

theorem In.up {w w' : World} {a : Option Addr} {len : Nat} {c : Nat → Value} (h : In w a len c) (hb : Below w.heap.size w w') : In w' a len c := by
  intro hl
  obtain ⟨ad, ha, hc⟩ := h hl
  exact ⟨ad, ha, fun j hj => (hb.cell (World.block_lt_of_cell? _ _ (hc j hj))).trans (hc j hj)⟩

theorem Sl.up {w w' : World} {a : Option Addr} {len : Nat} {c : Nat → Value} (h : Sl w (fun x => x < w.heap.size) a len c) (hb : Below w.heap.size w w') : Sl w' (fun x => x < w'.heap.size) a len c :=
  h.keep (fun k hk => hb.block k hk) (fun k hk => by have := hb.size; have hk' : k < w.heap.size := hk; show k < w'.heap.size; omega)

/-- What each 'if xs != nil { copy }' leaves. -/
def Cop (w wc : World) (v : Value) (len : Nat) (c : Nat → Value) : Prop := ∃ a' cap', v = .slice a' len cap' ∧ Sl wc (fun x => x < wc.heap.size) a' len c ∧ Below w.heap.size w wc

theorem Cop.nil {w : World} {len cap : Nat} {c : Nat → Value} (h : In w none len c) : Cop w w (.slice none len cap) len c :=
  ⟨none, cap, rfl, fun hl => (by obtain ⟨ad, ha, _⟩ := h hl; cases ha), Below.refl _ _⟩

/-- The cells as a list. -/
def rowOf (len : Nat) (c : Nat → Value) : List Value := (List.range len).map c
theorem rowOf_length (len : Nat) (c : Nat → Value) : (rowOf len c).length = len := by simp [rowOf]

theorem Cop.made {w wc : World} {g len : Nat} {t : TypeId} {c : Nat → Value} {cur : List Value} (hl : cur.length = len) (h : Hid (wc.heap[g]? = some (.cells (splice cur 0 (rowOf len c)).toArray t (0, 0)))) (hb : Below w.heap.size w wc) :
    Cop w wc (.slice (some ⟨g, 0, none⟩) len len) len c := by
  refine ⟨_, _, rfl, fun _ => ⟨g, 0, rfl, ?_, fun j hj => ?_⟩, hb⟩
  · have := h.out
    exact (Array.getElem?_eq_some_iff.1 this).1
  · have hs : splice cur 0 (rowOf len c) = rowOf len c := by
      unfold splice
      rw [rowOf_length, List.take_zero, List.nil_append, List.drop_of_length_le (by omega), List.append_nil]
    have := h.out
    rw [hs] at this
    simp [World.cell?, this, rowOf, hj]

theorem copy_pos {w w1 : World} {a : Option Addr} {len g : Nat} {c : Nat → Value} (h : In w a len c) (hb : Below w.heap.size w w1) :
    0 < (rowOf len c).length → some (⟨g, 0, none⟩ : Addr) = some ⟨g, 0, none⟩ ∧ ∃ ad, a = some ad ∧ ∀ j v, (rowOf len c)[j]? = some v → w1.cell? (ad.add j) = some v := by
  intro hl
  rw [rowOf_length] at hl
  obtain ⟨ad, ha, hc⟩ := (h.up hb) hl
  refine ⟨rfl, ad, ha, fun j v hv => ?_⟩
  have hj : j < len := by
    have := (List.getElem?_eq_some_iff.1 hv).1
    rwa [rowOf_length] at this
  rw [hc j hj]
  simpa [rowOf, hj] using hv

theorem copy_run {w v1 : World} {ad : Addr} {len cap : Nat} {c : Nat → Value} {cur : List Value} (T el ty : TypeId) (hu : Try.prog.underlying T = some (.slice el)) (hsz : (Try.prog.info? el).map (·.size) = some 1) (h : In w (some ad) len c) (hb : Below w.heap.size w v1)
    (hl : cur.length = len) (hcur : v1.heap[w.heap.size]? = some (.cells cur.toArray el (0, 0))) (h1 : ∀ v ∈ rowOf len c, v.oneCell' = true) :
    ∃ v2 x, (Builtin.copy_ #[T, T] ty #[.slice (some ⟨w.heap.size, 0, none⟩) len len, .slice (some ad) len cap]).run Try.prog v1 = .ok x v2 ∧ Cop w v2 (.slice (some ⟨w.heap.size, 0, none⟩) len len) len c := by
  by_cases h0 : len = 0
  · subst h0
    exact ⟨v1, _, run_copy_none (P := Try.prog) v1 T T ty el _ _ _ _ _ _ hu hsz (by rfl), ⟨_, _, rfl, fun hl => absurd hl (by omega), hb⟩⟩
  · obtain ⟨_, ad', he, hsrc⟩ := copy_pos (g := w.heap.size) h hb (by rw [rowOf_length]; omega)
    obtain rfl : ad = ad' := by simpa using he
    refine ⟨_, _, run_copy_row (P := Try.prog) v1 T T ty el w.heap.size 0 len len ad len cap cur.toArray el (rowOf len c) hu hsz hcur (by rw [rowOf_length]; exact (Nat.min_self _).symm) hsrc (by rw [rowOf_length]; simp [hl]) h1, ?_⟩
    refine Cop.made (cur := cur) (t := el) hl ?_ (below_setRow hb (Nat.le_refl _) _)
    show _ = _
    simpa [splice] using setRow_heap v1 w.heap.size _ _ el _ hcur

theorem row_of_owns {w : World} {base n g : Nat} {e : TypeId} {xs : List Value} (h : w.ownsRow base e 1 (.slice (some ⟨g, 0, none⟩) n n) n xs) : ∃ cur : List Value, cur.length = n ∧ w.heap[g]? = some (.cells cur.toArray e (0, 0)) := by
  rcases h.2 with ⟨h, _⟩ | ⟨g', cap, cur, h, _, hg, _, _, hs, _⟩
  · cases h
  · cases h
    exact ⟨cur.toList, by simpa using hs, by simpa using hg⟩

theorem row_one {len : Nat} {c : Nat → Value} (h : ∀ j, (c j).oneCell' = true) : ∀ v ∈ rowOf len c, v.oneCell' = true := by
  intro v hv
  obtain ⟨j, _, rfl⟩ := List.mem_map.1 hv
  exact h j

/-- The ids, none of them below zero, as natural numbers. -/
theorem Sl.nat {w : World} {ok : Nat → Prop} {a : Option Addr} {len : Nat} {r : Nat → Int} (h : Sl w ok a len (fun j => .int .i64 (r j))) (hn : ∀ j, j < len → 0 ≤ r j) (hm : ∀ j, j < len → r j ≤ 9223372036854775807) :
    ∃ R : List Nat, R.length = len ∧ (∀ x ∈ R, x ≤ 9223372036854775807) ∧ Sl w ok a len (fun j => .int .i64 (R.getD j 0 : Nat)) := by
  refine ⟨(List.range len).map (fun j => (r j).toNat), by simp, fun x hx => ?_, fun hl => ?_⟩
  · obtain ⟨j, hj, rfl⟩ := List.mem_map.1 hx
    have := hm j (List.mem_range.1 hj)
    omega
  · obtain ⟨b, o, ha, hb, hc⟩ := h hl
    refine ⟨b, o, ha, hb, fun j hj => (hc j hj).trans ?_⟩
    have h0 := hn j hj
    have e : ((List.range len).map (fun j => (r j).toNat)).getD j 0 = (r j).toNat := by simp [List.getD, hj]
    show some (Value.int .i64 (r j)) = some (Value.int .i64 (((List.range len).map (fun j => (r j).toNat)).getD j 0 : Nat))
    rw [e, Int.toNat_of_nonneg h0]

theorem oth_no_ne (R A : List Nat) (k : Nat) (h : k < A.length) (hi : inL R (A.getD k 0 : Nat) = false) : othL R A ≠ [] := by
  have e1 : A.getD k 0 = A[k] := by simp [List.getD, h]
  have hm : A.getD k 0 ∈ othL R A := by
    unfold othL
    rw [List.mem_filter]
    exact ⟨by rw [e1]; exact List.getElem_mem h, by rw [hi]; rfl⟩
  intro e
  rw [e] at hm
  cases hm

theorem drewMany {B : Nat} {a w : World} (h : Below B a w) (m : Nat) : Below B a (w.drewN m) := ⟨h.os, h.tape, h.output, h.size, h.block⟩

/-- What 'virtual' says behind k appenders. -/
def Virt (R A : List Nat) (k : Nat) (b : Bool) : Prop := (b = false → othL R (A.take k) = []) ∧ (b = true → othL R A ≠ [])

/-- What the law needs of ZZPrecedeAll's answer. -/
structure Ans (w w' : World) (n L N : Nat) (nodes' : Int) (gf gt gk : Nat) (f t kd : Nat → Int) (R A : List Nat) : Prop where
  low : Below w.heap.size w w'
  f1 : gf < w'.heap.size
  f2 : gt < w'.heap.size
  f3 : gk < w'.heap.size
  len : n ≤ L
  old : ∀ j, j < n → w'.cell? ⟨gf, j, none⟩ = some (.int .i32 (f j)) ∧ w'.cell? ⟨gt, j, none⟩ = some (.int .i32 (t j)) ∧ w'.cell? ⟨gk, j, none⟩ = some (.int .u8 (kd j))
  new : ∀ j, n ≤ j → j < L → w'.cell? ⟨gk, j, none⟩ = some (.int .u8 4)
  empty : (R = [] ∨ A = []) → L = n ∧ nodes' = N
  full : R ≠ [] → A ≠ [] → L ≤ n + (A.length + 2 * R.length) ∧ nodes' = if othL R A = [] then (N : Int) else wrap64 ((N : Int) + 1)

theorem esOf_length (n : Nat) (f t k : Nat → Int) : (esOf n f t k).length = n := by simp [esOf]

theorem ans_of_post {w w' : World} {e : Ending} {n N : Nat} {f t kd : Nat → Int} {R A : List Nat} (h : ZzPost w w' e (esOf n f t kd) N R A) :
    ∃ (L : Nat) (nodes' : Int) (gf gt gk : Nat), e = .returned (.tuple #[.int .i64 nodes', .slice (some ⟨gf, 0, none⟩) L L, .slice (some ⟨gt, 0, none⟩) L L, .slice (some ⟨gk, 0, none⟩) L L]) ∧ Ans w w' n L N nodes' gf gt gk f t kd R A := by
  obtain ⟨nodes', es', gf, gt, gk, he, hb, ⟨h1, h2, h3⟩, hc, hz, hn⟩ := h
  have hnew : ∃ new, es' = esOf n f t kd ++ new ∧ ∀ e ∈ new, e.2.2 = 4 := by
    by_cases hre : R = [] ∨ A = []
    · exact ⟨[], by rw [(hz hre).1, List.append_nil], by simp⟩
    · obtain ⟨new, a, _, b⟩ := (hn (fun e => hre (.inl e)) (fun e => hre (.inr e))).1
      exact ⟨new, a, b⟩
  obtain ⟨new, hes, h4⟩ := hnew
  have hel := esOf_length n f t kd
  have hlen : es'.length = n + new.length := by rw [hes, List.length_append, hel]
  refine ⟨es'.length, nodes', gf, gt, gk, he, ⟨hb, h1, h2, h3, by omega, fun j hj => ?_, fun j hj hL => ?_, fun hre => ?_, fun hr ha => ?_⟩⟩
  · refine hc j (f j, t j, kd j) ?_
    rw [hes, List.getElem?_append_left (by omega)]
    simp [esOf, hj]
  · have hjn : j - n < new.length := by omega
    have hx : es'[j]? = some (new[j - n]'hjn) := by
      rw [hes, List.getElem?_append_right (by omega), hel]
      exact List.getElem?_eq_getElem _
    have := (hc j _ hx).2.2
    rw [h4 _ (List.getElem_mem _)] at this
    exact this
  · obtain ⟨a, b⟩ := hz hre
    exact ⟨by rw [a, hel], b⟩
  · obtain ⟨a, b⟩ := hn hr ha
    have := a.len
    rw [hel] at this
    exact ⟨this, b⟩

end Go.Proofs.Qxb6602859a
