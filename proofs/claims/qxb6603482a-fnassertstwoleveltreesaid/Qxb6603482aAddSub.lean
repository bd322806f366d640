import Derived.Test.Qxb6603482aLeaves
namespace Go.Proofs.Qxb6603482a
open Go.RowKit

theorem Try.info23 : (Try.prog.info? 23).map (fun i => (i.zero, i.size, i.bytes)) = some (some (.pointer none), 1, 8) := by kernel_rfl

/-- A pointer to the head of block s. -/
def ptrTo (s : Nat) : Value := .pointer (some ⟨s, 0, none⟩)

theorem ownsRow_weak {w : World} {base : Nat} {e : TypeId} {size : Nat} {v : Value} {n : Nat} {xs : List Value} (h : w.ownsRow base e size v n xs) : w.ownsRow 0 e size v n xs := by
  refine ⟨h.1, ?_⟩
  rcases h.2 with h2 | ⟨g, cap, cur, hv, _, r⟩
  · exact Or.inl h2
  · exact Or.inr ⟨g, cap, cur, hv, Nat.zero_le _, r⟩

theorem grownBy_of_alloc {w w1 : World} {o : Obj} {row : Option Nat} (h : (w.alloc o).grownBy w1 row) : w.grownBy w1 row :=
  ⟨h.os, h.tape, h.output, Nat.le_trans (by simp) h.size, fun k hk hne => (h.block k (by simp; omega) hne).trans (Below.heap_alloc w o k hk)⟩

/-- WHAT 're.Sub = append(re.Sub, sub)' LEAVES: the row of pointers is one longer (in its own block, or in a new one), the node's field names it; nothing else that was there has turned. -/
def Added (w w' : World) (b s : Nat) (v : Value) (n : Nat) (xs : List Value) : Prop :=
  ∃ g cap' w1, w1.ownsRow 0 23 1 (.slice (some ⟨g, 0, none⟩) (n + 1) cap') (n + 1) (xs ++ [ptrTo s]) ∧ w.grownBy w1 v.ownBlock ∧ (v.ownBlock = some g ∨ w.heap.size ≤ g) ∧
    w' = w1.setCell ⟨b, 2, none⟩ (.slice (some ⟨g, 0, none⟩) (n + 1) cap')

set_option maxHeartbeats 800000 in
set_option maxRecDepth 1000000 in
theorem c10 (w : World) (b s : Nat) (v : Value) (n : Nat) (xs : List Value) (hb : b < w.heap.size) (hn : n ≤ 1048576)
    (hv : w.cell? ⟨b, 2, none⟩ = some v) (hf : w.frozen? ⟨b, 2, none⟩ = false) (hown : w.ownsRow 0 23 1 v n xs) (hne : v.ownBlock ≠ some b) :
    Calls Try.prog 10 #[.pointer (some ⟨b, 0, none⟩), .pointer (some ⟨s, 0, none⟩)] w fun e w' => e = .returned (.tuple #[]) ∧ Added w w' b s v n xs := by
  obtain ⟨i0, hi, hz0, hz1, hz2⟩ := info_parts Try.info23
  rcases hown.2 with ⟨rfl, rfl⟩ | ⟨g, cap, cur, rfl, _, hg, hnc, hcm, hcs, htake⟩
  · -- nothing yet: a new row
    have hxs : xs = [] := List.eq_nil_of_length_eq_zero (by simpa using hown.1)
    subst hxs
    clear hown
    go_enter Try.func10, Try.ntmps10
    go_wp2_with (at_builtin; refine wpList_append_grows _ rfl (.tmp 8) (.tmp 10) 40 rfl 23 i0 (.pointer none) 1 8 Try.underlying40 hi hz0 hz1 hz2 rfl (by decide) none 0 0 [] rfl (fun _ => ⟨rfl, rfl⟩) rfl (by intro _ _ _ _ h; simp at h) ⟨w.heap.size, 0, none⟩ 1 1 [ptrTo s] rfl rfl ?c1 ?c2 (by omega) (by unfold maxLen; omega) (by omega) ?grow)
    case c1 => intro j u hj; match j, hj with | 0, hj => simp at hj; subst hj; simp [Addr.add, ptrTo]
    case c2 => intro u hu; simp at hu; subst hu; rfl
    case grow =>
      intro v' w1 hown hgrow
      obtain ⟨g, cap', hv', hbg⟩ : ∃ g cap', v' = .slice (some ⟨g, 0, none⟩) (0 + 1) cap' ∧ w.heap.size ≤ g := by
        rcases hown.2 with ⟨_, h⟩ | ⟨g, cap', _, h, h', _⟩
        · omega
        · exact ⟨g, cap', h, by omega⟩
      subst hv'
      have hgr := grownBy_of_alloc hgrow
      have k0 := (World.cell?_of_block (a := ⟨b, 2, none⟩) (hgr.block b hb (by simp))).trans hv
      have e0 := (World.frozen?_of_block (a := ⟨b, 2, none⟩) (hgr.block b hb (by simp))).trans hf
      have HO := ownsRow_weak hown
      clear hown hgrow
      go_wp2
      go_end0
      exact ⟨rfl, g, cap', w1, by simpa using HO, hgr, Or.inr hbg, rfl⟩
  · have hbg : b ≠ g := fun h => hne (by simp [Value.ownBlock, h])
    have hxl : xs.length = n := by simpa using hown.1
    have HO := hown
    have HC := hown.cells (g := g) rfl
    clear hown htake hcs hg cur hcm
    have HX : Hid (xs.length = n) := hxl
    clear hxl
    by_cases hroom : n + 1 ≤ cap
    · have HO2 := HO.alloc (.cells #[ptrTo s] 23)
      clear HC
      go_enter Try.func10, Try.ntmps10
      go_wp2_with (at_builtin; refine wpList_append_fits _ rfl (.tmp 8) (.tmp 10) 40 rfl 0 23 i0 1 Try.underlying40 hi hz1 g n cap xs rfl HO2 ⟨w.heap.size, 0, none⟩ 1 1 [ptrTo s] rfl rfl ?d1 ?d2 hroom ?fits)
      case d1 => intro j u hj; match j, hj with | 0, hj => simp at hj; subst hj; simp [Addr.add, ptrTo]
      case d2 => intro u hu; simp at hu; subst hu; rfl
      case fits =>
        intro w1 hown hgrow
        have hgr := grownBy_of_alloc hgrow
        have k0 := (World.cell?_of_block (a := ⟨b, 2, none⟩) (hgr.block b hb (by simp [hbg]))).trans hv
        have e0 := (World.frozen?_of_block (a := ⟨b, 2, none⟩) (hgr.block b hb (by simp [hbg]))).trans hf
        clear hgrow HO HO2
        go_wp2
        go_end0
        exact ⟨rfl, g, cap, w1, hown, hgr, Or.inl rfl, rfl⟩
    · go_enter Try.func10, Try.ntmps10
      go_wp2_with (at_builtin; refine wpList_append_grows _ rfl (.tmp 8) (.tmp 10) 40 rfl 23 i0 (.pointer none) 1 8 Try.underlying40 hi hz0 hz1 hz2 rfl (by decide) (some ⟨g, 0, none⟩) n cap xs rfl (fun h => by cases h) ?f0 ?f1 ⟨w.heap.size, 0, none⟩ 1 1 [ptrTo s] rfl rfl ?f2 ?f3 (by omega) (by unfold maxLen; omega) (by omega) ?grow2)
      case f0 => rw [HX.out]; omega
      case f1 =>
        intro bb hbb j u hj
        simp at hbb
        subst hbb
        have := HC j u hj
        exact (World.cell?_of_block (Below.heap_alloc w _ _ (World.block_lt_of_cell? w _ this))).trans this
      case f2 => intro j u hj; match j, hj with | 0, hj => simp at hj; subst hj; simp [Addr.add, ptrTo]
      case f3 => intro u hu; simp at hu; subst hu; rfl
      case grow2 =>
        intro v' w1 hown hgrow
        obtain ⟨g', cap', hv', hbg'⟩ : ∃ g' cap', v' = .slice (some ⟨g', 0, none⟩) (n + 1) cap' ∧ w.heap.size ≤ g' := by
          rcases hown.2 with ⟨_, h⟩ | ⟨g', cap', _, h, h', _⟩
          · omega
          · exact ⟨g', cap', h, by omega⟩
        subst hv'
        have hgr := grownBy_of_alloc hgrow
        have k0 := (World.cell?_of_block (a := ⟨b, 2, none⟩) (hgr.block b hb (by simp))).trans hv
        have e0 := (World.frozen?_of_block (a := ⟨b, 2, none⟩) (hgr.block b hb (by simp))).trans hf
        have HO' := ownsRow_weak hown
        clear hown hgrow HO HC
        go_wp2
        go_end0
        exact ⟨rfl, g', cap', w1, HO', ⟨hgr.os, hgr.tape, hgr.output, hgr.size, fun k hk _ => hgr.block k hk (by simp)⟩, Or.inr hbg', rfl⟩

end Go.Proofs.Qxb6603482a
