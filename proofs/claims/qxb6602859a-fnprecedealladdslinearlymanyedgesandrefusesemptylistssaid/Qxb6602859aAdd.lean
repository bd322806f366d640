import Derived.Test.Qxb6602859aBld
namespace Go.Proofs.Qxb6602859a
open Go.RowKit Go.Maps

theorem size_setCell (w : World) (a : Addr) (u : Value) : (w.setCell a u).heap.size = w.heap.size := by simp [World.setCell]

theorem Bld.put {w w' : World} {Bd cl cc : Nat} {ca : Option Addr} {cm : Nat → Bool} {nodes : Int} {v : Value} {es : List (Int × Int × Int)} {e : Int × Int × Int} (h : Bld w Bd ca cl cc cm nodes v es) (hp : Put w w' Bd v es e) :
    ∃ v', Bld w' Bd ca cl cc cm nodes v' (es ++ [e]) ∧ Fr w w' Bd v v' := by
  obtain ⟨g, cap, w1, hown, hgr, hg, rfl⟩ := hp
  have hlt := h.lt
  have hbb := hgr.block Bd hlt (fun e => h.own e.symm)
  have hgb : g ≠ Bd := by
    rcases hg with hg | hg
    · intro e; exact h.own (by rw [hg, e])
    · omega
  have hsz : w.heap.size ≤ (w1.setCell ⟨Bd, 2, none⟩ (.slice (some ⟨g, 0, none⟩) (es.length + 1) cap)).heap.size := by rw [size_setCell]; exact hgr.size
  have hfr : Fr w (w1.setCell ⟨Bd, 2, none⟩ (.slice (some ⟨g, 0, none⟩) (es.length + 1) cap)) Bd v (.slice (some ⟨g, 0, none⟩) (es.length + 1) cap) := by
    refine ⟨hgr.os, hgr.tape, hgr.output, hsz, fun k hk => ?_, fun k hk => ?_⟩
    · rw [Below.heap_setCell _ _ _ _ hk.2.1]
      exact hgr.block k hk.1 (fun e => hk.2.2 e.symm)
    · simp [Value.ownBlock] at hk
      subst hk
      exact hg
  refine ⟨.slice (some ⟨g, 0, none⟩) (es.length + 1) cap, ⟨?_, ?_, ?_, ?_, ?_, ?_, ?_, ?_, ?_⟩, hfr⟩
  · omega
  · exact (World.cell?_setCell_other _ _ _ _ (by simp)).trans ((World.cell?_of_block hbb).trans h.com)
  · exact (World.cell?_setCell_other _ _ _ _ (by simp)).trans ((World.cell?_of_block hbb).trans h.nod)
  · exact World.cell?_setCell_same _ _ _ ((World.cell?_of_block (a := ⟨Bd, 2, none⟩) hbb).trans h.edg)
  · rw [World.frozen?_setCell]; exact (World.frozen?_of_block hbb).trans h.fr1
  · rw [World.frozen?_setCell]; exact (World.frozen?_of_block hbb).trans h.fr2
  · have := ownsRow_setCell_other hown (a := ⟨Bd, 2, none⟩) (by simpa [Value.ownBlock] using hgb) (.slice (some ⟨g, 0, none⟩) (es.length + 1) cap)
    rw [esCells_snoc]
    simpa using this
  · simpa [Value.ownBlock] using hgb
  · exact h.sl.fr hfr

/-- What add leaves. -/
def Adds (w w' : World) (Bd cl cc : Nat) (ca : Option Addr) (cm : Nat → Bool) (nodes : Int) (v : Value) (es : List (Int × Int × Int)) : Prop :=
  ∃ v' es', Bld w' Bd ca cl cc cm nodes v' es' ∧ Fr w w' Bd v v' ∧ (es' = es ∨ ∃ x y, es' = es ++ [(x, y, 4)])

theorem c33 (w : World) (Bd cl cc : Nat) (ca : Option Addr) (cm : Nat → Bool) (nodes : Int) (v : Value) (es : List (Int × Int × Int)) (h : Bld w Bd ca cl cc cm nodes v es) (hes : es.length ≤ 1048576) (u t : Nat) (hu : u ≤ 9223372036854775807) (ht : t ≤ 9223372036854775807) (hcl : cl ≤ 4096) :
    Calls Try.prog 33 #[.pointer (some ⟨Bd, 0, none⟩), .int .i64 u, .int .i64 t, .int .u8 4] w fun e w' => e = .returned (.tuple #[]) ∧ Adds w w' Bd cl cc ca cm nodes v es := by
  by_cases hyes : u ≠ t ∧ ((u < cl ∧ cm u = true) ∨ cl ≤ u) ∧ ((t < cl ∧ cm t = true) ∨ cl ≤ t)
  · refine (c33_some w Bd cl cc ca cm nodes v es h hes u t hu ht hcl hyes).mono ?_
    rintro e w' ⟨rfl, x, y, hp⟩
    obtain ⟨v', hb, hf⟩ := h.put hp
    exact ⟨rfl, v', _, hb, hf, .inr ⟨x, y, rfl⟩⟩
  · have hsl : 0 < cl → ∃ b o, ca = some ⟨b, o, none⟩ ∧ ∀ j, j < cl → w.cell? ⟨b, o + j, none⟩ = some (.bool (cm j)) := fun hl => by
      obtain ⟨b, o, h1, _, h2⟩ := h.sl hl
      exact ⟨b, o, h1, h2⟩
    have hno : u = t ∨ (u ≠ t ∧ u < cl ∧ cm u = false) ∨ (u ≠ t ∧ cl ≤ u ∧ t < cl ∧ cm t = false) ∨ (u ≠ t ∧ u < cl ∧ cm u = true ∧ t < cl ∧ cm t = false) := by
      by_cases e : u = t
      · exact .inl e
      by_cases h1 : u < cl
      · cases hc : cm u
        · exact .inr (.inl ⟨e, h1, rfl⟩)
        · by_cases h2 : t < cl
          · cases hd : cm t
            · exact .inr (.inr (.inr ⟨e, h1, rfl, h2, rfl⟩))
            · exact absurd ⟨e, .inl ⟨h1, hc⟩, .inl ⟨h2, hd⟩⟩ hyes
          · exact absurd ⟨e, .inl ⟨h1, hc⟩, .inr (by omega)⟩ hyes
      · by_cases h2 : t < cl
        · cases hd : cm t
          · exact .inr (.inr (.inl ⟨e, by omega, h2, rfl⟩))
          · exact absurd ⟨e, .inr (by omega), .inl ⟨h2, hd⟩⟩ hyes
        · exact absurd ⟨e, .inr (by omega), .inr (by omega)⟩ hyes
    refine (c33_none w Bd cl cc ca cm u t 4 h.com hu ht hcl hsl hno).mono ?_
    rintro e w' ⟨rfl, rfl⟩
    exact ⟨rfl, v, es, h, Fr.refl _ _ _, .inl rfl⟩

theorem Bld.node {w : World} {Bd cl cc : Nat} {ca : Option Addr} {cm : Nat → Bool} {nodes : Int} {v : Value} {es : List (Int × Int × Int)} (h : Bld w Bd ca cl cc cm nodes v es) (m : Int) :
    Bld (w.setCell ⟨Bd, 1, none⟩ (.int .i64 m)) Bd ca cl cc cm m v es ∧ Fr w (w.setCell ⟨Bd, 1, none⟩ (.int .i64 m)) Bd v v := by
  have hfr : Fr w (w.setCell ⟨Bd, 1, none⟩ (.int .i64 m)) Bd v v := by
    refine ⟨rfl, rfl, rfl, by rw [size_setCell]; exact Nat.le_refl _, fun k hk => ?_, fun k hk => .inl hk⟩
    rw [Below.heap_setCell _ _ _ _ hk.2.1]
  refine ⟨⟨?_, ?_, ?_, ?_, ?_, ?_, ?_, h.own, h.sl.fr hfr⟩, hfr⟩
  · rw [size_setCell]; exact h.lt
  · exact (World.cell?_setCell_other _ _ _ _ (by simp)).trans h.com
  · exact World.cell?_setCell_same _ _ _ h.nod
  · exact (World.cell?_setCell_other _ _ _ _ (by simp)).trans h.edg
  · rw [World.frozen?_setCell]; exact h.fr1
  · rw [World.frozen?_setCell]; exact h.fr2
  · exact ownsRow_setCell_other h.owns h.own _

theorem wrap_back (n : Int) (h0 : 0 ≤ n) (h1 : n ≤ 9223372036854775807) : wrap64 (wrap64 (n + 1) - 1) = n := by unfold wrap64; omega

set_option maxHeartbeats 800000 in
theorem c32 (w : World) (Bd cl cc : Nat) (ca : Option Addr) (cm : Nat → Bool) (nodes : Int) (v : Value) (es : List (Int × Int × Int)) (h : Bld w Bd ca cl cc cm nodes v es) (h0 : 0 ≤ nodes) (h1 : nodes ≤ 9223372036854775807) :
    Calls Try.prog 32 #[.pointer (some ⟨Bd, 0, none⟩)] w fun e w' => e = .returned (.int .i64 nodes) ∧ Bld w' Bd ca cl cc cm (wrap64 (nodes + 1)) v es ∧ Fr w w' Bd v v := by
  have hn := h.node (wrap64 (nodes + 1))
  have nod := h.nod
  have fr1 := h.fr1
  have hwb : Hid (wrap64 (wrap64 (nodes + 1) - 1) = nodes) := wrap_back nodes h0 h1
  have H1 : Hid (nodes ≤ 9223372036854775807) := h1
  clear h h1
  go_enter Try.func32, Try.ntmps32
  go_wp2
  go_ret
  exact ⟨by rw [hwb.out]; rfl, hn.1, hn.2⟩

end Go.Proofs.Qxb6602859a
