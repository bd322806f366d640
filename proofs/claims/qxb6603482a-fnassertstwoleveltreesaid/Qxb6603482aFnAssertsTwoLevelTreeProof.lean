import Derived.Test.Qxb6603482aTwoWalk
import Derived.ProofKit
import Derived.OpenShut
import Derived.ShutString
import Derived.ChangeOld
import Derived.Below
import Derived.Deep.SlicePairs
namespace Go.Proofs.Qxb6603482a.fnAssertsTwoLevelTree
open Go.ChangeShapes Go.WideShapes Go.ChangeAt Go.RowKit
open Go.ChangeMaps (open_string shut_string)
set_option linter.unusedVariables false

theorem own : ownKnob Try.prog.godebug = none := by kernel_rfl
theorem laidOut : laidOutB Try.prog = true := by kernel_rfl

/-- WHAT THE WALK IS TOLD OF THE KIDS THAT CAME IN. -/
structure KidsIn (w : World) (a : Option Addr) (len cap b off : Nat) (op : Nat → Int) (ad : Nat → Option Addr) (ln cp : Nat → Nat) (zs : Nat → List Int) : Prop where
  bare : a = none → len = 0 ∧ cap = 0
  cells : KidCells w a b off len op ad ln cp
  rows : ∀ i, i < len → IsRow .u8 w (ad i) (ln i) (cp i) (zs i)

theorem KidsIn.long {w : World} {a : Option Addr} {len cap b off : Nat} {op : Nat → Int} {ad : Nat → Option Addr} {ln cp : Nat → Nat} {zs : Nat → List Int} (h : KidsIn w a len cap b off op ad ln cp zs) : ∀ i, i < len → ln i ≤ (zs i).length := by
  intro i hi
  rcases h.rows i hi with ⟨_, h, _, _⟩ | ⟨x, _, hl, _, hz, _⟩ <;> omega

theorem opened {H : Type} {enc : TypeId × Value → H} {W : World} {held : Bool} {fuel : Nat} {a : Option Addr} {len cap : Nat} {x : DataW H × List MemPlace}
    (h : DataW.trod enc Try.prog W 0 (fun _ => true) held fuel 28 [.slice a len cap] = some x) : ∃ b off op ad ln cp zs, KidsIn W a len cap b off op ad ln cp zs := by
  rcases Deep.open_slice_pairs Try.underlying28 Try.underlying32 (by kernel_rfl) rfl rfl (by kernel_rfl) (by kernel_rfl) h with ⟨hcs, _⟩ | ⟨ax, l, c, m, n, V0, V1, D0, D1, P0, P1, hcs, _, hl, hm, hmm, _, hx⟩
  · simp at hcs
    obtain ⟨rfl, rfl, rfl⟩ := hcs
    exact ⟨0, 0, fun _ => 0, fun _ => none, fun _ => 0, fun _ => 0, fun _ => [], fun _ => ⟨rfl, rfl⟩, ⟨fun h => by omega, fun i hi => by omega⟩, fun i hi => by omega⟩
  · simp at hcs
    obtain ⟨rfl, rfl, rfl⟩ := hcs
    have hlm : len ≤ m := by rw [hmm]; split <;> omega
    have each : ∀ i, i < len → ∃ q : Int × Option Addr × Nat × Nat × List Int, W.cell? (ax.add (i * 2)) = some (.int .u8 q.1) ∧ W.cell? (ax.add (i * 2 + 1)) = some (.slice q.2.1 q.2.2.1 q.2.2.2.1) ∧ IsRow .u8 W q.2.1 q.2.2.1 q.2.2.2.1 q.2.2.2.2 := by
      intro i hi
      obtain ⟨h0, h1, t0, t1⟩ := hx i (by omega)
      obtain ⟨o, e0, _, _⟩ := DataW.trod_int Try.underlying5 t0
      have e0' : V0 i = .int .u8 o := by simpa using e0
      rw [e0'] at h0
      rcases open_ints Try.underlying30 Try.underlying5 (by kernel_rfl) t1 with ⟨hcs, _⟩ | ⟨y, l, c, zs, hcs, _, hl, hm, hz, _, hcell, hwz⟩
      · have e1 : V1 i = .slice none 0 0 := by simpa using hcs
        rw [e1] at h1
        exact ⟨(o, none, 0, 0, []), h0, h1, .inl ⟨rfl, rfl, rfl, rfl⟩⟩
      · have e1 : V1 i = .slice (some y) l c := by simpa using hcs
        rw [e1] at h1
        exact ⟨(o, some y, l, c, zs), h0, h1, .inr ⟨y, rfl, hl, hm, by simpa using hz, hcell, hwz⟩⟩
    obtain ⟨q, hq⟩ := Deep.choose_lt each
    obtain ⟨b, off, spot⟩ := ax
    have hspot : 0 < len → spot = none := fun h0 => by simpa [Addr.add] using World.cell?_spot (hq 0 h0).1
    have hadd : ∀ i, spot = none → (⟨b, off, spot⟩ : Addr).add i = ⟨b, off + i, none⟩ := fun i h => by subst h; unfold Addr.add; split <;> simp_all
    refine ⟨b, off, fun i => (q i).1, fun i => (q i).2.1, fun i => (q i).2.2.1, fun i => (q i).2.2.2.1, fun i => (q i).2.2.2.2, (fun h => by cases h), ⟨fun h0 => ?_, fun i hi => ?_⟩, fun i hi => (hq i hi).2.2⟩
    · have hs := hspot h0
      subst hs
      exact ⟨rfl, World.block_lt_of_cell? W _ (hq 0 h0).1⟩
    · have hs := hspot (by omega)
      have h1 := (hq i hi).1
      have h2 := (hq i hi).2.1
      rw [hadd _ hs] at h1 h2
      exact ⟨h1, h2⟩

theorem walk (a0 : Int) (a1 : Option Addr) (len1 cap1 b off : Nat) (op : Nat → Int) (ad : Nat → Option Addr) (ln cp : Nat → Nat) (zs : Nat → List Int) (w : World) (w1 : KidsIn w a1 len1 cap1 b off op ad ln cp zs) :
    Calls Try.prog 4 #[.int .u8 a0, .slice a1 len1 cap1] w fun e w' => e = .returned (.bool true) ∧ Below w.heap.size w w' :=
  two_walk w a0 a1 b off len1 cap1 op ad ln cp zs w1.bare w1.cells w1.rows w1.long

/-! ### THE ROW's STEP: WRITTEN OUT: LEAVE IT -/
set_option maxRecDepth 100000 in
theorem lifted (os : Os) (started : os.Started) (H : Type) (enc : TypeId × Value → H) :
    ReturnsInHanded {} Try.checked os 4 .any (Rows.fnAssertsTwoLevelTreeSpec.pre6 enc Try.prog Try.f4 Rows.fnAssertsTwoLevelTreeRow.domain false) (Rows.fnAssertsTwoLevelTreeSpec.post enc Try.prog Try.f4 false true false false) := by
  refine returnsInHanded_of_change (C := Try.checked) own started (by kernel_rfl) Try.func4
    (ChangeSpec.witness6 (enc := enc) (C := Try.checked) false ⟨#[], #[.int .u8 0, .slice none 0 0], []⟩ 8 (by kernel_rfl) (by kernel_rfl) (by kernel_rfl) (by kernel_rfl)) ?_
  intro W base args ds gs before hval0 hW hcnd _
  have hval : ∀ (j : Nat) t v, Try.f4.params[j]? = some t → args[j]? = some v → Value.okWide Try.prog W .any base t v := hval0
  have hW' := hW
  obtain ⟨p, q, hA0, hV, rfl, hfz, hnd⟩ := hW
  have hA : DataW.TrodAll enc Try.prog W 0 (fun _ => true) true Try.f4.params.toList args.toList ds p := hA0
  rw [Try.params4] at hA hval
  obtain ⟨v0, vs0, d0, ds0, p0, q0, hargs, rfl, rfl, h0, r0⟩ := trodAll_cons hA
  obtain ⟨v1, vs1, d1, ds1, p1, q1, rfl, rfl, rfl, h1, r1⟩ := trodAll_cons r0
  obtain ⟨rfl, rfl, rfl⟩ := trodAll_nil r1
  obtain rfl : args = #[v0, v1] := by cases args; simp_all
  obtain ⟨rfl, rfl⟩ := trodVars_none hV
  obtain ⟨a0, rfl, rfl, rfl, w0⟩ := open_int Try.underlying5 (hval 0 5 v0 rfl rfl) h0
  obtain ⟨a1, len1, cap1, rfl⟩ := okWide_slice Try.underlying28 (hval 1 28 v1 rfl rfl)
  have k1 := h1
  have lt1 : ∀ x ∈ p1, x.block < W.heap.size := by obtain ⟨m, hm⟩ := k1; exact DataW.trod_lt m _ _ _ hm
  obtain ⟨fuel, hf⟩ := h1
  obtain ⟨b, off, op, ad, ln, cp, zs, w1⟩ := opened (by simpa [Value.cells] using hf)
  clear hA0 hval0
  refine (walk a0 a1 len1 cap1 b off op ad ln cp zs W w1).mono fun e W' ⟨he, bel⟩ => ?_
  subst he
  exact ⟨_, rfl, _, _, _, [], _, [], hW', trodAll_mk1 (shut_bool Try.underlying4 _), (trodAll_cons_mk (shut_int Try.underlying5 w0) (trodAll_cons_mk (Below.trod laidOut (by kernel_rfl) (of_decide_eq_true (by kernel_rfl)) k1 bel lt1) trodAll_mk0)), rfl, bel.frame _, fun h => by cases h⟩

theorem over : Rows.fnAssertsTwoLevelTreeRow.holds Try.pinned (OpenSpec.ofChange Rows.fnAssertsTwoLevelTreeSpec) :=
  OpenClaim.holds_of_wide 4 Try.f4 rfl rfl rfl rfl rfl rfl rfl ⟨rfl, rfl, rfl, rfl, rfl⟩ rfl rfl rfl rfl rfl (by kernel_rfl) Try.func4 (by kernel_rfl)
    (of_decide_eq_true (by kernel_rfl)) (by unfold Func.isWrapper; first | (rw [if_pos (by decide +kernel)]; kernel_rfl) | (rw [if_neg (by decide +kernel)]; exact ⟨rfl, rfl⟩))
    (fun os started H enc _ => lifted os started H enc)

/-- THE STATEMENT -/
theorem proved : Rows.FnAssertsTwoLevelTreeSaid := over
#print axioms proved
end Go.Proofs.Qxb6603482a.fnAssertsTwoLevelTree
