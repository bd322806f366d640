import Derived.Test.Qxb6602859aLaw
import Derived.Test.Qxb6602859aLawNo
import Derived.ProofKit
import Derived.OpenShut
import Derived.ChangeOld
import Derived.Below
import Derived.Deep.Grids
namespace Go.Proofs.Qxb6602859a.fnPrecedeAllAdds
open Go.ChangeShapes Go.WideShapes Go.ChangeAt Go.RowKit
set_option linter.unusedVariables false

theorem own : ownKnob Try.prog.godebug = none := by kernel_rfl
theorem laidOut : laidOutB Try.prog = true := by kernel_rfl

section
variable {H : Type} {enc : TypeId × Value → H}

theorem in_of_ints {k : IntKind} {t e : TypeId} (ht : Try.prog.underlying t = some (.slice e)) (he : Try.prog.underlying e = some (.int k)) (hc : Try.prog.cellsOf e = 1) {W : World} {a : Option Addr} {len cap : Nat} {d : DataW H} {p : List MemPlace}
    (h : DataW.Trod enc Try.prog W 0 (fun _ => true) true t (.slice a len cap) d p) : ∃ f : Nat → Int, In W a len (fun j => .int k (f j)) ∧ ∀ j, j < len → (Lit.int k (f j)).wf = true := by
  obtain ⟨fuel, hf⟩ := h
  rcases open_ints ht he hc hf with ⟨hcs, _⟩ | ⟨x, l, c, zs, hcs, _, hl, hm, hz, _, hcell, hwz⟩
  · simp [Value.cells] at hcs
    obtain ⟨rfl, rfl, rfl⟩ := hcs
    exact ⟨fun _ => 0, fun h => absurd h (by omega), fun j h => absurd h (by omega)⟩
  · simp [Value.cells] at hcs
    obtain ⟨rfl, rfl, rfl⟩ := hcs
    have hz' : zs.length = cap := by simpa using hz
    refine ⟨fun j => zs.getD j 0, fun _ => ⟨x, rfl, fun j hj => hcell j (by omega)⟩, fun j hj => hwz _ ?_⟩
    have hj' : j < zs.length := by omega
    have : zs.getD j 0 = zs[j] := by simp [List.getD, hj']
    show zs.getD j 0 ∈ zs
    rw [this]
    exact List.getElem_mem hj'

theorem in_of_bools {t e : TypeId} (ht : Try.prog.underlying t = some (.slice e)) (he : Try.prog.underlying e = some .bool) (hc : Try.prog.cellsOf e = 1) {W : World} {a : Option Addr} {len cap : Nat} {d : DataW H} {p : List MemPlace}
    (h : DataW.Trod enc Try.prog W 0 (fun _ => true) true t (.slice a len cap) d p) : ∃ f : Nat → Bool, In W a len (fun j => .bool (f j)) := by
  obtain ⟨fuel, hf⟩ := h
  rcases Deep.open_bools ht he hc hf with ⟨hcs, _⟩ | ⟨x, l, c, B, hcs, _, hl, hm, _, hcell⟩
  · simp [Value.cells] at hcs
    obtain ⟨rfl, rfl, rfl⟩ := hcs
    exact ⟨fun _ => false, fun h => absurd h (by omega)⟩
  · simp [Value.cells] at hcs
    obtain ⟨rfl, rfl, rfl⟩ := hcs
    exact ⟨B, fun _ => ⟨x, rfl, fun j hj => hcell j (by omega)⟩⟩
end

theorem walk (w : World) (ca fa ta ka ra aa : Option Addr) (cl cc n fc tl tc kl kc rl rc al ac : Nat) (cm : Nat → Bool) (f t kd r a : Nat → Int) (nd : Int)
    (hC : In w ca cl (fun j => .bool (cm j))) (hF : In w fa n (fun j => .int .i32 (f j))) (hT : In w ta tl (fun j => .int .i32 (t j))) (hK : In w ka kl (fun j => .int .u8 (kd j))) (hR : In w ra rl (fun j => .int .i64 (r j))) (hA : In w aa al (fun j => .int .i64 (a j)))
    (hnd : nd ≤ 9223372036854775807) (Hr : ∀ j, j < rl → r j ≤ 9223372036854775807) (Ha : ∀ j, j < al → a j ≤ 9223372036854775807) :
    Calls Try.prog 8 #[.slice ca cl cc, .int .i64 nd, .slice fa n fc, .slice ta tl tc, .slice ka kl kc, .slice ra rl rc, .slice aa al ac] w fun e w' => e = .returned (.bool true) ∧ Below w.heap.size w w' := by
  by_cases h : cl ≤ 4096 ∧ n ≤ 65536 ∧ tl ≤ 65536 ∧ kl ≤ 65536 ∧ rl ≤ 4096 ∧ al ≤ 4096 ∧ n = tl ∧ n = kl ∧ 0 ≤ nd
  · obtain ⟨h1, h2, _, _, h5, h6, rfl, rfl, h9⟩ := h
    obtain ⟨N, rfl⟩ : ∃ N : Nat, nd = (N : Int) := ⟨nd.toNat, by omega⟩
    exact law_yes w ca fa ta ka ra aa cl cc n fc tc kc rl rc al ac cm f t kd r a N hC hF hT hK hR hA h1 h2 h5 h6 (by omega) Hr Ha
  · exact law_no w ca fa ta ka ra aa cl cc n fc tl tc kl kc rl rc al ac nd h

/-! ### THE ROW's STEP -/
set_option maxRecDepth 100000 in
theorem lifted (os : Os) (started : os.Started) (H : Type) (enc : TypeId × Value → H) :
    ReturnsInHanded {} Try.checked os 8 .any (Rows.fnPrecedeAllAddsLinearlyManyEdgesAndRefusesEmptyListsSpec.pre6 enc Try.prog Try.f8 Rows.fnPrecedeAllAddsLinearlyManyEdgesAndRefusesEmptyListsRow.domain false) (Rows.fnPrecedeAllAddsLinearlyManyEdgesAndRefusesEmptyListsSpec.post enc Try.prog Try.f8 false true false false) := by
  refine returnsInHanded_of_change (C := Try.checked) own started (by kernel_rfl) Try.func8
    (ChangeSpec.witness6 (enc := enc) (C := Try.checked) false ⟨#[], #[.slice none 0 0, .int .i64 0, .slice none 0 0, .slice none 0 0, .slice none 0 0, .slice none 0 0, .slice none 0 0], []⟩ 8 (by kernel_rfl) (by kernel_rfl) (by kernel_rfl) (by kernel_rfl)) ?_
  intro W base args ds gs before hval0 hW hcnd _
  have hval : ∀ (j : Nat) t v, Try.f8.params[j]? = some t → args[j]? = some v → Value.okWide Try.prog W .any base t v := hval0
  have hW' := hW
  obtain ⟨p, q, hA0, hV, rfl, hfz, hnd⟩ := hW
  have hA : DataW.TrodAll enc Try.prog W 0 (fun _ => true) true Try.f8.params.toList args.toList ds p := hA0
  rw [Try.params8] at hA hval
  obtain ⟨v0, vs0, d0, ds0, p0, q0, hargs, rfl, rfl, h0, r0⟩ := trodAll_cons hA
  obtain ⟨v1, vs1, d1, ds1, p1, q1, rfl, rfl, rfl, h1, r1⟩ := trodAll_cons r0
  obtain ⟨v2, vs2, d2, ds2, p2, q2, rfl, rfl, rfl, h2, r2⟩ := trodAll_cons r1
  obtain ⟨v3, vs3, d3, ds3, p3, q3, rfl, rfl, rfl, h3, r3⟩ := trodAll_cons r2
  obtain ⟨v4, vs4, d4, ds4, p4, q4, rfl, rfl, rfl, h4, r4⟩ := trodAll_cons r3
  obtain ⟨v5, vs5, d5, ds5, p5, q5, rfl, rfl, rfl, h5, r5⟩ := trodAll_cons r4
  obtain ⟨v6, vs6, d6, ds6, p6, q6, rfl, rfl, rfl, h6, r6⟩ := trodAll_cons r5
  obtain ⟨rfl, rfl, rfl⟩ := trodAll_nil r6
  obtain rfl : args = #[v0, v1, v2, v3, v4, v5, v6] := by cases args; simp_all
  obtain ⟨rfl, rfl⟩ := trodVars_none hV
  obtain ⟨ca, cl, cc, rfl⟩ := okWide_slice Try.underlying35 (hval 0 35 v0 rfl rfl)
  obtain ⟨nd, rfl, rfl, rfl, wnd⟩ := open_int Try.underlying3 (hval 1 3 v1 rfl rfl) h1
  obtain ⟨fa, fl, fc, rfl⟩ := okWide_slice Try.underlying22 (hval 2 22 v2 rfl rfl)
  obtain ⟨ta, tl, tc, rfl⟩ := okWide_slice Try.underlying22 (hval 3 22 v3 rfl rfl)
  obtain ⟨ka, kl, kc, rfl⟩ := okWide_slice Try.underlying23 (hval 4 23 v4 rfl rfl)
  obtain ⟨ra, rl, rc, rfl⟩ := okWide_slice Try.underlying36 (hval 5 36 v5 rfl rfl)
  obtain ⟨aa, al, ac, rfl⟩ := okWide_slice Try.underlying36 (hval 6 36 v6 rfl rfl)
  have k0 := h0
  have k2 := h2
  have k3 := h3
  have k4 := h4
  have k5 := h5
  have k6 := h6
  have lt0 : ∀ x ∈ p0, x.block < W.heap.size := by obtain ⟨m, hm⟩ := k0; exact DataW.trod_lt m _ _ _ hm
  have lt2 : ∀ x ∈ p2, x.block < W.heap.size := by obtain ⟨m, hm⟩ := k2; exact DataW.trod_lt m _ _ _ hm
  have lt3 : ∀ x ∈ p3, x.block < W.heap.size := by obtain ⟨m, hm⟩ := k3; exact DataW.trod_lt m _ _ _ hm
  have lt4 : ∀ x ∈ p4, x.block < W.heap.size := by obtain ⟨m, hm⟩ := k4; exact DataW.trod_lt m _ _ _ hm
  have lt5 : ∀ x ∈ p5, x.block < W.heap.size := by obtain ⟨m, hm⟩ := k5; exact DataW.trod_lt m _ _ _ hm
  have lt6 : ∀ x ∈ p6, x.block < W.heap.size := by obtain ⟨m, hm⟩ := k6; exact DataW.trod_lt m _ _ _ hm
  obtain ⟨cm, hC⟩ := in_of_bools Try.underlying35 Try.underlying4 (by kernel_rfl) h0
  obtain ⟨f, hF, _⟩ := in_of_ints Try.underlying22 Try.underlying21 (by kernel_rfl) h2
  obtain ⟨t, hT, _⟩ := in_of_ints Try.underlying22 Try.underlying21 (by kernel_rfl) h3
  obtain ⟨kd, hK, _⟩ := in_of_ints Try.underlying23 Try.underlying5 (by kernel_rfl) h4
  obtain ⟨r, hR, wr⟩ := in_of_ints Try.underlying36 Try.underlying3 (by kernel_rfl) h5
  obtain ⟨a, hAA, wa⟩ := in_of_ints Try.underlying36 Try.underlying3 (by kernel_rfl) h6
  clear hA0 hval0
  refine (walk W ca fa ta ka ra aa cl cc fl fc tl tc kl kc rl rc al ac cm f t kd r a nd hC hF hT hK hR hAA (bounds_i64 wnd).2 (fun j hj => (bounds_i64 (wr j hj)).2) (fun j hj => (bounds_i64 (wa j hj)).2)).mono fun e W' ⟨he, bel⟩ => ?_
  subst he
  exact ⟨_, rfl, _, _, _, [], _, [], hW', trodAll_mk1 (shut_bool Try.underlying4 _),
    (trodAll_cons_mk (Below.trod laidOut (by kernel_rfl) (of_decide_eq_true (by kernel_rfl)) k0 bel lt0) (trodAll_cons_mk (shut_int Try.underlying3 wnd) (trodAll_cons_mk (Below.trod laidOut (by kernel_rfl) (of_decide_eq_true (by kernel_rfl)) k2 bel lt2)
      (trodAll_cons_mk (Below.trod laidOut (by kernel_rfl) (of_decide_eq_true (by kernel_rfl)) k3 bel lt3) (trodAll_cons_mk (Below.trod laidOut (by kernel_rfl) (of_decide_eq_true (by kernel_rfl)) k4 bel lt4)
        (trodAll_cons_mk (Below.trod laidOut (by kernel_rfl) (of_decide_eq_true (by kernel_rfl)) k5 bel lt5) (trodAll_cons_mk (Below.trod laidOut (by kernel_rfl) (of_decide_eq_true (by kernel_rfl)) k6 bel lt6) trodAll_mk0))))))), rfl, bel.frame _, fun h => by cases h⟩

theorem over : Rows.fnPrecedeAllAddsLinearlyManyEdgesAndRefusesEmptyListsRow.holds Try.pinned (OpenSpec.ofChange Rows.fnPrecedeAllAddsLinearlyManyEdgesAndRefusesEmptyListsSpec) :=
  OpenClaim.holds_of_wide 8 Try.f8 rfl rfl rfl rfl rfl rfl rfl ⟨rfl, rfl, rfl, rfl, rfl⟩ rfl rfl rfl rfl rfl (by kernel_rfl) Try.func8 (by kernel_rfl)
    (of_decide_eq_true (by kernel_rfl)) (by unfold Func.isWrapper; first | (rw [if_pos (by decide +kernel)]; kernel_rfl) | (rw [if_neg (by decide +kernel)]; exact ⟨rfl, rfl⟩))
    (fun os started H enc _ => lifted os started H enc)

/-- THE STATEMENT -/
theorem proved : Rows.FnPrecedeAllAddsLinearlyManyEdgesAndRefusesEmptyListsSaid := over
#print axioms proved
end Go.Proofs.Qxb6602859a.fnPrecedeAllAdds
