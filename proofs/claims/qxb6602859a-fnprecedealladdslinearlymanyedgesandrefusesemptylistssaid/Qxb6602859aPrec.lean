import Derived.Test.Qxb6602859aPrecParts
import Derived.Deep.DeepCutAuto
namespace Go.Proofs.Qxb6602859a
open Go.RowKit Go.Maps

theorem Try.info3 : (Try.prog.info? 3).map (fun i => (i.zero, i.size, i.bytes)) = some (some (.int .i64 0), 1, 8) := by kernel_rfl

/-- What precedeAll leaves. -/
def PrecPost (w w' : World) (Bd cl cc : Nat) (ca : Option Addr) (cm : Nat → Bool) (nodes : Int) (v : Value) (es : List (Int × Int × Int)) (R A : List Nat) : Prop :=
  ∃ v' es' nodes', Bld w' Bd ca cl cc cm nodes' v' es' ∧ Fr w w' Bd v v' ∧ ((R = [] ∨ A = []) → es' = es ∧ nodes' = nodes) ∧
    (R ≠ [] → A ≠ [] → New es es' (A.length + 2 * R.length) ∧ nodes' = if othL R A = [] then nodes else wrap64 (nodes + 1))

theorem res29 : Try.f29.results = #[] := by kernel_rfl

set_option maxHeartbeats 800000 in
theorem c29_empty (w : World) (p : Value) (ra aa : Option Addr) (rl rc al ac : Nat) (h : rl = 0 ∨ al = 0) : Calls Try.prog 29 #[p, .slice ra rl rc, .slice aa al ac] w fun e w' => e = .returned (.tuple #[]) ∧ w' = w := by
  by_cases h1 : rl = 0
  · subst h1
    go_enter Try.func29, Try.ntmps29
    go_wp2_with fail
    exact bodyPost_ret (results_none res29 _ _ _) rfl ⟨rfl, rfl⟩
  · have hb : ((rl : Int) == 0) = false := by simp; omega
    obtain rfl : al = 0 := by omega
    go_enter Try.func29, Try.ntmps29
    go_wp2_with fail
    exact bodyPost_ret (results_none res29 _ _ _) rfl ⟨rfl, rfl⟩

/-- The state of the two rows in the second loop. -/
structure Two (w : World) (B0 M : Nat) (R A : List Nat) (k : Nat) (ab : Option Addr) (cb : Nat) (ao : Option Addr) (co : Nat) : Prop where
  both : w.ownsRow B0 3 1 (.slice ab (bothL R (A.take k)).length cb) (bothL R (A.take k)).length (ids (bothL R (A.take k)))
  oth : w.ownsRow B0 3 1 (.slice ao (othL R (A.take k)).length co) (othL R (A.take k)).length (ids (othL R (A.take k)))
  apart : ∀ g, Value.ownBlock (.slice ab (bothL R (A.take k)).length cb) = some g → Value.ownBlock (.slice ao (othL R (A.take k)).length co) ≠ some g
  set : HasSet w M R.length (inL R)

theorem gets_alloc {w w1 : World} {o : Obj} {row : Option Nat} (h : (w.alloc o).grownBy w1 row) : w.grownBy w1 row := grownBy_of_alloc h

theorem Two.yes {w w1 : World} {B0 M : Nat} {R A : List Nat} {k : Nat} {ab : Option Addr} {cb : Nat} {ao : Option Addr} {co g cap H : Nat} {o : Obj} (h : Two w B0 M R A k ab cb ao co) (hk : k < A.length) (hi : inL R (A.getD k 0 : Nat) = true)
    (hown : w1.ownsRow B0 3 1 (.slice (some ⟨g, 0, none⟩) ((bothL R (A.take k)).length + 1) cap) ((bothL R (A.take k)).length + 1) (ids (bothL R (A.take k)) ++ [.int .i64 (A.getD k 0 : Nat)]))
    (hgr : (w.alloc o).grownBy w1 (Value.ownBlock (.slice ab (bothL R (A.take k)).length cb))) (hat : Value.ownBlock (.slice ab (bothL R (A.take k)).length cb) = some g ∨ g = H) (hH : w.heap.size ≤ H) :
    (bothL R (A.take (k + 1))).length = (bothL R (A.take k)).length + 1 ∧ (othL R (A.take (k + 1))).length = (othL R (A.take k)).length ∧ Two w1 B0 M R A (k + 1) (some ⟨g, 0, none⟩) cap ao co := by
  have e1 := both_yes R A k hk hi
  have e2 := oth_yes R A k hk hi
  have hg' := gets_alloc hgr
  have hl : (bothL R (A.take (k + 1))).length = (bothL R (A.take k)).length + 1 := by rw [e1]; simp
  have hne : ∀ x, Value.ownBlock (.slice ao (othL R (A.take k)).length co) = some x → Value.ownBlock (.slice ab (bothL R (A.take k)).length cb) ≠ some x := fun x hx e => h.apart x e hx
  refine ⟨hl, by rw [e2], ⟨?_, ?_, ?_, ?_⟩⟩
  · rw [hl, e1, ← ids_snoc]; exact hown
  · rw [e2]
    refine h.oth.kept hg' ?_
    cases ho : Value.ownBlock (.slice ao (othL R (A.take k)).length co) with
    | none => exact .inl rfl
    | some x => exact .inr (fun e => hne x ho e.symm)
  · intro x hx
    rw [e2]
    have hx' : g = x := by simpa [Value.ownBlock] using hx
    subst hx'
    intro e
    rcases hat with hat | hat
    · exact hne g e hat
    · have := (h.oth.lt g e).2
      omega
  · exact h.set.kept hg' (fun e => h.set.apartRow h.both e.symm)

theorem Two.no {w w1 : World} {B0 M : Nat} {R A : List Nat} {k : Nat} {ab : Option Addr} {cb : Nat} {ao : Option Addr} {co g cap H : Nat} {o : Obj} (h : Two w B0 M R A k ab cb ao co) (hk : k < A.length) (hi : inL R (A.getD k 0 : Nat) = false)
    (hown : w1.ownsRow B0 3 1 (.slice (some ⟨g, 0, none⟩) ((othL R (A.take k)).length + 1) cap) ((othL R (A.take k)).length + 1) (ids (othL R (A.take k)) ++ [.int .i64 (A.getD k 0 : Nat)]))
    (hgr : (w.alloc o).grownBy w1 (Value.ownBlock (.slice ao (othL R (A.take k)).length co))) (hat : Value.ownBlock (.slice ao (othL R (A.take k)).length co) = some g ∨ g = H) (hH : w.heap.size ≤ H) :
    (othL R (A.take (k + 1))).length = (othL R (A.take k)).length + 1 ∧ (bothL R (A.take (k + 1))).length = (bothL R (A.take k)).length ∧ Two w1 B0 M R A (k + 1) ab cb (some ⟨g, 0, none⟩) cap := by
  have e1 := oth_no R A k hk hi
  have e2 := both_no R A k hk hi
  have hg' := gets_alloc hgr
  have hl : (othL R (A.take (k + 1))).length = (othL R (A.take k)).length + 1 := by rw [e1]; simp
  refine ⟨hl, by rw [e2], ⟨?_, ?_, ?_, ?_⟩⟩
  · rw [e2]
    refine h.both.kept hg' ?_
    cases ho : Value.ownBlock (.slice ab (bothL R (A.take k)).length cb) with
    | none => exact .inl rfl
    | some x => exact .inr (fun e => h.apart x ho e.symm)
  · rw [hl, e1, ← ids_snoc]; exact hown
  · intro x hx
    rw [e2] at hx
    intro e
    have hx' : g = x := by simpa [Value.ownBlock] using e
    subst hx'
    rcases hat with hat | hat
    · exact h.apart g hx hat
    · have := (h.both.lt g hx).2
      omega
  · exact h.set.kept hg' (fun e => h.set.apartRow h.oth e.symm)

/-- The ways through a statement meet: what follows is behind a name. -/
theorem wp_cut_let {P : Program} {s : Code} {K : Act → World → Prop} {Q' : Exit → Act → World → Prop} {a : Act} {w : World} {R : Act → World → Prop} (rest : ∀ a' w', R a' w' → K a' w')
    (first : let KK : Act → World → Prop := R; s.wp P (Exit.then KK Q') a w) : s.wp P (Exit.then K Q') a w := by
  refine wp_mono first ?_
  intro e a' w' hq
  cases e with
  | normal => exact rest _ _ hq
  | exit id => exact hq
  | goto l => exact hq
  | ret => exact hq
  | panic ch => exact hq
  | outgrown => exact hq

/-- The state behind the virtual node and its edges. -/
structure Mid (w2 wc : World) (Bd cl cc : Nat) (ca : Option Addr) (cm : Nat → Bool) (nodes : Nat) (v : Value) (es : List (Int × Int × Int)) (nO : Nat) (W nodes1 : Int) (v1 : Value) (es1 : List (Int × Int × Int)) : Prop where
  bld : Bld wc Bd ca cl cc cm nodes1 v1 es1
  fr : Fr w2 wc Bd v v1
  new : New es es1 nO
  alt : (nO = 0 ∧ W = -1 ∧ nodes1 = (nodes : Int)) ∨ (0 < nO ∧ W = (nodes : Int) ∧ nodes1 = wrap64 ((nodes : Int) + 1))

theorem Fr.ofBelow {w w' : World} {Bd : Nat} {v : Value} (h : Below w.heap.size w w') : Fr w w' Bd v v :=
  ⟨h.os, h.tape, h.output, h.size, fun k hk => h.block k hk.1, fun _ e => .inl e⟩

theorem take_len (A : List Nat) (k : Nat) (f : List Nat → List Nat) (hf : ∀ L, (f L).length ≤ L.length) {n : Nat} (hn : A.length ≤ n) : (f (A.take k)).length ≤ n := by
  have h1 := hf (A.take k)
  have h2 : (A.take k).length ≤ A.length := by simp; omega
  omega

set_option maxHeartbeats 6400000 in
theorem c29_walk (w : World) (Bd cl cc : Nat) (ca : Option Addr) (cm : Nat → Bool) (nodes : Nat) (v : Value) (es : List (Int × Int × Int)) (h : Bld w Bd ca cl cc cm nodes v es) (R A : List Nat) (ra aa : Option Addr) (rl rc al ac : Nat)
    (HRl : Hid (R.length = rl)) (HAl : Hid (A.length = al)) (hr0 : 0 < rl) (ha0 : 0 < al) (hr1 : rl ≤ 4096) (ha1 : al ≤ 4096) (hes : es.length ≤ 65536) (hcl : cl ≤ 4096) (hn1 : nodes ≤ 9223372036854775807)
    (hR : Sl w (Safe w Bd v) ra rl (fun j => .int .i64 (R.getD j 0 : Nat))) (hA : Sl w (Safe w Bd v) aa al (fun j => .int .i64 (A.getD j 0 : Nat)))
    (HRb : Hid (∀ x ∈ R, x ≤ 9223372036854775807)) (HAb : Hid (∀ x ∈ A, x ≤ 9223372036854775807)) :
    Calls Try.prog 29 #[.pointer (some ⟨Bd, 0, none⟩), .slice ra rl rc, .slice aa al ac] w fun e w' => e = .returned (.tuple #[]) ∧ PrecPost w w' Bd cl cc ca cm nodes v es R A := by
  obtain ⟨i0, hi, hz0, hz1, hz2⟩ := info_parts Try.info3
  obtain ⟨rb, ro, hra, hrs, hrc⟩ := hR hr0
  obtain ⟨ab, ao, haa, has, hac⟩ := hA ha0
  subst hra haa
  have hrb : rb < w.heap.size := hrs.1
  have hab : ab < w.heap.size := has.1
  have HRC : Hid (∀ j, j < rl → w.cell? ⟨rb, ro + j, none⟩ = some (.int .i64 (R.getD j 0 : Nat))) := hrc
  have HAC : Hid (∀ j, j < al → w.cell? ⟨ab, ao + j, none⟩ = some (.int .i64 (A.getD j 0 : Nat))) := hac
  clear hrc hac
  have hb1 : ((rl : Int) == 0) = false := by simp; omega
  have hb2 : ((al : Int) == 0) = false := by simp; omega
  have hmm := run_makeMap_hint rl w
  have hs0 := hasSet_made w
  have hbl0 : Below w.heap.size w (w.alloc (.map #[] 0)) := (Below.refl _ _).alloc (Nat.le_refl _) _
  go_enter Try.func29, Try.ntmps29
  go_wp2_with fail
  go_loopw [8, 34] (fun _ i wr => ∃ k : Nat, k ≤ rl ∧ i = .int .i64 k ∧ HasSet wr w.heap.size k (inL (R.take k)) ∧ Below w.heap.size w wr) (fun _ i _ => rl - (intOf i).toNat)
  case atStart => exact ⟨0, Nat.zero_le _, rfl, hs0, hbl0⟩
  case round =>
    clear hs0 hbl0 hmm
    obtain ⟨k, hk, rfl, hs, hbel⟩ := hrel
    by_cases hlt : k < rl
    · have hc := (hbel.cell (p := ⟨rb, ro + k, none⟩) hrb).trans (HRC.out k hlt)
      have hle := getD_le HRb.out k
      have hsn : Hid ((fun y : Int => y == ((R.getD k 0 : Nat) : Int) || inL (R.take k) y) = inL (R.take (k + 1))) := by
        have : (fun y : Int => y == ((R.getD k 0 : Nat) : Int) || inL (R.take k) y) = inL (R.take (k + 1)) := by rw [inL_snoc, take_snocN R k (by rw [HRl.out]; exact hlt)]
        exact this
      generalize R.getD k 0 = r at *
      go_wp2_with (at_mapUpdate; refine wpList_set_put _ rfl (.tmp 38) (.tmp 39) (.const (.bool true)) rfl w.heap.size k (inL (R.take k)) rfl hs (by unfold maxLen; omega) (r : Int) rfl rfl (WalkArith.wf_i64 (by omega)) ?_; intro w1 hs1 hg1)
      rw [hsn.out] at hs1
      have hb1' := hbel.grown hg1 hbel.size (fun j e => by have : w.heap.size = j := by simpa using e
                                                           omega)
      clear hs hg1 hbel hc
      go_wp2_with fail
      go_roundw
      case rel => exact ⟨k + 1, by omega, by go_num, hs1, hb1'⟩
      case measure => simp [intOf]; omega
    · obtain rfl : k = rl := by omega
      have hs' : HasSet wr w.heap.size R.length (inL R) := by
        have e : R.take k = R := List.take_of_length_le (by rw [HRl.out]; omega)
        rw [e] at hs
        rw [HRl.out]
        exact hs
      clear hs
      obtain ⟨w1, hw1⟩ : ∃ w1 : World, w1 = wr := ⟨_, rfl⟩
      subst hw1
      go_wp2_with fail
      go_loopw [9, 10, 12, 43] (fun vb vo _ i wr => ∃ (j : Nat) (pb : Option Addr) (cb : Nat) (po : Option Addr) (co : Nat), j ≤ al ∧ i = .int .i64 j ∧ vb = .slice pb (bothL R (A.take j)).length cb ∧ vo = .slice po (othL R (A.take j)).length co ∧
          Two wr w.heap.size w.heap.size R A j pb cb po co ∧ Below w.heap.size w wr) (fun _ _ _ i _ => al - (intOf i).toNat)
      case atStart => exact ⟨0, none, 0, none, 0, Nat.zero_le _, rfl, rfl, rfl, ⟨World.ownsRow_nil _ _ _ _, World.ownsRow_nil _ _ _ _, fun g hg => by simp [Value.ownBlock] at hg, hs'⟩, hbel⟩
      case round =>
        clear hs' hbel
        obtain ⟨j, pb, cb, po, co, hj, rfl, rfl, rfl, HT, hbel⟩ := hrel
        by_cases hlt2 : j < al
        · have hc := (hbel.cell (p := ⟨ab, ao + j, none⟩) hab).trans (HAC.out j hlt2)
          have hle := getD_le HAb.out j
          have hnb := take_len A j (bothL R) (both_le R) (n := 4096) (by rw [HAl.out]; exact ha1)
          have hno := take_len A j (othL R) (oth_le R) (n := 4096) (by rw [HAl.out]; exact ha1)
          have hjA : j < A.length := by rw [HAl.out]; exact hlt2
          obtain ⟨x, hx⟩ : ∃ x, A.getD j 0 = x := ⟨_, rfl⟩
          rw [hx] at hc hle
          have HX : Hid (A.getD j 0 = x) := hx
          clear hx
          cases hin : inL R (x : Int)
          · go_wp2_with (first | (at_lookup; refine wpList_set_is _ rfl (.tmp 47) (.tmp 48) rfl w.heap.size R.length (inL R) rfl HT.set (x : Int) rfl (WalkArith.wf_i64 (by omega)) _ hin ?_) | (at_builtin; refine wpList_append_lies _ rfl (.tmp 54) (.tmp 56) 36 rfl w.heap.size 3 i0 (.int .i64 0) 1 8 Try.underlying36 hi hz0 hz1 hz2 rfl (by decide) (.slice po (othL R (A.take j)).length co) (othL R (A.take j)).length (ids (othL R (A.take j))) rfl (HT.oth.alloc _) ⟨wr.heap.size, 0, none⟩ 1 1 [.int .i64 (x : Int)] rfl rfl (news_alloc wr [.int .i64 (x : Int)] 3) ?m2 (by decide) (by unfold maxLen; omega) (by omega) ?m3 _ rfl ?_))
            case m2 => intro u hu; simp at hu; subst hu; rfl
            case m3 => have := hbel.size; simp; omega
            intro g cap w2 hown hgr hat _
            rw [← HX.out] at hown
            obtain ⟨l1, l2, HT2⟩ := HT.no hjA (by rw [HX.out]; exact hin) hown hgr hat (by simp)
            have L1 : Hid _ := l1
            have L2 : Hid _ := l2
            have hb2 : Below w.heap.size w w2 := (hbel.alloc hbel.size _).grown hgr (by have := hbel.size; simp; omega) (fun y e => (HT.oth.lt y e).1)
            clear l1 l2 hown hgr hat HT hbel hc
            go_wp2_with fail
            go_roundw
            case rel => exact ⟨j + 1, pb, cb, some ⟨g, 0, none⟩, cap, by omega, by go_num, by rw [L2.out], by rw [L1.out], HT2, hb2⟩
            case measure => simp [intOf]; omega
          · go_wp2_with (first | (at_lookup; refine wpList_set_is _ rfl (.tmp 47) (.tmp 48) rfl w.heap.size R.length (inL R) rfl HT.set (x : Int) rfl (WalkArith.wf_i64 (by omega)) _ hin ?_) | (at_builtin; refine wpList_append_lies _ rfl (.tmp 50) (.tmp 52) 36 rfl w.heap.size 3 i0 (.int .i64 0) 1 8 Try.underlying36 hi hz0 hz1 hz2 rfl (by decide) (.slice pb (bothL R (A.take j)).length cb) (bothL R (A.take j)).length (ids (bothL R (A.take j))) rfl (HT.both.alloc _) ⟨wr.heap.size, 0, none⟩ 1 1 [.int .i64 (x : Int)] rfl rfl (news_alloc wr [.int .i64 (x : Int)] 3) ?n2 (by decide) (by unfold maxLen; omega) (by omega) ?n3 _ rfl ?_))
            case n2 => intro u hu; simp at hu; subst hu; rfl
            case n3 => have := hbel.size; simp; omega
            intro g cap w2 hown hgr hat _
            rw [← HX.out] at hown
            obtain ⟨l1, l2, HT2⟩ := HT.yes hjA (by rw [HX.out]; exact hin) hown hgr hat (by simp)
            have L1 : Hid _ := l1
            have L2 : Hid _ := l2
            have hb2 : Below w.heap.size w w2 := (hbel.alloc hbel.size _).grown hgr (by have := hbel.size; simp; omega) (fun y e => (HT.both.lt y e).1)
            clear l1 l2 hown hgr hat HT hbel hc
            go_wp2_with fail
            go_roundw
            case rel => exact ⟨j + 1, some ⟨g, 0, none⟩, cap, po, co, by omega, by go_num, by rw [L1.out], by rw [L2.out], HT2, hb2⟩
            case measure => simp [intOf]; omega
        · obtain rfl : j = al := by omega
          have eT : A.take j = A := List.take_of_length_le (by rw [HAl.out]; omega)
          have hb := HT.both
          have ho := HT.oth
          rw [eT] at hb ho ⊢
          clear HT eT
          have hB2 := h.below hbel
          have slR := hR.below hbel
          have hsafe : ∀ g, w.heap.size ≤ g → g < wr.heap.size → Safe wr Bd v g := fun g h1 h2 => ⟨h2, by have := h.lt; omega, fun e => by have := (h.owns.lt g e).2; omega⟩
          have slB := sl_of_owns hb _ hsafe
          have slO := sl_of_owns ho _ hsafe
          have hlen : (bothL R A).length + (othL R A).length = j := by rw [both_len]; exact HAl.out
          have hmB : Hid (∀ x ∈ bothL R A, x ≤ 9223372036854775807) := both_mem HAb.out
          have hmO : Hid (∀ x ∈ othL R A, x ≤ 9223372036854775807) := oth_mem HAb.out
          have HOE : Hid (∀ n : Nat, (othL R A).length = n → ((othL R A = []) ↔ n = 0)) := fun n hn => by rw [← hn]; exact (List.length_eq_zero_iff).symm
          clear hb ho hsafe h hR hA
          obtain ⟨O, hO⟩ : ∃ O, O = othL R A := ⟨_, rfl⟩
          obtain ⟨Bo, hBo⟩ : ∃ Bo, Bo = bothL R A := ⟨_, rfl⟩
          rw [← hO] at slO hmO HOE hlen ⊢
          rw [← hBo] at slB hmB hlen ⊢
          obtain ⟨nO, hnO⟩ : ∃ nO, nO = O.length := ⟨_, rfl⟩
          obtain ⟨nB, hnB⟩ : ∃ nB, nB = Bo.length := ⟨_, rfl⟩
          rw [← hnO] at slO hlen ⊢
          rw [← hnB] at slB hlen ⊢
          have HO : Hid (O = othL R A) := hO
          have HnO : Hid (O.length = nO) := hnO.symm
          have HnB : Hid (Bo.length = nB) := hnB.symm
          clear hO hBo hnO hnB
          obtain ⟨w2, hw2⟩ : ∃ w2 : World, w2 = wr := ⟨_, rfl⟩
          subst hw2
          have hOle : nO ≤ 4096 := by omega
          have hBle : nB ≤ 4096 := by omega
          have HLEN : Hid (nB + nO = j) := hlen
          clear hlen
          go_upto_if 61 with (fail)
          go_cut [13] (fun s13 wc => ∃ (W nodes1 : Int) (v1 : Value) (es1 : List (Int × Int × Int)), s13 = .int .i64 W ∧ Mid w2 wc Bd cl cc ca cm nodes v es nO W nodes1 v1 es1)
          case first =>
            rename_i J K' hJ hK'
            refine wp_cut_let (fun a' w' h => hK' a' w' (Met.intro (hJ a' w' h))) ?_
            intro KK
            clear hJ hK'
            by_cases hz : nO = 0
            · subst hz
              go_wp2_with fail
              (repeat apply Exists.intro)
              refine ⟨?rel, rfl⟩
              case rel => exact ⟨-1, nodes, v, es, rfl, ⟨hB2, Fr.refl _ _ _, New.refl _, .inl ⟨rfl, rfl, rfl⟩⟩⟩
            · have hpos : 0 < nO := by omega
              clear hz
              go_wp2_with fail
              refine (c32 _ _ _ _ _ _ _ _ _ hB2 (by omega) (by omega)).mono ?_
              rintro e w3 ⟨rfl, hB3, hF3⟩
              clear hB2
              go_wp2_with fail
              go_loopw [15, 66] (fun _ i wr => ∃ (k : Nat) (v1 : Value) (es1 : List (Int × Int × Int)), k ≤ nO ∧ i = .int .i64 k ∧ Bld wr Bd ca cl cc cm (wrap64 ((nodes : Int) + 1)) v1 es1 ∧ Fr w2 wr Bd v v1 ∧ New es es1 k) (fun _ i _ => nO - (intOf i).toNat)
              case atStart => exact ⟨0, v, es, Nat.zero_le _, rfl, hB3, hF3, New.refl _⟩
              case round =>
                clear hB3 hF3
                obtain ⟨k', v1, es1, hk', rfl, hB, hF, hN⟩ := hrel
                by_cases hlt3 : k' < nO
                · obtain ⟨ob, oo, hpo, hos, hoc⟩ := (slO.fr hF) hpos
                  subst hpo
                  have hc : wr.cell? ⟨ob, oo + k', none⟩ = some (.int .i64 ((O.getD k' 0 : Nat) : Int)) := hoc k' hlt3
                  have hle := getD_le hmO.out k'
                  clear hoc
                  generalize O.getD k' 0 = x at *
                  have hnl := hN.len
                  go_wp2_with fail
                  refine (c33 _ _ _ _ _ _ _ _ _ hB (by omega) nodes x hn1 hle hcl).mono ?_
                  rintro e w4 ⟨rfl, v2, es2, hB4, hF4, hs4⟩
                  have hF5 := hF.trans hF4
                  have hN5 := hN.step hs4
                  clear hB hF hN hF4 hs4 hc hos
                  go_wp2_with fail
                  go_roundw
                  case rel => exact ⟨k' + 1, v2, es2, by omega, by go_num, hB4, hF5, hN5⟩
                  case measure => simp [intOf]; omega
                · obtain rfl : k' = nO := by omega
                  go_wp2_with fail
                  (repeat apply Exists.intro)
                  refine ⟨?rel, rfl⟩
                  case rel => exact ⟨nodes, wrap64 ((nodes : Int) + 1), v1, es1, rfl, ⟨hB, hF, hN, .inr ⟨hpos, rfl, rfl⟩⟩⟩
          case rest =>
            obtain ⟨W, nodes1, v1, es1, hs13, hmid⟩ := hcut
            subst hs13
            obtain ⟨hB1, hF1, hN1, halt⟩ := hmid
            have HALT : Hid _ := halt
            clear halt hB2 slO hmO
            have hmm := run_makeMap_hint nB wc
            have hs0 := hasSet_made wc
            have hBa := hB1.below ((Below.refl _ _).alloc (Nat.le_refl _) (.map #[] 0))
            have hFa := hF1.alloc (.map #[] 0)
            have hM2 := hF1.size
            clear hB1 hF1
            go_wp2_with fail
            go_loopw [17, 18, 80] (fun _ _ i wr => ∃ (k : Nat) (v4 : Value) (es4 : List (Int × Int × Int)), k ≤ nB ∧ i = .int .i64 k ∧ HasSet wr wc.heap.size k (inL (Bo.take k)) ∧ Bld wr Bd ca cl cc cm nodes1 v4 es4 ∧ Fr w2 wr Bd v v4 ∧ New es es4 (nO + k)) (fun _ _ i _ => nB - (intOf i).toNat)
            case atStart => exact ⟨0, v1, es1, Nat.zero_le _, rfl, hs0, hBa, hFa, hN1⟩
            case round =>
              clear hs0 hBa hFa hN1 hmm
              obtain ⟨k4, v4, es4, hk4, rfl, hs, hB, hF, hN⟩ := hrel
              by_cases hlt4 : k4 < nB
              · obtain ⟨bb, bo, hpb, hbs, hbc⟩ := (slB.fr hF) (by omega)
                subst hpb
                have hc1 : wr.cell? ⟨bb, bo + k4, none⟩ = some (.int .i64 ((Bo.getD k4 0 : Nat) : Int)) := hbc k4 hlt4
                have hm2 : (k4 + 1) % nB < nB := Nat.mod_lt _ (by omega)
                have hc2 : wr.cell? ⟨bb, bo + (k4 + 1) % nB, none⟩ = some (.int .i64 ((Bo.getD ((k4 + 1) % nB) 0 : Nat) : Int)) := hbc _ hm2
                have hle1 := getD_le hmB.out k4
                have hle2 := getD_le hmB.out ((k4 + 1) % nB)
                have hsn : Hid ((fun y : Int => y == ((Bo.getD k4 0 : Nat) : Int) || inL (Bo.take k4) y) = inL (Bo.take (k4 + 1))) := by
                  have : (fun y : Int => y == ((Bo.getD k4 0 : Nat) : Int) || inL (Bo.take k4) y) = inL (Bo.take (k4 + 1)) := by rw [inL_snoc, take_snocN Bo k4 (by rw [HnB.out]; exact hlt4)]
                  exact this
                clear hbc
                have hq0 : 0 ≤ ((k4 : Int) + 1) % (nB : Int) := Int.emod_nonneg _ (by omega)
                have hq1 : ((k4 : Int) + 1) % (nB : Int) < (nB : Int) := Int.emod_lt_of_pos _ (by omega)
                generalize Bo.getD k4 0 = x at *
                generalize Bo.getD ((k4 + 1) % nB) 0 = y at *
                have hnl := hN.len
                have hbbM := hs.apart hc1
                go_wp2_with (at_mapUpdate; refine wpList_set_put _ rfl (.tmp 85) (.tmp 86) (.const (.bool true)) rfl wc.heap.size k4 (inL (Bo.take k4)) rfl hs (by unfold maxLen; omega) (x : Int) rfl rfl (WalkArith.wf_i64 (by omega)) ?_)
                intro w5 hs5 hg5
                rw [hsn.out] at hs5
                have hB5 := hB.map hs hg5
                have hF5 := hF.grown hM2 hg5
                have hc5 : w5.cell? ⟨bb, bo + (k4 + 1) % nB, none⟩ = some (.int .i64 (y : Int)) := (World.cell?_of_block (a := ⟨bb, bo + (k4 + 1) % nB, none⟩) (hg5.block bb hbs.1 (by simpa using hbbM))).trans hc2
                clear hs hB hF hg5 hc1 hc2 hbs hbbM
                go_wp2_with fail
                refine (c33 _ _ _ _ _ _ _ _ _ hB5 (by omega) x y hle1 hle2 hcl).mono ?_
                rintro e w6 ⟨rfl, v6, es6, hB6, hF6, hs6⟩
                have hS6 := hs5.fr (hB5.safeMap hs5) hF6
                have hF7 := hF5.trans hF6
                have hN7 := hN.step hs6
                clear hs5 hB5 hF5 hF6 hs6 hN hc5
                go_wp2_with fail
                go_roundw
                case rel => exact ⟨k4 + 1, v6, es6, by omega, by go_num, hS6, hB6, hF7, hN7⟩
                case measure => simp [intOf]; omega
              · obtain rfl : k4 = nB := by omega
                have eT : Bo.take k4 = Bo := List.take_of_length_le (by rw [HnB.out]; omega)
                rw [eT] at hs
                clear eT
                obtain ⟨w4, hw4⟩ : ∃ w4 : World, w4 = wr := ⟨_, rfl⟩
                subst hw4
                have slR4 := slR.fr hF
                have slB4 := slB.fr hF
                have halt := HALT.out
                clear slR slB HALT
                have HFIN : Hid (∀ (w9 : World) (v9 : Value) (es9 : List (Int × Int × Int)), Bld w9 Bd ca cl cc cm nodes1 v9 es9 → Fr w2 w9 Bd v v9 → New es es9 (nO + k4 + 2 * k) → PrecPost w w9 Bd cl cc ca cm (nodes : Int) v es R A) := by
                  have hfin : ∀ (w9 : World) (v9 : Value) (es9 : List (Int × Int × Int)), Bld w9 Bd ca cl cc cm nodes1 v9 es9 → Fr w2 w9 Bd v v9 → New es es9 (nO + k4 + 2 * k) → PrecPost w w9 Bd cl cc ca cm (nodes : Int) v es R A := by
                    intro w9 v9 es9 hb9 hf9 hn9
                    have e1 := HRl.out
                    have e2 := HAl.out
                    have e3 := HLEN.out
                    refine ⟨v9, es9, nodes1, hb9, (Fr.ofBelow hbel).trans hf9, fun hor => ?_, fun _ _ => ⟨?_, ?_⟩⟩
                    · rcases hor with e | e
                      · rw [e] at e1; simp at e1; omega
                      · rw [e] at e2; simp at e2; omega
                    · rw [e1, e2, ← e3]
                      exact hn9.mono (by omega)
                    · have hoe := HOE.out nO HnO.out
                      rw [← HO.out]
                      rcases halt with ⟨h1, _, h3⟩ | ⟨h1, _, h3⟩
                      · rw [if_pos (hoe.2 h1)]; exact h3
                      · rw [if_neg (fun e => by have := hoe.1 e; omega)]; exact h3
                  exact hfin
                clear hbel
                go_wp2_with fail
                go_loopw [20, 101] (fun _ i wr => ∃ (m : Nat) (v9 : Value) (es9 : List (Int × Int × Int)), m ≤ k ∧ i = .int .i64 m ∧ HasSet wr wc.heap.size k4 (inL Bo) ∧ Bld wr Bd ca cl cc cm nodes1 v9 es9 ∧ Fr w4 wr Bd v4 v9 ∧ New es es9 (nO + k4 + 2 * m)) (fun _ i _ => k - (intOf i).toNat)
                case atStart => exact ⟨0, v4, es4, Nat.zero_le _, rfl, hs, hB, Fr.refl _ _ _, hN⟩
                case round =>
                  clear hs hB hN
                  have HF4 := hF
                  clear hF
                  obtain ⟨m, v9, es9, hm, rfl, hs, hB, hF, hN⟩ := hrel
                  by_cases hltm : m < k
                  · obtain ⟨rb', ro', hre, hrs', hrc'⟩ := (slR4.fr hF) hr0
                    obtain ⟨rfl, rfl⟩ : rb = rb' ∧ ro = ro' := by simpa using hre
                    have hc : wr.cell? ⟨rb, ro + m, none⟩ = some (.int .i64 ((R.getD m 0 : Nat) : Int)) := hrc' m hltm
                    have hle := getD_le HRb.out m
                    clear hrc' hre
                    generalize R.getD m 0 = r at *
                    rcases halt with ⟨h1, hW, h3⟩ | ⟨h1, hW, h3⟩ <;> clear h1 h3
                    · have hWn : W < 0 := by omega
                      clear hW
                      cases hin : inL Bo (r : Int)
                      · by_cases h0 : 0 < k4
                        · obtain ⟨bb, bo, hpb, hbs, hbc⟩ := (slB4.fr hF) h0
                          subst hpb
                          have hc0 : wr.cell? ⟨bb, bo, none⟩ = some (.int .i64 ((Bo.getD 0 0 : Nat) : Int)) := hbc 0 h0
                          have hle0 := getD_le hmB.out 0
                          clear hbc
                          generalize Bo.getD 0 0 = z at *
                          have hnl := hN.len
                          have h0' : (0 : Int) < (k4 : Int) := by omega
                          go_wp2_with (at_lookup; refine wpList_set_is _ rfl (.tmp 111) (.tmp 112) rfl wc.heap.size k4 (inL Bo) rfl hs (r : Int) rfl (WalkArith.wf_i64 (by omega)) _ hin ?_)
                          refine (c33 _ _ _ _ _ _ _ _ _ hB (by omega) r z hle hle0 hcl).mono ?_
                          rintro e wz ⟨rfl, vz, esz, hBz, hFz, hsz⟩
                          have hSz := hs.fr (hB.safeMap hs) hFz
                          have hFz' := hF.trans hFz
                          have hNz := (hN.step hsz).mono (show (nO + k4 + 2 * m) + 1 ≤ nO + k4 + 2 * (m + 1) by omega)
                          clear hFz hsz hbs hc0
                          go_wp2_with fail
                          go_roundw
                          case rel => exact ⟨m + 1, vz, esz, by omega, by go_num, hSz, hBz, hFz', hNz⟩
                          case measure => simp [intOf]; omega
                        · have hd : decide ((0 : Int) < (k4 : Int)) = false := by simp; omega
                          have hNz := hN.mono (show (nO + k4 + 2 * m) ≤ nO + k4 + 2 * (m + 1) by omega)
                          go_wp2_with (at_lookup; refine wpList_set_is _ rfl (.tmp 111) (.tmp 112) rfl wc.heap.size k4 (inL Bo) rfl hs (r : Int) rfl (WalkArith.wf_i64 (by omega)) _ hin ?_)
                          go_roundw
                          case rel => exact ⟨m + 1, v9, es9, by omega, by go_num, hs, hB, hF, hNz⟩
                          case measure => simp [intOf]; omega
                      · have hNz := hN.mono (show (nO + k4 + 2 * m) ≤ nO + k4 + 2 * (m + 1) by omega)
                        go_wp2_with (at_lookup; refine wpList_set_is _ rfl (.tmp 111) (.tmp 112) rfl wc.heap.size k4 (inL Bo) rfl hs (r : Int) rfl (WalkArith.wf_i64 (by omega)) _ hin ?_)
                        go_roundw
                        case rel => exact ⟨m + 1, v9, es9, by omega, by go_num, hs, hB, hF, hNz⟩
                        case measure => simp [intOf]; omega
                    · subst hW
                      have hnl1 := hN.len
                      go_wp2_with fail
                      refine (c33 _ _ _ _ _ _ _ _ _ hB (by omega) r nodes hle hn1 hcl).mono ?_
                      rintro e wa ⟨rfl, va, esa, hBa, hFa, hsa⟩
                      have hSa := hs.fr (hB.safeMap hs) hFa
                      have hFa' := hF.trans hFa
                      have hNa := hN.step hsa
                      clear hs hB hF hN hFa hsa hc hrs'
                      cases hin : inL Bo (r : Int)
                      · by_cases h0 : 0 < k4
                        · obtain ⟨bb, bo, hpb, hbs, hbc⟩ := (slB4.fr hFa') h0
                          subst hpb
                          have hc0 : wa.cell? ⟨bb, bo, none⟩ = some (.int .i64 ((Bo.getD 0 0 : Nat) : Int)) := hbc 0 h0
                          have hle0 := getD_le hmB.out 0
                          clear hbc
                          generalize Bo.getD 0 0 = z at *
                          have hnl := hNa.len
                          have h0' : (0 : Int) < (k4 : Int) := by omega
                          go_wp2_with (at_lookup; refine wpList_set_is _ rfl (.tmp 111) (.tmp 112) rfl wc.heap.size k4 (inL Bo) rfl hSa (r : Int) rfl (WalkArith.wf_i64 (by omega)) _ hin ?_)
                          refine (c33 _ _ _ _ _ _ _ _ _ hBa (by omega) r z hle hle0 hcl).mono ?_
                          rintro e wz ⟨rfl, vz, esz, hBz, hFz, hsz⟩
                          have hSz := hSa.fr (hBa.safeMap hSa) hFz
                          have hFz' := hFa'.trans hFz
                          have hNz := (hNa.step hsz).mono (show (nO + k4 + 2 * m + 1) + 1 ≤ nO + k4 + 2 * (m + 1) by omega)
                          clear hFz hsz hbs hc0
                          go_wp2_with fail
                          go_roundw
                          case rel => exact ⟨m + 1, vz, esz, by omega, by go_num, hSz, hBz, hFz', hNz⟩
                          case measure => simp [intOf]; omega
                        · have hd : decide ((0 : Int) < (k4 : Int)) = false := by simp; omega
                          have hNz := hNa.mono (show (nO + k4 + 2 * m + 1) ≤ nO + k4 + 2 * (m + 1) by omega)
                          go_wp2_with (at_lookup; refine wpList_set_is _ rfl (.tmp 111) (.tmp 112) rfl wc.heap.size k4 (inL Bo) rfl hSa (r : Int) rfl (WalkArith.wf_i64 (by omega)) _ hin ?_)
                          go_roundw
                          case rel => exact ⟨m + 1, va, esa, by omega, by go_num, hSa, hBa, hFa', hNz⟩
                          case measure => simp [intOf]; omega
                      · have hNz := hNa.mono (show (nO + k4 + 2 * m + 1) ≤ nO + k4 + 2 * (m + 1) by omega)
                        go_wp2_with (at_lookup; refine wpList_set_is _ rfl (.tmp 111) (.tmp 112) rfl wc.heap.size k4 (inL Bo) rfl hSa (r : Int) rfl (WalkArith.wf_i64 (by omega)) _ hin ?_)
                        go_roundw
                        case rel => exact ⟨m + 1, va, esa, by omega, by go_num, hSa, hBa, hFa', hNz⟩
                        case measure => simp [intOf]; omega
                  · obtain rfl : m = k := by omega
                    have hres := HFIN.out wr v9 es9 hB (HF4.trans hF) hN
                    go_wp2_with fail
                    go_end0
                    exact ⟨rfl, hres⟩

end Go.Proofs.Qxb6602859a
