import Derived.Test.Qxb6602859aZz
namespace Go.Proofs.Qxb6602859a
open Go.RowKit Go.Maps

/-- What ZZPrecedeAll hands back and leaves. -/
def ZzPost (w w' : World) (e : Ending) (es : List (Int × Int × Int)) (nodes : Nat) (R A : List Nat) : Prop :=
  ∃ (nodes' : Int) (es' : List (Int × Int × Int)) (gf gt gk : Nat),
    e = .returned (.tuple #[.int .i64 nodes', .slice (some ⟨gf, 0, none⟩) es'.length es'.length, .slice (some ⟨gt, 0, none⟩) es'.length es'.length, .slice (some ⟨gk, 0, none⟩) es'.length es'.length]) ∧
    Below w.heap.size w w' ∧ (gf < w'.heap.size ∧ gt < w'.heap.size ∧ gk < w'.heap.size) ∧
    (∀ j x, es'[j]? = some x → w'.cell? ⟨gf, j, none⟩ = some (.int .i32 x.1) ∧ w'.cell? ⟨gt, j, none⟩ = some (.int .i32 x.2.1) ∧ w'.cell? ⟨gk, j, none⟩ = some (.int .u8 x.2.2)) ∧
    ((R = [] ∨ A = []) → es' = es ∧ nodes' = nodes) ∧ (R ≠ [] → A ≠ [] → New es es' (A.length + 2 * R.length) ∧ nodes' = if othL R A = [] then (nodes : Int) else wrap64 ((nodes : Int) + 1))

/-- The three cells of the builder. -/
structure Box (w : World) (Bd : Nat) (c nd e : Value) : Prop where
  lt : Bd < w.heap.size
  c0 : w.cell? ⟨Bd, 0, none⟩ = some c
  c1 : w.cell? ⟨Bd, 1, none⟩ = some nd
  c2 : w.cell? ⟨Bd, 2, none⟩ = some e
  f1 : w.frozen? ⟨Bd, 1, none⟩ = false
  f2 : w.frozen? ⟨Bd, 2, none⟩ = false

theorem Box.made (w : World) (c nd e : Value) (t : TypeId) : Box (w.alloc (.cells #[c, nd, e] t)) w.heap.size c nd e :=
  ⟨by simp, by rw [World.cell?_alloc_new]; rfl, by rw [World.cell?_alloc_new]; rfl, by rw [World.cell?_alloc_new]; rfl, by simp, by simp⟩

theorem Box.keep {w w' : World} {Bd : Nat} {c nd e : Value} (h : Box w Bd c nd e) (hs : w.heap.size ≤ w'.heap.size) (hb : w'.heap[Bd]? = w.heap[Bd]?) : Box w' Bd c nd e :=
  ⟨Nat.lt_of_lt_of_le h.lt hs, (World.cell?_of_block (a := ⟨Bd, 0, none⟩) hb).trans h.c0, (World.cell?_of_block (a := ⟨Bd, 1, none⟩) hb).trans h.c1, (World.cell?_of_block (a := ⟨Bd, 2, none⟩) hb).trans h.c2,
    (World.frozen?_of_block (a := ⟨Bd, 1, none⟩) hb).trans h.f1, (World.frozen?_of_block (a := ⟨Bd, 2, none⟩) hb).trans h.f2⟩

theorem Box.set3 {w : World} {Bd g : Nat} {c nd e : Value} (h : Box w Bd c nd e) (hne : Bd ≠ g) (a0 a1 a2 : Nat) (x y z : Value) :
    Box (((w.setCell ⟨g, a0, none⟩ x).setCell ⟨g, a1, none⟩ y).setCell ⟨g, a2, none⟩ z).drew Bd c nd e := by
  refine h.keep ?_ ?_
  · show _ ≤ (((w.setCell ⟨g, a0, none⟩ x).setCell ⟨g, a1, none⟩ y).setCell ⟨g, a2, none⟩ z).heap.size
    rw [size_setCell, size_setCell, size_setCell]
    exact Nat.le_refl _
  · show (((w.setCell ⟨g, a0, none⟩ x).setCell ⟨g, a1, none⟩ y).setCell ⟨g, a2, none⟩ z).heap[Bd]? = _
    rw [Below.heap_setCell _ _ _ _ hne, Below.heap_setCell _ _ _ _ hne, Below.heap_setCell _ _ _ _ hne]

theorem Box.set1 {w : World} {Bd g : Nat} {c nd e : Value} (h : Box w Bd c nd e) (hne : Bd ≠ g) (a0 : Nat) (x : Value) : Box (w.setCell ⟨g, a0, none⟩ x) Bd c nd e :=
  h.keep (by rw [size_setCell]; exact Nat.le_refl _) (Below.heap_setCell _ _ _ _ hne)

theorem ownsRow_weak {w : World} {base : Nat} {e : TypeId} {size : Nat} {v : Value} {n : Nat} {xs : List Value} (h : w.ownsRow base e size v n xs) : w.ownsRow 0 e size v n xs := by
  refine ⟨h.1, ?_⟩
  rcases h.2 with h2 | ⟨g, cap, cur, hv, _, r⟩
  · exact Or.inl h2
  · exact Or.inr ⟨g, cap, cur, hv, Nat.zero_le _, r⟩

theorem Try.info21 : (Try.prog.info? 21).map (fun i => (i.zero, i.size, i.bytes)) = some (some (.int .i32 0), 1, 4) := by kernel_rfl
theorem Try.info5 : (Try.prog.info? 5).map (fun i => (i.zero, i.size, i.bytes)) = some (some (.int .u8 0), 1, 1) := by kernel_rfl

/-- The three rows handed back are filled up to k. -/
def Outs (es : List (Int × Int × Int)) (xf xt xk : List Value) (k : Nat) : Prop :=
  ∀ j x, j < k → es[j]? = some x → xf[j]? = some (.int .i32 x.1) ∧ xt[j]? = some (.int .i32 x.2.1) ∧ xk[j]? = some (.int .u8 x.2.2)

theorem Outs.step {es : List (Int × Int × Int)} {xf xt xk : List Value} {k : Nat} {x : Int × Int × Int} (h : Outs es xf xt xk k) (hx : es[k]? = some x) (h1 : k < xf.length) (h2 : k < xt.length) (h3 : k < xk.length) :
    Outs es (xf.set k (.int .i32 x.1)) (xt.set k (.int .i32 x.2.1)) (xk.set k (.int .u8 x.2.2)) (k + 1) := by
  intro j y hj hy
  by_cases e : j = k
  · subst e
    obtain rfl : x = y := by rw [hx] at hy; simpa using hy
    exact ⟨List.getElem?_set_self h1, List.getElem?_set_self h2, List.getElem?_set_self h3⟩
  · have := h j y (by omega) hy
    rw [List.getElem?_set_ne (by omega), List.getElem?_set_ne (by omega), List.getElem?_set_ne (by omega)]
    exact this

set_option maxHeartbeats 6400000 in
theorem c21_walk (w : World) (ca fa ta ka ra aa : Option Addr) (cl cc n fc tc kc rc ac : Nat) (cm : Nat → Bool) (f t kd : Nat → Int) (nodes : Nat) (R A : List Nat) (rl al : Nat) (HRl : Hid (R.length = rl)) (HAl : Hid (A.length = al))
    (hC : Sl w (fun x => x < w.heap.size) ca cl (fun j => .bool (cm j))) (hFs : Sl w (fun x => x < w.heap.size) fa n (fun j => .int .i32 (f j))) (hTs : Sl w (fun x => x < w.heap.size) ta n (fun j => .int .i32 (t j))) (hKs : Sl w (fun x => x < w.heap.size) ka n (fun j => .int .u8 (kd j)))
    (hR : Sl w (fun x => x < w.heap.size) ra rl (fun j => .int .i64 (R.getD j 0 : Nat))) (hA : Sl w (fun x => x < w.heap.size) aa al (fun j => .int .i64 (A.getD j 0 : Nat)))
    (hcl : cl ≤ 4096) (hn : n ≤ 65536) (hr1 : rl ≤ 4096) (ha1 : al ≤ 4096) (hn1 : nodes ≤ 9223372036854775807) (HRb : Hid (∀ x ∈ R, x ≤ 9223372036854775807)) (HAb : Hid (∀ x ∈ A, x ≤ 9223372036854775807)) :
    Calls Try.prog 21 #[.slice ca cl cc, .int .i64 nodes, .slice fa n fc, .slice ta n tc, .slice ka n kc, .slice ra rl rc, .slice aa al ac] w fun e w' => ZzPost w w' e (esOf n f t kd) nodes R A := by
  obtain ⟨i0, hi, hz0, hz1, hz2⟩ := info_parts Try.info53
  go_enter Try.func21, Try.ntmps21
  go_wp2_with (at_make; refine wpList_make_full _ rfl (.tmp 27) (.tmp 27) 49 rfl w.heap.size 53 i0 (.agg #[.int .i32 0, .int .i32 0, .int .u8 0]) 3 Try.underlying49 hi hz0 hz1 .i64 .i64 n n n rfl rfl rfl rfl (by rw [hz2]; omega) (by unfold maxLen; omega) (Nat.le_refl _) ?_)
  intro w1 hown hgr
  have hsz : w.heap.size < w1.heap.size := (hown.lt _ rfl).2
  have hbel : Below w.heap.size w w1 := (Below.refl _ _).grown hgr (Nat.le_refl _) (fun k h => by cases h)
  obtain ⟨xs, hown⟩ : ∃ xs, w1.ownsRow w.heap.size 53 3 (.slice (some ⟨w.heap.size, 0, none⟩) n n) n xs := ⟨_, hown⟩
  have hbox := Box.made w1 (.slice ca cl cc) (.int .i64 nodes) (.slice (some ⟨w.heap.size, 0, none⟩) n n) 51
  have hown1 := hown.alloc (.cells #[.slice ca cl cc, .int .i64 nodes, .slice (some ⟨w.heap.size, 0, none⟩) n n] 51)
  have hbel1 := hbel.alloc hbel.size (.cells #[.slice ca cl cc, .int .i64 nodes, .slice (some ⟨w.heap.size, 0, none⟩) n n] 51)
  clear hgr hown hbel
  go_wp2_with fail
  go_loopw [19, 33] (fun _ i wr => ∃ (m : Nat) (xs : List Value), m ≤ n ∧ i = .int .i64 m ∧ wr.ownsRow w.heap.size 53 3 (.slice (some ⟨w.heap.size, 0, none⟩) n n) n xs ∧ Filled xs f t kd m ∧
      Box wr w1.heap.size (.slice ca cl cc) (.int .i64 nodes) (.slice (some ⟨w.heap.size, 0, none⟩) n n) ∧ Below w.heap.size w wr) (fun _ i _ => n - (intOf i).toNat)
  case atStart => exact ⟨0, xs, Nat.zero_le _, rfl, hown1, fun j hj => by omega, hbox, hbel1⟩
  case round =>
    clear hown1 hbox hbel1
    obtain ⟨m, xs, hm, rfl, hown, hfil, hbox, hbel⟩ := hrel
    by_cases hlt : m < n
    · obtain ⟨fb, fo, hfa, hfb, hfc⟩ := hFs (by omega)
      obtain ⟨tb, to', hta, htb, htc⟩ := hTs (by omega)
      obtain ⟨kb, ko, hka, hkb, hkc⟩ := hKs (by omega)
      subst hfa hta hka
      have c1 : wr.cell? ⟨fb, fo + m, none⟩ = some (.int .i32 (f m)) := (hbel.cell (p := ⟨fb, fo + m, none⟩) hfb).trans (hfc m hlt)
      have c2 : wr.cell? ⟨tb, to' + m, none⟩ = some (.int .i32 (t m)) := (hbel.cell (p := ⟨tb, to' + m, none⟩) htb).trans (htc m hlt)
      have c3 : wr.cell? ⟨kb, ko + m, none⟩ = some (.int .u8 (kd m)) := (hbel.cell (p := ⟨kb, ko + m, none⟩) hkb).trans (hkc m hlt)
      have hxl : xs.length = n * 3 := by simpa using hown.1
      obtain ⟨o0, e0⟩ : ∃ o, wr.cell? ⟨w.heap.size, m * 3, none⟩ = some o := ⟨xs[m * 3]'(by omega), by rw [hown.cellAt (m * 3) (by omega)]; exact List.getElem?_eq_getElem _⟩
      obtain ⟨o1, e1⟩ : ∃ o, wr.cell? ⟨w.heap.size, m * 3 + 1, none⟩ = some o := ⟨xs[m * 3 + 1]'(by omega), by rw [hown.cellAt (m * 3 + 1) (by omega)]; exact List.getElem?_eq_getElem _⟩
      obtain ⟨o2, e2⟩ : ∃ o, wr.cell? ⟨w.heap.size, m * 3 + 2, none⟩ = some o := ⟨xs[m * 3 + 2]'(by omega), by rw [hown.cellAt (m * 3 + 2) (by omega)]; exact List.getElem?_eq_getElem _⟩
      have f0 := hown.frozenAt (m * 3)
      have f1 := hown.frozenAt (m * 3 + 1)
      have f2 := hown.frozenAt (m * 3 + 2)
      have b2 := hbox.c2
      have hlt' : (m : Int) < (n : Int) := by omega
      have hm0 : (0 : Int) ≤ (m : Int) := by omega
      have S1 := hown.stored (m * 3) (.int .i32 (f m))
      have S2 := S1.1.stored (m * 3 + 1) (.int .i32 (t m))
      have S3 := (S2.1.stored (m * 3 + 2) (.int .u8 (kd m))).1.drew
      have hfil2 := hfil.step (by omega)
      have hbox2 := hbox.set3 (g := w.heap.size) (by omega) (m * 3) (m * 3 + 1) (m * 3 + 2) (.int .i32 (f m)) (.int .i32 (t m)) (.int .u8 (kd m))
      have hbel2 := (((hbel.setCell (p := ⟨w.heap.size, m * 3, none⟩) (Nat.le_refl _) (.int .i32 (f m))).setCell (p := ⟨w.heap.size, m * 3 + 1, none⟩) (Nat.le_refl _) (.int .i32 (t m))).setCell (p := ⟨w.heap.size, m * 3 + 2, none⟩) (Nat.le_refl _) (.int .u8 (kd m))).drew
      clear hfc htc hkc hown hfil hbox hbel hxl S1 S2
      go_wp2_with fail
      go_region
      go_wp2_with fail
      go_roundw
      case rel => exact ⟨m + 1, _, by omega, by go_num, S3, hfil2, hbox2, hbel2⟩
      case measure => simp [intOf]; omega
    · obtain rfl : m = n := by omega
      have hxl : xs.length = m * 3 := by simpa using hown.1
      rw [filled_all hfil hxl] at hown
      have hel : (esOf m f t kd).length = m := by simp [esOf]
      have hsafe : ∀ x, x < w.heap.size → Safe wr w1.heap.size (.slice (some ⟨w.heap.size, 0, none⟩) m m) x := fun x hx => ⟨by have := hbel.size; omega, by omega, fun e => by have : w.heap.size = x := (by simpa [Value.ownBlock] using e); omega⟩
      have slC := hC.keep (w' := wr) (fun k hk => hbel.block k hk) hsafe
      have slR := hR.keep (w' := wr) (fun k hk => hbel.block k hk) hsafe
      have slA := hA.keep (w' := wr) (fun k hk => hbel.block k hk) hsafe
      have hB : Bld wr w1.heap.size ca cl cc cm nodes (.slice (some ⟨w.heap.size, 0, none⟩) m m) (esOf m f t kd) :=
        ⟨hbox.lt, hbox.c0, hbox.c1, hbox.c2, hbox.f1, hbox.f2, by rw [hel]; exact ownsRow_weak hown, by have : w.heap.size ≠ w1.heap.size := (by omega); simpa [Value.ownBlock] using this, slC⟩
      have h29 : Calls Try.prog 29 #[.pointer (some ⟨w1.heap.size, 0, none⟩), .slice ra rl rc, .slice aa al ac] wr fun e w' => e = .returned (.tuple #[]) ∧ PrecPost wr w' w1.heap.size cl cc ca cm nodes (.slice (some ⟨w.heap.size, 0, none⟩) m m) (esOf m f t kd) R A := by
        have e1 := HRl.out
        have e2 := HAl.out
        subst e1 e2
        exact c29 wr w1.heap.size cl cc ca cm nodes _ _ hB R A ra aa rc ac hr1 ha1 (by rw [hel]; exact hn) hcl hn1 slR slA HRb.out HAb.out
      clear slC slR slA hB hsafe hown hfil hbox hxl hFs hTs hKs hR hA hC
      go_wp2_with fail
      refine h29.mono ?_
      rintro e w3 ⟨rfl, v3, es3, nodes3, hB3, hF3, hz3, hn3⟩
      clear h29
      have hlen3 : es3.length ≤ 100000 := by
        have e1 := HRl.out
        have e2 := HAl.out
        by_cases hre : R = [] ∨ A = []
        · rw [(hz3 hre).1, hel]; omega
        · have hh := (hn3 (fun e => hre (.inl e)) (fun e => hre (.inr e))).1.len
          rw [hel, e1, e2] at hh
          omega
      have hFB : Below w.heap.size w w3 := hbel.trans (hF3.below (B := w.heap.size) (by omega) hbel.size (fun k e => by have : w.heap.size = k := (by simpa [Value.ownBlock] using e); omega))
      obtain ⟨ao, cap3, hv3⟩ : ∃ ao cap3, v3 = .slice ao es3.length cap3 := by
        rcases hB3.owns.2 with ⟨e, e'⟩ | ⟨g, cap', _, e, _⟩
        · exact ⟨none, 0, by rw [e, e']⟩
        · exact ⟨_, _, e⟩
      subst hv3
      have HZ : Hid _ := hz3
      have HN : Hid _ := hn3
      clear hz3 hn3 hF3 hbel
      obtain ⟨L, hL⟩ : ∃ L, es3.length = L := ⟨_, rfl⟩
      rw [hL] at hlen3 hB3
      have HL : Hid (es3.length = L) := hL
      have hbe3 := hB3.edg
      have hBl := hB3.lt
      clear hL
      obtain ⟨i1, hi1, hy0, hy1, hy2⟩ := info_parts Try.info21
      obtain ⟨i2, hi2, hx0, hx1, hx2⟩ := info_parts Try.info5
      go_wp2_with (at_make; refine wpList_make_full _ rfl (.tmp 64) (.tmp 64) 22 rfl w3.heap.size 21 i1 (.int .i32 0) 1 Try.underlying22 hi1 hy0 hy1 .i64 .i64 L L L rfl rfl rfl rfl (by rw [hy2]; omega) (by unfold maxLen; omega) (Nat.le_refl _) ?_)
      intro w4 hof hg4
      have s4 := (hof.lt _ rfl).2
      have hb4 : Below w3.heap.size w3 w4 := (Below.refl _ _).grown hg4 (Nat.le_refl _) (fun k h => by cases h)
      have hB4 := hB3.below hb4
      have hbe4 := hB4.edg
      clear hbe3 hg4
      go_wp2_with (at_make; refine wpList_make_full _ rfl (.tmp 70) (.tmp 70) 22 rfl w4.heap.size 21 i1 (.int .i32 0) 1 Try.underlying22 hi1 hy0 hy1 .i64 .i64 L L L rfl rfl rfl rfl (by rw [hy2]; omega) (by unfold maxLen; omega) (Nat.le_refl _) ?_)
      intro w5 hot hg5
      have s5 := (hot.lt _ rfl).2
      have hb5 : Below w4.heap.size w4 w5 := (Below.refl _ _).grown hg5 (Nat.le_refl _) (fun k h => by cases h)
      have hB5 := hB4.below hb5
      have hof5 := hof.kept hg5 (by simp [Value.ownBlock])
      have hbe5 := hB5.edg
      clear hbe4 hg5 hof
      go_wp2_with (at_make; refine wpList_make_full _ rfl (.tmp 76) (.tmp 76) 23 rfl w5.heap.size 5 i2 (.int .u8 0) 1 Try.underlying23 hi2 hx0 hx1 .i64 .i64 L L L rfl rfl rfl rfl (by rw [hx2]; omega) (by unfold maxLen; omega) (Nat.le_refl _) ?_)
      intro w6 hok hg6
      have s6 := (hok.lt _ rfl).2
      have hb6 : Below w5.heap.size w5 w6 := (Below.refl _ _).grown hg6 (Nat.le_refl _) (fun k h => by cases h)
      have hB6 := hB5.below hb6
      have hof6 := hof5.kept hg6 (by simp [Value.ownBlock])
      have hot6 := hot.kept hg6 (by simp [Value.ownBlock])
      have hbe6 := hB6.edg
      have hW6 : Below w.heap.size w w6 := ((hFB.trans (hb4.mono hFB.size)).trans (hb5.mono (by have := hFB.size; omega))).trans (hb6.mono (by have := hFB.size; omega))
      have hvb : ∀ g, Value.ownBlock (.slice ao L cap3) = some g → g < w3.heap.size := fun g e => (hB3.owns.lt g e).2
      have HVB : Hid _ := hvb
      clear hbe5 hg6 hof5 hot hB3 hB4 hB5 hb4 hb5 hb6 hvb
      go_wp2_with fail
      clear hbe6
      obtain ⟨xf, hof⟩ : ∃ xf, w6.ownsRow w3.heap.size 21 1 (.slice (some ⟨w3.heap.size, 0, none⟩) L L) L xf := ⟨_, hof6⟩
      obtain ⟨xt, hot⟩ : ∃ xt, w6.ownsRow w4.heap.size 21 1 (.slice (some ⟨w4.heap.size, 0, none⟩) L L) L xt := ⟨_, hot6⟩
      obtain ⟨xk, hok⟩ : ∃ xk, w6.ownsRow w5.heap.size 5 1 (.slice (some ⟨w5.heap.size, 0, none⟩) L L) L xk := ⟨_, hok⟩
      clear hof6 hot6
      go_loopw [23, 83] (fun _ i wr => ∃ (k : Nat) (xf xt xk : List Value), k ≤ L ∧ i = .int .i64 k ∧ wr.ownsRow w3.heap.size 21 1 (.slice (some ⟨w3.heap.size, 0, none⟩) L L) L xf ∧ wr.ownsRow w4.heap.size 21 1 (.slice (some ⟨w4.heap.size, 0, none⟩) L L) L xt ∧
          wr.ownsRow w5.heap.size 5 1 (.slice (some ⟨w5.heap.size, 0, none⟩) L L) L xk ∧ Outs es3 xf xt xk k ∧ Box wr w1.heap.size (.slice ca cl cc) (.int .i64 nodes3) (.slice ao L cap3) ∧ wr.ownsRow 0 53 3 (.slice ao L cap3) L (esCells es3) ∧ Below w.heap.size w wr) (fun _ i _ => L - (intOf i).toNat)
      case atStart => exact ⟨0, xf, xt, xk, Nat.zero_le _, rfl, hof, hot, hok, fun j x hj => by omega, ⟨hB6.lt, hB6.com, hB6.nod, hB6.edg, hB6.fr1, hB6.fr2⟩, by rw [← HL.out]; rw [HL.out]; have := hB6.owns; rw [HL.out] at this; exact this, hW6⟩
      case round =>
        clear hof hot hok hB6 hW6
        obtain ⟨k, xf, xt, xk, hk, rfl, hof, hot, hok, hout, hX, hO, hW⟩ := hrel
        by_cases hltk : k < L
        · obtain ⟨x, hx⟩ : ∃ x, es3[k]? = some x := ⟨es3[k]'(by rw [HL.out]; exact hltk), List.getElem?_eq_getElem _⟩
          obtain ⟨g, cap', hsh, _, _⟩ := hO.form (by omega)
          obtain ⟨hao, _, _⟩ : ao = some ⟨g, 0, none⟩ ∧ True ∧ cap3 = cap' := by simpa using hsh
          subst hao
          have hg3 : g < w3.heap.size := HVB.out g rfl
          obtain ⟨q0, q1, q2⟩ := esCells_get es3 k x hx
          have c0 := hO.cells (g := g) rfl (k * 3) _ q0
          have c1 := hO.cells (g := g) rfl (k * 3 + 1) _ q1
          have c2 := hO.cells (g := g) rfl (k * 3 + 2) _ q2
          have hadd : ∀ i, (⟨g, 0, none⟩ : Addr).add i = ⟨g, i, none⟩ := fun i => by unfold Addr.add; split <;> simp_all
          rw [hadd] at c0 c1 c2
          have l1 : xf.length = L := by simpa using hof.1
          have l2 : xt.length = L := by simpa using hot.1
          have l3 : xk.length = L := by simpa using hok.1
          obtain ⟨z1, d1⟩ : ∃ o, wr.cell? ⟨w3.heap.size, k, none⟩ = some o := ⟨xf[k]'(by omega), by rw [hof.cellAt k (by omega)]; exact List.getElem?_eq_getElem _⟩
          obtain ⟨z2, d2⟩ : ∃ o, wr.cell? ⟨w4.heap.size, k, none⟩ = some o := ⟨xt[k]'(by omega), by rw [hot.cellAt k (by omega)]; exact List.getElem?_eq_getElem _⟩
          obtain ⟨z3, d3⟩ : ∃ o, wr.cell? ⟨w5.heap.size, k, none⟩ = some o := ⟨xk[k]'(by omega), by rw [hok.cellAt k (by omega)]; exact List.getElem?_eq_getElem _⟩
          have r1 := hof.frozenAt k
          have r2 := hot.frozenAt k
          have r3 := hok.frozenAt k
          have hbe := hX.c2
          have hout2 := hout.step hx (by omega) (by omega) (by omega)
          have hof2 := ownsRow_setCell_other (ownsRow_setCell_other (hof.stored k (.int .i32 x.1)).1 (a := ⟨w4.heap.size, k, none⟩) (by simp [Value.ownBlock]; omega) (.int .i32 x.2.1)) (a := ⟨w5.heap.size, k, none⟩) (by simp [Value.ownBlock]; omega) (.int .u8 x.2.2)
          have hot2 := ownsRow_setCell_other ((ownsRow_setCell_other hot (a := ⟨w3.heap.size, k, none⟩) (by simp [Value.ownBlock]; omega) (.int .i32 x.1)).stored k (.int .i32 x.2.1)).1 (a := ⟨w5.heap.size, k, none⟩) (by simp [Value.ownBlock]; omega) (.int .u8 x.2.2)
          have hok2 := ((ownsRow_setCell_other (ownsRow_setCell_other hok (a := ⟨w3.heap.size, k, none⟩) (by simp [Value.ownBlock]; omega) (.int .i32 x.1)) (a := ⟨w4.heap.size, k, none⟩) (by simp [Value.ownBlock]; omega) (.int .i32 x.2.1)).stored k (.int .u8 x.2.2)).1
          have hO2 := ownsRow_setCell_other (ownsRow_setCell_other (ownsRow_setCell_other hO (a := ⟨w3.heap.size, k, none⟩) (by simp [Value.ownBlock]; omega) (.int .i32 x.1)) (a := ⟨w4.heap.size, k, none⟩) (by simp [Value.ownBlock]; omega) (.int .i32 x.2.1)) (a := ⟨w5.heap.size, k, none⟩) (by simp [Value.ownBlock]; omega) (.int .u8 x.2.2)
          have hX2 := ((hX.set1 (g := w3.heap.size) (by omega) k (.int .i32 x.1)).set1 (g := w4.heap.size) (by omega) k (.int .i32 x.2.1)).set1 (g := w5.heap.size) (by omega) k (.int .u8 x.2.2)
          have hfs := hFB.size
          have hW2 := ((hW.setCell (p := ⟨w3.heap.size, k, none⟩) (by simp; omega) (.int .i32 x.1)).setCell (p := ⟨w4.heap.size, k, none⟩) (by simp; omega) (.int .i32 x.2.1)).setCell (p := ⟨w5.heap.size, k, none⟩) (by simp; omega) (.int .u8 x.2.2)
          have hne1 : g ≠ w3.heap.size := by omega
          have hne2 : g ≠ w4.heap.size := by omega
          have hne3 : w1.heap.size ≠ w3.heap.size := by omega
          have hne4 : w1.heap.size ≠ w4.heap.size := by omega
          have hne5 : w4.heap.size ≠ w3.heap.size := by omega
          have hne6 : w5.heap.size ≠ w3.heap.size := by omega
          have hne7 : w5.heap.size ≠ w4.heap.size := by omega
          clear hof hot hok hout hX hO hW hx q0 q1 q2 hadd l1 l2 l3 hsh
          go_wp2_with fail
          go_roundw
          case rel => exact ⟨k + 1, _, _, _, by omega, by go_num, hof2, hot2, hok2, hout2, hX2, hO2, hW2⟩
          case measure => simp [intOf]; omega
        · obtain rfl : k = L := by omega
          have hnod := hX.c1
          have hcells : ∀ j x, es3[j]? = some x → wr.cell? ⟨w3.heap.size, j, none⟩ = some (.int .i32 x.1) ∧ wr.cell? ⟨w4.heap.size, j, none⟩ = some (.int .i32 x.2.1) ∧ wr.cell? ⟨w5.heap.size, j, none⟩ = some (.int .u8 x.2.2) := by
            intro j x hj
            have hjk : j < k := by
              have := (List.getElem?_eq_some_iff.1 hj).1
              rw [HL.out] at this
              exact this
            have := hout j x hjk hj
            rw [hof.cellAt j (by omega), hot.cellAt j (by omega), hok.cellAt j (by omega)]
            exact this
          have HC : Hid _ := hcells
          have hs1 := (hof.lt _ rfl).2
          have hs2 := (hot.lt _ rfl).2
          have hs3 := (hok.lt _ rfl).2
          clear hcells hof hot hok hout hX hO
          go_wp2_with fail
          refine bodyPost_ret (v := .tuple #[.int .i64 nodes3, .slice (some ⟨w3.heap.size, 0, none⟩) k k, .slice (some ⟨w4.heap.size, 0, none⟩) k k, .slice (some ⟨w5.heap.size, 0, none⟩) k k]) (by simp [results, Try.results21, go_sem]) rfl ?_
          exact ⟨nodes3, es3, w3.heap.size, w4.heap.size, w5.heap.size, by rw [HL.out], hW, ⟨hs1, hs2, hs3⟩, HC.out, HZ.out, HN.out⟩

end Go.Proofs.Qxb6602859a
