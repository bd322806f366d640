import Derived.Test.Qxb6602859aLawParts
import Derived.Deep.DeepCutAuto
namespace Go.Proofs.Qxb6602859a
open Go.RowKit Go.Maps

set_option maxRecDepth 20000 in
set_option maxHeartbeats 25600000 in
theorem law_yes (w : World) (ca fa ta ka ra aa : Option Addr) (cl cc n fc tc kc rl rc al ac : Nat) (cm : Nat → Bool) (f t kd r a : Nat → Int) (N : Nat)
    (hC : In w ca cl (fun j => .bool (cm j))) (hF : In w fa n (fun j => .int .i32 (f j))) (hT : In w ta n (fun j => .int .i32 (t j))) (hK : In w ka n (fun j => .int .u8 (kd j))) (hR : In w ra rl (fun j => .int .i64 (r j))) (hA : In w aa al (fun j => .int .i64 (a j)))
    (hcl : cl ≤ 4096) (hn : n ≤ 65536) (hrl : rl ≤ 4096) (hal : al ≤ 4096) (hN : N ≤ 9223372036854775807) (Hr : Hid (∀ j, j < rl → r j ≤ 9223372036854775807)) (Ha : Hid (∀ j, j < al → a j ≤ 9223372036854775807)) :
    Calls Try.prog 8 #[.slice ca cl cc, .int .i64 N, .slice fa n fc, .slice ta n tc, .slice ka n kc, .slice ra rl rc, .slice aa al ac] w fun e w' => e = .returned (.bool true) ∧ Below w.heap.size w w' := by
  go_enter Try.func8, Try.ntmps8
  go_wp2_with fail
  refine (c24 w _ ca fa ta ka ra aa cl cc n fc n tc n kc rl rc al ac).mono ?_
  rintro e w' ⟨⟨b0, rfl⟩, hw⟩
  obtain rfl : w = w' := hw.symm
  clear hw
  cases b0
  · go_wp2_with fail
    go_ret
    exact ⟨rfl, Below.refl _ _⟩
  as_aux_lemma =>
   have hnn := run_neq_slice_nil_any (P := Try.prog) w 35 4 ca cl cc 0 0 Try.underlying35
   go_upto_if 85 with (fail)
   clear hnn
   go_cut [0] (fun s wc => Cop w wc s cl (fun j => .bool (cm j)))
   case first =>
     rename_i J K' hJ hK'
     refine wp_cut_let (fun a' w' h => hK' a' w' (Met.intro (hJ a' w' h))) ?_
     intro KK
     clear hJ hK'
     cases ca with
     | none =>
      as_aux_lemma =>
       go_wp2_with fail
       (repeat apply Exists.intro)
       refine ⟨?rel, rfl⟩
       case rel => exact Cop.nil hC
     | some ad =>
      as_aux_lemma =>
       obtain ⟨i0, hi, hz0, hz1, hz2⟩ := info_parts Try.info4
       go_wp2_with (at_make; refine wpList_make_full _ rfl (.tmp 87) (.tmp 87) 35 rfl w.heap.size 4 i0 (.bool false) 1 Try.underlying35 hi hz0 hz1 .i64 .i64 cl cl cl rfl rfl rfl rfl (by rw [hz2]; omega) (by unfold maxLen; omega) (Nat.le_refl _) ?_)
       intro v1 hown hgr
       have hb1 : Below w.heap.size w v1 := (Below.refl _ _).grown hgr (Nat.le_refl _) (fun k h => by cases h)
       obtain ⟨cur, hcl', hcur⟩ := row_of_owns hown
       clear hown hgr
       obtain ⟨v2, x2, hrun, hcop⟩ := copy_run (cap := cc) 35 4 3 Try.underlying35 size4 hC hb1 hcl' hcur (row_one (fun _ => rfl))
       clear hcur hb1
       go_wp2_with fail
       (repeat apply Exists.intro)
       refine ⟨?rel, rfl⟩
       case rel => exact hcop
   obtain ⟨w1, hwn⟩ : ∃ x, x = wc := ⟨_, rfl⟩
   subst hwn
   obtain ⟨ca, cc, hs, hX, hb⟩ := hcut
   subst hs
   replace hF := hF.up hb
   replace hT := hT.up hb
   replace hK := hK.up hb
   replace hR := hR.up hb
   replace hA := hA.up hb
   replace hC := hX
   clear hX
   have hB : Below w.heap.size w w1 := hb
   clear hb
   as_aux_lemma =>

    have hnn := run_neq_slice_nil_any (P := Try.prog) w1 22 21 fa n fc 0 0 Try.underlying22
    go_upto_if 94 with (fail)
    clear hnn
    go_cut [2] (fun s wc => Cop w1 wc s n (fun j => .int .i32 (f j)))
    case first =>
      rename_i J K' hJ hK'
      refine wp_cut_let (fun a' w' h => hK' a' w' (Met.intro (hJ a' w' h))) ?_
      intro KK
      clear hJ hK'
      cases fa with
      | none =>
       as_aux_lemma =>
        go_wp2_with fail
        (repeat apply Exists.intro)
        refine ⟨?rel, rfl⟩
        case rel => exact Cop.nil hF
      | some ad =>
       as_aux_lemma =>
        obtain ⟨i0, hi, hz0, hz1, hz2⟩ := info_parts Try.info21
        go_wp2_with (at_make; refine wpList_make_full _ rfl (.tmp 96) (.tmp 96) 22 rfl w1.heap.size 21 i0 (.int .i32 0) 1 Try.underlying22 hi hz0 hz1 .i64 .i64 n n n rfl rfl rfl rfl (by rw [hz2]; omega) (by unfold maxLen; omega) (Nat.le_refl _) ?_)
        intro v1 hown hgr
        have hb1 : Below w1.heap.size w1 v1 := (Below.refl _ _).grown hgr (Nat.le_refl _) (fun k h => by cases h)
        obtain ⟨cur, hcl', hcur⟩ := row_of_owns hown
        clear hown hgr
        obtain ⟨v2, x2, hrun, hcop⟩ := copy_run (cap := fc) 22 21 3 Try.underlying22 size21 hF hb1 hcl' hcur (row_one (fun _ => rfl))
        clear hcur hb1
        go_wp2_with fail
        (repeat apply Exists.intro)
        refine ⟨?rel, rfl⟩
        case rel => exact hcop
    obtain ⟨w2, hwn⟩ : ∃ x, x = wc := ⟨_, rfl⟩
    subst hwn
    obtain ⟨fa, fc, hs, hX, hb⟩ := hcut
    subst hs
    replace hC := hC.up hb
    replace hT := hT.up hb
    replace hK := hK.up hb
    replace hR := hR.up hb
    replace hA := hA.up hb
    replace hF := hX
    clear hX
    replace hB : Below w.heap.size w w2 := hB.trans (hb.mono hB.size)
    clear hb
    as_aux_lemma =>

     have hnn := run_neq_slice_nil_any (P := Try.prog) w2 22 21 ta n tc 0 0 Try.underlying22
     go_upto_if 103 with (fail)
     clear hnn
     go_cut [3] (fun s wc => Cop w2 wc s n (fun j => .int .i32 (t j)))
     case first =>
       rename_i J K' hJ hK'
       refine wp_cut_let (fun a' w' h => hK' a' w' (Met.intro (hJ a' w' h))) ?_
       intro KK
       clear hJ hK'
       cases ta with
       | none =>
        as_aux_lemma =>
         go_wp2_with fail
         (repeat apply Exists.intro)
         refine ⟨?rel, rfl⟩
         case rel => exact Cop.nil hT
       | some ad =>
        as_aux_lemma =>
         obtain ⟨i0, hi, hz0, hz1, hz2⟩ := info_parts Try.info21
         go_wp2_with (at_make; refine wpList_make_full _ rfl (.tmp 105) (.tmp 105) 22 rfl w2.heap.size 21 i0 (.int .i32 0) 1 Try.underlying22 hi hz0 hz1 .i64 .i64 n n n rfl rfl rfl rfl (by rw [hz2]; omega) (by unfold maxLen; omega) (Nat.le_refl _) ?_)
         intro v1 hown hgr
         have hb1 : Below w2.heap.size w2 v1 := (Below.refl _ _).grown hgr (Nat.le_refl _) (fun k h => by cases h)
         obtain ⟨cur, hcl', hcur⟩ := row_of_owns hown
         clear hown hgr
         obtain ⟨v2, x2, hrun, hcop⟩ := copy_run (cap := tc) 22 21 3 Try.underlying22 size21 hT hb1 hcl' hcur (row_one (fun _ => rfl))
         clear hcur hb1
         go_wp2_with fail
         (repeat apply Exists.intro)
         refine ⟨?rel, rfl⟩
         case rel => exact hcop
     obtain ⟨w3, hwn⟩ : ∃ x, x = wc := ⟨_, rfl⟩
     subst hwn
     obtain ⟨ta, tc, hs, hX, hb⟩ := hcut
     subst hs
     replace hC := hC.up hb
     replace hF := hF.up hb
     replace hK := hK.up hb
     replace hR := hR.up hb
     replace hA := hA.up hb
     replace hT := hX
     clear hX
     replace hB : Below w.heap.size w w3 := hB.trans (hb.mono hB.size)
     clear hb
     as_aux_lemma =>

      have hnn := run_neq_slice_nil_any (P := Try.prog) w3 23 5 ka n kc 0 0 Try.underlying23
      go_upto_if 112 with (fail)
      clear hnn
      go_cut [4] (fun s wc => Cop w3 wc s n (fun j => .int .u8 (kd j)))
      case first =>
        rename_i J K' hJ hK'
        refine wp_cut_let (fun a' w' h => hK' a' w' (Met.intro (hJ a' w' h))) ?_
        intro KK
        clear hJ hK'
        cases ka with
        | none =>
         as_aux_lemma =>
          go_wp2_with fail
          (repeat apply Exists.intro)
          refine ⟨?rel, rfl⟩
          case rel => exact Cop.nil hK
        | some ad =>
         as_aux_lemma =>
          obtain ⟨i0, hi, hz0, hz1, hz2⟩ := info_parts Try.info5
          go_wp2_with (at_make; refine wpList_make_full _ rfl (.tmp 114) (.tmp 114) 23 rfl w3.heap.size 5 i0 (.int .u8 0) 1 Try.underlying23 hi hz0 hz1 .i64 .i64 n n n rfl rfl rfl rfl (by rw [hz2]; omega) (by unfold maxLen; omega) (Nat.le_refl _) ?_)
          intro v1 hown hgr
          have hb1 : Below w3.heap.size w3 v1 := (Below.refl _ _).grown hgr (Nat.le_refl _) (fun k h => by cases h)
          obtain ⟨cur, hcl', hcur⟩ := row_of_owns hown
          clear hown hgr
          obtain ⟨v2, x2, hrun, hcop⟩ := copy_run (cap := kc) 23 5 3 Try.underlying23 size5 hK hb1 hcl' hcur (row_one (fun _ => rfl))
          clear hcur hb1
          go_wp2_with fail
          (repeat apply Exists.intro)
          refine ⟨?rel, rfl⟩
          case rel => exact hcop
      obtain ⟨w4, hwn⟩ : ∃ x, x = wc := ⟨_, rfl⟩
      subst hwn
      obtain ⟨ka, kc, hs, hX, hb⟩ := hcut
      subst hs
      replace hC := hC.up hb
      replace hF := hF.up hb
      replace hT := hT.up hb
      replace hR := hR.up hb
      replace hA := hA.up hb
      replace hK := hX
      clear hX
      replace hB : Below w.heap.size w w4 := hB.trans (hb.mono hB.size)
      clear hb
      as_aux_lemma =>

       have hnn := run_neq_slice_nil_any (P := Try.prog) w4 36 3 ra rl rc 0 0 Try.underlying36
       go_upto_if 121 with (fail)
       clear hnn
       go_cut [5] (fun s wc => Cop w4 wc s rl (fun j => .int .i64 (r j)))
       case first =>
         rename_i J K' hJ hK'
         refine wp_cut_let (fun a' w' h => hK' a' w' (Met.intro (hJ a' w' h))) ?_
         intro KK
         clear hJ hK'
         cases ra with
         | none =>
          as_aux_lemma =>
           go_wp2_with fail
           (repeat apply Exists.intro)
           refine ⟨?rel, rfl⟩
           case rel => exact Cop.nil hR
         | some ad =>
          as_aux_lemma =>
           obtain ⟨i0, hi, hz0, hz1, hz2⟩ := info_parts Try.info3
           go_wp2_with (at_make; refine wpList_make_full _ rfl (.tmp 123) (.tmp 123) 36 rfl w4.heap.size 3 i0 (.int .i64 0) 1 Try.underlying36 hi hz0 hz1 .i64 .i64 rl rl rl rfl rfl rfl rfl (by rw [hz2]; omega) (by unfold maxLen; omega) (Nat.le_refl _) ?_)
           intro v1 hown hgr
           have hb1 : Below w4.heap.size w4 v1 := (Below.refl _ _).grown hgr (Nat.le_refl _) (fun k h => by cases h)
           obtain ⟨cur, hcl', hcur⟩ := row_of_owns hown
           clear hown hgr
           obtain ⟨v2, x2, hrun, hcop⟩ := copy_run (cap := rc) 36 3 3 Try.underlying36 size3 hR hb1 hcl' hcur (row_one (fun _ => rfl))
           clear hcur hb1
           go_wp2_with fail
           (repeat apply Exists.intro)
           refine ⟨?rel, rfl⟩
           case rel => exact hcop
       obtain ⟨w5, hwn⟩ : ∃ x, x = wc := ⟨_, rfl⟩
       subst hwn
       obtain ⟨ra, rc, hs, hX, hb⟩ := hcut
       subst hs
       replace hC := hC.up hb
       replace hF := hF.up hb
       replace hT := hT.up hb
       replace hK := hK.up hb
       replace hA := hA.up hb
       replace hR := hX
       clear hX
       replace hB : Below w.heap.size w w5 := hB.trans (hb.mono hB.size)
       clear hb
       as_aux_lemma =>

        have hnn := run_neq_slice_nil_any (P := Try.prog) w5 36 3 aa al ac 0 0 Try.underlying36
        go_upto_if 130 with (fail)
        clear hnn
        go_cut [6] (fun s wc => Cop w5 wc s al (fun j => .int .i64 (a j)))
        case first =>
          rename_i J K' hJ hK'
          refine wp_cut_let (fun a' w' h => hK' a' w' (Met.intro (hJ a' w' h))) ?_
          intro KK
          clear hJ hK'
          cases aa with
          | none =>
           as_aux_lemma =>
            go_wp2_with fail
            (repeat apply Exists.intro)
            refine ⟨?rel, rfl⟩
            case rel => exact Cop.nil hA
          | some ad =>
           as_aux_lemma =>
            obtain ⟨i0, hi, hz0, hz1, hz2⟩ := info_parts Try.info3
            go_wp2_with (at_make; refine wpList_make_full _ rfl (.tmp 132) (.tmp 132) 36 rfl w5.heap.size 3 i0 (.int .i64 0) 1 Try.underlying36 hi hz0 hz1 .i64 .i64 al al al rfl rfl rfl rfl (by rw [hz2]; omega) (by unfold maxLen; omega) (Nat.le_refl _) ?_)
            intro v1 hown hgr
            have hb1 : Below w5.heap.size w5 v1 := (Below.refl _ _).grown hgr (Nat.le_refl _) (fun k h => by cases h)
            obtain ⟨cur, hcl', hcur⟩ := row_of_owns hown
            clear hown hgr
            obtain ⟨v2, x2, hrun, hcop⟩ := copy_run (cap := ac) 36 3 3 Try.underlying36 size3 hA hb1 hcl' hcur (row_one (fun _ => rfl))
            clear hcur hb1
            go_wp2_with fail
            (repeat apply Exists.intro)
            refine ⟨?rel, rfl⟩
            case rel => exact hcop
        obtain ⟨w6, hwn⟩ : ∃ x, x = wc := ⟨_, rfl⟩
        subst hwn
        obtain ⟨aa, ac, hs, hX, hb⟩ := hcut
        subst hs
        replace hC := hC.up hb
        replace hF := hF.up hb
        replace hT := hT.up hb
        replace hK := hK.up hb
        replace hR := hR.up hb
        replace hA := hX
        clear hX
        replace hB : Below w.heap.size w w6 := hB.trans (hb.mono hB.size)
        clear hb
        as_aux_lemma =>
         go_wp2_with fail
         go_loop [21] (fun i => ∃ k : Nat, k ≤ rl ∧ i = .int .i64 k ∧ Hid (∀ j, j < k → 0 ≤ r j)) (fun i => rl - (intOf i).toNat)
         case atStart => exact ⟨0, Nat.zero_le _, rfl, show ∀ j, j < 0 → 0 ≤ r j from fun j hj => by omega⟩
         as_aux_lemma =>
          obtain ⟨k, hk, rfl, hno⟩ := hrel
          by_cases hlt : k < rl
          · skip
            as_aux_lemma =>
             obtain ⟨rb, ro, hra, hrb, hrc⟩ := hR (by omega)
             subst hra
             have hc1 : w6.cell? ⟨rb, ro + k, none⟩ = some (.int .i64 (r k)) := hrc k hlt
             by_cases hneg : 0 ≤ r k
             · skip
               as_aux_lemma =>
                have hno2 : Hid (∀ j, j < k + 1 → 0 ≤ r j) := show ∀ j, j < k + 1 → 0 ≤ r j from fun j hj => by
                  by_cases e : j = k
                  · rw [e]; exact hneg
                  · exact hno.out j (by omega)
                clear hrc hR hno
                generalize r k = rk at *
                go_wp2_with fail
                go_round
                case rel => exact ⟨k + 1, by omega, by go_num, hno2⟩
                case measure => simp [intOf]; omega
             · skip
               as_aux_lemma =>
                clear hrc hR hno
                generalize r k = rk at *
                go_wp2_with fail
                go_ret
                exact ⟨rfl, hB⟩
          have e : rl = k := by omega
          subst e
          clear hk hlt
          as_aux_lemma =>
           obtain ⟨R, hRl, hRb, hR2⟩ := hR.nat hno.out Hr.out
           have HRl : Hid (R.length = rl) := hRl
           have HRb : Hid (∀ x ∈ R, x ≤ 9223372036854775807) := hRb
           clear hRl hRb hR hno Hr
           go_wp2_with fail
           go_loop [22] (fun i => ∃ k : Nat, k ≤ al ∧ i = .int .i64 k ∧ Hid (∀ j, j < k → 0 ≤ a j)) (fun i => al - (intOf i).toNat)
           case atStart => exact ⟨0, Nat.zero_le _, rfl, show ∀ j, j < 0 → 0 ≤ a j from fun j hj => by omega⟩
           as_aux_lemma =>
            obtain ⟨k, hk, rfl, hno⟩ := hrel
            by_cases hlt : k < al
            · skip
              as_aux_lemma =>
               obtain ⟨rb, ro, hra, hrb, hrc⟩ := hA (by omega)
               subst hra
               have hc1 : w6.cell? ⟨rb, ro + k, none⟩ = some (.int .i64 (a k)) := hrc k hlt
               by_cases hneg : 0 ≤ a k
               · skip
                 as_aux_lemma =>
                  have hno2 : Hid (∀ j, j < k + 1 → 0 ≤ a j) := show ∀ j, j < k + 1 → 0 ≤ a j from fun j hj => by
                    by_cases e : j = k
                    · rw [e]; exact hneg
                    · exact hno.out j (by omega)
                  clear hrc hA hno
                  generalize a k = rk at *
                  go_wp2_with fail
                  go_round
                  case rel => exact ⟨k + 1, by omega, by go_num, hno2⟩
                  case measure => simp [intOf]; omega
               · skip
                 as_aux_lemma =>
                  clear hrc hA hno
                  generalize a k = rk at *
                  go_wp2_with fail
                  go_ret
                  exact ⟨rfl, hB⟩
            have e : al = k := by omega
            subst e
            clear hk hlt
            as_aux_lemma =>
             obtain ⟨A, hAl, hAb, hA2⟩ := hA.nat hno.out Ha.out
             have HAl : Hid (A.length = al) := hAl
             have HAb : Hid (∀ x ∈ A, x ≤ 9223372036854775807) := hAb
             clear hAl hAb hA hno Ha
             go_wp2_with fail
             refine (c21_walk w6 ca fa ta ka ra aa cl cc n fc tc kc rc ac cm f t kd N R A rl al HRl HAl hC hF hT hK hR2 hA2 hcl hn hrl hal hN HRb HAb).mono ?_
             intro e w7 hpost
             as_aux_lemma =>
              obtain ⟨L, nodes', gf, gt, gk, rfl, hans⟩ := ans_of_post hpost
              clear hpost
              have hb7 := hans.low
              have hF7 := hF.up hb7
              have hT7 := hT.up hb7
              have hK7 := hK.up hb7
              have hR7 := hR2.up hb7
              have hA7 := hA2.up hb7
              have hB7 : Below w.heap.size w w7 := hB.trans (hb7.mono hB.size)
              have hL1 : n ≤ L := hans.len
              have HO : Hid _ := hans.old
              have HN : Hid _ := hans.new
              have HE : Hid _ := hans.empty
              have HF : Hid _ := hans.full
              have hg1 := hans.f1
              have hg2 := hans.f2
              have hg3 := hans.f3
              have hL2 : L ≤ n + 12288 := by
                have e1 := HRl.out
                have e2 := HAl.out
                by_cases hre : R = [] ∨ A = []
                · have := (HE.out hre).1; omega
                · have := (HF.out (fun e => hre (.inl e)) (fun e => hre (.inr e))).1; omega
              clear hans hb7 hF hT hK hR2 hA2 hC hB
              as_aux_lemma =>
               go_wp2_with fail
               go_loopw [27] (fun i wr => ∃ k : Nat, k ≤ n ∧ i = .int .i64 k ∧ Below w7.heap.size w7 wr) (fun i _ => n - (intOf i).toNat)
               case atStart => exact ⟨0, Nat.zero_le _, rfl, Below.refl _ _⟩
               as_aux_lemma =>
                obtain ⟨k, hk, rfl, hb8⟩ := hrel
                by_cases hlt : k < n
                · skip
                  as_aux_lemma =>
                   obtain ⟨fb, fo, hfa, hfb, hfc⟩ := (hF7.up hb8) (by omega)
                   obtain ⟨tb, to', hta, htb, htc⟩ := (hT7.up hb8) (by omega)
                   obtain ⟨kb, ko, hka, hkb, hkc⟩ := (hK7.up hb8) (by omega)
                   subst hfa hta hka
                   have c1 : wr.cell? ⟨fb, fo + k, none⟩ = some (.int .i32 (f k)) := hfc k hlt
                   have c2 : wr.cell? ⟨tb, to' + k, none⟩ = some (.int .i32 (t k)) := htc k hlt
                   have c3 : wr.cell? ⟨kb, ko + k, none⟩ = some (.int .u8 (kd k)) := hkc k hlt
                   obtain ⟨q1, q2, q3⟩ := HO.out k hlt
                   have d1 : wr.cell? ⟨gf, k, none⟩ = some (.int .i32 (f k)) := (hb8.cell (p := ⟨gf, k, none⟩) hg1).trans q1
                   have d2 : wr.cell? ⟨gt, k, none⟩ = some (.int .i32 (t k)) := (hb8.cell (p := ⟨gt, k, none⟩) hg2).trans q2
                   have d3 : wr.cell? ⟨gk, k, none⟩ = some (.int .u8 (kd k)) := (hb8.cell (p := ⟨gk, k, none⟩) hg3).trans q3
                   have hltI : (k : Int) < (n : Int) := by omega
                   have hltL : (k : Int) < (L : Int) := by omega
                   have hk0 : (0 : Int) ≤ (k : Int) := by omega
                   clear hfc htc hkc q1 q2 q3 hF7 hT7 hK7 hR7 hA7 HO HN HE HF hfb htb hkb
                   generalize f k = x1 at *
                   generalize t k = x2 at *
                   generalize kd k = x3 at *
                   go_wp2_with fail
                   go_quiet (fail)
                   go_wp2_with fail
                   go_roundw
                   case rel => exact ⟨k + 1, by omega, by go_num, drewMany hb8 _⟩
                   case measure => simp [intOf]; omega
                have e : n = k := by omega
                subst e
                clear hk hlt
                as_aux_lemma =>
                 have hB8 : Below w.heap.size w wr := hB7.trans (hb8.mono hB7.size)
                 have hR8 := hR7.up hb8
                 have hA8 := hA7.up hb8
                 have HN8 : Hid (∀ j, n ≤ j → j < L → wr.cell? ⟨gk, j, none⟩ = some (.int .u8 4)) := show ∀ j, n ≤ j → j < L → wr.cell? ⟨gk, j, none⟩ = some (.int .u8 4) from fun j h1 h2 => (hb8.cell (p := ⟨gk, j, none⟩) hg3).trans (HN.out j h1 h2)
                 clear hF7 hT7 hK7 hR7 hA7 HO HN hb8 hB7 hg1 hg2 hg3
                 by_cases hr0 : rl = 0
                 · skip
                   as_aux_lemma =>
                    subst hr0
                    obtain ⟨eL, eN⟩ := HE.out (.inl (List.eq_nil_of_length_eq_zero HRl.out))
                    subst eL eN
                    clear HE HF HN8 hR8 hA8
                    go_wp2_with fail
                    go_ret
                    exact ⟨by simp, hB8⟩
                 have hr1 : ((rl : Int) == 0) = false := beq_eq_false_iff_ne.2 (by omega)
                 by_cases ha0 : al = 0
                 · skip
                   as_aux_lemma =>
                    subst ha0
                    obtain ⟨eL, eN⟩ := HE.out (.inr (List.eq_nil_of_length_eq_zero HAl.out))
                    subst eL eN
                    clear HE HF HN8 hR8 hA8
                    go_wp2_with fail
                    go_ret
                    exact ⟨by simp, hB8⟩
                 have ha1 : ((al : Int) == 0) = false := beq_eq_false_iff_ne.2 (by omega)
                 obtain ⟨eL, eN⟩ := HF.out (fun e => by have := HRl.out; rw [e] at this; simp at this; omega) (fun e => by have := HAl.out; rw [e] at this; simp at this; omega)
                 rw [HRl.out, HAl.out] at eL
                 have HEN : Hid (nodes' = if othL R A = [] then (N : Int) else wrap64 ((N : Int) + 1)) := eN
                 clear HE HF eN
                 go_wp2_with fail
                 go_loop [29] (fun i => ∃ k : Nat, n ≤ k ∧ k ≤ L ∧ i = .int .i64 k) (fun i => L - (intOf i).toNat)
                 case atStart => exact ⟨n, Nat.le_refl _, hL1, rfl⟩
                 as_aux_lemma =>
                  obtain ⟨k, hk1, hk2, rfl⟩ := hrel
                  by_cases hlt : k < L
                  · skip
                    as_aux_lemma =>
                     have c4 := HN8.out k hk1 hlt
                     clear HN8 hR8 hA8
                     go_wp2_with fail
                     go_round
                     case rel => exact ⟨k + 1, by omega, by omega, by go_num⟩
                     case measure => simp [intOf]; omega
                  have e : L = k := by omega
                  subst e
                  clear hk1 hk2 hlt HN8
                  as_aux_lemma =>
                   go_wp2_with fail
                   go_loop [30, 31] (fun v i => ∃ (k : Nat) (b : Bool), k ≤ al ∧ v = .bool b ∧ i = .int .i64 k ∧ Virt R A k b) (fun _ i => al - (intOf i).toNat)
                   case atStart => exact ⟨0, false, Nat.zero_le _, rfl, rfl, ⟨fun _ => rfl, fun h => absurd h (by decide)⟩⟩
                   as_aux_lemma =>
                    obtain ⟨k, b, hk, rfl, rfl, hb⟩ := hrel
                    cases b
                    · skip
                      as_aux_lemma =>
                       by_cases hlt : k < al
                       · skip
                         as_aux_lemma =>
                          obtain ⟨ab, ao, haa, hab, hac⟩ := hA8 (by omega)
                          subst haa
                          have c5 : wr.cell? ⟨ab, ao + k, none⟩ = some (.int .i64 ((A.getD k 0 : Nat) : Int)) := hac k hlt
                          have hkA : k < A.length := by rw [HAl.out]; exact hlt
                          have HY := fun h => oth_yes R A k hkA h
                          have HNo := fun h => oth_no_ne R A k hkA h
                          have h25 := fun rc' => c25 wr R ra rl rc' HRl hrl (fun h => by obtain ⟨b, o, h1, h2, h3⟩ := hR8 h; exact ⟨b, o, h1, h3⟩) (A.getD k 0)
                          have HP : Hid _ := hb.1 rfl
                          have HYY : Hid _ := HY
                          have HNN : Hid _ := HNo
                          clear hac hb hA8 hR8 HY HNo
                          generalize A.getD k 0 = x at *
                          have H25 : Hid _ := h25
                          clear h25
                          go_wp2_with fail
                          refine (H25.out _).mono ?_
                          rintro e w' ⟨rfl, hw⟩
                          obtain rfl : wr = w' := hw.symm
                          clear hw
                          cases hi : inL R (x : Int)
                          · skip
                            as_aux_lemma =>
                             have hne := HNN.out hi
                             have HX : Virt R A (k + 1) true := ⟨fun h => absurd h (by decide), fun _ => hne⟩
                             clear hne HNN HYY HP
                             go_wp2_with fail
                             go_round
                             case rel => exact ⟨k + 1, true, by omega, rfl, by go_num, HX⟩
                             case measure => simp [intOf]; omega
                          · skip
                            as_aux_lemma =>
                             have hne := HYY.out hi
                             have HX : Virt R A (k + 1) false := ⟨fun _ => hne.trans HP.out, fun h => absurd h (by decide)⟩
                             clear hne HNN HYY HP
                             go_wp2_with fail
                             go_round
                             case rel => exact ⟨k + 1, false, by omega, rfl, by go_num, HX⟩
                             case measure => simp [intOf]; omega
                       · skip
                         as_aux_lemma =>
                          have e : al = k := by omega
                          subst e
                          have hO : othL R A = [] := by
                            have := hb.1 rfl
                            rw [List.take_of_length_le (by rw [HAl.out]; exact Nat.le_refl _)] at this
                            exact this
                          have eN := HEN.out
                          rw [if_pos hO] at eN
                          subst eN
                          clear hO hb HEN hA8 hR8
                          go_wp2_with fail
                          go_ret
                          exact ⟨by simp; omega, hB8⟩
                    · skip
                      as_aux_lemma =>
                       have hO : othL R A ≠ [] := hb.2 rfl
                       have eN := HEN.out
                       rw [if_neg hO] at eN
                       subst eN
                       clear hO hb HEN hA8 hR8
                       go_wp2_with fail
                       all_goals
                         go_ret
                         exact ⟨by simp; omega, hB8⟩


end Go.Proofs.Qxb6602859a
