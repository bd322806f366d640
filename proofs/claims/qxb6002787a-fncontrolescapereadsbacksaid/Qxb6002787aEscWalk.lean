import Derived.Test.Qxb6002787aEsc
namespace Go.Proofs.Qxb6002787a
open Go.RowKit

set_option maxHeartbeats 400000 in
theorem c11 (w : World) (b : Nat) (c : Int) (h0 : 0 ≤ c) (h1 : c ≤ 255) (hb : b < w.heap.size) (hc : w.cell? ⟨b, 0, none⟩ = some (.int .u8 c)) :
    Calls Try.prog 11 #[.slice none 0 0, .slice (some ⟨b, 0, none⟩) 1 1] w fun e w' => EscPost w c e w' := by
  have h22 := c22 w b c h0 h1 hb hc
  clear hc h0 h1
  go_enter Try.func11, Try.ntmps11
  go_wp2_with (go_at_call 22; refine h22.mono ?_; rintro e w' ⟨g, cap, rfl, ho⟩)
  go_ret
  exact ⟨g, cap, rfl, ho⟩

theorem Out.cell {w w' : World} {g n cap : Nat} {l : List Int} (h : Out w w' (.slice (some ⟨g, 0, none⟩) n cap) l) (j : Nat) (x : Int) (hj : l[j]? = some x) : w'.cell? ⟨g, j, none⟩ = some (.int .u8 x) := by
  have := h.owns.cells (g := g) rfl j (.int .u8 x) (by simp [bytesV, hj])
  rwa [show (⟨g, 0, none⟩ : Addr).add j = ⟨g, j, none⟩ by unfold Addr.add; split <;> simp_all] at this

theorem Out.cap {w w' : World} {g n cap : Nat} {l : List Int} (h : Out w w' (.slice (some ⟨g, 0, none⟩) n cap) l) : n ≤ cap := by
  rcases h.owns.2 with ⟨h', _⟩ | ⟨g', cap', _, h', _, _, hnc, _⟩
  · cases h'
  · simp only [Value.slice.injEq, Option.some.injEq, Addr.mk.injEq, and_true] at h'
    obtain ⟨_, h2, h3⟩ := h'
    omega

theorem hexd_val (d : Int) (h0 : 0 ≤ d) (h1 : d < 16) : hexVal (hexd d) = some d := by
  unfold hexd
  split
  · rw [hexVal_num (by omega) (by omega)]; congr 1; omega
  · rw [hexVal_low (by omega) (by omega)]; congr 1; omega

/-- The four digits behind '\u'. -/
def dig4 (c : Int) : Nat → Int
  | 0 => 48 | 1 => 48 | 2 => hexd (c / 16) | _ => hexd (c % 16)

theorem dig4_val (c : Int) (h0 : 0 ≤ c) (h1 : c ≤ 255) : hexOf 5 (dig4 c) = some c := by
  have e0 : hexVal 48 = some 0 := by decide
  have e2 := hexd_val (c / 16) (by omega) (by omega)
  have e3 := hexd_val (c % 16) (by omega) (by omega)
  simp [hexOf, hexPre, dig4, e0, e2, e3]
  omega

set_option maxHeartbeats 1600000 in
theorem esc_walk_ctl (w : World) (c : Int) (h0 : 0 ≤ c) (h32 : c < 32) (h8 : ¬ c = 8) (h9 : ¬ c = 9) (h10 : ¬ c = 10) (h12 : ¬ c = 12) (h13 : ¬ c = 13) :
    Calls Try.prog 5 #[.int .u8 c] w fun e w' => e = .returned (.bool true) ∧ Below w.heap.size w w' := by
  have hm : mid c = [92, 117, 48, 48, hexd (c / 16), hexd (c % 16)] := mid_ctl (by omega) (by omega) h8 h12 h10 h13 h9 h32
  have he : esc c = [34, 92, 117, 48, 48, hexd (c / 16), hexd (c % 16), 34] := by unfold esc; rw [hm]; rfl
  have HE : Hid (esc c = [34, 92, 117, 48, 48, hexd (c / 16), hexd (c % 16), 34]) := he
  clear hm he
  have b8 : (c == 8) = false := by simp [h8]
  have b9 : (c == 9) = false := by simp [h9]
  have b10 : (c == 10) = false := by simp [h10]
  have b12 : (c == 12) = false := by simp [h12]
  have b13 : (c == 13) = false := by simp [h13]
  have h11 := c11 (w.alloc (.cells #[.int .u8 c] 5)) w.heap.size c h0 (by omega) (by simp) (by simp)
  go_enter Try.func5, Try.ntmps5
  go_wp2_with fail
  refine h11.mono ?_
  rintro e w2 ⟨g, cap, rfl, ho⟩
  have hlen : (esc c).length = 8 := by rw [HE.out]; rfl
  have hcap := ho.cap
  rw [hlen] at hcap ho ⊢
  have hb : Below w.heap.size w w2 := ((Below.refl _ _).alloc (Nat.le_refl _) _).trans (ho.below.mono (by simp))
  have d0 := ho.cell 0 34 (by rw [HE.out]; rfl)
  have d1 := ho.cell 1 92 (by rw [HE.out]; rfl)
  have d2 := ho.cell 2 117 (by rw [HE.out]; rfl)
  have d3 := ho.cell 3 48 (by rw [HE.out]; rfl)
  have d4 := ho.cell 4 48 (by rw [HE.out]; rfl)
  have d5 := ho.cell 5 (hexd (c / 16)) (by rw [HE.out]; rfl)
  have d6 := ho.cell 6 (hexd (c % 16)) (by rw [HE.out]; rfl)
  have d7 := ho.cell 7 34 (by rw [HE.out]; rfl)
  have h15 := c15 w2 (some ⟨g, 3, none⟩) 5 (cap - 3) (dig4 c) (by omega) (fun _ => ⟨g, 3, rfl, fun i hi => by
    match i, hi with
    | 0, _ => exact d3
    | 1, _ => exact d4
    | 2, _ => exact d5
    | 3, _ => exact d6⟩)
  rw [dig4_val c h0 (by omega)] at h15
  simp only [Option.getD_some, Option.isSome_some] at h15
  clear ho hlen d3 d4 d5 d6 h11
  go_wp2_with (go_at_call 15; refine h15.mono ?_; rintro e w3 ⟨rfl, rfl⟩)
  go_ret
  exact ⟨rfl, hb⟩

set_option maxHeartbeats 1600000 in
/-- A two-byte escape: the byte c is written as a backslash and x. -/
theorem esc_walk_two (w : World) (c x : Int) (hm : mid c = [92, x]) (hcs : c = 8 ∨ c = 9 ∨ c = 10 ∨ c = 12 ∨ c = 13 ∨ c = 34 ∨ c = 92) :
    Calls Try.prog 5 #[.int .u8 c] w fun e w' => e = .returned (.bool true) ∧ Below w.heap.size w w' := by
  have he : esc c = [34, 92, x, 34] := by unfold esc; rw [hm]; rfl
  have HE : Hid (esc c = [34, 92, x, 34]) := he
  clear hm he
  have h11 := c11 (w.alloc (.cells #[.int .u8 c] 5)) w.heap.size c (by omega) (by omega) (by simp) (by simp)
  rcases hcs with h | h | h | h | h | h | h
  all_goals
    subst h
    go_enter Try.func5, Try.ntmps5
    go_wp2_with fail
    refine h11.mono ?_
    rintro e w2 ⟨g, cap, rfl, ho⟩
    have hlen := congrArg List.length HE.out
    simp only [List.length_cons, List.length_nil] at hlen
    have hcap := ho.cap
    rw [hlen] at hcap ho ⊢
    have hb : Below w.heap.size w w2 := ((Below.refl _ _).alloc (Nat.le_refl _) _).trans (ho.below.mono (by simp))
    have d0 := ho.cell 0 34 (by rw [HE.out]; rfl)
    have d3 := ho.cell 3 34 (by rw [HE.out]; rfl)
    clear ho hlen h11
    go_wp2_with fail
    go_ret
    exact ⟨rfl, hb⟩

set_option maxHeartbeats 800000 in
theorem esc_walk_plain (w : World) (c : Int) (h32 : 32 ≤ c) (h255 : c ≤ 255) (h34 : ¬ c = 34) (h92 : ¬ c = 92) :
    Calls Try.prog 5 #[.int .u8 c] w fun e w' => e = .returned (.bool true) ∧ Below w.heap.size w w' := by
  have hm : mid c = [c] := mid_plain h34 h92 (by omega) (by omega) (by omega) (by omega) (by omega) (by omega)
  have he : esc c = [34, c, 34] := by unfold esc; rw [hm]; rfl
  have HE : Hid (esc c = [34, c, 34]) := he
  clear hm he
  have b34 : (c == 34) = false := by simp [h34]
  have b92 : (c == 92) = false := by simp [h92]
  have b8 : (c == 8) = false := by simp; omega
  have b9 : (c == 9) = false := by simp; omega
  have b10 : (c == 10) = false := by simp; omega
  have b12 : (c == 12) = false := by simp; omega
  have b13 : (c == 13) = false := by simp; omega
  have h11 := c11 (w.alloc (.cells #[.int .u8 c] 5)) w.heap.size c (by omega) (by omega) (by simp) (by simp)
  go_enter Try.func5, Try.ntmps5
  go_wp2_with fail
  refine h11.mono ?_
  rintro e w2 ⟨g, cap, rfl, ho⟩
  have hlen : (esc c).length = 3 := by rw [HE.out]; rfl
  have hcap := ho.cap
  rw [hlen] at hcap ho ⊢
  have hb : Below w.heap.size w w2 := ((Below.refl _ _).alloc (Nat.le_refl _) _).trans (ho.below.mono (by simp))
  have d0 := ho.cell 0 34 (by rw [HE.out]; rfl)
  have d2 := ho.cell 2 34 (by rw [HE.out]; rfl)
  clear ho hlen h11
  go_wp2_with fail
  go_ret
  exact ⟨rfl, hb⟩

theorem esc_walk (w : World) (c : Int) (h0 : 0 ≤ c) (h1 : c ≤ 255) : Calls Try.prog 5 #[.int .u8 c] w fun e w' => e = .returned (.bool true) ∧ Below w.heap.size w w' := by
  by_cases h34 : c = 34
  · exact esc_walk_two w c 34 (by subst h34; rfl) (by omega)
  by_cases h92 : c = 92
  · exact esc_walk_two w c 92 (by subst h92; rfl) (by omega)
  by_cases h8 : c = 8
  · exact esc_walk_two w c 98 (by subst h8; rfl) (by omega)
  by_cases h12 : c = 12
  · exact esc_walk_two w c 102 (by subst h12; rfl) (by omega)
  by_cases h10 : c = 10
  · exact esc_walk_two w c 110 (by subst h10; rfl) (by omega)
  by_cases h13 : c = 13
  · exact esc_walk_two w c 114 (by subst h13; rfl) (by omega)
  by_cases h9 : c = 9
  · exact esc_walk_two w c 116 (by subst h9; rfl) (by omega)
  by_cases h32 : c < 32
  · exact esc_walk_ctl w c h0 h32 h8 h9 h10 h12 h13
  · exact esc_walk_plain w c (by omega) h1 h34 h92

end Go.Proofs.Qxb6002787a
