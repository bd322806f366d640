import Derived.Test.Qxb6002787aHex
import Derived.Deep.AppendLies
import Derived.Deep.RegionLaw
namespace Go.Proofs.Qxb6002787a
open Go.RowKit

theorem Try.info5 : (Try.prog.info? 5).map (fun i => (i.zero, i.size, i.bytes)) = some (some (.int .u8 0), 1, 1) := by kernel_rfl

/-- A lower-case hexadecimal digit. -/
def hexd (d : Int) : Int := if d < 10 then 48 + d else 87 + d

/-- What one byte becomes between the quotes. -/
def mid (c : Int) : List Int :=
  if c = 34 then [92, 34] else if c = 92 then [92, 92] else if c = 8 then [92, 98] else if c = 12 then [92, 102] else if c = 10 then [92, 110] else if c = 13 then [92, 114] else if c = 9 then [92, 116]
  else if c < 32 then [92, 117, 48, 48, hexd (c / 16), hexd (c % 16)] else [c]

def bytesV (l : List Int) : List Value := l.map (Value.int .u8)

theorem news_alloc (w : World) (cs : List Value) (e : TypeId) : ∀ j u, cs[j]? = some u → (w.alloc (.cells cs.toArray e)).cell? ((⟨w.heap.size, 0, none⟩ : Addr).add j) = some u := by
  intro j u h
  rw [show (⟨w.heap.size, 0, none⟩ : Addr).add j = ⟨w.heap.size, j, none⟩ by unfold Addr.add; split <;> simp_all, World.cell?_alloc_new]
  simpa using h

/-- The state behind an append: the value owns l. -/
structure Out (w wr : World) (v : Value) (l : List Int) : Prop where
  owns : wr.ownsRow w.heap.size 5 1 v l.length (bytesV l)
  below : Below w.heap.size w wr

theorem Out.next {w wr w1 : World} {o : Obj} {v : Value} {l new : List Int} {g cap m : Nat} (h : Out w wr v l) (hown : w1.ownsRow w.heap.size 5 1 (.slice (some ⟨g, 0, none⟩) (l.length + m) cap) (l.length + m) (bytesV l ++ bytesV new))
    (hm : new.length = m) (hgr : (wr.alloc o).grownBy w1 v.ownBlock) : Out w w1 (.slice (some ⟨g, 0, none⟩) (l ++ new).length cap) (l ++ new) := by
  subst hm
  have hs := h.below.size
  refine ⟨by simpa [bytesV] using hown, ((h.below.alloc hs _).grown hgr (by simp; omega) (fun k e => (h.owns.lt k e).1))⟩


theorem mid_plain {c : Int} (h34 : ¬ c = 34) (h92 : ¬ c = 92) (h8 : ¬ c = 8) (h12 : ¬ c = 12) (h10 : ¬ c = 10) (h13 : ¬ c = 13) (h9 : ¬ c = 9) (h32 : ¬ c < 32) : mid c = [c] := by
  unfold mid; rw [if_neg h34, if_neg h92, if_neg h8, if_neg h12, if_neg h10, if_neg h13, if_neg h9, if_neg h32]
theorem mid_ctl {c : Int} (h34 : ¬ c = 34) (h92 : ¬ c = 92) (h8 : ¬ c = 8) (h12 : ¬ c = 12) (h10 : ¬ c = 10) (h13 : ¬ c = 13) (h9 : ¬ c = 9) (h32 : c < 32) : mid c = [92, 117, 48, 48, hexd (c / 16), hexd (c % 16)] := by
  unfold mid; rw [if_neg h34, if_neg h92, if_neg h8, if_neg h12, if_neg h10, if_neg h13, if_neg h9, if_pos h32]

theorem digit_at (d : Int) (h0 : 0 ≤ d) (h1 : d < 16) : ∀ h, ((({ data := #[48, 49, 50, 51, 52, 53, 54, 55, 56, 57, 97, 98, 99, 100, 101, 102] } : ByteArray)[d.toNat]'h).toNat : Int) = hexd d := by
  intro h
  obtain ⟨n, rfl⟩ := Int.eq_ofNat_of_zero_le h0
  match n, h1 with
  | 0, _ => rfl
  | 1, _ => rfl
  | 2, _ => rfl
  | 3, _ => rfl
  | 4, _ => rfl
  | 5, _ => rfl
  | 6, _ => rfl
  | 7, _ => rfl
  | 8, _ => rfl
  | 9, _ => rfl
  | 10, _ => rfl
  | 11, _ => rfl
  | 12, _ => rfl
  | 13, _ => rfl
  | 14, _ => rfl
  | 15, _ => rfl
  | n + 16, h => omega

theorem undrew {w w' : World} {r : Option Nat} (h : w.drew.grownBy w' r) : w.grownBy w' r := ⟨h.os, h.tape, h.output, h.size, h.block⟩

theorem mid_len (c : Int) : ([34] ++ mid c).length ≤ 7 := by
  unfold mid
  repeat' split
  all_goals simp

def esc (c : Int) : List Int := [34] ++ mid c ++ [34]

def EscPost (w : World) (c : Int) (e : Ending) (w' : World) : Prop :=
  ∃ g cap, e = .returned (.slice (some ⟨g, 0, none⟩) (esc c).length cap) ∧ Out w w' (.slice (some ⟨g, 0, none⟩) (esc c).length cap) (esc c)

set_option maxHeartbeats 3200000 in
theorem c22 (w : World) (b : Nat) (c : Int) (h0 : 0 ≤ c) (h1 : c ≤ 255) (hb : b < w.heap.size) (hc : w.cell? ⟨b, 0, none⟩ = some (.int .u8 c)) :
    Calls Try.prog 22 #[.slice none 0 0, .slice (some ⟨b, 0, none⟩) 1 1] w fun e w' => EscPost w c e w' := by
  obtain ⟨i0, hi, hz0, hz1, hz2⟩ := info_parts Try.info5
  have hs0 : Out w w (.slice none 0 0) [] := ⟨World.ownsRow_nil _ _ _ _, Below.refl _ _⟩
  go_enter Try.func22, Try.ntmps22
  go_wp2_with (at_builtin; refine wpList_append_lies _ rfl (.tmp 7) (.tmp 8) 22 rfl w.heap.size 5 i0 (.int .u8 0) 1 1 Try.underlying22 hi hz0 hz1 hz2 rfl (by decide) (.slice none 0 0) 0 [] rfl (World.ownsRow_nil _ _ _ _) ⟨w.heap.size, 0, none⟩ 1 1 [.int .u8 34] rfl rfl (news_alloc w [.int .u8 34] 5) ?c2 (by decide) (by unfold maxLen; omega) (by omega) ?c3 _ rfl ?_)
  case c2 => intro u hu; simp at hu; subst hu; rfl
  case c3 => simp
  intro g cap w1 hown hgr _ _
  have hs1 := hs0.next (new := [34]) hown rfl hgr
  clear hown hgr hs0
  go_wp2_with fail
  go_loopw [0, 12] (fun v i wr => ∃ (k g cap : Nat) (l : List Int), k ≤ 1 ∧ i = .int .i64 k ∧ v = .slice (some ⟨g, 0, none⟩) l.length cap ∧ Out w wr (.slice (some ⟨g, 0, none⟩) l.length cap) l ∧ (k = 0 → l = [34]) ∧ (k = 1 → l = [34] ++ mid c)) (fun _ i _ => 1 - (intOf i).toNat)
  case atStart => exact ⟨0, g, cap, [34], by omega, rfl, rfl, hs1, fun _ => rfl, fun h => by omega⟩
  case round =>
    clear hs1
    obtain ⟨k, g, cap, l, hk, rfl, rfl, HO, hl0, hl1⟩ := hrel
    by_cases hlt : k < 1
    · obtain rfl : k = 0 := by omega
      obtain rfl := hl0 rfl
      clear hl0 hl1
      have hcr : wr.cell? ⟨b, 0, none⟩ = some (.int .u8 c) := (HO.below.cell (p := ⟨b, 0, none⟩) hb).trans hc
      clear hc
      by_cases h34 : c = 34
      · -- c = 34
        subst h34
        go_wp2_with (at_builtin; refine wpList_append_lies _ rfl (.tmp 35) (.tmp 37) 22 rfl w.heap.size 5 i0 (.int .u8 0) 1 1 Try.underlying22 hi hz0 hz1 hz2 rfl (by decide) (.slice (some ⟨g, 0, none⟩) 1 cap) 1 (bytesV [34]) rfl (HO.owns.alloc _) ⟨wr.heap.size, 0, none⟩ 2 2 [.int .u8 92, .int .u8 34] rfl rfl (news_alloc wr [.int .u8 92, .int .u8 34] 5) ?a2 (by decide) (by unfold maxLen; omega) (by omega) ?a3 _ rfl ?_)
        case a2 => intro u hu; simp at hu; rcases hu with rfl | rfl <;> rfl
        case a3 => have := HO.below.size; simp; omega
        intro g1 cap1 w2 hown hgr _ _
        have hs2 := HO.next (new := [92, 34]) hown rfl hgr
        clear hown hgr HO
        go_wp2_with fail
        go_roundw
        case rel => exact ⟨1, g1, cap1, [34] ++ [92, 34], by omega, by go_num, rfl, hs2, fun h => by omega, fun _ => by simp [mid]⟩
        case measure => simp [intOf]
      by_cases h92 : c = 92
      · -- c = 92
        subst h92
        go_wp2_with (at_builtin; refine wpList_append_lies _ rfl (.tmp 35) (.tmp 37) 22 rfl w.heap.size 5 i0 (.int .u8 0) 1 1 Try.underlying22 hi hz0 hz1 hz2 rfl (by decide) (.slice (some ⟨g, 0, none⟩) 1 cap) 1 (bytesV [34]) rfl (HO.owns.alloc _) ⟨wr.heap.size, 0, none⟩ 2 2 [.int .u8 92, .int .u8 92] rfl rfl (news_alloc wr [.int .u8 92, .int .u8 92] 5) ?d2 (by decide) (by unfold maxLen; omega) (by omega) ?d3 _ rfl ?_)
        case d2 => intro u hu; simp at hu; rcases hu with rfl | rfl <;> rfl
        case d3 => have := HO.below.size; simp; omega
        intro g1 cap1 w2 hown hgr _ _
        have hs2 := HO.next (new := [92, 92]) hown rfl hgr
        clear hown hgr HO
        go_wp2_with fail
        go_roundw
        case rel => exact ⟨1, g1, cap1, [34] ++ [92, 92], by omega, by go_num, rfl, hs2, fun h => by omega, fun _ => by simp [mid]⟩
        case measure => simp [intOf]
      by_cases h8 : c = 8
      · -- c = 8
        subst h8
        go_wp2_with (at_builtin; refine wpList_append_lies _ rfl (.tmp 41) (.tmp 42) 22 rfl w.heap.size 5 i0 (.int .u8 0) 1 1 Try.underlying22 hi hz0 hz1 hz2 rfl (by decide) (.slice (some ⟨g, 0, none⟩) 1 cap) 1 (bytesV [34]) rfl (HO.owns.alloc _) ⟨wr.heap.size, 0, none⟩ 2 2 [.int .u8 92, .int .u8 98] rfl rfl (news_alloc wr [.int .u8 92, .int .u8 98] 5) ?e2 (by decide) (by unfold maxLen; omega) (by omega) ?e3 _ rfl ?_)
        case e2 => intro u hu; simp at hu; rcases hu with rfl | rfl <;> rfl
        case e3 => have := HO.below.size; simp; omega
        intro g1 cap1 w2 hown hgr _ _
        have hs2 := HO.next (new := [92, 98]) hown rfl hgr
        clear hown hgr HO
        go_wp2_with fail
        go_roundw
        case rel => exact ⟨1, g1, cap1, [34] ++ [92, 98], by omega, by go_num, rfl, hs2, fun h => by omega, fun _ => by simp [mid]⟩
        case measure => simp [intOf]
      by_cases h12 : c = 12
      · -- c = 12
        subst h12
        go_wp2_with (at_builtin; refine wpList_append_lies _ rfl (.tmp 46) (.tmp 47) 22 rfl w.heap.size 5 i0 (.int .u8 0) 1 1 Try.underlying22 hi hz0 hz1 hz2 rfl (by decide) (.slice (some ⟨g, 0, none⟩) 1 cap) 1 (bytesV [34]) rfl (HO.owns.alloc _) ⟨wr.heap.size, 0, none⟩ 2 2 [.int .u8 92, .int .u8 102] rfl rfl (news_alloc wr [.int .u8 92, .int .u8 102] 5) ?f2 (by decide) (by unfold maxLen; omega) (by omega) ?f3 _ rfl ?_)
        case f2 => intro u hu; simp at hu; rcases hu with rfl | rfl <;> rfl
        case f3 => have := HO.below.size; simp; omega
        intro g1 cap1 w2 hown hgr _ _
        have hs2 := HO.next (new := [92, 102]) hown rfl hgr
        clear hown hgr HO
        go_wp2_with fail
        go_roundw
        case rel => exact ⟨1, g1, cap1, [34] ++ [92, 102], by omega, by go_num, rfl, hs2, fun h => by omega, fun _ => by simp [mid]⟩
        case measure => simp [intOf]
      by_cases h10 : c = 10
      · -- c = 10
        subst h10
        go_wp2_with (at_builtin; refine wpList_append_lies _ rfl (.tmp 51) (.tmp 52) 22 rfl w.heap.size 5 i0 (.int .u8 0) 1 1 Try.underlying22 hi hz0 hz1 hz2 rfl (by decide) (.slice (some ⟨g, 0, none⟩) 1 cap) 1 (bytesV [34]) rfl (HO.owns.alloc _) ⟨wr.heap.size, 0, none⟩ 2 2 [.int .u8 92, .int .u8 110] rfl rfl (news_alloc wr [.int .u8 92, .int .u8 110] 5) ?p2 (by decide) (by unfold maxLen; omega) (by omega) ?p3 _ rfl ?_)
        case p2 => intro u hu; simp at hu; rcases hu with rfl | rfl <;> rfl
        case p3 => have := HO.below.size; simp; omega
        intro g1 cap1 w2 hown hgr _ _
        have hs2 := HO.next (new := [92, 110]) hown rfl hgr
        clear hown hgr HO
        go_wp2_with fail
        go_roundw
        case rel => exact ⟨1, g1, cap1, [34] ++ [92, 110], by omega, by go_num, rfl, hs2, fun h => by omega, fun _ => by simp [mid]⟩
        case measure => simp [intOf]
      by_cases h13 : c = 13
      · -- c = 13
        subst h13
        go_wp2_with (at_builtin; refine wpList_append_lies _ rfl (.tmp 56) (.tmp 57) 22 rfl w.heap.size 5 i0 (.int .u8 0) 1 1 Try.underlying22 hi hz0 hz1 hz2 rfl (by decide) (.slice (some ⟨g, 0, none⟩) 1 cap) 1 (bytesV [34]) rfl (HO.owns.alloc _) ⟨wr.heap.size, 0, none⟩ 2 2 [.int .u8 92, .int .u8 114] rfl rfl (news_alloc wr [.int .u8 92, .int .u8 114] 5) ?q2 (by decide) (by unfold maxLen; omega) (by omega) ?q3 _ rfl ?_)
        case q2 => intro u hu; simp at hu; rcases hu with rfl | rfl <;> rfl
        case q3 => have := HO.below.size; simp; omega
        intro g1 cap1 w2 hown hgr _ _
        have hs2 := HO.next (new := [92, 114]) hown rfl hgr
        clear hown hgr HO
        go_wp2_with fail
        go_roundw
        case rel => exact ⟨1, g1, cap1, [34] ++ [92, 114], by omega, by go_num, rfl, hs2, fun h => by omega, fun _ => by simp [mid]⟩
        case measure => simp [intOf]
      by_cases h9 : c = 9
      · -- c = 9
        subst h9
        go_wp2_with (at_builtin; refine wpList_append_lies _ rfl (.tmp 61) (.tmp 62) 22 rfl w.heap.size 5 i0 (.int .u8 0) 1 1 Try.underlying22 hi hz0 hz1 hz2 rfl (by decide) (.slice (some ⟨g, 0, none⟩) 1 cap) 1 (bytesV [34]) rfl (HO.owns.alloc _) ⟨wr.heap.size, 0, none⟩ 2 2 [.int .u8 92, .int .u8 116] rfl rfl (news_alloc wr [.int .u8 92, .int .u8 116] 5) ?r2 (by decide) (by unfold maxLen; omega) (by omega) ?r3 _ rfl ?_)
        case r2 => intro u hu; simp at hu; rcases hu with rfl | rfl <;> rfl
        case r3 => have := HO.below.size; simp; omega
        intro g1 cap1 w2 hown hgr _ _
        have hs2 := HO.next (new := [92, 116]) hown rfl hgr
        clear hown hgr HO
        go_wp2_with fail
        go_roundw
        case rel => exact ⟨1, g1, cap1, [34] ++ [92, 116], by omega, by go_num, rfl, hs2, fun h => by omega, fun _ => by simp [mid]⟩
        case measure => simp [intOf]
      by_cases h32 : c < 32
      · have hmid : Hid (mid c = [92, 117, 48, 48, hexd (c / 16), hexd (c % 16)]) := mid_ctl h34 h92 h8 h12 h10 h13 h9 h32
        have q0 : 0 ≤ c / 16 := by omega
        have q1 : c / 16 < 16 := by omega
        have q2 : 0 ≤ c % 16 := by omega
        have q3 : c % 16 < 16 := by omega
        have q4 : bits .and .u8 c 15 = c % 16 := u8_and15 c h0 (by omega)
        have q5 := digit_at (c / 16) q0 q1
        have q6 := digit_at (c % 16) q2 q3

        generalize c % 16 = d2 at *
        go_wp2_with fail
        go_region_law (refine step_append_lies _ rfl (.tmp 19) (.tmp 26) 22 rfl w.heap.size 5 i0 (.int .u8 0) 1 1 Try.underlying22 hi hz0 hz1 hz2 rfl (by decide) (.slice (some ⟨g, 0, none⟩) 1 cap) 1 (bytesV [34]) rfl (by first | exact HO.owns.alloc _ | exact (HO.owns.alloc _).drew) ⟨wr.heap.size, 0, none⟩ 6 6 [.int .u8 92, .int .u8 117, .int .u8 48, .int .u8 48, .int .u8 (hexd (c / 16)), .int .u8 (hexd d2)] rfl rfl (news_alloc wr [.int .u8 92, .int .u8 117, .int .u8 48, .int .u8 48, .int .u8 (hexd (c / 16)), .int .u8 (hexd d2)] 5) (by simp [Value.oneCell']) (by decide) (by unfold maxLen; omega) (by omega) (by have := HO.below.size; simp; omega) _ rfl ?_; intro g1 cap1 w2 hown hgr _ _)
        all_goals
          have hs2 := HO.next (new := [92, 117, 48, 48, hexd (c / 16), hexd d2]) hown rfl (by first | exact hgr | exact undrew hgr)
          clear hown hgr HO
          go_wp2_with fail
          go_roundw
          case rel => exact ⟨1, g1, cap1, [34] ++ [92, 117, 48, 48, hexd (c / 16), hexd d2], by omega, by go_num, rfl, hs2, fun h => by omega, fun _ => by rw [hmid.out]⟩
          case measure => simp [intOf]
      · -- a plain byte
        have hmid : Hid (mid c = [c]) := mid_plain h34 h92 h8 h12 h10 h13 h9 h32
        go_wp2_with (at_builtin; refine wpList_append_lies _ rfl (.tmp 28) (.tmp 30) 22 rfl w.heap.size 5 i0 (.int .u8 0) 1 1 Try.underlying22 hi hz0 hz1 hz2 rfl (by decide) (.slice (some ⟨g, 0, none⟩) 1 cap) 1 (bytesV [34]) rfl (HO.owns.alloc _) ⟨wr.heap.size, 0, none⟩ 1 1 [.int .u8 c] rfl rfl (news_alloc wr [.int .u8 c] 5) ?s2 (by decide) (by unfold maxLen; omega) (by omega) ?s3 _ rfl ?_)
        case s2 => first | rfl | (intro u hu; simp at hu; subst hu; rfl)
        case s3 => have := HO.below.size; simp; omega
        intro g1 cap1 w2 hown hgr _ _
        have hs2 := HO.next (new := [c]) hown rfl hgr
        clear hown hgr HO
        go_wp2_with fail
        go_roundw
        case rel => exact ⟨1, g1, cap1, [34] ++ [c], by omega, by go_num, rfl, hs2, fun h => by omega, fun _ => by rw [hmid.out]⟩
        case measure => simp [intOf]
    · obtain rfl : k = 1 := by omega
      have hl := hl1 rfl
      have hlen : l.length ≤ 7 := by rw [hl]; exact mid_len c
      have HL : Hid (l = [34] ++ mid c) := hl
      clear hl hl0 hl1 hc
      go_wp2_with (at_builtin; refine wpList_append_lies _ rfl (.tmp 65) (.tmp 66) 22 rfl w.heap.size 5 i0 (.int .u8 0) 1 1 Try.underlying22 hi hz0 hz1 hz2 rfl (by decide) (.slice (some ⟨g, 0, none⟩) l.length cap) l.length (bytesV l) rfl (HO.owns.alloc _) ⟨wr.heap.size, 0, none⟩ 1 1 [.int .u8 34] rfl rfl (news_alloc wr [.int .u8 34] 5) ?z2 (by decide) (by unfold maxLen; omega) (by omega) ?z3 _ rfl ?_)
      case z2 => intro u hu; simp at hu; subst hu; rfl
      case z3 => have := HO.below.size; simp; omega
      intro g1 cap1 w2 hown hgr _ _
      have hs2 := HO.next (new := [34]) hown rfl hgr
      have he : l ++ [34] = esc c := by unfold esc; rw [HL.out]
      rw [he] at hs2
      have hel : Hid ((esc c).length = l.length + 1) := by have : (esc c).length = l.length + 1 := (by rw [← he]; simp); exact this
      clear hown hgr HO he
      go_wp2_with fail
      go_ret
      exact ⟨g1, cap1, by rw [hel.out]; rfl, hs2⟩

end Go.Proofs.Qxb6002787a
