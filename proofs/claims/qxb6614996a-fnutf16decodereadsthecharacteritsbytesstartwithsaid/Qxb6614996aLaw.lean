import Derived.Test.Qxb6614996aSwap
import Derived.Laws.CopyOwn
import Derived.WalkSpells
namespace Go.Proofs.Qxb6614996a
open Go.RowKit

theorem swp0 (l : List Int) (h : 2 ≤ l.length) : (swp l).getD 0 0 = l.getD 1 0 ∧ (swp l).getD 1 0 = l.getD 0 0 := swp_get 0 l (by omega)
theorem swp2 (l : List Int) (h : 4 ≤ l.length) : (swp l).getD 2 0 = l.getD 3 0 ∧ (swp l).getD 3 0 = l.getD 2 0 := swp_get 1 l (by omega)
theorem un_swap (x y : Int) : un true y x = un false x y := by simp [un]

theorem dec_swap (l : List Int) : decR true (swp l) = decR false l ∧ decN true (swp l) = decN false l := by
  unfold decR decN
  rw [swp_length]
  by_cases h2 : l.length < 2
  · simp [h2]
  · rw [(swp0 l (by omega)).1, (swp0 l (by omega)).2, un_swap]
    by_cases h4 : 4 ≤ l.length
    · rw [(swp2 l h4).1, (swp2 l h4).2, un_swap]
      exact ⟨rfl, rfl⟩
    · simp [h2, h4]

theorem expect_any (w : World) (a : Option Addr) (len cap : Nat) (l : List Int) (hs : Sl w a len cap l) (hy : By l) (hl : len ≤ 1048576) :
    Calls Try.prog 9 #[.slice a len cap, .bool false] w fun e w' => e = .returned (.tuple #[.int .i32 (decR false l), .int .i64 (decN false l)]) ∧ Below w.heap.size w w' := by
  by_cases h2 : len < 2
  · exact expect_short w a len cap l h2 hs.1
  · obtain ⟨b, off, rfl, _, _⟩ := hs.at (by omega)
    cases hsu : su (un false (l.getD 0 0) (l.getD 1 0))
    · exact expect_plain w b off len cap l hs hy (by omega) hl _ rfl hsu
    · by_cases h4 : len < 4
      · exact expect_cut w b off len cap l hs hy (by omega) h4 _ rfl hsu
      · cases hpr : pr (un false (l.getD 0 0) (l.getD 1 0)) (un false (l.getD 2 0) (l.getD 3 0))
        · exact expect_bad w b off len cap l hs hy (by omega) hl _ _ rfl rfl hsu hpr
        · exact expect_pair w b off len cap l hs hy (by omega) hl _ _ rfl rfl hsu hpr

theorem bytes5_any (w : World) (a : Option Addr) (len cap : Nat) (h : len ≤ 9223372036854775807) :
    Calls Try.prog 5 #[.slice a len cap] w fun e w' => ∃ b, e = .returned (.bool b) ∧ w = w' := by
  go_enter Try.func5, Try.ntmps5
  go_wp2
  all_goals
    go_ret
    exact ⟨_, rfl, rfl⟩

theorem sl_row {w : World} {g len : Nat} {l : List Int} (hl : l.length = len) (hm : len ≤ maxLen) (hg : w.heap[g]? = some (.cells (l.map (Value.int .u8)).toArray 5 (0, 0))) : Sl w (some ⟨g, 0, none⟩) len len l := by
  have hown : w.ownsRow g 5 1 (.slice (some ⟨g, 0, none⟩) len len) len (l.map (Value.int .u8)) :=
    ⟨by simp [hl], .inr ⟨g, len, _, rfl, Nat.le_refl _, hg, Nat.le_refl _, hm, by simp [hl], List.take_of_length_le (by simp [hl])⟩⟩
  obtain ⟨a', cap', e, hsl⟩ := Sl.of_own hown
  simp only [Value.slice.injEq, true_and] at e
  obtain ⟨rfl, rfl⟩ := e
  exact hsl

theorem own_row {w : World} {base g n cap : Nat} {xs : List Value} (h : w.ownsRow base 5 1 (.slice (some ⟨g, 0, none⟩) n cap) n xs) : ∃ cur : List Value, w.heap[g]? = some (.cells cur.toArray 5 (0, 0)) ∧ cur.length = cap := by
  rcases h.2 with ⟨h', _⟩ | ⟨g', cap', cur, h', _, hg, _, _, hcs, _⟩
  · simp at h'
  · simp only [Value.slice.injEq, Option.some.injEq, Addr.mk.injEq, and_true, true_and] at h'
    obtain ⟨rfl, rfl⟩ := h'
    exact ⟨cur.toList, by simpa using hg, by simpa using hcs⟩

theorem splice_all {cur cs : List Value} (h : cur.length = cs.length) : splice cur 0 cs = cs := by
  simp [splice, ← h]

theorem size5 : (Try.prog.info? 5).map (·.size) = some 1 := by kernel_rfl

set_option maxHeartbeats 2000000 in
theorem reads_some (w : World) (x : Addr) (len cap : Nat) (l : List Int) (hs : Sl w (some x) len cap l) (hy : By l) (hl : len ≤ 1048576) :
    Calls Try.prog 3 #[.slice (some x) len cap] w fun e w' => e = .returned (.bool true) ∧ Below w.heap.size w w' := by
  obtain ⟨i0, hi, hz0, hz1, hz2⟩ := info_parts Try.info5'
  have qT : ∀ (w : World) (a : Option Addr) (n c n' c' : Nat), (binOp .neq 22 (.slice a n c) (.slice none n' c')).run Try.prog w = .ok (.bool (!a.isNone)) w := fun w a n c n' c' => run_neq_slice_nil_any w _ _ a n c n' c' Try.underlying22
  have HS : Hid (Sl w (some x) len cap l) := hs
  have HY : Hid (By l) := hy
  have HL : Hid (l.length = len) := hs.1
  clear hs hy
  go_enter Try.func3, Try.ntmps3
  go_wp2_with fail
  refine (bytes5_any _ _ _ _ (by omega)).mono ?_
  rintro e w' ⟨b, rfl, rfl⟩
  cases b
  · go_wp2
    go_ret
    exact ⟨rfl, Below.refl _ _⟩
  · go_wp2_with (at_make; refine wpList_make_full _ rfl _ _ 22 rfl w.heap.size 5 i0 (.int .u8 0) 1 Try.underlying22 hi hz0 hz1 _ _ _ _ len rfl rfl rfl rfl (by rw [hz2]; omega) (by unfold maxLen; omega) (Nat.le_refl _) ?_)
    intro w1 hown hgrow
    have hB1 : Below w.heap.size w w1 := (Below.refl _ _).grown hgrow (Nat.le_refl _) (fun k hk => by cases hk)
    obtain ⟨cur, hg, hcl⟩ := own_row hown
    obtain ⟨cs, CS⟩ : ∃ cs, Hid (cs = l.map (Value.int .u8)) := ⟨_, rfl⟩
    have HG : Hid _ := hg
    have HC : Hid (cur.length = len) := hcl
    have hcn : Hid (cs.length = len) := by show cs.length = len; rw [CS.out]; simp [HL.out]
    clear hown hgrow hg hcl
    go_wp2_with (refine wpList_copy_splice rfl (.tmp 24) (.tmp 25) 22 22 rfl 5 Try.underlying22 size5 (some ⟨w.heap.size, 0, none⟩) (some x) len len len cap rfl rfl w.heap.size 0 cur 5 HG.out cs (by rw [hcn.out]; simp) (fun _ => ⟨rfl, x, rfl, by rw [CS.out]; exact HS.out.olds hB1 x rfl⟩) (by rw [hcn.out, HC.out]; omega) (by rw [CS.out]; exact ints_oneCell _ _) w.heap.size w hB1 (Nat.le_refl _) ?_)
    intro w2 HG2 hB2
    have SL0 : Hid (Sl w2 (some ⟨w.heap.size, 0, none⟩) len len l) := by
      have e : splice cur 0 cs = l.map (Value.int .u8) := by rw [splice_all (by rw [HC.out, hcn.out]), CS.out]
      exact sl_row HL.out (by unfold maxLen; omega) (by rw [← e]; exact HG2.out)
    clear HG HG2 hB1 HC hcn CS
    go_wp2_with fail
    refine (swap_any _ _ _ _ l SL0.out hl).mono ?_
    rintro e w3 ⟨a3, rfl, s3, hb3⟩
    have SL1 : Hid (Sl w3 (some ⟨w.heap.size, 0, none⟩) len len l) := SL0.out.below hb3
    have S3 : Hid (Sl w3 a3 len len (swp l)) := s3
    have hB3 := bnext hB2 (Nat.le_refl _) hb3
    clear hb3 s3 SL0 hB2
    go_wp2_with fail
    refine (le_any _ _ _ _ l SL1.out HY.out).mono ?_
    rintro e w4 ⟨rfl, hb4⟩
    have SL2 : Hid (Sl w4 (some ⟨w.heap.size, 0, none⟩) len len l) := SL1.out.below hb4
    have S4 : Hid (Sl w4 a3 len len (swp l)) := S3.out.below hb4
    have hB4 := bnext hB3 (Nat.le_refl _) hb4
    clear hb4 hB3 SL1 S3
    go_wp2_with fail
    refine (be_any _ _ _ _ (swp l) S4.out (swp_by HY.out)).mono ?_
    rintro e w5 ⟨rfl, hb5⟩
    rw [(dec_swap l).1, (dec_swap l).2]
    have SL3 : Hid (Sl w5 (some ⟨w.heap.size, 0, none⟩) len len l) := SL2.out.below hb5
    have hB5 := bnext hB4 (Nat.le_refl _) hb5
    clear hb5 hB4 SL2 S4
    go_wp2_with fail
    refine (expect_any _ _ _ _ l SL3.out HY.out hl).mono ?_
    rintro e w6 ⟨rfl, hb6⟩
    have hB6 := bnext hB5 (Nat.le_refl _) hb6
    clear hb6 hB5 SL3
    generalize decR false l = R
    generalize decN false l = N
    go_wp2
    go_ret
    exact ⟨by first | rfl | (simp; done), hB6⟩

set_option maxHeartbeats 2000000 in
theorem reads_nil (w : World) (len cap : Nat) (l : List Int) (hs : Sl w none len cap l) (hy : By l) (hl : len ≤ 1048576) :
    Calls Try.prog 3 #[.slice none len cap] w fun e w' => e = .returned (.bool true) ∧ Below w.heap.size w w' := by
  have qT : ∀ (w : World) (a : Option Addr) (n c n' c' : Nat), (binOp .neq 22 (.slice a n c) (.slice none n' c')).run Try.prog w = .ok (.bool (!a.isNone)) w := fun w a n c n' c' => run_neq_slice_nil_any w _ _ a n c n' c' Try.underlying22
  have SL0 : Hid (Sl w none len cap l) := hs
  have HY : Hid (By l) := hy
  clear hs hy
  go_enter Try.func3, Try.ntmps3
  go_wp2_with fail
  refine (bytes5_any _ _ _ _ (by omega)).mono ?_
  rintro e w' ⟨b, rfl, rfl⟩
  cases b
  · go_wp2
    go_ret
    exact ⟨rfl, Below.refl _ _⟩
  · have hB2 : Below w.heap.size w w := Below.refl _ _
    go_wp2_with fail
    refine (swap_any _ _ _ _ l SL0.out hl).mono ?_
    rintro e w3 ⟨a3, rfl, s3, hb3⟩
    have SL1 : Hid (Sl w3 none len cap l) := SL0.out.below hb3
    have S3 : Hid (Sl w3 a3 len len (swp l)) := s3
    have hB3 := bnext hB2 (Nat.le_refl _) hb3
    clear hb3 s3 SL0 hB2
    go_wp2_with fail
    refine (le_any _ _ _ _ l SL1.out HY.out).mono ?_
    rintro e w4 ⟨rfl, hb4⟩
    have SL2 : Hid (Sl w4 none len cap l) := SL1.out.below hb4
    have S4 : Hid (Sl w4 a3 len len (swp l)) := S3.out.below hb4
    have hB4 := bnext hB3 (Nat.le_refl _) hb4
    clear hb4 hB3 SL1 S3
    go_wp2_with fail
    refine (be_any _ _ _ _ (swp l) S4.out (swp_by HY.out)).mono ?_
    rintro e w5 ⟨rfl, hb5⟩
    rw [(dec_swap l).1, (dec_swap l).2]
    have SL3 : Hid (Sl w5 none len cap l) := SL2.out.below hb5
    have hB5 := bnext hB4 (Nat.le_refl _) hb5
    clear hb5 hB4 SL2 S4
    go_wp2_with fail
    refine (expect_any _ _ _ _ l SL3.out HY.out hl).mono ?_
    rintro e w6 ⟨rfl, hb6⟩
    have hB6 := bnext hB5 (Nat.le_refl _) hb6
    clear hb6 hB5 SL3
    generalize decR false l = R
    generalize decN false l = N
    go_wp2
    go_ret
    exact ⟨by first | rfl | (simp; done), hB6⟩

theorem reads_any (w : World) (a : Option Addr) (len cap : Nat) (l : List Int) (hs : Sl w a len cap l) (hy : By l) :
    Calls Try.prog 3 #[.slice a len cap] w fun e w' => e = .returned (.bool true) ∧ Below w.heap.size w w' := by
  by_cases hl : len ≤ 1048576
  · cases a with
    | none => exact reads_nil w len cap l hs hy hl
    | some x => exact reads_some w x len cap l hs hy hl
  · have hm : len ≤ 9223372036854775807 := by have h1 := hs.2.1; have h2 := hs.2.2.1; unfold maxLen at h2; omega
    clear hs hy
    go_enter Try.func3, Try.ntmps3
    go_wp2_with fail
    refine (bytes5_any _ _ _ _ hm).mono ?_
    rintro e w' ⟨b, rfl, rfl⟩
    cases b
    all_goals
      go_wp2
      go_ret
      exact ⟨rfl, Below.refl _ _⟩
end Go.Proofs.Qxb6614996a
