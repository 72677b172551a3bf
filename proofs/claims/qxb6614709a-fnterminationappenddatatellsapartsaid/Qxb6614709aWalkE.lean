import Derived.Test.Qxb6614709aWalkC
namespace Go.Proofs.Qxb6614709a
open Go.RowKit

/-! ### zzBytes: three lengths -/
def fit3B (m n p : Nat) : Bool := decide (m ≤ 1048576 ∧ n ≤ 1048576 ∧ m + n ≤ 1048576 ∧ p ≤ 1048576 ∧ m + n + p ≤ 1048576)
set_option maxHeartbeats 800000 in
theorem bytes3_any (w : World) (a0 : Int) (a1 : Option Addr) (len1 cap1 : Nat) (a2 : Int) (a3 : Option Addr) (len3 cap3 : Nat) (a4 : Option Addr) (len4 cap4 : Nat) (h1 : len1 ≤ 9223372036854775807) (h3 : len3 ≤ 9223372036854775807) (h4 : len4 ≤ 9223372036854775807) :
    Calls Try.prog 9 #[.int .u8 a0, .slice a1 len1 cap1, .int .u8 a2, .slice a3 len3 cap3, .slice a4 len4 cap4] w fun e w' => e = .returned (.bool (fit3B len1 len3 len4)) ∧ w = w' := by
  by_cases g1 : len1 ≤ 1048576
  · by_cases g2 : len3 ≤ 1048576
    · by_cases g3 : len1 + len3 ≤ 1048576
      · by_cases g4 : len4 ≤ 1048576
        · by_cases g5 : len1 + len3 + len4 ≤ 1048576
          · have e : fit3B len1 len3 len4 = true := by simp [fit3B]; omega
            rw [e]
            go_enter Try.func9, Try.ntmps9
            go_wp2
            go_ret
            exact ⟨rfl, rfl⟩
          · have e : fit3B len1 len3 len4 = false := by simp [fit3B]; omega
            rw [e]
            go_enter Try.func9, Try.ntmps9
            go_wp2
            go_ret
            exact ⟨rfl, rfl⟩
        · have e : fit3B len1 len3 len4 = false := by simp [fit3B]; omega
          rw [e]
          go_enter Try.func9, Try.ntmps9
          go_wp2
          go_ret
          exact ⟨rfl, rfl⟩
      · have e : fit3B len1 len3 len4 = false := by simp [fit3B]; omega
        rw [e]
        go_enter Try.func9, Try.ntmps9
        go_wp2
        go_ret
        exact ⟨rfl, rfl⟩
    · have e : fit3B len1 len3 len4 = false := by simp [fit3B]; omega
      rw [e]
      go_enter Try.func9, Try.ntmps9
      go_wp2
      go_ret
      exact ⟨rfl, rfl⟩
  · have e : fit3B len1 len3 len4 = false := by simp [fit3B]; omega
    rw [e]
    go_enter Try.func9, Try.ntmps9
    go_wp2
    go_ret
    exact ⟨rfl, rfl⟩

theorem tell_same (l : List Int) (r : Int) (x y : List Int) : eqB (l ++ r :: x) (l ++ r :: y) = eqB x y := by simp [eqB]
theorem tell_other (l : List Int) (r r' : Int) (x y : List Int) (h : ¬ r = r') : eqB (l ++ r :: x) (l ++ r' :: y) = false := by simp [eqB, h]

set_option maxHeartbeats 4000000 in
theorem tell_main (w : World) (ra rb : Int) (a1 : Option Addr) (la c1 : Nat) (da : List Int) (a3 : Option Addr) (lb c3 : Nat) (db : List Int) (a4 : Option Addr) (len c4 : Nat) (l : List Int)
    (h1 : Sl w a1 la c1 da) (h3 : Sl w a3 lb c3 db) (h4 : Sl w a4 len c4 l) (b1 : la ≤ 262144) (b2 : lb ≤ 262144) (b3 : len ≤ 262144) :
    Calls Try.prog 4 #[.int .u8 ra, .slice a1 la c1, .int .u8 rb, .slice a3 lb c3, .slice a4 len c4] w fun e w' => e = .returned (.bool true) ∧ Below w.heap.size w w' := by
  have ef : fit3B la lb len = true := by simp [fit3B]; omega
  by_cases hr : ra = rb
  · subst hr
    go_enter Try.func4, Try.ntmps4
    go_wp2_with fail
    refine (bytes3_any _ _ _ _ _ _ _ _ _ _ _ _ (by omega) (by omega) (by omega)).mono ?_
    rintro e w' ⟨rfl, rfl⟩
    rw [ef]
    go_wp2_with fail
    refine (clone_any _ _ _ _ da h1 (by omega)).mono ?_
    rintro e w1 ⟨x1, rfl, s1, B1⟩
    have q3 := h3.below B1
    have q4 := h4.below B1
    clear h1 h3 h4
    go_wp2_with fail
    refine (clone_any _ _ _ _ db q3 (by omega)).mono ?_
    rintro e w2 ⟨x2, rfl, s2, hb⟩
    replace s1 := s1.below hb
    replace q4 := q4.below hb
    have B2 := bnext B1 (Nat.le_refl _) hb
    clear B1 hb q3
    go_wp2_with fail
    refine (clone_any _ _ _ _ l q4 (by omega)).mono ?_
    rintro e w3 ⟨x3, rfl, s3, hb⟩
    replace s1 := s1.below hb
    replace s2 := s2.below hb
    have B3 := bnext B2 (Nat.le_refl _) hb
    clear B2 hb q4
    go_wp2_with fail
    refine (clone_any _ _ _ _ l s3 (by omega)).mono ?_
    rintro e w4 ⟨x4, rfl, s4, hb⟩
    replace s1 := s1.below hb
    replace s2 := s2.below hb
    replace s3 := s3.below hb
    have B4 := bnext B3 (Nat.le_refl _) hb
    clear B3 hb
    go_wp2_with fail
    refine (eq_any _ _ _ _ da _ _ _ db s1 s2 (by omega) (by omega)).mono ?_
    rintro e w5 ⟨rfl, n5, rfl⟩
    replace s1 := s1.drewN n5
    replace s2 := s2.drewN n5
    replace s3 := s3.drewN n5
    replace s4 := s4.drewN n5
    have B5 := bdrewN B4 n5
    clear B4
    go_wp2_with fail
    refine (clone_any _ _ _ _ da s1 (by omega)).mono ?_
    rintro e w6a ⟨y6, rfl, t6, hb⟩
    replace s1 := s1.below hb
    replace s2 := s2.below hb
    replace s3 := s3.below hb
    replace s4 := s4.below hb
    have B6a := bnext B5 (Nat.le_refl _) hb
    clear B5 hb
    have hbx := below_box w6a (.cells #[.int .u8 ra, .slice y6 la la] 28)
    have x0 := box_at0 w6a (.int .u8 ra) (.slice y6 la la) 28
    have x1' := box_at1 w6a (.int .u8 ra) (.slice y6 la la) 28
    replace s1 := s1.below hbx
    replace s2 := s2.below hbx
    replace s3 := s3.below hbx
    replace s4 := s4.below hbx
    replace t6 := t6.below hbx
    have B6b := bnext B6a (Nat.le_refl _) hbx
    have X0 : Hid _ := x0
    have X1 : Hid _ := x1'
    clear B6a hbx x0 x1'
    go_wp2_with fail
    refine (clone_any _ _ _ _ l s3 (by omega)).mono ?_
    rintro e w6c ⟨z6, rfl, u6, hb⟩
    have X : Hid _ := kept_two X0.out X1.out hb
    replace s1 := s1.below hb
    replace s2 := s2.below hb
    replace s3 := s3.below hb
    replace s4 := s4.below hb
    replace t6 := t6.below hb
    have B6c := bnext B6b (Nat.le_refl _) hb
    clear B6b hb X0 X1
    go_wp2_with fail
    refine (zzappend_any _ _ ra _ _ _ da _ _ _ l X.out.1 X.out.2 t6 u6 rfl (by omega) (by omega)).mono ?_
    rintro e w6d ⟨v6, d6, rfl, o6, hb⟩
    replace s1 := s1.below hb
    replace s2 := s2.below hb
    replace s3 := s3.below hb
    replace s4 := s4.below hb
    have B6d := bnext B6c (Nat.le_refl _) hb
    clear B6c hb X t6 u6
    go_wp2_with fail
    refine (clone_any _ _ _ _ db s2 (by omega)).mono ?_
    rintro e w7a ⟨y7, rfl, t7, hb⟩
    replace s1 := s1.below hb
    replace s2 := s2.below hb
    replace s3 := s3.below hb
    replace s4 := s4.below hb
    replace o6 := o6.below hb
    have B7a := bnext B6d (Nat.le_refl _) hb
    clear B6d hb
    have hbx := below_box w7a (.cells #[.int .u8 ra, .slice y7 lb lb] 28)
    have x0 := box_at0 w7a (.int .u8 ra) (.slice y7 lb lb) 28
    have x1' := box_at1 w7a (.int .u8 ra) (.slice y7 lb lb) 28
    replace s1 := s1.below hbx
    replace s2 := s2.below hbx
    replace s3 := s3.below hbx
    replace s4 := s4.below hbx
    replace o6 := o6.below hbx
    replace t7 := t7.below hbx
    have B7b := bnext B7a (Nat.le_refl _) hbx
    have X0 : Hid _ := x0
    have X1 : Hid _ := x1'
    clear B7a hbx x0 x1'
    go_wp2_with fail
    refine (clone_any _ _ _ _ l s3 (by omega)).mono ?_
    rintro e w7c ⟨z7, rfl, u7, hb⟩
    have X : Hid _ := kept_two X0.out X1.out hb
    replace s1 := s1.below hb
    replace s2 := s2.below hb
    replace s3 := s3.below hb
    replace s4 := s4.below hb
    replace o6 := o6.below hb
    replace t7 := t7.below hb
    have B7c := bnext B7b (Nat.le_refl _) hb
    clear B7b hb X0 X1
    go_wp2_with fail
    refine (zzappend_any _ _ ra _ _ _ db _ _ _ l X.out.1 X.out.2 t7 u7 rfl (by omega) (by omega)).mono ?_
    rintro e w7d ⟨v7, d7, rfl, o7, hb⟩
    replace s1 := s1.below hb
    replace s2 := s2.below hb
    replace s3 := s3.below hb
    replace s4 := s4.below hb
    replace o6 := o6.below hb
    have B7d := bnext B7c (Nat.le_refl _) hb
    clear B7c hb X t7 u7
    obtain ⟨m1, g1, p1⟩ := o6.upto (len : Int) len rfl (by omega)
    obtain ⟨m2, g2, p2⟩ := o7.upto (len : Int) len rfl (by omega)
    rw [cut_whole s4.1] at p1 p2
    go_wp2_with fail
    refine (eq_yes _ _ _ _ _ _ _ _ p1 s4 (by omega)).mono ?_
    rintro e w' ⟨rfl, n8, rfl⟩
    go_wp2_with fail
    refine (eq_yes _ _ _ _ _ _ _ _ (p2.drewN _) (s4.drewN _) (by omega)).mono ?_
    rintro e w' ⟨rfl, n9, rfl⟩
    go_wp2_with fail
    refine (eq_any _ _ _ _ _ _ _ _ _ (o6.drewN _) (o7.drewN _) (by omega) (by omega)).mono ?_
    rintro e w' ⟨rfl, n10, rfl⟩
    rw [tell_same]
    go_wp2
    go_ret
    exact ⟨ret_bool (by simp), bdrewN B7d _⟩
  · have hr' : (ra == rb) = false := by simp [hr]
    have HR : Hid (¬ ra = rb) := hr
    clear hr
    go_enter Try.func4, Try.ntmps4
    go_wp2_with fail
    refine (bytes3_any _ _ _ _ _ _ _ _ _ _ _ _ (by omega) (by omega) (by omega)).mono ?_
    rintro e w' ⟨rfl, rfl⟩
    rw [ef]
    go_wp2_with fail
    refine (clone_any _ _ _ _ da h1 (by omega)).mono ?_
    rintro e w1 ⟨x1, rfl, s1, B1⟩
    have q3 := h3.below B1
    have q4 := h4.below B1
    clear h1 h3 h4
    go_wp2_with fail
    refine (clone_any _ _ _ _ db q3 (by omega)).mono ?_
    rintro e w2 ⟨x2, rfl, s2, hb⟩
    replace s1 := s1.below hb
    replace q4 := q4.below hb
    have B2 := bnext B1 (Nat.le_refl _) hb
    clear B1 hb q3
    go_wp2_with fail
    refine (clone_any _ _ _ _ l q4 (by omega)).mono ?_
    rintro e w3 ⟨x3, rfl, s3, hb⟩
    replace s1 := s1.below hb
    replace s2 := s2.below hb
    have B3 := bnext B2 (Nat.le_refl _) hb
    clear B2 hb q4
    go_wp2_with fail
    refine (clone_any _ _ _ _ l s3 (by omega)).mono ?_
    rintro e w4 ⟨x4, rfl, s4, hb⟩
    replace s1 := s1.below hb
    replace s2 := s2.below hb
    replace s3 := s3.below hb
    have B4 := bnext B3 (Nat.le_refl _) hb
    clear B3 hb
    go_wp2_with fail
    refine (clone_any _ _ _ _ da s1 (by omega)).mono ?_
    rintro e w6a ⟨y6, rfl, t6, hb⟩
    replace s1 := s1.below hb
    replace s2 := s2.below hb
    replace s3 := s3.below hb
    replace s4 := s4.below hb
    have B6a := bnext B4 (Nat.le_refl _) hb
    clear B4 hb
    have hbx := below_box w6a (.cells #[.int .u8 ra, .slice y6 la la] 28)
    have x0 := box_at0 w6a (.int .u8 ra) (.slice y6 la la) 28
    have x1' := box_at1 w6a (.int .u8 ra) (.slice y6 la la) 28
    replace s1 := s1.below hbx
    replace s2 := s2.below hbx
    replace s3 := s3.below hbx
    replace s4 := s4.below hbx
    replace t6 := t6.below hbx
    have B6b := bnext B6a (Nat.le_refl _) hbx
    have X0 : Hid _ := x0
    have X1 : Hid _ := x1'
    clear B6a hbx x0 x1'
    go_wp2_with fail
    refine (clone_any _ _ _ _ l s3 (by omega)).mono ?_
    rintro e w6c ⟨z6, rfl, u6, hb⟩
    have X : Hid _ := kept_two X0.out X1.out hb
    replace s1 := s1.below hb
    replace s2 := s2.below hb
    replace s3 := s3.below hb
    replace s4 := s4.below hb
    replace t6 := t6.below hb
    have B6c := bnext B6b (Nat.le_refl _) hb
    clear B6b hb X0 X1
    go_wp2_with fail
    refine (zzappend_any _ _ ra _ _ _ da _ _ _ l X.out.1 X.out.2 t6 u6 rfl (by omega) (by omega)).mono ?_
    rintro e w6d ⟨v6, d6, rfl, o6, hb⟩
    replace s1 := s1.below hb
    replace s2 := s2.below hb
    replace s3 := s3.below hb
    replace s4 := s4.below hb
    have B6d := bnext B6c (Nat.le_refl _) hb
    clear B6c hb X t6 u6
    go_wp2_with fail
    refine (clone_any _ _ _ _ db s2 (by omega)).mono ?_
    rintro e w7a ⟨y7, rfl, t7, hb⟩
    replace s1 := s1.below hb
    replace s2 := s2.below hb
    replace s3 := s3.below hb
    replace s4 := s4.below hb
    replace o6 := o6.below hb
    have B7a := bnext B6d (Nat.le_refl _) hb
    clear B6d hb
    have hbx := below_box w7a (.cells #[.int .u8 rb, .slice y7 lb lb] 28)
    have x0 := box_at0 w7a (.int .u8 rb) (.slice y7 lb lb) 28
    have x1' := box_at1 w7a (.int .u8 rb) (.slice y7 lb lb) 28
    replace s1 := s1.below hbx
    replace s2 := s2.below hbx
    replace s3 := s3.below hbx
    replace s4 := s4.below hbx
    replace o6 := o6.below hbx
    replace t7 := t7.below hbx
    have B7b := bnext B7a (Nat.le_refl _) hbx
    have X0 : Hid _ := x0
    have X1 : Hid _ := x1'
    clear B7a hbx x0 x1'
    go_wp2_with fail
    refine (clone_any _ _ _ _ l s3 (by omega)).mono ?_
    rintro e w7c ⟨z7, rfl, u7, hb⟩
    have X : Hid _ := kept_two X0.out X1.out hb
    replace s1 := s1.below hb
    replace s2 := s2.below hb
    replace s3 := s3.below hb
    replace s4 := s4.below hb
    replace o6 := o6.below hb
    replace t7 := t7.below hb
    have B7c := bnext B7b (Nat.le_refl _) hb
    clear B7b hb X0 X1
    go_wp2_with fail
    refine (zzappend_any _ _ rb _ _ _ db _ _ _ l X.out.1 X.out.2 t7 u7 rfl (by omega) (by omega)).mono ?_
    rintro e w7d ⟨v7, d7, rfl, o7, hb⟩
    replace s1 := s1.below hb
    replace s2 := s2.below hb
    replace s3 := s3.below hb
    replace s4 := s4.below hb
    replace o6 := o6.below hb
    have B7d := bnext B7c (Nat.le_refl _) hb
    clear B7c hb X t7 u7
    obtain ⟨m1, g1, p1⟩ := o6.upto (len : Int) len rfl (by omega)
    obtain ⟨m2, g2, p2⟩ := o7.upto (len : Int) len rfl (by omega)
    rw [cut_whole s4.1] at p1 p2
    go_wp2_with fail
    refine (eq_yes _ _ _ _ _ _ _ _ p1 s4 (by omega)).mono ?_
    rintro e w' ⟨rfl, n8, rfl⟩
    go_wp2_with fail
    refine (eq_yes _ _ _ _ _ _ _ _ (p2.drewN _) (s4.drewN _) (by omega)).mono ?_
    rintro e w' ⟨rfl, n9, rfl⟩
    go_wp2_with fail
    refine (eq_any _ _ _ _ _ _ _ _ _ (o6.drewN _) (o7.drewN _) (by omega) (by omega)).mono ?_
    rintro e w' ⟨rfl, n10, rfl⟩
    rw [tell_other l ra rb da db HR.out]
    go_wp2
    go_ret
    exact ⟨ret_bool (by simp), bdrewN B7d _⟩

/-- Whatever the input. -/
theorem tell_any (w : World) (ra rb : Int) (a1 : Option Addr) (la c1 : Nat) (da : List Int) (a3 : Option Addr) (lb c3 : Nat) (db : List Int) (a4 : Option Addr) (len c4 : Nat) (l : List Int)
    (h1 : Sl w a1 la c1 da) (h3 : Sl w a3 lb c3 db) (h4 : Sl w a4 len c4 l) :
    Calls Try.prog 4 #[.int .u8 ra, .slice a1 la c1, .int .u8 rb, .slice a3 lb c3, .slice a4 len c4] w fun e w' => e = .returned (.bool true) ∧ Below w.heap.size w w' := by
  have m1 : la ≤ 9223372036854775807 := by have e1 := h1.2.1; have e2 := h1.2.2.1; unfold maxLen at e2; omega
  have m3 : lb ≤ 9223372036854775807 := by have e1 := h3.2.1; have e2 := h3.2.2.1; unfold maxLen at e2; omega
  have m4 : len ≤ 9223372036854775807 := by have e1 := h4.2.1; have e2 := h4.2.2.1; unfold maxLen at e2; omega
  by_cases f : fit3B la lb len = true
  · by_cases b1 : la ≤ 262144
    · by_cases b2 : lb ≤ 262144
      · by_cases b3 : len ≤ 262144
        · exact tell_main w ra rb a1 la c1 da a3 lb c3 db a4 len c4 l h1 h3 h4 b1 b2 b3
        · skip
          clear h1 h3 h4
          go_enter Try.func4, Try.ntmps4
          go_wp2_with fail
          refine (bytes3_any _ _ _ _ _ _ _ _ _ _ _ _ (by omega) (by omega) (by omega)).mono ?_
          rintro e w' ⟨rfl, rfl⟩
          rw [f]
          go_wp2
          go_ret
          exact ⟨rfl, Below.refl _ _⟩
      · skip
        clear h1 h3 h4
        go_enter Try.func4, Try.ntmps4
        go_wp2_with fail
        refine (bytes3_any _ _ _ _ _ _ _ _ _ _ _ _ (by omega) (by omega) (by omega)).mono ?_
        rintro e w' ⟨rfl, rfl⟩
        rw [f]
        go_wp2
        go_ret
        exact ⟨rfl, Below.refl _ _⟩
    · skip
      clear h1 h3 h4
      go_enter Try.func4, Try.ntmps4
      go_wp2_with fail
      refine (bytes3_any _ _ _ _ _ _ _ _ _ _ _ _ (by omega) (by omega) (by omega)).mono ?_
      rintro e w' ⟨rfl, rfl⟩
      rw [f]
      go_wp2
      go_ret
      exact ⟨rfl, Below.refl _ _⟩
  · have f0 : fit3B la lb len = false := by simpa using f
    clear f
    clear h1 h3 h4
    go_enter Try.func4, Try.ntmps4
    go_wp2_with fail
    refine (bytes3_any _ _ _ _ _ _ _ _ _ _ _ _ (by omega) (by omega) (by omega)).mono ?_
    rintro e w' ⟨rfl, rfl⟩
    rw [f0]
    go_wp2
    go_ret
    exact ⟨rfl, Below.refl _ _⟩
end Go.Proofs.Qxb6614709a
