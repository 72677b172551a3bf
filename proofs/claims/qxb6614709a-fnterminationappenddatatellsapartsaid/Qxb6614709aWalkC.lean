import Derived.Test.Qxb6614709aWalkB
import Derived.Test.Qxb6614709aCuts
namespace Go.Proofs.Qxb6614709a
open Go.RowKit

theorem bnext {B : Nat} {w w1 w2 : World} (h : Below B w w1) (hB : B ≤ w.heap.size) (h2 : Below w1.heap.size w1 w2) : Below B w w2 :=
  h.trans (h2.mono (Nat.le_trans hB h.size))

theorem bdrewN {B : Nat} {w w1 : World} (h : Below B w w1) (n : Nat) : Below B w (w1.drewN n) := h.trans ⟨rfl, rfl, rfl, Nat.le_refl _, fun _ _ => rfl⟩

theorem below_box (w : World) (o : Obj) : Below w.heap.size w (w.alloc o) := (Below.refl _ _).alloc (Nat.le_refl _) _

theorem box_at0 (w : World) (u v : Value) (e : TypeId) : (w.alloc (.cells #[u, v] e)).cell? ⟨w.heap.size, 0, none⟩ = some u := by simp
theorem box_at1 (w : World) (u v : Value) (e : TypeId) : (w.alloc (.cells #[u, v] e)).cell? ⟨w.heap.size, 1, none⟩ = some v := by simp

theorem cut_take {l : List Int} {len : Nat} (hl : l.length = len) (t : List Int) {k : Nat} (hk : k ≤ len) : (l ++ t).take k = l.take k := List.take_append_of_le_length (by omega)
theorem cut_drop {l : List Int} {len : Nat} (hl : l.length = len) (t : List Int) {k : Nat} (hk : k ≤ len) : (l ++ t).drop k = l.drop k ++ t := List.drop_append_of_le_length (by omega)
theorem cut_mid {l : List Int} {len : Nat} (hl : l.length = len) {r : Int} {t : List Int} : (l ++ r :: t).getD len 0 = r := by
  rw [← hl]; simp [List.getD]
theorem cut_whole {l : List Int} {len : Nat} (hl : l.length = len) {t : List Int} : (l ++ t).take len = l := by rw [← hl]; exact List.take_left
theorem cut_rest {l : List Int} {len : Nat} (hl : l.length = len) {r : Int} {t : List Int} : (l ++ r :: t).drop (len + 1) = t := by
  rw [← hl, List.drop_append]; simp

set_option maxHeartbeats 2000000 in
theorem cut_main (w : World) (r : Int) (ad : Option Addr) (ld cd : Nat) (dl : List Int) (a : Option Addr) (len cap : Nat) (l : List Int) (k : Nat)
    (hd : Sl w ad ld cd dl) (h : Sl w a len cap l) (b1 : ld ≤ 524288) (b2 : len ≤ 524288) (b3 : k ≤ len) (b4 : ld + len ≤ 1048576) :
    Calls Try.prog 3 #[.int .u8 r, .slice ad ld cd, .slice a len cap, .int .i64 k] w fun e w' => e = .returned (.bool true) ∧ Below w.heap.size w w' := by
  have ef : fitB ld len = true := by simp [fitB]; omega
  go_enter Try.func3, Try.ntmps3
  go_wp2_with fail
  refine (bytes_any _ _ _ _ _ _ _ _ _ (by omega) (by omega)).mono ?_
  rintro e w' ⟨rfl, rfl⟩
  rw [ef]
  go_wp2_with fail
  -- data = zzClone(data)
  refine (clone_any _ _ _ _ dl hd (by omega)).mono ?_
  rintro e w1 ⟨a1, rfl, s1, hb⟩
  have q1 := h.below hb
  have B1 := hb
  clear hd h
  go_wp2_with fail
  -- dst = zzClone(dst)
  refine (clone_any _ _ _ _ l q1 (by omega)).mono ?_
  rintro e w2 ⟨a2, rfl, s2, hb⟩
  replace s1 := s1.below hb
  have B2 := bnext B1 (Nat.le_refl _) hb
  clear q1 B1
  go_wp2_with fail
  -- keepData := zzClone(data)
  refine (clone_any _ _ _ _ dl s1 (by omega)).mono ?_
  rintro e w3 ⟨a3, rfl, s3, hb⟩
  replace s1 := s1.below hb
  replace s2 := s2.below hb
  have B3 := bnext B2 (Nat.le_refl _) hb
  clear B2 hb
  go_wp2_with fail
  -- keepDst := zzClone(dst)
  refine (clone_any _ _ _ _ l s2 (by omega)).mono ?_
  rintro e w4 ⟨a4, rfl, s4, hb⟩
  replace s1 := s1.below hb
  replace s2 := s2.below hb
  replace s3 := s3.below hb
  have B4 := bnext B3 (Nat.le_refl _) hb
  clear B3 hb
  go_wp2_with fail
  -- zzClone(data)
  refine (clone_any _ _ _ _ dl s1 (by omega)).mono ?_
  rintro e w5 ⟨a5, rfl, s5, hb⟩
  replace s1 := s1.below hb
  replace s2 := s2.below hb
  replace s3 := s3.below hb
  replace s4 := s4.below hb
  have B5 := bnext B4 (Nat.le_refl _) hb
  clear B4 hb
  go_wp2_with fail
  -- zzClone(dst), the struct boxed
  have hbx := below_box w5 (.cells #[.int .u8 r, .slice a5 ld ld] 28)
  have x0 := box_at0 w5 (.int .u8 r) (.slice a5 ld ld) 28
  have x1 := box_at1 w5 (.int .u8 r) (.slice a5 ld ld) 28
  replace s1 := s1.below hbx
  replace s2 := s2.below hbx
  replace s3 := s3.below hbx
  replace s4 := s4.below hbx
  replace s5 := s5.below hbx
  have B5' := bnext B5 (Nat.le_refl _) hbx
  clear B5 hbx
  have X0 : Hid _ := x0
  have X1 : Hid _ := x1
  clear x0 x1
  refine (clone_any _ _ _ _ l s2 (by omega)).mono ?_
  rintro e w6 ⟨a6, rfl, s6, hb⟩
  have X := kept_two X0.out X1.out hb
  replace s1 := s1.below hb
  replace s2 := s2.below hb
  replace s3 := s3.below hb
  replace s4 := s4.below hb
  replace s5 := s5.below hb
  have B6 := bnext B5' (Nat.le_refl _) hb
  clear B5' hb X0 X1
  have XH : Hid _ := X
  clear X
  go_wp2_with fail
  -- whole
  refine (zzappend_any _ _ r _ _ _ dl _ _ _ l XH.out.1 XH.out.2 s5 s6 rfl (by omega) (by omega)).mono ?_
  rintro e w7 ⟨a7, c7, rfl, s7, hb⟩
  replace s1 := s1.below hb
  replace s2 := s2.below hb
  replace s3 := s3.below hb
  replace s4 := s4.below hb
  have B7 := bnext B6 (Nat.le_refl _) hb
  clear B6 hb s5 s6 XH
  -- tail
  obtain ⟨a8, g8, s8⟩ := s2.from (k : Int) k rfl b3
  go_wp2_with fail
  refine (clone_any _ _ _ _ (l.drop k) s8 (by omega)).mono ?_
  rintro e w9 ⟨a9, rfl, s9, hb⟩
  replace s1 := s1.below hb
  replace s2 := s2.below hb
  replace s3 := s3.below hb
  replace s4 := s4.below hb
  replace s7 := s7.below hb
  have B9 := bnext B7 (Nat.le_refl _) hb
  clear B7 hb s8 g8
  go_wp2_with fail
  refine (clone_any _ _ _ _ dl s1 (by omega)).mono ?_
  rintro e w10 ⟨a10, rfl, s10, hb⟩
  replace s3 := s3.below hb
  replace s4 := s4.below hb
  replace s7 := s7.below hb
  replace s9 := s9.below hb
  have B10 := bnext B9 (Nat.le_refl _) hb
  clear B9 hb s1 s2
  have hbx := below_box w10 (.cells #[.int .u8 r, .slice a10 ld ld] 28)
  have x0 := box_at0 w10 (.int .u8 r) (.slice a10 ld ld) 28
  have x1 := box_at1 w10 (.int .u8 r) (.slice a10 ld ld) 28
  replace s3 := s3.below hbx
  replace s4 := s4.below hbx
  replace s7 := s7.below hbx
  replace s9 := s9.below hbx
  replace s10 := s10.below hbx
  have B10' := bnext B10 (Nat.le_refl _) hbx
  have X0 : Hid _ := x0
  have X1 : Hid _ := x1
  clear B10 hbx x0 x1
  go_wp2_with fail
  refine (zzappend_any _ _ r _ _ _ dl _ _ _ (l.drop k) X0.out X1.out s10 s9 rfl (by omega) (by omega)).mono ?_
  rintro e w11 ⟨a11, c11, rfl, s11, hb⟩
  replace s3 := s3.below hb
  replace s4 := s4.below hb
  replace s7 := s7.below hb
  have B11 := bnext B10' (Nat.le_refl _) hb
  clear B10' hb X0 X1 s9 s10
  obtain ⟨b7, o7, rfl, hb7, hc7⟩ := s7.at (by omega)
  have hc := hc7 len (by omega)
  rw [cut_mid s4.1] at hc
  clear hc7 hb7
  obtain ⟨u1, g1, t1⟩ := s7.upto (k : Int) k rfl (by omega)
  obtain ⟨u2, g2, t2⟩ := s4.upto (k : Int) k rfl (by omega)
  obtain ⟨u3, g3, t3⟩ := s7.from (k : Int) k rfl (by omega)
  obtain ⟨u4, g4, t4⟩ := s7.upto (len : Int) len rfl (by omega)
  obtain ⟨u5, g5, t5⟩ := s7.from ((len : Int) + 1) (len + 1) (by omega) (by omega)
  have hl : l.length = len := s4.1
  rw [cut_take hl (r :: dl) b3] at t1
  rw [cut_drop hl (r :: dl) b3] at t3
  rw [cut_whole hl] at t4
  rw [cut_rest hl, show len + 1 + ld - (len + 1) = ld by omega] at t5
  clear hl
  go_wp2_with fail
  go_quiet ((go_at_call 8; exact Calls.quiet_of (eq_yes _ _ _ _ _ _ _ _ (t1.drewN _) (t2.drewN _) (by omega))))
  go_wp2_with fail
  refine (eq_yes _ _ _ _ _ _ _ _ (t3.drewN _) (s11.drewN _) (by omega)).mono ?_
  rintro e w12 ⟨rfl, n12, rfl⟩
  go_wp2_with fail
  refine (eq_yes _ _ _ _ _ _ _ _ (t4.drewN _) (s4.drewN _) (by omega)).mono ?_
  rintro e w12 ⟨rfl, n13, rfl⟩
  have hneq : (r != r) = false := by simp
  go_wp2_with fail
  refine (eq_yes _ _ _ _ _ _ _ _ (t5.drewN _) (s3.drewN _) (by omega)).mono ?_
  rintro e w12 ⟨rfl, n14, rfl⟩
  go_wp2
  go_ret
  exact ⟨rfl, bdrewN B11 _⟩

/-- Whatever the input. -/
theorem cut_any (w : World) (r : Int) (ad : Option Addr) (ld cd : Nat) (dl : List Int) (a : Option Addr) (len cap : Nat) (l : List Int) (k : Int)
    (hd : Sl w ad ld cd dl) (h : Sl w a len cap l) :
    Calls Try.prog 3 #[.int .u8 r, .slice ad ld cd, .slice a len cap, .int .i64 k] w fun e w' => e = .returned (.bool true) ∧ Below w.heap.size w w' := by
  have m1 : ld ≤ 9223372036854775807 := by have h1 := hd.2.1; have h2 := hd.2.2.1; unfold maxLen at h2; omega
  have m2 : len ≤ 9223372036854775807 := by have h1 := h.2.1; have h2 := h.2.2.1; unfold maxLen at h2; omega
  by_cases f : fitB ld len = true
  · have f' : ld ≤ 1048576 ∧ len ≤ 1048576 ∧ ld + len ≤ 1048576 := by simpa [fitB] using f
    obtain ⟨f1, f2, f3⟩ := f'
    by_cases b1 : ld ≤ 524288
    · by_cases b2 : len ≤ 524288
      · by_cases b3 : 0 ≤ k
        · by_cases b4 : k ≤ (len : Int)
          · obtain ⟨n, rfl⟩ := Int.eq_ofNat_of_zero_le b3
            exact cut_main w r ad ld cd dl a len cap l n hd h b1 b2 (by omega) f3
          · clear hd h
            go_enter Try.func3, Try.ntmps3
            go_wp2_with fail
            refine (bytes_any _ _ _ _ _ _ _ _ _ (by omega) (by omega)).mono ?_
            rintro e w' ⟨rfl, rfl⟩
            rw [f]
            go_wp2
            go_ret
            exact ⟨rfl, Below.refl _ _⟩
        · clear hd h
          go_enter Try.func3, Try.ntmps3
          go_wp2_with fail
          refine (bytes_any _ _ _ _ _ _ _ _ _ (by omega) (by omega)).mono ?_
          rintro e w' ⟨rfl, rfl⟩
          rw [f]
          go_wp2
          go_ret
          exact ⟨rfl, Below.refl _ _⟩
      · clear hd h
        go_enter Try.func3, Try.ntmps3
        go_wp2_with fail
        refine (bytes_any _ _ _ _ _ _ _ _ _ (by omega) (by omega)).mono ?_
        rintro e w' ⟨rfl, rfl⟩
        rw [f]
        go_wp2
        go_ret
        exact ⟨rfl, Below.refl _ _⟩
    · clear hd h
      go_enter Try.func3, Try.ntmps3
      go_wp2_with fail
      refine (bytes_any _ _ _ _ _ _ _ _ _ (by omega) (by omega)).mono ?_
      rintro e w' ⟨rfl, rfl⟩
      rw [f]
      go_wp2
      go_ret
      exact ⟨rfl, Below.refl _ _⟩
  · have f0 : fitB ld len = false := by simpa using f
    clear hd h f
    go_enter Try.func3, Try.ntmps3
    go_wp2_with fail
    refine (bytes_any _ _ _ _ _ _ _ _ _ (by omega) (by omega)).mono ?_
    rintro e w' ⟨rfl, rfl⟩
    rw [f0]
    go_wp2
    go_ret
    exact ⟨rfl, Below.refl _ _⟩
end Go.Proofs.Qxb6614709a
