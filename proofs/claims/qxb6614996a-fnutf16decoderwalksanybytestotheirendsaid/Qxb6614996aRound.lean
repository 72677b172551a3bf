import Derived.Test.Qxb6614996aPlain
namespace Go.Proofs.Qxb6614996a
open Go.RowKit

theorem encL_len (big : Bool) (c : Int) : (encL big c).length ≤ 4 := by
  unfold encL
  split
  · rw [ub_len]; omega
  · rw [List.length_append, ub_len, ub_len]; omega

set_option maxHeartbeats 2000000 in
set_option maxRecDepth 100000 in
theorem walk_le (w : World) (a : Option Addr) (len cap : Nat) (l : List Int) (hs : Sl w a len cap l) (hy : By l) (hl : len ≤ 1048576) :
    Calls Try.prog 11 #[.slice a len cap, .bool false] w fun e w' => e = .returned (.bool true) ∧ Below w.heap.size w w' := by
  have HS : Hid (Sl w a len cap l) := hs
  have HY : Hid (By l) := hy
  have HL : Hid (l.length = len) := hs.1
  clear hs hy
  go_enter Try.func11, Try.ntmps11
  go_wp2
  go_loopw [5] (fun i wr => ∃ k : Nat, k ≤ len ∧ i = .int .i64 k ∧ Below w.heap.size w wr) (fun i _ => len - (intOf i).toNat)
  case atStart => exact ⟨0, Nat.zero_le _, rfl, Below.refl _ _⟩
  case round =>
    obtain ⟨k, hk, rfl, hB⟩ := hrel
    by_cases hlt : k < len
    · have hs0 := HS.out.below hB
      obtain ⟨A, q1, t1⟩ := hs0.from (k : Int) k rfl hk
      have T1 : Hid (Sl wr A (len - k) (cap - k) (l.drop k)) := t1
      have HS0 : Hid (Sl wr a len cap l) := hs0
      clear t1 hs0
      have hdl : (l.drop k).length = len - k := by rw [List.length_drop, HL.out]
      rcases dec_cases false (l.drop k) (HY.out.drop k) (by omega) with ⟨eR, eN, hn⟩ | ⟨eR, eN, hn⟩ | ⟨R, eR, eN, hn, r0, r1, hv, he⟩ | ⟨R, eR, eN, hn, r0, r1, hv, he⟩
      all_goals
        rw [hdl] at hn
        clear hdl
        have ER : Hid _ := eR
        have EN : Hid _ := eN
        clear eR eN
      · have hke : (((k : Int) + 1) == (len : Int)) = true := by rw [beq_iff_eq]; omega
        have hn' : len ≤ k + 1 := by omega
        clear hn
        go_wp2_with fail
        refine (le_any _ _ _ _ _ T1.out (HY.out.drop k)).mono ?_
        rintro e w1 ⟨rfl, hb1⟩
        rw [ER.out, EN.out]
        have hB1 := bnext hB (Nat.le_refl _) hb1
        clear hB hb1 q1 ER EN T1 HS0
        go_wp2
        go_roundw
        case rel => exact ⟨k + 1, by omega, by go_num, hB1⟩
        case measure => simp [intOf]; omega
      · go_wp2_with fail
        refine (le_any _ _ _ _ _ T1.out (HY.out.drop k)).mono ?_
        rintro e w1 ⟨rfl, hb1⟩
        rw [ER.out, EN.out]
        have hB1 := bnext hB (Nat.le_refl _) hb1
        clear hB hb1 q1 ER EN T1 HS0
        go_wp2
        go_roundw
        case rel => exact ⟨k + 2, by omega, by go_num, hB1⟩
        case measure => simp [intOf]; omega
      · have HV : Hid _ := hv
        have HE : Hid _ := he
        clear hv he
        go_wp2_with fail
        refine (le_any _ _ _ _ _ T1.out (HY.out.drop k)).mono ?_
        rintro e w1 ⟨rfl, hb1⟩
        rw [ER.out, EN.out]
        have hB1 := bnext hB (Nat.le_refl _) hb1
        have HS1 : Hid (Sl w1 a len cap l) := HS0.out.below hb1
        clear hB hb1 q1 ER EN T1 HS0
        obtain ⟨A2, q2, t2⟩ := HS1.out.mid (k : Int) ((k : Int) + 2) k 2 rfl (by omega) (by omega)
        rw [← HE.out] at t2
        have T2 : Hid (Sl w1 A2 2 (cap - k) (encL false R)) := t2
        have hwk : IntKind.i64.wrap ((k : Int) + 2) = (k : Int) + 2 := by rw [IntKind.wrap_i64]; omega
        clear t2
        go_wp2_with fail
        go_region_held3 (fun _ => True) (trivial)
          (first
            | (go_at_call 14; refine (vs_any _ _).mono ?_; rintro e w3 ⟨rfl, rfl⟩; rw [HV.out])
            | (go_at_call 16; refine (enc16_any _ R false r0 r1).mono ?_; rintro e w4 ⟨a4, n4, c4, rfl, hs4, hb4'⟩; have hb4 := undrew hb4'; clear hb4')
            | (go_at_call 15; refine (eq_yes _ _ _ _ _ _ _ _ hs4 (T2.out.below hb4) (by have h1 := hs4.1; have h2 := encL_len false R; omega)).mono ?_; rintro e w5 ⟨rfl, n5, rfl⟩))
        go_wp2
        go_roundw
        case rel => exact ⟨k + 2, by omega, by go_num, bdrewN (bnext hB1 (Nat.le_refl _) hb4) _⟩
        case measure => simp [intOf]; omega
      · have HV : Hid _ := hv
        have HE : Hid _ := he
        clear hv he
        go_wp2_with fail
        refine (le_any _ _ _ _ _ T1.out (HY.out.drop k)).mono ?_
        rintro e w1 ⟨rfl, hb1⟩
        rw [ER.out, EN.out]
        have hB1 := bnext hB (Nat.le_refl _) hb1
        have HS1 : Hid (Sl w1 a len cap l) := HS0.out.below hb1
        clear hB hb1 q1 ER EN T1 HS0
        obtain ⟨A2, q2, t2⟩ := HS1.out.mid (k : Int) ((k : Int) + 4) k 4 rfl (by omega) (by omega)
        rw [← HE.out] at t2
        have T2 : Hid (Sl w1 A2 4 (cap - k) (encL false R)) := t2
        have hwk : IntKind.i64.wrap ((k : Int) + 4) = (k : Int) + 4 := by rw [IntKind.wrap_i64]; omega
        clear t2
        go_wp2_with fail
        go_region_held3 (fun _ => True) (trivial)
          (first
            | (go_at_call 14; refine (vs_any _ _).mono ?_; rintro e w3 ⟨rfl, rfl⟩; rw [HV.out])
            | (go_at_call 16; refine (enc16_any _ R false r0 r1).mono ?_; rintro e w4 ⟨a4, n4, c4, rfl, hs4, hb4'⟩; have hb4 := undrew hb4'; clear hb4')
            | (go_at_call 15; refine (eq_yes _ _ _ _ _ _ _ _ hs4 (T2.out.below hb4) (by have h1 := hs4.1; have h2 := encL_len false R; omega)).mono ?_; rintro e w5 ⟨rfl, n5, rfl⟩))
        go_wp2
        go_roundw
        case rel => exact ⟨k + 4, by omega, by go_num, bdrewN (bnext hB1 (Nat.le_refl _) hb4) _⟩
        case measure => simp [intOf]; omega
    · go_wp2
      go_ret
      exact ⟨rfl, hB⟩

set_option maxHeartbeats 2000000 in
set_option maxRecDepth 100000 in
theorem walk_be (w : World) (a : Option Addr) (len cap : Nat) (l : List Int) (hs : Sl w a len cap l) (hy : By l) (hl : len ≤ 1048576) :
    Calls Try.prog 11 #[.slice a len cap, .bool true] w fun e w' => e = .returned (.bool true) ∧ Below w.heap.size w w' := by
  have HS : Hid (Sl w a len cap l) := hs
  have HY : Hid (By l) := hy
  have HL : Hid (l.length = len) := hs.1
  clear hs hy
  go_enter Try.func11, Try.ntmps11
  go_wp2
  go_loopw [5] (fun i wr => ∃ k : Nat, k ≤ len ∧ i = .int .i64 k ∧ Below w.heap.size w wr) (fun i _ => len - (intOf i).toNat)
  case atStart => exact ⟨0, Nat.zero_le _, rfl, Below.refl _ _⟩
  case round =>
    obtain ⟨k, hk, rfl, hB⟩ := hrel
    by_cases hlt : k < len
    · have hs0 := HS.out.below hB
      obtain ⟨A, q1, t1⟩ := hs0.from (k : Int) k rfl hk
      have T1 : Hid (Sl wr A (len - k) (cap - k) (l.drop k)) := t1
      have HS0 : Hid (Sl wr a len cap l) := hs0
      clear t1 hs0
      have hdl : (l.drop k).length = len - k := by rw [List.length_drop, HL.out]
      rcases dec_cases true (l.drop k) (HY.out.drop k) (by omega) with ⟨eR, eN, hn⟩ | ⟨eR, eN, hn⟩ | ⟨R, eR, eN, hn, r0, r1, hv, he⟩ | ⟨R, eR, eN, hn, r0, r1, hv, he⟩
      all_goals
        rw [hdl] at hn
        clear hdl
        have ER : Hid _ := eR
        have EN : Hid _ := eN
        clear eR eN
      · have hke : (((k : Int) + 1) == (len : Int)) = true := by rw [beq_iff_eq]; omega
        have hn' : len ≤ k + 1 := by omega
        clear hn
        go_wp2_with fail
        refine (be_any _ _ _ _ _ T1.out (HY.out.drop k)).mono ?_
        rintro e w1 ⟨rfl, hb1⟩
        rw [ER.out, EN.out]
        have hB1 := bnext hB (Nat.le_refl _) hb1
        clear hB hb1 q1 ER EN T1 HS0
        go_wp2
        go_roundw
        case rel => exact ⟨k + 1, by omega, by go_num, hB1⟩
        case measure => simp [intOf]; omega
      · go_wp2_with fail
        refine (be_any _ _ _ _ _ T1.out (HY.out.drop k)).mono ?_
        rintro e w1 ⟨rfl, hb1⟩
        rw [ER.out, EN.out]
        have hB1 := bnext hB (Nat.le_refl _) hb1
        clear hB hb1 q1 ER EN T1 HS0
        go_wp2
        go_roundw
        case rel => exact ⟨k + 2, by omega, by go_num, hB1⟩
        case measure => simp [intOf]; omega
      · have HV : Hid _ := hv
        have HE : Hid _ := he
        clear hv he
        go_wp2_with fail
        refine (be_any _ _ _ _ _ T1.out (HY.out.drop k)).mono ?_
        rintro e w1 ⟨rfl, hb1⟩
        rw [ER.out, EN.out]
        have hB1 := bnext hB (Nat.le_refl _) hb1
        have HS1 : Hid (Sl w1 a len cap l) := HS0.out.below hb1
        clear hB hb1 q1 ER EN T1 HS0
        obtain ⟨A2, q2, t2⟩ := HS1.out.mid (k : Int) ((k : Int) + 2) k 2 rfl (by omega) (by omega)
        rw [← HE.out] at t2
        have T2 : Hid (Sl w1 A2 2 (cap - k) (encL true R)) := t2
        have hwk : IntKind.i64.wrap ((k : Int) + 2) = (k : Int) + 2 := by rw [IntKind.wrap_i64]; omega
        clear t2
        go_wp2_with fail
        go_region_held3 (fun _ => True) (trivial)
          (first
            | (go_at_call 14; refine (vs_any _ _).mono ?_; rintro e w3 ⟨rfl, rfl⟩; rw [HV.out])
            | (go_at_call 16; refine (enc16_any _ R true r0 r1).mono ?_; rintro e w4 ⟨a4, n4, c4, rfl, hs4, hb4'⟩; have hb4 := undrew hb4'; clear hb4')
            | (go_at_call 15; refine (eq_yes _ _ _ _ _ _ _ _ hs4 (T2.out.below hb4) (by have h1 := hs4.1; have h2 := encL_len true R; omega)).mono ?_; rintro e w5 ⟨rfl, n5, rfl⟩))
        go_wp2
        go_roundw
        case rel => exact ⟨k + 2, by omega, by go_num, bdrewN (bnext hB1 (Nat.le_refl _) hb4) _⟩
        case measure => simp [intOf]; omega
      · have HV : Hid _ := hv
        have HE : Hid _ := he
        clear hv he
        go_wp2_with fail
        refine (be_any _ _ _ _ _ T1.out (HY.out.drop k)).mono ?_
        rintro e w1 ⟨rfl, hb1⟩
        rw [ER.out, EN.out]
        have hB1 := bnext hB (Nat.le_refl _) hb1
        have HS1 : Hid (Sl w1 a len cap l) := HS0.out.below hb1
        clear hB hb1 q1 ER EN T1 HS0
        obtain ⟨A2, q2, t2⟩ := HS1.out.mid (k : Int) ((k : Int) + 4) k 4 rfl (by omega) (by omega)
        rw [← HE.out] at t2
        have T2 : Hid (Sl w1 A2 4 (cap - k) (encL true R)) := t2
        have hwk : IntKind.i64.wrap ((k : Int) + 4) = (k : Int) + 4 := by rw [IntKind.wrap_i64]; omega
        clear t2
        go_wp2_with fail
        go_region_held3 (fun _ => True) (trivial)
          (first
            | (go_at_call 14; refine (vs_any _ _).mono ?_; rintro e w3 ⟨rfl, rfl⟩; rw [HV.out])
            | (go_at_call 16; refine (enc16_any _ R true r0 r1).mono ?_; rintro e w4 ⟨a4, n4, c4, rfl, hs4, hb4'⟩; have hb4 := undrew hb4'; clear hb4')
            | (go_at_call 15; refine (eq_yes _ _ _ _ _ _ _ _ hs4 (T2.out.below hb4) (by have h1 := hs4.1; have h2 := encL_len true R; omega)).mono ?_; rintro e w5 ⟨rfl, n5, rfl⟩))
        go_wp2
        go_roundw
        case rel => exact ⟨k + 4, by omega, by go_num, bdrewN (bnext hB1 (Nat.le_refl _) hb4) _⟩
        case measure => simp [intOf]; omega
    · go_wp2
      go_ret
      exact ⟨rfl, hB⟩

theorem bytes10_any (w : World) (a : Option Addr) (len cap : Nat) (h : len ≤ 9223372036854775807) :
    Calls Try.prog 10 #[.slice a len cap] w fun e w' => ∃ b, e = .returned (.bool b) ∧ w = w' := by
  go_enter Try.func10, Try.ntmps10
  go_wp2
  all_goals
    go_ret
    exact ⟨_, rfl, rfl⟩

theorem ends_any (w : World) (a : Option Addr) (len cap : Nat) (l : List Int) (hs : Sl w a len cap l) (hy : By l) :
    Calls Try.prog 4 #[.slice a len cap] w fun e w' => e = .returned (.bool true) ∧ Below w.heap.size w w' := by
  have hm : len ≤ 9223372036854775807 := by have h1 := hs.2.1; have h2 := hs.2.2.1; unfold maxLen at h2; omega
  have HS : Hid (Sl w a len cap l) := hs
  have HY : Hid (By l) := hy
  clear hs hy
  by_cases hl : len ≤ 1048576
  · go_enter Try.func4, Try.ntmps4
    go_wp2_with fail
    refine (bytes10_any _ _ _ _ hm).mono ?_
    rintro e w' ⟨b, rfl, rfl⟩
    cases b
    · go_wp2
      go_ret
      exact ⟨rfl, Below.refl _ _⟩
    · go_wp2_with fail
      refine (walk_le _ _ _ _ l HS.out HY.out hl).mono ?_
      rintro e w1 ⟨rfl, hb1⟩
      go_wp2_with fail
      refine (walk_be _ _ _ _ l (HS.out.below hb1) HY.out hl).mono ?_
      rintro e w2 ⟨rfl, hb2⟩
      go_wp2
      go_ret
      exact ⟨rfl, bnext hb1 (Nat.le_refl _) hb2⟩
  · go_enter Try.func4, Try.ntmps4
    go_wp2_with fail
    refine (bytes10_any _ _ _ _ hm).mono ?_
    rintro e w' ⟨b, rfl, rfl⟩
    cases b
    all_goals
      go_wp2
      go_ret
      exact ⟨rfl, Below.refl _ _⟩
end Go.Proofs.Qxb6614996a
