import Derived.Test.Qxb6614996aPlain
namespace Go.Proofs.Qxb6614996a
open Go.RowKit

theorem encL_len (big : Bool) (c : Int) : (encL big c).length ≤ 4 := by
  unfold encL
  split
  · rw [ub_len]; omega
  · rw [List.length_append, ub_len, ub_len]; omega
theorem undrewN {w w1 : World} {n : Nat} (h : Below (w.drewN n).heap.size (w.drewN n) w1) : Below w.heap.size w w1 := ⟨h.os, h.tape, h.output, h.size, h.block⟩
theorem vs_no (w : World) (c : Int) (h : vs c = false) : Calls Try.prog 14 #[.int .i32 c] w fun e w' => e = .returned (.bool false) ∧ w' = w := by
  have := vs_any w c
  rw [h] at this
  exact this
theorem unit13 (w : World) (x y u : Int) (hu : u = un false x y) (hx : 0 ≤ x ∧ x ≤ 255) (hy : 0 ≤ y ∧ y ≤ 255) :
    Calls Try.prog 13 #[.int .u8 x, .int .u8 y, .bool false] w fun e w' => e = .returned (.int .i32 u) ∧ w' = w := by
  rw [hu]
  exact unit_any w x y false hx hy
theorem ub_un4 (l : List Int) (hy : By l) {u v : Int} (hu : u = un false (l.getD 0 0) (l.getD 1 0)) (hv : v = un false (l.getD 2 0) (l.getD 3 0)) : ub false u ++ ub false v = [l.getD 0 0, l.getD 1 0, l.getD 2 0, l.getD 3 0] := by
  rw [hu, hv, ub_un false _ _ (hy 0) (hy 1), ub_un false _ _ (hy 2) (hy 3)]
  rfl
theorem ub_inj {a b u v : Int} (h : ub false a ++ ub false b = ub false u ++ ub false v) : a = u ∧ b = v := by
  simp [ub] at h
  omega

set_option maxHeartbeats 1000000 in
theorem expect_short (w : World) (a : Option Addr) (len cap : Nat) (l : List Int) (h : len < 2) (hl : l.length = len) :
    Calls Try.prog 9 #[.slice a len cap, .bool false] w fun e w' => e = .returned (.tuple #[.int .i32 (decR false l), .int .i64 (decN false l)]) ∧ Below w.heap.size w w' := by
  rw [decR_short _ _ (by omega), decN_short _ _ (by omega), hl]
  clear hl
  go_enter Try.func9, Try.ntmps9
  go_wp2
  go_ret2
  exact ⟨rfl, Below.refl _ _⟩

set_option maxHeartbeats 1000000 in
theorem expect_plain (w : World) (b off len cap : Nat) (l : List Int) (hs : Sl w (some ⟨b, off, none⟩) len cap l) (hy : By l) (h2 : 2 ≤ len) (hl : len ≤ 1048576) (u : Int) (hu : u = un false (l.getD 0 0) (l.getD 1 0)) (hsu : su u = false) :
    Calls Try.prog 9 #[.slice (some ⟨b, off, none⟩) len cap, .bool false] w fun e w' => e = .returned (.tuple #[.int .i32 (decR false l), .int .i64 (decN false l)]) ∧ Below w.heap.size w w' := by
  have hlen := hs.1
  rw [decR_plain false l (by omega) hu hsu, decN_plain false l (by omega) hu hsu]
  obtain ⟨b', off', e, hbb, hc⟩ := hs.at (by omega)
  obtain ⟨rfl, rfl⟩ : b = b' ∧ off = off' := by simpa using e
  clear e
  have hr0 := hy 0
  have hr1 := hy 1
  obtain ⟨x, X⟩ : ∃ x, Hid (x = l.getD 0 0) := ⟨_, rfl⟩
  obtain ⟨y, Y⟩ : ∃ y, Hid (y = l.getD 1 0) := ⟨_, rfl⟩
  have c0 : w.cell? ⟨b, off, none⟩ = some (.int .u8 x) := by rw [X.out]; exact hc 0 (by omega)
  have c1 : w.cell? ⟨b, off + 1, none⟩ = some (.int .u8 y) := by rw [Y.out]; exact hc 1 (by omega)
  have HE : Hid (encL false u = l.take 2) := by
    show encL false u = l.take 2
    have hub := ub_un false _ _ hr0 hr1
    have ubd := un_bd false _ _ hr0 hr1
    rw [← hu] at hub ubd
    rw [take2 l (by omega), encL, if_pos (by omega), hub]
  rw [← X.out] at hr0 hu
  rw [← Y.out] at hr1 hu
  have ubd := un_bd false x y hr0 hr1
  rw [← hu] at ubd
  have U : Hid (u = un false x y) := hu
  have i0 : (0 : Int) < (len : Int) := by omega
  have i1 : (1 : Int) < (len : Int) := by omega
  obtain ⟨u0, u1⟩ := ubd
  have hs' : ¬ (55296 ≤ u ∧ u < 57344) := by simpa [su] using hsu
  have HV : Hid (vs u = true) := by show vs u = true; simp [vs]; omega
  obtain ⟨A2, q2, t2⟩ := hs.upto 2 2 rfl h2
  rw [← HE.out] at t2
  have T2 : Hid (Sl w A2 2 cap (encL false u)) := t2
  clear hs hy hlen hc hu hsu hs' t2
  go_enter Try.func9, Try.ntmps9
  go_wp2_with fail
  go_quiet ((go_at_call 13; exact Calls.quiet_of_same (unit_any _ x y false hr0 hr1)))
  rw [← U.out]
  go_wp2_with fail
  go_region_held3 (fun _ => True) (trivial)
    (first
      | (go_at_call 14; refine (vs_any _ _).mono ?_; rintro e w3 ⟨rfl, rfl⟩; rw [HV.out])
      | (go_at_call 16; refine (enc16_any _ u false u0 (by omega)).mono ?_; rintro e w4 ⟨a4, n4, c4, rfl, hs4, hb4⟩)
      | (go_at_call 15; refine (eq_yes _ _ _ _ _ _ _ _ hs4 (T2.out.below (undrewN hb4)) (by have h1 := hs4.1; have h2 := encL_len false u; omega)).mono ?_; rintro e w5 ⟨rfl, n5, rfl⟩))
  go_wp2
  go_ret2
  exact ⟨rfl, bdrewN (undrewN hb4) _⟩

set_option maxHeartbeats 1000000 in
theorem expect_cut (w : World) (b off len cap : Nat) (l : List Int) (hs : Sl w (some ⟨b, off, none⟩) len cap l) (hy : By l) (h2 : 2 ≤ len) (h4 : len < 4) (u : Int) (hu : u = un false (l.getD 0 0) (l.getD 1 0)) (hsu : su u = true) :
    Calls Try.prog 9 #[.slice (some ⟨b, off, none⟩) len cap, .bool false] w fun e w' => e = .returned (.tuple #[.int .i32 (decR false l), .int .i64 (decN false l)]) ∧ Below w.heap.size w w' := by
  have hlen := hs.1
  rw [decR_cut false l (by omega) (by omega) hu hsu, decN_cut false l (by omega) (by omega) hu hsu]
  obtain ⟨b', off', e, hbb, hc⟩ := hs.at (by omega)
  obtain ⟨rfl, rfl⟩ : b = b' ∧ off = off' := by simpa using e
  clear e
  have hr0 := hy 0
  have hr1 := hy 1
  obtain ⟨x, X⟩ : ∃ x, Hid (x = l.getD 0 0) := ⟨_, rfl⟩
  obtain ⟨y, Y⟩ : ∃ y, Hid (y = l.getD 1 0) := ⟨_, rfl⟩
  have c0 : w.cell? ⟨b, off, none⟩ = some (.int .u8 x) := by rw [X.out]; exact hc 0 (by omega)
  have c1 : w.cell? ⟨b, off + 1, none⟩ = some (.int .u8 y) := by rw [Y.out]; exact hc 1 (by omega)
  rw [← X.out] at hr0 hu
  rw [← Y.out] at hr1 hu
  have ubd := un_bd false x y hr0 hr1
  rw [← hu] at ubd
  have U : Hid (u = un false x y) := hu
  have i0 : (0 : Int) < (len : Int) := by omega
  have i1 : (1 : Int) < (len : Int) := by omega
  obtain ⟨u0, u1⟩ := ubd
  have hs' : 55296 ≤ u ∧ u < 57344 := by simpa [su] using hsu
  have HV : Hid (vs u = false) := by show vs u = false; simp [vs]; omega
  clear hs hy hlen hc hu hsu hs'
  go_enter Try.func9, Try.ntmps9
  go_wp2_with fail
  go_quiet ((go_at_call 13; exact Calls.quiet_of_same (unit_any _ x y false hr0 hr1)))
  rw [← U.out]
  have hBq : Below w.heap.size w (w.drewN nq) := bdrewN (Below.refl _ _) _
  generalize w.drewN nq = wq at *
  go_wp2_with fail
  go_quiet ((go_at_call 14; exact Calls.quiet_of_same (vs_no _ _ HV.out)))
  go_wp2
  go_ret2
  exact ⟨rfl, bdrewN hBq _⟩

set_option maxHeartbeats 2000000 in
theorem expect_pair (w : World) (b off len cap : Nat) (l : List Int) (hs : Sl w (some ⟨b, off, none⟩) len cap l) (hy : By l) (h4 : 4 ≤ len) (hl : len ≤ 1048576) (u v : Int) (hu : u = un false (l.getD 0 0) (l.getD 1 0)) (hv : v = un false (l.getD 2 0) (l.getD 3 0)) (hsu : su u = true) (hpr : pr u v = true) :
    Calls Try.prog 9 #[.slice (some ⟨b, off, none⟩) len cap, .bool false] w fun e w' => e = .returned (.tuple #[.int .i32 (decR false l), .int .i64 (decN false l)]) ∧ Below w.heap.size w w' := by
  have hlen := hs.1
  rw [decR_pair false l (by omega) hu hv hsu hpr, decN_pair false l (by omega) hu hv hsu hpr]
  have bu := un_bd false _ _ (hy 0) (hy 1)
  have bv := un_bd false _ _ (hy 2) (hy 3)
  rw [← hu] at bu
  rw [← hv] at bv
  obtain ⟨c, Cc⟩ : ∃ c, c = 65536 + u % 1024 * 1024 + v % 1024 := ⟨_, rfl⟩
  have hs' : 55296 ≤ u ∧ u < 57344 := by simpa [su] using hsu
  have HE : Hid (eqB (encL false c) (l.take 4) = true) := by
    show eqB (encL false c) (l.take 4) = true
    have hp' : 55296 ≤ u ∧ u < 56320 ∧ 56320 ≤ v ∧ v < 57344 := by simpa [pr] using hpr
    have e5 : 55296 + (c - 65536) / 1024 = u := by rw [Cc]; omega
    have e6 : 56320 + (c - 65536) % 1024 = v := by rw [Cc]; omega
    rw [take4 l (by omega), encL, if_neg (by rw [Cc]; omega), e5, e6, ub_un4 l hy hu hv, eqB, decide_eq_true rfl]
  have HD : Hid (c = dr u v) := by
    show c = dr u v
    have hp' : 55296 ≤ u ∧ u < 56320 ∧ 56320 ≤ v ∧ v < 57344 := by simpa [pr] using hpr
    rw [Cc]; simp [dr, hpr]; omega
  rw [← HD.out]
  have HV : Hid (vs u = false) := by show vs u = false; simp [vs]; omega
  have HC : Hid (vs c = true) := by show vs c = true; simp [vs]; omega
  have b0 : 0 ≤ c := by omega
  have b1 : c ≤ 1114111 := by omega
  have CC : Hid (c = 65536 + u % 1024 * 1024 + v % 1024) := Cc
  clear Cc bu bv
  obtain ⟨b', off', e, hbb, hc⟩ := hs.at (by omega)
  obtain ⟨rfl, rfl⟩ : b = b' ∧ off = off' := by simpa using e
  clear e
  have hr0 := hy 0
  have hr1 := hy 1
  obtain ⟨x, X⟩ : ∃ x, Hid (x = l.getD 0 0) := ⟨_, rfl⟩
  obtain ⟨y, Y⟩ : ∃ y, Hid (y = l.getD 1 0) := ⟨_, rfl⟩
  have c0 : w.cell? ⟨b, off, none⟩ = some (.int .u8 x) := by rw [X.out]; exact hc 0 (by omega)
  have c1 : w.cell? ⟨b, off + 1, none⟩ = some (.int .u8 y) := by rw [Y.out]; exact hc 1 (by omega)
  have hr2 := hy 2
  have hr3 := hy 3
  obtain ⟨z, Z⟩ : ∃ z, Hid (z = l.getD 2 0) := ⟨_, rfl⟩
  obtain ⟨t, T⟩ : ∃ t, Hid (t = l.getD 3 0) := ⟨_, rfl⟩
  have c2 : w.cell? ⟨b, off + 2, none⟩ = some (.int .u8 z) := by rw [Z.out]; exact hc 2 (by omega)
  have c3 : w.cell? ⟨b, off + 3, none⟩ = some (.int .u8 t) := by rw [T.out]; exact hc 3 (by omega)
  rw [← X.out] at hr0 hu
  rw [← Y.out] at hr1 hu
  have ubd := un_bd false x y hr0 hr1
  rw [← hu] at ubd
  have U : Hid (u = un false x y) := hu
  have i0 : (0 : Int) < (len : Int) := by omega
  have i1 : (1 : Int) < (len : Int) := by omega
  obtain ⟨u0, u1⟩ := ubd
  rw [← Z.out] at hr2 hv
  rw [← T.out] at hr3 hv
  have vbd := un_bd false z t hr2 hr3
  rw [← hv] at vbd
  have V : Hid (v = un false z t) := hv
  have i2 : (2 : Int) < (len : Int) := by omega
  have i3 : (3 : Int) < (len : Int) := by omega
  obtain ⟨v0, v1⟩ := vbd
  have ha1 := i32_and10 u u0 (by omega)
  have ha2 := i32_and10 v v0 (by omega)
  obtain ⟨A2, q2, t2⟩ := hs.upto 4 4 rfl h4
  have T2 : Hid (Sl w A2 4 cap (l.take 4)) := t2
  clear hs hy hlen hc hu hv hsu hpr hs' t2
  go_enter Try.func9, Try.ntmps9
  go_wp2_with fail
  go_quiet ((go_at_call 13; exact Calls.quiet_of_same (unit_any _ x y false hr0 hr1)))
  rw [← U.out]
  have hBq : Below w.heap.size w (w.drewN nq) := bdrewN (Below.refl _ _) _
  have d2 : (w.drewN nq).cell? ⟨b, off + 2, none⟩ = some (.int .u8 z) := c2
  have d3 : (w.drewN nq).cell? ⟨b, off + 3, none⟩ = some (.int .u8 t) := c3
  generalize w.drewN nq = wq at *
  clear c0 c1 c2 c3
  go_wp2_with fail
  go_quiet ((go_at_call 14; exact Calls.quiet_of_same (vs_no _ _ HV.out)))
  have hBr : Below w.heap.size w (wq.drewN nq) := bdrewN hBq _
  have f2 : (wq.drewN nq).cell? ⟨b, off + 2, none⟩ = some (.int .u8 z) := d2
  have f3 : (wq.drewN nq).cell? ⟨b, off + 3, none⟩ = some (.int .u8 t) := d3
  clear d2 d3 hBq
  generalize wq.drewN nq = wr at *
  go_wp2_with fail
  go_quiet ((go_at_call 13; exact Calls.quiet_of_same (unit13 _ z t v V.out hr2 hr3)))
  rw [← CC.out]
  have hBs : Below w.heap.size w (wr.drewN nq) := bdrewN hBr _
  clear f2 f3 hBr ha1 ha2
  generalize wr.drewN nq = ws at *
  go_wp2_with fail
  go_region_held3 (fun _ => True) (trivial)
    (first
      | (go_at_call 14; refine (vs_any _ _).mono ?_; rintro e w3 ⟨rfl, rfl⟩; rw [HC.out])
      | (go_at_call 16; refine (enc16_any _ c false b0 b1).mono ?_; rintro e w4 ⟨a4, n4, c4, rfl, hs4, hb4'⟩; have hb4 := bnext hBs (Nat.le_refl _) (undrew hb4'); clear hb4')
      | (go_at_call 15; refine (eq_any _ _ _ _ _ _ _ _ _ hs4 (T2.out.below hb4) (by have h1 := hs4.1; have h2 := encL_len false c; omega) (by omega)).mono ?_; rintro e w5 ⟨rfl, n5, rfl⟩; rw [HE.out]))
  go_wp2
  go_ret2
  exact ⟨rfl, bdrewN hb4 _⟩

set_option maxHeartbeats 2000000 in
theorem expect_bad (w : World) (b off len cap : Nat) (l : List Int) (hs : Sl w (some ⟨b, off, none⟩) len cap l) (hy : By l) (h4 : 4 ≤ len) (hl : len ≤ 1048576) (u v : Int) (hu : u = un false (l.getD 0 0) (l.getD 1 0)) (hv : v = un false (l.getD 2 0) (l.getD 3 0)) (hsu : su u = true) (hpr : pr u v = false) :
    Calls Try.prog 9 #[.slice (some ⟨b, off, none⟩) len cap, .bool false] w fun e w' => e = .returned (.tuple #[.int .i32 (decR false l), .int .i64 (decN false l)]) ∧ Below w.heap.size w w' := by
  have hlen := hs.1
  rw [decR_bad false l (by omega) hu hv hsu hpr, decN_bad false l (by omega) hu hv hsu hpr]
  have bu := un_bd false _ _ (hy 0) (hy 1)
  have bv := un_bd false _ _ (hy 2) (hy 3)
  rw [← hu] at bu
  rw [← hv] at bv
  obtain ⟨c, Cc⟩ : ∃ c, c = 65536 + u % 1024 * 1024 + v % 1024 := ⟨_, rfl⟩
  have hs' : 55296 ≤ u ∧ u < 57344 := by simpa [su] using hsu
  have HE : Hid (eqB (encL false c) (l.take 4) = false) := by
    show eqB (encL false c) (l.take 4) = false
    have hp' : ¬ (55296 ≤ u ∧ u < 56320 ∧ 56320 ≤ v ∧ v < 57344) := by simpa [pr] using hpr
    have e5 : 55296 + (c - 65536) / 1024 = 55296 + u % 1024 := by rw [Cc]; omega
    have e6 : 56320 + (c - 65536) % 1024 = 56320 + v % 1024 := by rw [Cc]; omega
    rw [take4 l (by omega), encL, if_neg (by rw [Cc]; omega), e5, e6, eqB, decide_eq_false_iff_not]
    intro he
    rw [← ub_un4 l hy hu hv] at he
    have := ub_inj he
    omega
  have HV : Hid (vs u = false) := by show vs u = false; simp [vs]; omega
  have HC : Hid (vs c = true) := by show vs c = true; simp [vs]; omega
  have b0 : 0 ≤ c := by omega
  have b1 : c ≤ 1114111 := by omega
  have CC : Hid (c = 65536 + u % 1024 * 1024 + v % 1024) := Cc
  clear Cc bu bv
  obtain ⟨b', off', e, hbb, hc⟩ := hs.at (by omega)
  obtain ⟨rfl, rfl⟩ : b = b' ∧ off = off' := by simpa using e
  clear e
  have hr0 := hy 0
  have hr1 := hy 1
  obtain ⟨x, X⟩ : ∃ x, Hid (x = l.getD 0 0) := ⟨_, rfl⟩
  obtain ⟨y, Y⟩ : ∃ y, Hid (y = l.getD 1 0) := ⟨_, rfl⟩
  have c0 : w.cell? ⟨b, off, none⟩ = some (.int .u8 x) := by rw [X.out]; exact hc 0 (by omega)
  have c1 : w.cell? ⟨b, off + 1, none⟩ = some (.int .u8 y) := by rw [Y.out]; exact hc 1 (by omega)
  have hr2 := hy 2
  have hr3 := hy 3
  obtain ⟨z, Z⟩ : ∃ z, Hid (z = l.getD 2 0) := ⟨_, rfl⟩
  obtain ⟨t, T⟩ : ∃ t, Hid (t = l.getD 3 0) := ⟨_, rfl⟩
  have c2 : w.cell? ⟨b, off + 2, none⟩ = some (.int .u8 z) := by rw [Z.out]; exact hc 2 (by omega)
  have c3 : w.cell? ⟨b, off + 3, none⟩ = some (.int .u8 t) := by rw [T.out]; exact hc 3 (by omega)
  rw [← X.out] at hr0 hu
  rw [← Y.out] at hr1 hu
  have ubd := un_bd false x y hr0 hr1
  rw [← hu] at ubd
  have U : Hid (u = un false x y) := hu
  have i0 : (0 : Int) < (len : Int) := by omega
  have i1 : (1 : Int) < (len : Int) := by omega
  obtain ⟨u0, u1⟩ := ubd
  rw [← Z.out] at hr2 hv
  rw [← T.out] at hr3 hv
  have vbd := un_bd false z t hr2 hr3
  rw [← hv] at vbd
  have V : Hid (v = un false z t) := hv
  have i2 : (2 : Int) < (len : Int) := by omega
  have i3 : (3 : Int) < (len : Int) := by omega
  obtain ⟨v0, v1⟩ := vbd
  have ha1 := i32_and10 u u0 (by omega)
  have ha2 := i32_and10 v v0 (by omega)
  obtain ⟨A2, q2, t2⟩ := hs.upto 4 4 rfl h4
  have T2 : Hid (Sl w A2 4 cap (l.take 4)) := t2
  clear hs hy hlen hc hu hv hsu hpr hs' t2
  go_enter Try.func9, Try.ntmps9
  go_wp2_with fail
  go_quiet ((go_at_call 13; exact Calls.quiet_of_same (unit_any _ x y false hr0 hr1)))
  rw [← U.out]
  have hBq : Below w.heap.size w (w.drewN nq) := bdrewN (Below.refl _ _) _
  have d2 : (w.drewN nq).cell? ⟨b, off + 2, none⟩ = some (.int .u8 z) := c2
  have d3 : (w.drewN nq).cell? ⟨b, off + 3, none⟩ = some (.int .u8 t) := c3
  generalize w.drewN nq = wq at *
  clear c0 c1 c2 c3
  go_wp2_with fail
  go_quiet ((go_at_call 14; exact Calls.quiet_of_same (vs_no _ _ HV.out)))
  have hBr : Below w.heap.size w (wq.drewN nq) := bdrewN hBq _
  have f2 : (wq.drewN nq).cell? ⟨b, off + 2, none⟩ = some (.int .u8 z) := d2
  have f3 : (wq.drewN nq).cell? ⟨b, off + 3, none⟩ = some (.int .u8 t) := d3
  clear d2 d3 hBq
  generalize wq.drewN nq = wr at *
  go_wp2_with fail
  go_quiet ((go_at_call 13; exact Calls.quiet_of_same (unit13 _ z t v V.out hr2 hr3)))
  rw [← CC.out]
  have hBs : Below w.heap.size w (wr.drewN nq) := bdrewN hBr _
  clear f2 f3 hBr ha1 ha2
  generalize wr.drewN nq = ws at *
  go_wp2_with fail
  go_region_held3 (fun _ => True) (trivial)
    (first
      | (go_at_call 14; refine (vs_any _ _).mono ?_; rintro e w3 ⟨rfl, rfl⟩; rw [HC.out])
      | (go_at_call 16; refine (enc16_any _ c false b0 b1).mono ?_; rintro e w4 ⟨a4, n4, c4, rfl, hs4, hb4'⟩; have hb4 := bnext hBs (Nat.le_refl _) (undrew hb4'); clear hb4')
      | (go_at_call 15; refine (eq_any _ _ _ _ _ _ _ _ _ hs4 (T2.out.below hb4) (by have h1 := hs4.1; have h2 := encL_len false c; omega) (by omega)).mono ?_; rintro e w5 ⟨rfl, n5, rfl⟩; rw [HE.out]))
  go_wp2
  go_ret2
  exact ⟨rfl, bdrewN hb4 _⟩
end Go.Proofs.Qxb6614996a
