import Derived.Test.Qxb6614996aDec
import Derived.Deep.RegionWith
import Derived.Deep.RegionHeld3
namespace Go.Proofs.Qxb6614996a
open Go.RowKit

theorem meth_le (w : World) : (method 171 35 (.agg #[]) "Uint16").run Try.prog w = .ok (38, .agg #[]) w := by kernel_rfl
theorem meth_be (w : World) : (method 171 36 (.agg #[]) "Uint16").run Try.prog w = .ok (41, .agg #[]) w := by kernel_rfl

theorem nil_le (w : World) : (nilAhead 171 35 (.agg #[]) "Uint16").run Try.prog w = .ok (some false) w := by kernel_rfl
theorem nil_be (w : World) : (nilAhead 171 36 (.agg #[]) "Uint16").run Try.prog w = .ok (some false) w := by kernel_rfl

/-- Bytes. -/
def By (l : List Int) : Prop := ∀ i, 0 ≤ l.getD i 0 ∧ l.getD i 0 ≤ 255

theorem slice2 (b off len cap : Nat) (h : 4 ≤ len) (hc : len ≤ cap) (w' : World) :
    (Instr.slice 22 (.slice (some ⟨b, off, none⟩) len cap) (some (.int .i64 2)) none none).run Try.prog w' = .ok (.slice (some ⟨b, off + 2, none⟩) (len - 2) (cap - 2)) w' := by
  rw [run_slice_l w' 22 _ len cap under22 .i64 2 (by omega) (by omega), size22]
  have : ¬ cap = 2 := by omega
  simp [Result.andThen, sliced, this, Addr.add_lit]

theorem keep3 {w w' : World} {p q r : Addr} {x y z : Value} (a : w.cell? p = some x) (b : w.cell? q = some y) (c : w.cell? r = some z) (hb : Below w.heap.size w w') : w'.cell? p = some x ∧ w'.cell? q = some y ∧ w'.cell? r = some z :=
  ⟨(hb.cell (World.block_lt_of_cell? w _ a)).trans a, (hb.cell (World.block_lt_of_cell? w _ b)).trans b, (hb.cell (World.block_lt_of_cell? w _ c)).trans c⟩

theorem undrew {w w1 : World} (h : Below w.drew.heap.size w.drew w1) : Below w.heap.size w w1 := ⟨h.os, h.tape, h.output, h.size, h.block⟩

/-! ### What the decoder answers, in plain words -/
def decR (big : Bool) (l : List Int) : Int :=
  if l.length < 2 then -1 else
  if su (un big (l.getD 0 0) (l.getD 1 0)) = false then un big (l.getD 0 0) (l.getD 1 0) else
  if 4 ≤ l.length ∧ pr (un big (l.getD 0 0) (l.getD 1 0)) (un big (l.getD 2 0) (l.getD 3 0)) = true then dr (un big (l.getD 0 0) (l.getD 1 0)) (un big (l.getD 2 0) (l.getD 3 0)) else -1
def decN (big : Bool) (l : List Int) : Int :=
  if l.length < 2 then (l.length : Int) else
  if su (un big (l.getD 0 0) (l.getD 1 0)) = false then 2 else
  if 4 ≤ l.length ∧ pr (un big (l.getD 0 0) (l.getD 1 0)) (un big (l.getD 2 0) (l.getD 3 0)) = true then 4 else 2
theorem decR_short (big : Bool) (l : List Int) (h : l.length < 2) : decR big l = -1 := by unfold decR; rw [if_pos h]
theorem decN_short (big : Bool) (l : List Int) (h : l.length < 2) : decN big l = (l.length : Int) := by unfold decN; rw [if_pos h]
theorem decR_plain (big : Bool) (l : List Int) (h : 2 ≤ l.length) {u : Int} (hu : u = un big (l.getD 0 0) (l.getD 1 0)) (hs : su u = false) : decR big l = u := by
  unfold decR; rw [if_neg (by omega), ← hu, if_pos hs]
theorem decN_plain (big : Bool) (l : List Int) (h : 2 ≤ l.length) {u : Int} (hu : u = un big (l.getD 0 0) (l.getD 1 0)) (hs : su u = false) : decN big l = 2 := by
  unfold decN; rw [if_neg (by omega), ← hu, if_pos hs]
theorem decR_cut (big : Bool) (l : List Int) (h : 2 ≤ l.length) (h' : l.length < 4) {u : Int} (hu : u = un big (l.getD 0 0) (l.getD 1 0)) (hs : su u = true) : decR big l = -1 := by
  unfold decR; rw [if_neg (by omega), ← hu, if_neg (by simp [hs]), if_neg (by omega)]
theorem decN_cut (big : Bool) (l : List Int) (h : 2 ≤ l.length) (h' : l.length < 4) {u : Int} (hu : u = un big (l.getD 0 0) (l.getD 1 0)) (hs : su u = true) : decN big l = 2 := by
  unfold decN; rw [if_neg (by omega), ← hu, if_neg (by simp [hs]), if_neg (by omega)]
theorem decR_bad (big : Bool) (l : List Int) (h : 4 ≤ l.length) {u v : Int} (hu : u = un big (l.getD 0 0) (l.getD 1 0)) (hv : v = un big (l.getD 2 0) (l.getD 3 0)) (hs : su u = true) (hp : pr u v = false) : decR big l = -1 := by
  unfold decR; rw [if_neg (by omega), ← hu, ← hv, if_neg (by simp [hs]), if_neg (by simp [hp])]
theorem decN_bad (big : Bool) (l : List Int) (h : 4 ≤ l.length) {u v : Int} (hu : u = un big (l.getD 0 0) (l.getD 1 0)) (hv : v = un big (l.getD 2 0) (l.getD 3 0)) (hs : su u = true) (hp : pr u v = false) : decN big l = 2 := by
  unfold decN; rw [if_neg (by omega), ← hu, ← hv, if_neg (by simp [hs]), if_neg (by simp [hp])]
theorem decR_pair (big : Bool) (l : List Int) (h : 4 ≤ l.length) {u v : Int} (hu : u = un big (l.getD 0 0) (l.getD 1 0)) (hv : v = un big (l.getD 2 0) (l.getD 3 0)) (hs : su u = true) (hp : pr u v = true) : decR big l = dr u v := by
  unfold decR; rw [if_neg (by omega), ← hu, ← hv, if_neg (by simp [hs]), if_pos ⟨h, hp⟩]
theorem decN_pair (big : Bool) (l : List Int) (h : 4 ≤ l.length) {u v : Int} (hu : u = un big (l.getD 0 0) (l.getD 1 0)) (hv : v = un big (l.getD 2 0) (l.getD 3 0)) (hs : su u = true) (hp : pr u v = true) : decN big l = 4 := by
  unfold decN; rw [if_neg (by omega), ← hu, ← hv, if_neg (by simp [hs]), if_pos ⟨h, hp⟩]

set_option maxHeartbeats 1000000 in
theorem clo_le (w : World) (B : Nat) (a : Option Addr) (len cap : Nat) (l : List Int) (hB : w.cell? ⟨B, 0, none⟩ = some (.iface 35 (.agg #[]))) (hs : Sl w a len cap l) (hy : By l) :
    Calls Try.prog 17 #[.slice a len cap, .pointer (some ⟨B, 0, none⟩)] w fun e w' => e = .returned (.tuple #[.int .i32 (decR false l), .int .i64 (decN false l)]) ∧ Below w.heap.size w w' := by
  have hm := meth_le
  have hn := nil_le
  have hlm : len ≤ 9223372036854775807 := by have h1 := hs.2.1; have h2 := hs.2.2.1; unfold maxLen at h2; omega
  have hl := hs.1
  by_cases h2 : len < 2
  · rw [decR_short _ _ (by omega), decN_short _ _ (by omega), hl]
    clear hs hy hl
    go_enter Try.func17, Try.ntmps17
    go_wp2
    go_ret2
    exact ⟨rfl, Below.refl _ _⟩
  · have hcap := hs.2.1
    obtain ⟨b, off, rfl, hbb, hc⟩ := hs.at (by omega)
    have hr0 := hy 0
    have hr1 := hy 1
    obtain ⟨x, X⟩ : ∃ x, Hid (x = l.getD 0 0) := ⟨_, rfl⟩
    obtain ⟨y, Y⟩ : ∃ y, Hid (y = l.getD 1 0) := ⟨_, rfl⟩
    have c0 : w.cell? ⟨b, off, none⟩ = some (.int .u8 x) := by rw [X.out]; exact hc 0 (by omega)
    have c1 : w.cell? ⟨b, off + 1, none⟩ = some (.int .u8 y) := by rw [Y.out]; exact hc 1 (by omega)
    rw [← X.out] at hr0
    rw [← Y.out] at hr1
    obtain ⟨u, U⟩ : ∃ u, Hid (u = un false x y) := ⟨_, rfl⟩
    have ubd := un_bd false x y hr0 hr1
    rw [← U.out] at ubd
    obtain ⟨u0, u1⟩ := ubd
    have U' : Hid (u = un false (l.getD 0 0) (l.getD 1 0)) := by show u = _; rw [← X.out, ← Y.out]; exact U.out
    cases hsu : su u
    · have e1 := decR_plain false l (by omega) U'.out hsu
      have e2 := decN_plain false l (by omega) U'.out hsu
      rw [e1, e2]
      have HS : Hid _ := hsu
      clear hs hy hl e1 e2 hc hsu
      go_enter Try.func17, Try.ntmps17
      go_wp2_with fail
      refine (le16_any _ _ _ _ _ x y (by omega) hr0 hr1 c0 c1).mono ?_
      rintro e w1 ⟨rfl, hb⟩
      rw [← U.out]
      go_wp2_with fail
      refine (su_any _ _).mono ?_
      rintro e w2 ⟨rfl, rfl⟩
      rw [HS.out]
      go_wp2
      go_ret2
      exact ⟨rfl, hb⟩
    · have su1 : 55296 ≤ u ∧ u < 57344 := by simpa [su] using hsu
      by_cases h4 : len < 4
      · have e1 := decR_cut false l (by omega) (by omega) U'.out hsu
        have e2 := decN_cut false l (by omega) (by omega) U'.out hsu
        rw [e1, e2]
        have HS : Hid _ := hsu
        clear hs hy hl e1 e2 hc hsu
        go_enter Try.func17, Try.ntmps17
        go_wp2_with fail
        refine (le16_any _ _ _ _ _ x y (by omega) hr0 hr1 c0 c1).mono ?_
        rintro e w1 ⟨rfl, hb⟩
        rw [← U.out]
        go_wp2_with fail
        refine (su_any _ _).mono ?_
        rintro e w2 ⟨rfl, rfl⟩
        rw [HS.out]
        go_wp2
        go_ret2
        exact ⟨rfl, hb⟩
      · have hr2 := hy 2
        have hr3 := hy 3
        obtain ⟨z, Z⟩ : ∃ z, Hid (z = l.getD 2 0) := ⟨_, rfl⟩
        obtain ⟨t, T⟩ : ∃ t, Hid (t = l.getD 3 0) := ⟨_, rfl⟩
        have c2 : w.cell? ⟨b, off + 2, none⟩ = some (.int .u8 z) := by rw [Z.out]; exact hc 2 (by omega)
        have c3 : w.cell? ⟨b, off + 2 + 1, none⟩ = some (.int .u8 t) := by rw [T.out]; exact hc 3 (by omega)
        rw [← Z.out] at hr2
        rw [← T.out] at hr3
        obtain ⟨v, V⟩ : ∃ v, Hid (v = un false z t) := ⟨_, rfl⟩
        have vbd := un_bd false z t hr2 hr3
        rw [← V.out] at vbd
        have V' : Hid (v = un false (l.getD 2 0) (l.getD 3 0)) := by show v = _; rw [← Z.out, ← T.out]; exact V.out
        have hq := slice2 b off len cap (by omega) hcap
        have hwv : IntKind.i32.wrap v = v := wraps_i32 v vbd.1 (by have := vbd.2; omega)
        have hlt : B < w.heap.size := World.block_lt_of_cell? w _ hB
        cases hpr : pr u v
        · have e1 := decR_bad false l (by omega) U'.out V'.out hsu hpr
          have e2 := decN_bad false l (by omega) U'.out V'.out hsu hpr
          have e3 : dr u v = 65533 := by simp [dr, hpr]
          rw [e1, e2]
          have HS : Hid _ := hsu
          have E3 : Hid _ := e3
          clear hs hy hl e1 e2 e3 hc hsu hpr
          go_enter Try.func17, Try.ntmps17
          go_wp2_with fail
          refine (le16_any _ _ _ _ _ x y (by omega) hr0 hr1 c0 c1).mono ?_
          rintro e w1 ⟨rfl, hb⟩
          rw [← U.out]
          go_wp2_with fail
          refine (su_any _ _).mono ?_
          rintro e w2 ⟨rfl, rfl⟩
          rw [HS.out]
          have k0 : w2.cell? ⟨B, 0, none⟩ = some (.iface 35 (.agg #[])) := (hb.cell hlt).trans hB
          have k2 : w2.cell? ⟨b, off + 2, none⟩ = some (.int .u8 z) := (hb.cell (by exact hbb)).trans c2
          have k3 : w2.cell? ⟨b, off + 2 + 1, none⟩ = some (.int .u8 t) := (hb.cell (by exact hbb)).trans c3
          go_wp2_with fail
          go_region_held3 (fun w' => w'.cell? ⟨B, 0, none⟩ = some (.iface 35 (.agg #[])) ∧ w'.cell? ⟨b, off + 2, none⟩ = some (.int .u8 z) ∧ w'.cell? ⟨b, off + 2 + 1, none⟩ = some (.int .u8 t)) (first | exact keep3 k0 k2 k3 hb3 | exact ⟨k0, k2, k3⟩)
            (first
              | (go_at_call 38; refine (le16_any _ b (off + 2) (len - 2) (cap - 2) z t (by omega) hr2 hr3 (by exact k2) (by exact k3)).mono ?_; rintro e w3 ⟨rfl, hb3'⟩; have hb3 := undrew hb3'; clear hb3'; rw [← V.out])
              | (go_at_call 19; refine (dr_any _ u v su1.1 su1.2 vbd.1 vbd.2).mono ?_; rintro e w4 ⟨rfl, rfl⟩; rw [E3.out]))
          go_wp2
          go_ret2
          exact ⟨rfl, bnext hb (Nat.le_refl _) hb3⟩
        · have e1 := decR_pair false l (by omega) U'.out V'.out hsu hpr
          have e2 := decN_pair false l (by omega) U'.out V'.out hsu hpr
          have e3 : (dr u v != 65533) = true := by
            have hp : 55296 ≤ u ∧ u < 56320 ∧ 56320 ≤ v ∧ v < 57344 := by simpa [pr] using hpr
            have e4 : dr u v = (u - 55296) * 1024 + (v - 56320) + 65536 := by simp [dr, hpr]
            rw [e4, bne_iff_ne]
            omega
          rw [e1, e2]
          have HS : Hid _ := hsu
          obtain ⟨d, D⟩ : ∃ d, Hid (d = dr u v) := ⟨_, rfl⟩
          rw [← D.out] at e3 ⊢
          clear hs hy hl e1 e2 hc hsu hpr
          go_enter Try.func17, Try.ntmps17
          go_wp2_with fail
          refine (le16_any _ _ _ _ _ x y (by omega) hr0 hr1 c0 c1).mono ?_
          rintro e w1 ⟨rfl, hb⟩
          rw [← U.out]
          go_wp2_with fail
          refine (su_any _ _).mono ?_
          rintro e w2 ⟨rfl, rfl⟩
          rw [HS.out]
          have k0 : w2.cell? ⟨B, 0, none⟩ = some (.iface 35 (.agg #[])) := (hb.cell hlt).trans hB
          have k2 : w2.cell? ⟨b, off + 2, none⟩ = some (.int .u8 z) := (hb.cell (by exact hbb)).trans c2
          have k3 : w2.cell? ⟨b, off + 2 + 1, none⟩ = some (.int .u8 t) := (hb.cell (by exact hbb)).trans c3
          go_wp2_with fail
          go_region_held3 (fun w' => w'.cell? ⟨B, 0, none⟩ = some (.iface 35 (.agg #[])) ∧ w'.cell? ⟨b, off + 2, none⟩ = some (.int .u8 z) ∧ w'.cell? ⟨b, off + 2 + 1, none⟩ = some (.int .u8 t)) (first | exact keep3 k0 k2 k3 hb3 | exact ⟨k0, k2, k3⟩)
            (first
              | (go_at_call 38; refine (le16_any _ b (off + 2) (len - 2) (cap - 2) z t (by omega) hr2 hr3 (by exact k2) (by exact k3)).mono ?_; rintro e w3 ⟨rfl, hb3'⟩; have hb3 := undrew hb3'; clear hb3'; rw [← V.out])
              | (go_at_call 19; refine (dr_any _ u v su1.1 su1.2 vbd.1 vbd.2).mono ?_; rintro e w4 ⟨rfl, rfl⟩; rw [← D.out]))
          go_wp2
          go_ret2
          exact ⟨rfl, bnext hb (Nat.le_refl _) hb3⟩

set_option maxHeartbeats 1000000 in
theorem clo_be (w : World) (B : Nat) (a : Option Addr) (len cap : Nat) (l : List Int) (hB : w.cell? ⟨B, 0, none⟩ = some (.iface 36 (.agg #[]))) (hs : Sl w a len cap l) (hy : By l) :
    Calls Try.prog 17 #[.slice a len cap, .pointer (some ⟨B, 0, none⟩)] w fun e w' => e = .returned (.tuple #[.int .i32 (decR true l), .int .i64 (decN true l)]) ∧ Below w.heap.size w w' := by
  have hm := meth_be
  have hn := nil_be
  have hlm : len ≤ 9223372036854775807 := by have h1 := hs.2.1; have h2 := hs.2.2.1; unfold maxLen at h2; omega
  have hl := hs.1
  by_cases h2 : len < 2
  · rw [decR_short _ _ (by omega), decN_short _ _ (by omega), hl]
    clear hs hy hl
    go_enter Try.func17, Try.ntmps17
    go_wp2
    go_ret2
    exact ⟨rfl, Below.refl _ _⟩
  · have hcap := hs.2.1
    obtain ⟨b, off, rfl, hbb, hc⟩ := hs.at (by omega)
    have hr0 := hy 0
    have hr1 := hy 1
    obtain ⟨x, X⟩ : ∃ x, Hid (x = l.getD 0 0) := ⟨_, rfl⟩
    obtain ⟨y, Y⟩ : ∃ y, Hid (y = l.getD 1 0) := ⟨_, rfl⟩
    have c0 : w.cell? ⟨b, off, none⟩ = some (.int .u8 x) := by rw [X.out]; exact hc 0 (by omega)
    have c1 : w.cell? ⟨b, off + 1, none⟩ = some (.int .u8 y) := by rw [Y.out]; exact hc 1 (by omega)
    rw [← X.out] at hr0
    rw [← Y.out] at hr1
    obtain ⟨u, U⟩ : ∃ u, Hid (u = un true x y) := ⟨_, rfl⟩
    have ubd := un_bd true x y hr0 hr1
    rw [← U.out] at ubd
    obtain ⟨u0, u1⟩ := ubd
    have U' : Hid (u = un true (l.getD 0 0) (l.getD 1 0)) := by show u = _; rw [← X.out, ← Y.out]; exact U.out
    cases hsu : su u
    · have e1 := decR_plain true l (by omega) U'.out hsu
      have e2 := decN_plain true l (by omega) U'.out hsu
      rw [e1, e2]
      have HS : Hid _ := hsu
      clear hs hy hl e1 e2 hc hsu
      go_enter Try.func17, Try.ntmps17
      go_wp2_with fail
      refine (be16_any _ _ _ _ _ x y (by omega) hr0 hr1 c0 c1).mono ?_
      rintro e w1 ⟨rfl, hb⟩
      rw [← U.out]
      go_wp2_with fail
      refine (su_any _ _).mono ?_
      rintro e w2 ⟨rfl, rfl⟩
      rw [HS.out]
      go_wp2
      go_ret2
      exact ⟨rfl, hb⟩
    · have su1 : 55296 ≤ u ∧ u < 57344 := by simpa [su] using hsu
      by_cases h4 : len < 4
      · have e1 := decR_cut true l (by omega) (by omega) U'.out hsu
        have e2 := decN_cut true l (by omega) (by omega) U'.out hsu
        rw [e1, e2]
        have HS : Hid _ := hsu
        clear hs hy hl e1 e2 hc hsu
        go_enter Try.func17, Try.ntmps17
        go_wp2_with fail
        refine (be16_any _ _ _ _ _ x y (by omega) hr0 hr1 c0 c1).mono ?_
        rintro e w1 ⟨rfl, hb⟩
        rw [← U.out]
        go_wp2_with fail
        refine (su_any _ _).mono ?_
        rintro e w2 ⟨rfl, rfl⟩
        rw [HS.out]
        go_wp2
        go_ret2
        exact ⟨rfl, hb⟩
      · have hr2 := hy 2
        have hr3 := hy 3
        obtain ⟨z, Z⟩ : ∃ z, Hid (z = l.getD 2 0) := ⟨_, rfl⟩
        obtain ⟨t, T⟩ : ∃ t, Hid (t = l.getD 3 0) := ⟨_, rfl⟩
        have c2 : w.cell? ⟨b, off + 2, none⟩ = some (.int .u8 z) := by rw [Z.out]; exact hc 2 (by omega)
        have c3 : w.cell? ⟨b, off + 2 + 1, none⟩ = some (.int .u8 t) := by rw [T.out]; exact hc 3 (by omega)
        rw [← Z.out] at hr2
        rw [← T.out] at hr3
        obtain ⟨v, V⟩ : ∃ v, Hid (v = un true z t) := ⟨_, rfl⟩
        have vbd := un_bd true z t hr2 hr3
        rw [← V.out] at vbd
        have V' : Hid (v = un true (l.getD 2 0) (l.getD 3 0)) := by show v = _; rw [← Z.out, ← T.out]; exact V.out
        have hq := slice2 b off len cap (by omega) hcap
        have hwv : IntKind.i32.wrap v = v := wraps_i32 v vbd.1 (by have := vbd.2; omega)
        have hlt : B < w.heap.size := World.block_lt_of_cell? w _ hB
        cases hpr : pr u v
        · have e1 := decR_bad true l (by omega) U'.out V'.out hsu hpr
          have e2 := decN_bad true l (by omega) U'.out V'.out hsu hpr
          have e3 : dr u v = 65533 := by simp [dr, hpr]
          rw [e1, e2]
          have HS : Hid _ := hsu
          have E3 : Hid _ := e3
          clear hs hy hl e1 e2 e3 hc hsu hpr
          go_enter Try.func17, Try.ntmps17
          go_wp2_with fail
          refine (be16_any _ _ _ _ _ x y (by omega) hr0 hr1 c0 c1).mono ?_
          rintro e w1 ⟨rfl, hb⟩
          rw [← U.out]
          go_wp2_with fail
          refine (su_any _ _).mono ?_
          rintro e w2 ⟨rfl, rfl⟩
          rw [HS.out]
          have k0 : w2.cell? ⟨B, 0, none⟩ = some (.iface 36 (.agg #[])) := (hb.cell hlt).trans hB
          have k2 : w2.cell? ⟨b, off + 2, none⟩ = some (.int .u8 z) := (hb.cell (by exact hbb)).trans c2
          have k3 : w2.cell? ⟨b, off + 2 + 1, none⟩ = some (.int .u8 t) := (hb.cell (by exact hbb)).trans c3
          go_wp2_with fail
          go_region_held3 (fun w' => w'.cell? ⟨B, 0, none⟩ = some (.iface 36 (.agg #[])) ∧ w'.cell? ⟨b, off + 2, none⟩ = some (.int .u8 z) ∧ w'.cell? ⟨b, off + 2 + 1, none⟩ = some (.int .u8 t)) (first | exact keep3 k0 k2 k3 hb3 | exact ⟨k0, k2, k3⟩)
            (first
              | (go_at_call 41; refine (be16_any _ b (off + 2) (len - 2) (cap - 2) z t (by omega) hr2 hr3 (by exact k2) (by exact k3)).mono ?_; rintro e w3 ⟨rfl, hb3'⟩; have hb3 := undrew hb3'; clear hb3'; rw [← V.out])
              | (go_at_call 19; refine (dr_any _ u v su1.1 su1.2 vbd.1 vbd.2).mono ?_; rintro e w4 ⟨rfl, rfl⟩; rw [E3.out]))
          go_wp2
          go_ret2
          exact ⟨rfl, bnext hb (Nat.le_refl _) hb3⟩
        · have e1 := decR_pair true l (by omega) U'.out V'.out hsu hpr
          have e2 := decN_pair true l (by omega) U'.out V'.out hsu hpr
          have e3 : (dr u v != 65533) = true := by
            have hp : 55296 ≤ u ∧ u < 56320 ∧ 56320 ≤ v ∧ v < 57344 := by simpa [pr] using hpr
            have e4 : dr u v = (u - 55296) * 1024 + (v - 56320) + 65536 := by simp [dr, hpr]
            rw [e4, bne_iff_ne]
            omega
          rw [e1, e2]
          have HS : Hid _ := hsu
          obtain ⟨d, D⟩ : ∃ d, Hid (d = dr u v) := ⟨_, rfl⟩
          rw [← D.out] at e3 ⊢
          clear hs hy hl e1 e2 hc hsu hpr
          go_enter Try.func17, Try.ntmps17
          go_wp2_with fail
          refine (be16_any _ _ _ _ _ x y (by omega) hr0 hr1 c0 c1).mono ?_
          rintro e w1 ⟨rfl, hb⟩
          rw [← U.out]
          go_wp2_with fail
          refine (su_any _ _).mono ?_
          rintro e w2 ⟨rfl, rfl⟩
          rw [HS.out]
          have k0 : w2.cell? ⟨B, 0, none⟩ = some (.iface 36 (.agg #[])) := (hb.cell hlt).trans hB
          have k2 : w2.cell? ⟨b, off + 2, none⟩ = some (.int .u8 z) := (hb.cell (by exact hbb)).trans c2
          have k3 : w2.cell? ⟨b, off + 2 + 1, none⟩ = some (.int .u8 t) := (hb.cell (by exact hbb)).trans c3
          go_wp2_with fail
          go_region_held3 (fun w' => w'.cell? ⟨B, 0, none⟩ = some (.iface 36 (.agg #[])) ∧ w'.cell? ⟨b, off + 2, none⟩ = some (.int .u8 z) ∧ w'.cell? ⟨b, off + 2 + 1, none⟩ = some (.int .u8 t)) (first | exact keep3 k0 k2 k3 hb3 | exact ⟨k0, k2, k3⟩)
            (first
              | (go_at_call 41; refine (be16_any _ b (off + 2) (len - 2) (cap - 2) z t (by omega) hr2 hr3 (by exact k2) (by exact k3)).mono ?_; rintro e w3 ⟨rfl, hb3'⟩; have hb3 := undrew hb3'; clear hb3'; rw [← V.out])
              | (go_at_call 19; refine (dr_any _ u v su1.1 su1.2 vbd.1 vbd.2).mono ?_; rintro e w4 ⟨rfl, rfl⟩; rw [← D.out]))
          go_wp2
          go_ret2
          exact ⟨rfl, bnext hb (Nat.le_refl _) hb3⟩
end Go.Proofs.Qxb6614996a
