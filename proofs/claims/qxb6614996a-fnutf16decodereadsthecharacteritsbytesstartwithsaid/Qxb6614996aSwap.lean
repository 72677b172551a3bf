import Derived.Test.Qxb6614996aExpect
namespace Go.Proofs.Qxb6614996a
open Go.RowKit

/-! ### Pairs swapped, in plain words -/
def swp : List Int → List Int
  | x :: y :: r => y :: x :: swp r
  | l => l
theorem swp_len : ∀ (n : Nat) (l : List Int), l.length ≤ n → (swp l).length = l.length
  | 0, [], _ => rfl
  | _ + 1, [], _ => rfl
  | _ + 1, [_], _ => rfl
  | n + 1, x :: y :: r, h => by
    have := swp_len n r (by simp at h; omega)
    simp [swp, this]
theorem swp_length (l : List Int) : (swp l).length = l.length := swp_len l.length l (Nat.le_refl _)
theorem swp_get : ∀ (j : Nat) (l : List Int), 2 * j + 1 < l.length → (swp l).getD (2 * j) 0 = l.getD (2 * j + 1) 0 ∧ (swp l).getD (2 * j + 1) 0 = l.getD (2 * j) 0
  | 0, x :: y :: r, _ => by simp [swp]
  | j + 1, x :: y :: r, h => by
    have := swp_get j r (by simp at h; omega)
    rw [show 2 * (j + 1) = 2 * j + 1 + 1 by omega]
    simpa [swp] using this
  | 0, [x], h => by simp at h
  | j + 1, [x], h => by simp at h
  | 0, [], h => by simp at h
  | j + 1, [], h => by simp at h
theorem swp_last : ∀ (j : Nat) (l : List Int), l.length = 2 * j + 1 → (swp l).getD (2 * j) 0 = l.getD (2 * j) 0
  | 0, [x], _ => by simp [swp]
  | j + 1, x :: y :: r, h => by
    have := swp_last j r (by simp at h; omega)
    rw [show 2 * (j + 1) = 2 * j + 1 + 1 by omega]
    simpa [swp] using this
  | 0, [], h => by simp at h
  | 0, x :: y :: r, h => by simp at h
  | j + 1, [x], h => by simp at h
  | j + 1, [], h => by simp at h
theorem swp_by {l : List Int} (h : By l) : By (swp l) := by
  intro i
  by_cases hi : i < l.length
  · obtain ⟨j, hj⟩ : ∃ j, i = 2 * j ∨ i = 2 * j + 1 := ⟨i / 2, by omega⟩
    rcases hj with rfl | rfl
    · by_cases h1 : 2 * j + 1 < l.length
      · rw [(swp_get j l h1).1]; exact h _
      · rw [swp_last j l (by omega)]; exact h _
    · rw [(swp_get j l hi).2]; exact h _
  · have : (swp l).getD i 0 = 0 := by
      rw [List.getD, List.getElem?_eq_none (by rw [swp_length]; omega)]; rfl
    rw [this]; omega

theorem fill_step {l : List Int} {len k : Nat} (hl : l.length = len) (hk : k < len) :
    ((l.take k ++ List.replicate (len - k) 0).map (Value.int .u8)).set k (.int .u8 (l.getD k 0)) = (l.take (k + 1) ++ List.replicate (len - (k + 1)) 0).map (Value.int .u8) := by
  rw [← List.map_set]
  congr 1
  rw [List.set_append_right _ _ (by simp; omega)]
  have e1 : k - (l.take k).length = 0 := by simp; omega
  rw [e1, show len - k = (len - (k + 1)) + 1 by omega, List.replicate_succ, List.set_cons_zero]
  have e2 : l.getD k 0 = l[k]'(by omega) := by simp [List.getD, show k < l.length by omega]
  rw [List.take_succ_eq_append_getElem (by omega), e2, List.append_assoc]
  rfl

set_option maxHeartbeats 1000000 in
theorem swap_any (w : World) (a : Option Addr) (len cap : Nat) (l : List Int) (h : Sl w a len cap l) (hs : len ≤ 1048576) :
    Calls Try.prog 6 #[.slice a len cap] w fun e w' => ∃ a', e = .returned (.slice a' len len) ∧ Sl w' a' len len (swp l) ∧ Below w.heap.size w w' := by
  obtain ⟨i0, hi, hz0, hz1, hz2⟩ := info_parts Try.info5'
  have HL : Hid (l.length = len) := h.1
  have HH : Hid (Sl w a len cap l) := h
  have HW : Hid ((swp l).length = len) := by show (swp l).length = len; rw [swp_length]; exact h.1
  clear h
  go_enter Try.func6, Try.ntmps6
  go_wp2_with (at_make; refine wpList_make_full _ rfl _ _ 22 rfl w.heap.size 5 i0 (.int .u8 0) 1 Try.underlying22 hi hz0 hz1 _ _ _ _ len rfl rfl rfl rfl (by rw [hz2]; omega) (by unfold maxLen; omega) (Nat.le_refl _) ?_)
  intro w1 hown hgrow
  go_wp2
  go_loopw [4] (fun i wr => ∃ j : Nat, 2 * j ≤ len ∧ i = .int .i64 ((2 * j : Nat) : Int) ∧ wr.ownsRow w.heap.size 5 1 (.slice (some ⟨w.heap.size, 0, none⟩) len len) len (((swp l).take (2 * j) ++ List.replicate (len - 2 * j) 0).map (Value.int .u8)) ∧ Below w.heap.size w wr)
    (fun i _ => len - (intOf i).toNat)
  case atStart =>
    refine ⟨0, Nat.zero_le _, rfl, ?_, (Below.refl _ _).grown hgrow (Nat.le_refl _) (fun k hk => by cases hk)⟩
    have e : (madeCells #[Value.int IntKind.u8 0] len).toList = ((swp l).take (2 * 0) ++ List.replicate (len - 2 * 0) 0).map (Value.int .u8) := by
      rw [toList_madeCells_one]; simp
    rw [← e]; exact hown
  case round =>
    obtain ⟨j, hj, rfl, hown', hbel⟩ := hrel
    obtain ⟨k, hkk⟩ : ∃ k, k = 2 * j := ⟨_, rfl⟩
    rw [← hkk] at hj hown' ⊢
    have HK : Hid (k = 2 * j) := hkk
    clear hkk hown hgrow
    by_cases h1 : k + 1 < len
    · obtain ⟨b, off, rfl, hb, hc⟩ := HH.out.at (by omega)
      have sg := swp_get j l (by rw [HL.out, ← HK.out]; exact h1)
      rw [← HK.out] at sg
      obtain ⟨x, X⟩ : ∃ x, Hid (x = l.getD k 0) := ⟨_, rfl⟩
      obtain ⟨y, Y⟩ : ∃ y, Hid (y = l.getD (k + 1) 0) := ⟨_, rfl⟩
      have g1 : wr.cell? ⟨b, off + (k + 1), none⟩ = some (.int .u8 y) := by rw [Y.out]; exact (hbel.cell (by exact hb)).trans (hc (k + 1) h1)
      have hb1 : Below w.heap.size w (wr.setCell ⟨w.heap.size, k, none⟩ (.int .u8 y)) := hbel.setCell (by exact Nat.le_refl _) _
      have g2 : (wr.setCell ⟨w.heap.size, k, none⟩ (.int .u8 y)).cell? ⟨b, off + k, none⟩ = some (.int .u8 x) := by rw [X.out]; exact (hb1.cell (by exact hb)).trans (hc k (by omega))
      have hd1 : ∃ v, wr.cell? ⟨w.heap.size, k, none⟩ = some v := by
        rw [hown'.cellAt k (by omega)]
        exact ⟨_, List.getElem?_eq_getElem (by simp [HW.out]; omega)⟩
      obtain ⟨v1, hd1⟩ := hd1
      have hf1 := hown'.frozenAt k
      have R1 := (hown'.stored k (.int .u8 y)).1
      rw [show y = (swp l).getD k 0 by rw [Y.out, sg.1], fill_step HW.out (by omega), ← show y = (swp l).getD k 0 by rw [Y.out, sg.1]] at R1
      have hd2 : ∃ v, (wr.setCell ⟨w.heap.size, k, none⟩ (.int .u8 y)).cell? ⟨w.heap.size, k + 1, none⟩ = some v := by
        rw [R1.cellAt (k + 1) (by omega)]
        exact ⟨_, List.getElem?_eq_getElem (by simp [HW.out]; omega)⟩
      obtain ⟨v2, hd2⟩ := hd2
      have hf2 := R1.frozenAt (k + 1)
      have R2 := (R1.stored (k + 1) (.int .u8 x)).1
      rw [show x = (swp l).getD (k + 1) 0 by rw [X.out, sg.2], fill_step HW.out (by omega), ← show x = (swp l).getD (k + 1) 0 by rw [X.out, sg.2]] at R2
      rw [show k + 1 + 1 = 2 * (j + 1) by have := HK.out; omega] at R2
      have HR : Hid _ := R2
      have HB : Hid (Below w.heap.size w ((wr.setCell ⟨w.heap.size, k, none⟩ (.int .u8 y)).setCell ⟨w.heap.size, k + 1, none⟩ (.int .u8 x))) := hb1.setCell (by exact Nat.le_refl _) _
      clear R1 R2 hown' hbel hc hb1 sg hb
      go_wp2
      go_roundw
      case rel => exact ⟨j + 1, by have := HK.out; omega, congrArg (Value.int .i64) (by have := HK.out; omega), HR.out, HB.out⟩
      case measure => simp [intOf]; omega
    · by_cases h2 : k < len
      · obtain ⟨b, off, rfl, hb, hc⟩ := HH.out.at (by omega)
        have sg := swp_last j l (by rw [HL.out]; have := HK.out; omega)
        rw [← HK.out] at sg
        obtain ⟨x, X⟩ : ∃ x, Hid (x = l.getD k 0) := ⟨_, rfl⟩
        have g1 : wr.cell? ⟨b, off + k, none⟩ = some (.int .u8 x) := by rw [X.out]; exact (hbel.cell (by exact hb)).trans (hc k h2)
        have hb1 : Below w.heap.size w (wr.setCell ⟨w.heap.size, k, none⟩ (.int .u8 x)) := hbel.setCell (by exact Nat.le_refl _) _
        have hd1 : ∃ v, wr.cell? ⟨w.heap.size, k, none⟩ = some v := by
          rw [hown'.cellAt k (by omega)]
          exact ⟨_, List.getElem?_eq_getElem (by simp [HW.out]; omega)⟩
        obtain ⟨v1, hd1⟩ := hd1
        have hf1 := hown'.frozenAt k
        have R1 := (hown'.stored k (.int .u8 x)).1
        rw [show x = (swp l).getD k 0 by rw [X.out, sg], fill_step HW.out (by omega), ← show x = (swp l).getD k 0 by rw [X.out, sg]] at R1
        have e : (swp l).take (k + 1) ++ List.replicate (len - (k + 1)) 0 = swp l := by
          rw [show len - (k + 1) = 0 by omega]; simp [List.take_of_length_le (show (swp l).length ≤ k + 1 by rw [HW.out]; omega)]
        rw [e] at R1
        obtain ⟨a', cap', e', hsl⟩ := Sl.of_own R1
        simp only [Value.slice.injEq, true_and] at e'
        obtain ⟨rfl, rfl⟩ := e'
        have HSL : Hid _ := hsl
        have HB : Hid _ := hb1
        clear R1 hown' hbel hc sg e hsl hb1 hb
        go_wp2
        go_ret
        exact ⟨_, rfl, HSL.out, HB.out⟩
      · have e : (swp l).take k ++ List.replicate (len - k) 0 = swp l := by
          rw [show len - k = 0 by omega]; simp [List.take_of_length_le (show (swp l).length ≤ k by rw [HW.out]; omega)]
        rw [e] at hown'
        obtain ⟨a', cap', e', hsl⟩ := Sl.of_own hown'
        simp only [Value.slice.injEq, true_and] at e'
        obtain ⟨rfl, rfl⟩ := e'
        clear hown' e
        go_wp2
        go_ret
        exact ⟨_, rfl, hsl, hbel⟩
end Go.Proofs.Qxb6614996a
