import Derived.Test.Qxb6614709aRows
import Derived.Test.Qxb6614709aSl
import Derived.Deep.QuietTactic
import Derived.BigQuiet
import Derived.WalkSpells
import Derived.Lib.SliceRun
namespace Go.Proofs.Qxb6614709a
open Go.RowKit

theorem Try.info5 : (Try.prog.info? 5).map (fun i => (i.zero, i.size, i.bytes)) = some (some (.int .u8 0), 1, 1) := by kernel_rfl

/-! ### zzClone -/
theorem clone_step {l : List Int} {len k : Nat} (hl : l.length = len) (hk : k < len) :
    ((l.take k ++ List.replicate (len - k) 0).map (Value.int .u8)).set k (.int .u8 (l.getD k 0)) = (l.take (k + 1) ++ List.replicate (len - (k + 1)) 0).map (Value.int .u8) := by
  rw [← List.map_set]
  congr 1
  rw [List.set_append_right _ _ (by simp; omega)]
  have e1 : k - (l.take k).length = 0 := by simp; omega
  rw [e1, show len - k = (len - (k + 1)) + 1 by omega, List.replicate_succ, List.set_cons_zero]
  have e2 : l.getD k 0 = l[k]'(by omega) := by simp [List.getD, show k < l.length by omega]
  rw [List.take_succ_eq_append_getElem (by omega), e2, List.append_assoc]
  rfl

set_option maxHeartbeats 400000 in
theorem clone_any (w : World) (a : Option Addr) (len cap : Nat) (l : List Int) (h : Sl w a len cap l) (hs : len ≤ 1048576) :
    Calls Try.prog 6 #[.slice a len cap] w fun e w' => ∃ a', e = .returned (.slice a' len len) ∧ Sl w' a' len len l ∧ Below w.heap.size w w' := by
  obtain ⟨i0, hi, hz0, hz1, hz2⟩ := info_parts Try.info5
  have qT : ∀ (w : World) (a : Option Addr) (n c n' c' : Nat), (binOp .eql 22 (.slice a n c) (.slice none n' c')).run Try.prog w = .ok (.bool a.isNone) w := fun w a n c n' c' => Lib.run_eql_slice_nil w _ _ a n c n' c' Try.underlying22
  cases a with
  | none =>
    have hc := h.2.2.2.1 rfl
    have hl : len = 0 := by have := h.2.1; omega
    subst hc; subst hl
    go_enter Try.func6, Try.ntmps6
    go_wp2
    go_ret
    exact ⟨none, rfl, h, Below.refl _ _⟩
  | some x =>
    have hll := h.1
    have hcell : ∀ k, k < len → ∃ b off, x = ⟨b, off, none⟩ ∧ b < w.heap.size ∧ w.cell? ⟨b, off + k, none⟩ = some (.int .u8 (l.getD k 0)) := by
      intro k hk
      obtain ⟨b, off, e, hb, hc⟩ := h.at (by omega)
      exact ⟨b, off, Option.some.inj e, hb, hc k hk⟩
    have hH : Hid (Sl w (some x) len cap l) := h
    have hC : Hid (∀ k, k < len → ∃ b off, x = ⟨b, off, none⟩ ∧ b < w.heap.size ∧ w.cell? ⟨b, off + k, none⟩ = some (.int .u8 (l.getD k 0))) := hcell
    have hL : Hid (l.length = len) := hll
    clear h hcell hll
    go_enter Try.func6, Try.ntmps6
    go_wp2_with (at_make; refine wpList_make_full _ rfl _ _ 22 rfl w.heap.size 5 i0 (.int .u8 0) 1 Try.underlying22 hi hz0 hz1 _ _ _ _ len rfl rfl rfl rfl (by rw [hz2]; omega) (by unfold maxLen; omega) (Nat.le_refl _) ?_)
    intro w1 hown hgrow
    go_wp2
    go_loopw [4] (fun i wr => ∃ k : Nat, k ≤ len ∧ i = .int .i64 k ∧ wr.ownsRow w.heap.size 5 1 (.slice (some ⟨w.heap.size, 0, none⟩) len len) len ((l.take k ++ List.replicate (len - k) 0).map (Value.int .u8)) ∧ Below w.heap.size w wr)
      (fun i _ => len - (intOf i).toNat)
    case atStart =>
      refine ⟨0, Nat.zero_le _, rfl, ?_, (Below.refl _ _).grown hgrow (Nat.le_refl _) (fun k hk => by cases hk)⟩
      have e : (madeCells #[Value.int IntKind.u8 0] len).toList = (l.take 0 ++ List.replicate (len - 0) 0).map (Value.int .u8) := by
        rw [toList_madeCells_one]; simp
      rw [← e]; exact hown
    case round =>
      obtain ⟨k, hk, rfl, hown', hbel⟩ := hrel
      by_cases hlt : k < len
      · obtain ⟨b, off, rfl, hb, hc⟩ := hC.out k hlt
        have hc' : wr.cell? ⟨b, off + k, none⟩ = some (.int .u8 (l.getD k 0)) := (hbel.cell (by exact hb)).trans hc
        have hd : ∃ v, wr.cell? ⟨w.heap.size, k, none⟩ = some v := by
          rw [hown'.cellAt k (by omega)]
          exact ⟨_, List.getElem?_eq_getElem (by simp [hL.out]; omega)⟩
        obtain ⟨v, hd⟩ := hd
        have hf := hown'.frozenAt k
        have R := (hown'.stored k (.int .u8 (l.getD k 0))).1
        rw [clone_step hL.out hlt] at R
        have HR := (show Hid _ from R)
        clear R
        have HB : Hid (Below w.heap.size w (wr.setCell ⟨w.heap.size, k, none⟩ (.int .u8 (l.getD k 0)))) := hbel.setCell (by exact Nat.le_refl _) _
        clear hown' hbel hown hgrow hc hC
        go_wp2
        go_roundw
        case rel => exact ⟨k + 1, by omega, by go_num, HR.out, HB.out⟩
        case measure => simp [intOf]; omega
      · have : k = len := by omega
        subst this
        go_wp2
        go_ret
        have e : (l.take k ++ List.replicate (k - k) 0) = l := by rw [Nat.sub_self]; simp [List.take_of_length_le (Nat.le_of_eq hL.out)]
        rw [e] at hown'
        obtain ⟨a', cap', e', hsl⟩ := Sl.of_own hown'
        simp only [Value.slice.injEq, true_and] at e'
        obtain ⟨rfl, rfl⟩ := e'
        exact ⟨_, rfl, hsl, hbel⟩

/-! ### zzEq -/
theorem ret_bool {a b : Bool} (h : a = b) : Ending.returned (.bool a) = .returned (.bool b) := by rw [h]
def eqB (l l' : List Int) : Bool := decide (l = l')

theorem eq_of_all {l l' : List Int} (hl : l.length = l'.length) (h : ∀ i, i < l.length → l.getD i 0 = l'.getD i 0) : l = l' := by
  apply List.ext_getElem hl
  intro i h1 h2
  have := h i h1
  simpa [List.getD, h1, h2] using this

set_option maxHeartbeats 400000 in
theorem eq_any (w : World) (a : Option Addr) (len cap : Nat) (l : List Int) (a' : Option Addr) (len' cap' : Nat) (l' : List Int) (h : Sl w a len cap l) (h' : Sl w a' len' cap' l') (hs : len ≤ 1152921504606846976) (hs' : len' ≤ 1152921504606846976) :
    Calls Try.prog 8 #[.slice a len cap, .slice a' len' cap'] w fun e w' => e = .returned (.bool (eqB l l')) ∧ ∃ n, w' = w.drewN n := by
  by_cases hne : len = len'
  · subst hne
    by_cases h0 : len = 0
    · subst h0
      have e : eqB l l' = true := by
        have h1 := List.eq_nil_of_length_eq_zero h.1
        have h2 := List.eq_nil_of_length_eq_zero h'.1
        simp [eqB, h1, h2]
      rw [e]
      clear h h'
      go_enter Try.func8, Try.ntmps8
      go_wp2
      refine wp_loop_rounds 1 ?_
      rw [rounds_succ]
      go_wp2
      go_ret
      exact ⟨rfl, 0, rfl⟩
    · obtain ⟨b, off, rfl, hb, hc⟩ := h.at (by omega)
      obtain ⟨b', off', rfl, hb', hc'⟩ := h'.at (by omega)
      have hl := h.1
      have hl' := h'.1
      have HL : Hid (l.length = len) := hl
      have HL' : Hid (l'.length = len) := hl'
      clear h h' hl hl'
      have HC : Hid (∀ i, i < len → w.cell? ⟨b, off + i, none⟩ = some (.int .u8 (l.getD i 0))) := hc
      have HC' : Hid (∀ i, i < len → w.cell? ⟨b', off' + i, none⟩ = some (.int .u8 (l'.getD i 0))) := hc'
      clear hc hc'
      go_enter Try.func8, Try.ntmps8
      go_wp2
      go_loopw [5] (fun i wr => ∃ k n : Nat, k ≤ len ∧ i = .int .i64 k ∧ (∀ j, j < k → l.getD j 0 = l'.getD j 0) ∧ wr = w.drewN n) (fun i _ => len - (intOf i).toNat)
      case atStart => exact ⟨0, 0, Nat.zero_le _, rfl, fun j hj => by omega, rfl⟩
      case round =>
        obtain ⟨k, n, hk, rfl, hall, rfl⟩ := hrel
        have HA : Hid (∀ j, j < k → l.getD j 0 = l'.getD j 0) := hall
        clear hall
        by_cases hlt : k < len
        · obtain ⟨x, HX⟩ : ∃ x, Hid (x = l.getD k 0) := ⟨_, rfl⟩
          obtain ⟨y, HY⟩ : ∃ y, Hid (y = l'.getD k 0) := ⟨_, rfl⟩
          have c1 : w.cell? ⟨b, off + k, none⟩ = some (.int .u8 x) := by rw [HX.out]; exact HC.out k hlt
          have c2 : w.cell? ⟨b', off' + k, none⟩ = some (.int .u8 y) := by rw [HY.out]; exact HC'.out k hlt
          have i1 : (0 : Int) ≤ (k : Int) := by omega
          have i2 : (k : Int) < (len : Int) := by omega
          by_cases hq : x = y
          · have hq' : (x != y) = false := by simp [hq]
            have HQ : Hid (x = y) := hq
            clear hq
            go_wp2
            go_quiet (fail)
            go_wp2
            go_roundw
            case rel =>
              refine ⟨k + 1, _, by omega, by go_num, fun j hj => ?_, rfl⟩
              rcases Nat.lt_succ_iff_lt_or_eq.1 hj with h | h
              · exact HA.out j h
              · subst h; rw [← HX.out, ← HY.out]; exact HQ.out
            case measure => simp [intOf]; omega
          · have hq' : (x != y) = true := by simp [hq]
            have HQ : Hid (¬ x = y) := hq
            clear hq
            go_wp2
            go_quiet (fail)
            go_wp2
            go_ret
            have e : eqB l l' = false := by
              simp only [eqB, decide_eq_false_iff_not]
              intro h
              apply HQ.out
              rw [HX.out, HY.out, h]
            first | exact ⟨ret_bool e.symm, _, rfl⟩ | exact ⟨ret_bool e.symm, _, World.drewN_drewN _ _ _⟩
        · have : k = len := by omega
          subst this
          go_wp2
          go_ret
          have e : eqB l l' = true := by
            simp only [eqB, decide_eq_true_eq]
            exact eq_of_all (by rw [HL.out, HL'.out]) (fun i hi => HA.out i (by rw [HL.out] at hi; exact hi))
          exact ⟨ret_bool e.symm, _, rfl⟩
  · have hd : ((len : Int) != (len' : Int)) = true := by simp; omega
    have e : eqB l l' = false := by
      simp [eqB]; intro h0; apply hne; rw [← h.1, ← h'.1, h0]
    rw [e]
    clear h h'
    go_enter Try.func8, Try.ntmps8
    go_wp2
    go_ret
    exact ⟨rfl, 0, rfl⟩
end Go.Proofs.Qxb6614709a
