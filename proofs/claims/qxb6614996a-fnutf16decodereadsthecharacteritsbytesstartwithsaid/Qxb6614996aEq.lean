import Derived.Test.Qxb6614996aRows
import Derived.Test.Qxb6614996aSl
import Derived.Deep.QuietTactic
import Derived.BigQuiet
import Derived.WalkSpells
import Derived.Lib.SliceRun
namespace Go.Proofs.Qxb6614996a
open Go.RowKit

theorem Try.info5 : (Try.prog.info? 5).map (fun i => (i.zero, i.size, i.bytes)) = some (some (.int .u8 0), 1, 1) := by kernel_rfl

/-! ### zzSameBytes -/
theorem ret_bool {a b : Bool} (h : a = b) : Ending.returned (.bool a) = .returned (.bool b) := by rw [h]
def eqB (l l' : List Int) : Bool := decide (l = l')

theorem eq_of_all {l l' : List Int} (hl : l.length = l'.length) (h : ∀ i, i < l.length → l.getD i 0 = l'.getD i 0) : l = l' := by
  apply List.ext_getElem hl
  intro i h1 h2
  have := h i h1
  simpa [List.getD, h1, h2] using this

set_option maxHeartbeats 400000 in
theorem eq_any (w : World) (a : Option Addr) (len cap : Nat) (l : List Int) (a' : Option Addr) (len' cap' : Nat) (l' : List Int) (h : Sl w a len cap l) (h' : Sl w a' len' cap' l') (hs : len ≤ 1152921504606846976) (hs' : len' ≤ 1152921504606846976) :
    Calls Try.prog 15 #[.slice a len cap, .slice a' len' cap'] w fun e w' => e = .returned (.bool (eqB l l')) ∧ ∃ n, w' = w.drewN n := by
  by_cases hne : len = len'
  · subst hne
    by_cases h0 : len = 0
    · subst h0
      have e : eqB l l' = true := by
        have h1 := List.eq_nil_of_length_eq_zero h.1
        have h2 := List.eq_nil_of_length_eq_zero h'.1
        simp [eqB, h1, h2]
      rw [e]
      clear h h'
      go_enter Try.func15, Try.ntmps15
      go_wp2
      refine wp_loop_rounds 1 ?_
      rw [rounds_succ]
      go_wp2
      go_ret
      exact ⟨rfl, 0, rfl⟩
    · obtain ⟨b, off, rfl, hb, hc⟩ := h.at (by omega)
      obtain ⟨b', off', rfl, hb', hc'⟩ := h'.at (by omega)
      have hl := h.1
      have hl' := h'.1
      have HL : Hid (l.length = len) := hl
      have HL' : Hid (l'.length = len) := hl'
      clear h h' hl hl'
      have HC : Hid (∀ i, i < len → w.cell? ⟨b, off + i, none⟩ = some (.int .u8 (l.getD i 0))) := hc
      have HC' : Hid (∀ i, i < len → w.cell? ⟨b', off' + i, none⟩ = some (.int .u8 (l'.getD i 0))) := hc'
      clear hc hc'
      go_enter Try.func15, Try.ntmps15
      go_wp2
      go_loopw [5] (fun i wr => ∃ k n : Nat, k ≤ len ∧ i = .int .i64 k ∧ (∀ j, j < k → l.getD j 0 = l'.getD j 0) ∧ wr = w.drewN n) (fun i _ => len - (intOf i).toNat)
      case atStart => exact ⟨0, 0, Nat.zero_le _, rfl, fun j hj => by omega, rfl⟩
      case round =>
        obtain ⟨k, n, hk, rfl, hall, rfl⟩ := hrel
        have HA : Hid (∀ j, j < k → l.getD j 0 = l'.getD j 0) := hall
        clear hall
        by_cases hlt : k < len
        · obtain ⟨x, HX⟩ : ∃ x, Hid (x = l.getD k 0) := ⟨_, rfl⟩
          obtain ⟨y, HY⟩ : ∃ y, Hid (y = l'.getD k 0) := ⟨_, rfl⟩
          have c1 : w.cell? ⟨b, off + k, none⟩ = some (.int .u8 x) := by rw [HX.out]; exact HC.out k hlt
          have c2 : w.cell? ⟨b', off' + k, none⟩ = some (.int .u8 y) := by rw [HY.out]; exact HC'.out k hlt
          have i1 : (0 : Int) ≤ (k : Int) := by omega
          have i2 : (k : Int) < (len : Int) := by omega
          by_cases hq : x = y
          · have hq' : (x != y) = false := by simp [hq]
            have HQ : Hid (x = y) := hq
            clear hq
            go_wp2
            go_quiet (fail)
            go_wp2
            go_roundw
            case rel =>
              refine ⟨k + 1, _, by omega, by go_num, fun j hj => ?_, rfl⟩
              rcases Nat.lt_succ_iff_lt_or_eq.1 hj with h | h
              · exact HA.out j h
              · subst h; rw [← HX.out, ← HY.out]; exact HQ.out
            case measure => simp [intOf]; omega
          · have hq' : (x != y) = true := by simp [hq]
            have HQ : Hid (¬ x = y) := hq
            clear hq
            go_wp2
            go_quiet (fail)
            go_wp2
            go_ret
            have e : eqB l l' = false := by
              simp only [eqB, decide_eq_false_iff_not]
              intro h
              apply HQ.out
              rw [HX.out, HY.out, h]
            first | exact ⟨ret_bool e.symm, _, rfl⟩ | exact ⟨ret_bool e.symm, _, World.drewN_drewN _ _ _⟩
        · have : k = len := by omega
          subst this
          go_wp2
          go_ret
          have e : eqB l l' = true := by
            simp only [eqB, decide_eq_true_eq]
            exact eq_of_all (by rw [HL.out, HL'.out]) (fun i hi => HA.out i (by rw [HL.out] at hi; exact hi))
          exact ⟨ret_bool e.symm, _, rfl⟩
  · have hd : ((len : Int) != (len' : Int)) = true := by simp; omega
    have e : eqB l l' = false := by
      simp [eqB]; intro h0; apply hne; rw [← h.1, ← h'.1, h0]
    rw [e]
    clear h h'
    go_enter Try.func15, Try.ntmps15
    go_wp2
    go_ret
    exact ⟨rfl, 0, rfl⟩
end Go.Proofs.Qxb6614996a
