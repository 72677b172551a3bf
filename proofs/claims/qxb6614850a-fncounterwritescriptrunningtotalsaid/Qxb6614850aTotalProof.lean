/-
  'Rows.FnCounterWriteScriptRunningTotalSaid', proved: the kit's frame for a law, typed for a slice of slices; the walk is Qxb6614850aWalkC's 'total_any'.
-/
import Derived.Test.Qxb6614850aRows
import Derived.WalkKit
import Derived.ProofKit
import Derived.OpenShut
import Derived.ShutString
import Derived.ChangeOld
import Derived.Below
import Derived.Deep.Slices
import Derived.Test.Qxb6614850aWalkC
namespace Go.Proofs.Qxb6614850a.fnCounterWriteScriptRunningTotal
open Go.ChangeShapes Go.WideShapes Go.ChangeAt Go.RowKit
open Go.Deep
set_option linter.unusedVariables false

theorem own : ownKnob Try.prog.godebug = none := by kernel_rfl
theorem laidOut : laidOutB Try.prog = true := by kernel_rfl
theorem cells22 : Try.prog.cellsOf 22 = 1 := by kernel_rfl

/-- The pieces, as they came in. -/
theorem pcs_of {H : Type} {enc : TypeId × Value → H} {W : World} {base : Nat} {spare : Nat → Bool} {held : Bool} {a : Option Addr} {len cap : Nat} {d : DataW H} {p : List MemPlace}
    (h : DataW.Trod enc Try.prog W base spare held 31 (.slice a len cap) d p) : ∃ f, Pcs W a len f := by
  obtain ⟨fuel, hf⟩ := h
  rcases open_slice1 Try.underlying31 cells22 hf with ⟨hcs, _⟩ | ⟨x, l, c, m, n, V, D, Pl, hcs, _, hl, hm, hmm, _, hx⟩
  · simp [Value.cells] at hcs
    obtain ⟨rfl, rfl, rfl⟩ := hcs
    exact ⟨fun _ => (none, 0, 0), by omega, fun _ => rfl, fun _ => Nat.zero_le _, fun x hx => (by cases hx)⟩
  · simp [Value.cells] at hcs
    obtain ⟨rfl, rfl, rfl⟩ := hcs
    have hlm : len ≤ m := by rw [hmm]; split <;> omega
    have one : ∀ i, ∃ t : Option Addr × Nat × Nat, t.2.1 ≤ 9223372036854775807 ∧ (i < len → W.cell? (x.add i) = some (.slice t.1 t.2.1 t.2.2)) := by
      intro i
      by_cases hi : i < len
      · obtain ⟨hc, ht⟩ := hx i (by omega)
        rcases open_slice Try.underlying22 ht with ⟨hv, _⟩ | ⟨a', l', c', m', n', D', Pl', hv, _, hl', hm', _⟩
        · simp at hv
          exact ⟨(none, 0, 0), Nat.zero_le _, fun _ => by rw [hc, hv]⟩
        · simp at hv
          exact ⟨(some a', l', c'), by unfold maxLen at hm'; show l' ≤ _; omega, fun _ => by rw [hc, hv]⟩
      · exact ⟨(none, 0, 0), Nat.zero_le _, fun h => absurd h hi⟩
    refine ⟨fun i => Classical.choose (one i), by unfold maxLen at hm; omega, fun e => (by cases e), fun i => (Classical.choose_spec (one i)).1, fun y hy i hi => ?_⟩
    obtain rfl := Option.some.inj hy
    exact (Classical.choose_spec (one i)).2 hi

set_option maxRecDepth 100000 in
theorem lifted (os : Os) (started : os.Started) (H : Type) (enc : TypeId × Value → H) :
    ReturnsInHanded {} Try.checked os 4 .any (Rows.fnCounterWriteScriptRunningTotalSpec.pre6 enc Try.prog Try.f4 Rows.fnCounterWriteScriptRunningTotalRow.domain false) (Rows.fnCounterWriteScriptRunningTotalSpec.post enc Try.prog Try.f4 false true false false) := by
  refine returnsInHanded_of_change (C := Try.checked) own started (by kernel_rfl) Try.func4
    (ChangeSpec.witness6 (enc := enc) (C := Try.checked) false ⟨#[], #[.slice none 0 0, .int .i64 0], []⟩ 8 (by kernel_rfl) (by kernel_rfl) (by kernel_rfl) (by kernel_rfl)) ?_
  intro W base args ds gs before hval0 hW hcnd _
  have hval : ∀ (j : Nat) t v, Try.f4.params[j]? = some t → args[j]? = some v → Value.okWide Try.prog W .any base t v := hval0
  have hW' := hW
  obtain ⟨p, q, hA0, hV, rfl, hfz, hnd⟩ := hW
  have hA : DataW.TrodAll enc Try.prog W 0 (fun _ => true) true Try.f4.params.toList args.toList ds p := hA0
  rw [Try.params4] at hA hval
  obtain ⟨v0, vs0, d0, ds0, p0, q0, hargs, rfl, rfl, h0, r0⟩ := trodAll_cons hA
  obtain ⟨v1, vs1, d1, ds1, p1, q1, rfl, rfl, rfl, h1, r1⟩ := trodAll_cons r0
  obtain ⟨rfl, rfl, rfl⟩ := trodAll_nil r1
  obtain rfl : args = #[v0, v1] := by cases args; simp_all
  obtain ⟨rfl, rfl⟩ := trodVars_none hV
  obtain ⟨a0, len0, cap0, rfl⟩ := okWide_slice Try.underlying31 (hval 0 31 v0 rfl rfl)
  have k0 := h0
  have lt0 : ∀ x ∈ p0, x.block < W.heap.size := by obtain ⟨m, hm⟩ := k0; exact DataW.trod_lt m _ _ _ hm
  obtain ⟨f, w0⟩ := pcs_of h0
  obtain ⟨a1, rfl, rfl, rfl, w1⟩ := open_int Try.underlying3 (hval 1 3 v1 rfl rfl) h1
  clear hA0 hval0
  refine (total_any W a0 len0 cap0 f a1 w0).mono fun e W' ⟨he, bel⟩ => ?_
  subst he
  exact ⟨_, rfl, _, _, _, [], _, [], hW', trodAll_mk1 (shut_bool Try.underlying4 _), (trodAll_cons_mk (Below.trod laidOut (by kernel_rfl) (of_decide_eq_true (by kernel_rfl)) k0 bel lt0) (trodAll_cons_mk (shut_int Try.underlying3 w1) trodAll_mk0)), rfl, bel.frame _, fun h => by cases h⟩

theorem over : Rows.fnCounterWriteScriptRunningTotalRow.holds Try.pinned (OpenSpec.ofChange Rows.fnCounterWriteScriptRunningTotalSpec) :=
  OpenClaim.holds_of_wide 4 Try.f4 rfl rfl rfl rfl rfl rfl rfl ⟨rfl, rfl, rfl, rfl, rfl⟩ rfl rfl rfl rfl rfl (by kernel_rfl) Try.func4 (by kernel_rfl)
    (of_decide_eq_true (by kernel_rfl)) (by unfold Func.isWrapper; first | (rw [if_pos (by decide +kernel)]; kernel_rfl) | (rw [if_neg (by decide +kernel)]; exact ⟨rfl, rfl⟩))
    (fun os started H enc _ => lifted os started H enc)

/-- THE STATEMENT -/
theorem proved : Rows.FnCounterWriteScriptRunningTotalSaid := over
end Go.Proofs.Qxb6614850a.fnCounterWriteScriptRunningTotal
