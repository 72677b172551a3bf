import Derived.Test.Qxb6614996aEq
namespace Go.Proofs.Qxb6614996a
open Go.RowKit

theorem under22 : Try.prog.underlying 22 = some (.slice (Try.prog.elem 22)) := by kernel_rfl
theorem size22 (w : World) : (sizeOf (Try.prog.elem 22)).run Try.prog w = .ok 1 w := by kernel_rfl

/-- 'x[n:]': where it lies, and what it holds. -/
theorem Sl.from {w : World} {a : Option Addr} {len cap : Nat} {l : List Int} (h : Sl w a len cap l) (k : Int) (n : Nat) (hk : k = (n : Int)) (hn : n ≤ len) :
    ∃ A, (∀ w', (Instr.slice 22 (.slice a len cap) (some (.int .i64 k)) none none).run Try.prog w' = .ok (.slice A (len - n) (cap - n)) w') ∧ Sl w A (len - n) (cap - n) (l.drop n) := by
  obtain ⟨h1, h2, h3, h4, h5⟩ := h
  subst hk
  refine ⟨if cap = n then a else a.map (·.add n), fun w' => ?_, ?_⟩
  · rw [run_slice_l w' 22 a len cap under22 .i64 n (by omega) (by omega), size22]
    simp [Result.andThen, sliced]
  · refine ⟨by rw [List.length_drop, h1], by omega, by omega, fun e => ?_, fun x hx i hi => ?_⟩
    · split at e
      · omega
      · have : a = none := by simpa using e
        have := h4 this
        omega
    · rw [if_neg (by omega)] at hx
      obtain ⟨y, rfl, hy⟩ := Option.map_eq_some_iff.1 hx
      subst hy
      have := h5 y rfl (n + i) (by omega)
      rw [show (y.add n).add i = y.add (n + i) from ?_]
      · rw [this]
        simp [List.getD, List.getElem?_drop]
      · have hs : y.spot = none := by
          have e0 := h5 y rfl 0 (by omega)
          simpa [Addr.add] using World.cell?_spot e0
        obtain ⟨b, off, sp⟩ := y
        simp only at hs
        subst hs
        simp [Addr.add_lit, Nat.add_assoc]

/-- 'x[:n]': where it lies, and what it holds. -/
theorem Sl.upto {w : World} {a : Option Addr} {len cap : Nat} {l : List Int} (h : Sl w a len cap l) (k : Int) (n : Nat) (hk : k = (n : Int)) (hn : n ≤ len) :
    ∃ A, (∀ w', (Instr.slice 22 (.slice a len cap) none (some (.int .i64 k)) none).run Try.prog w' = .ok (.slice A n cap) w') ∧ Sl w A n cap (l.take n) := by
  obtain ⟨h1, h2, h3, h4, h5⟩ := h
  subst hk
  refine ⟨a, fun w' => ?_, ?_⟩
  · rw [run_slice_h w' 22 a len cap under22 .i64 n (by omega) (by omega), size22]
    cases a <;> simp [Result.andThen, sliced, Addr.add]
  · refine ⟨by rw [List.length_take, h1]; omega, by omega, by omega, h4, fun x hx i hi => ?_⟩
    rw [h5 x hx i (by omega)]
    simp [List.getD, hi]

theorem Sl.drewN {w : World} {a : Option Addr} {len cap : Nat} {l : List Int} (h : Sl w a len cap l) (n : Nat) : Sl (w.drewN n) a len cap l := h

/-- zzEq at two slices that hold the same bytes. -/
theorem eq_yes (w : World) (a : Option Addr) (len cap : Nat) (l : List Int) (a' : Option Addr) (len' cap' : Nat) (h : Sl w a len cap l) (h' : Sl w a' len' cap' l) (hs : len ≤ 1152921504606846976) :
    Calls Try.prog 15 #[.slice a len cap, .slice a' len' cap'] w fun e w' => e = .returned (.bool true) ∧ ∃ n, w' = w.drewN n := by
  have e : eqB l l = true := by simp [eqB]
  have := eq_any w a len cap l a' len' cap' l h h' hs (by have h1 := h.1; have h2 := h'.1; omega)
  rw [e] at this
  exact this
end Go.Proofs.Qxb6614996a
