import Derived.Test.Qxb6614850aRows
import Derived.WalkKit
import Derived.ProofKit
import Derived.Below
namespace Go.Proofs.Qxb6614850a
open Go.RowKit

theorem under22 : Try.prog.underlying 22 = some (.slice (Try.prog.elem 22)) := by kernel_rfl
theorem size22 (w : World) : (sizeOf (Try.prog.elem 22)).run Try.prog w = .ok 1 w := by kernel_rfl

/-- 'x[n:]', wherever it lies. -/
theorem cut_from (a : Option Addr) (len cap n : Nat) (hn : n ≤ len) :
    ∃ A, ∀ w', (Instr.slice 22 (.slice a len cap) (some (.int .i64 (n : Int))) none none).run Try.prog w' = .ok (.slice A (len - n) (cap - n)) w' := by
  refine ⟨if cap = n then a else a.map (·.add n), fun w' => ?_⟩
  rw [run_slice_l w' 22 a len cap under22 .i64 n (by omega) (by omega), size22]
  simp [Result.andThen, sliced]

/-- 'x[:n]', wherever it lies. -/
theorem cut_upto (a : Option Addr) (len cap n : Nat) (hn : n ≤ len) (hc : len ≤ cap) :
    ∃ A, ∀ w', (Instr.slice 22 (.slice a len cap) none (some (.int .i64 (n : Int))) none).run Try.prog w' = .ok (.slice A n cap) w' := by
  refine ⟨a, fun w' => ?_⟩
  rw [run_slice_h w' 22 a len cap under22 .i64 n (by omega) (by omega), size22]
  cases a <;> simp [Result.andThen, sliced, Addr.add]

theorem counterAt_any (w : World) (n : Int) : Calls Try.prog 6 #[.int .i64 n] w fun e w' => e = .returned (.pointer (some ⟨w.heap.size, 0, none⟩)) ∧ w' = w.alloc (.cells #[.int .i64 n] 33) := by
  go_enter Try.func6, Try.ntmps6
  go_wp2
  go_ret
  exact ⟨rfl, rfl⟩

theorem write_any (w : World) (b : Nat) (m : Int) (a : Option Addr) (len cap : Nat) (hc : w.cell? ⟨b, 0, none⟩ = some (.int .i64 m)) (hf : w.frozen? ⟨b, 0, none⟩ = false) (h0 : 0 ≤ m) (h1 : m ≤ 4294967296) (h2 : len ≤ 1048576) :
    Calls Try.prog 7 #[.pointer (some ⟨b, 0, none⟩), .slice a len cap] w fun e w' => e = .returned (.tuple #[.int .i64 len, .nilIface]) ∧ w' = w.setCell ⟨b, 0, none⟩ (.int .i64 (m + len)) := by
  go_enter Try.func7, Try.ntmps7
  go_wp2
  go_ret2
  exact ⟨rfl, rfl⟩

theorem count_any (w : World) (b : Nat) (m : Int) (hc : w.cell? ⟨b, 0, none⟩ = some (.int .i64 m)) :
    Calls Try.prog 8 #[.pointer (some ⟨b, 0, none⟩)] w fun e w' => e = .returned (.int .i64 m) ∧ w' = w := by
  go_enter Try.func8, Try.ntmps8
  go_wp2
  go_ret
  exact ⟨rfl, rfl⟩

theorem bytes_any (w : World) (a : Option Addr) (len cap : Nat) (k n : Int) (h : len ≤ 9223372036854775807) :
    Calls Try.prog 5 #[.slice a len cap, .int .i64 k, .int .i64 n] w fun e w' => ∃ b, e = .returned (.bool b) ∧ w = w' := by
  go_enter Try.func5, Try.ntmps5
  go_wp2
  all_goals
    go_ret
    exact ⟨_, rfl, rfl⟩
end Go.Proofs.Qxb6614850a
