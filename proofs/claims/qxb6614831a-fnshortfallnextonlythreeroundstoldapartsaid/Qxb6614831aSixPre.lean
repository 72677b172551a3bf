import Derived.Test.Qxb6614831aNext
import Derived.Deep.DeepCutAuto
import Derived.BigQuiet
namespace Go.Proofs.Qxb6614831a
open Go.RowKit

theorem bdrewN {B : Nat} {w w1 : World} (h : Below B w w1) (n : Nat) : Below B w (w1.drewN n) := h.trans ⟨rfl, rfl, rfl, Nat.le_refl _, fun _ _ => rfl⟩

/-- What zzLeastOverTwoThirds answers from nought up. -/
def lst (sz : Int) : Int := if sz % 3 = 0 then sz - sz / 3 + 1 else sz - (sz / 3 + 1) + 1
theorem least_any (w : World) (sz : Int) (h0 : 0 ≤ sz) (h1 : sz ≤ 9223372036854775807) : Calls Try.prog 11 #[.int .i64 sz] w fun e w' => e = .returned (.int .i64 (lst sz)) ∧ w' = w := by
  unfold lst
  by_cases h : sz % 3 = 0
  · rw [if_pos h]
    have h' : (sz % 3 != 0) = false := by simp [h]
    have H : Hid (sz % 3 = 0) := h
    clear h
    go_enter Try.func11, Try.ntmps11
    go_wp2
    go_ret
    exact ⟨rfl, rfl⟩
  · rw [if_neg h]
    have h' : (sz % 3 != 0) = true := by simp [h]
    clear h
    go_enter Try.func11, Try.ntmps11
    go_wp2
    go_ret
    exact ⟨rfl, rfl⟩
theorem mt_of_lst {m sz : Int} (h0 : 0 ≤ m) (h1 : m ≤ sz) (h2 : sz ≤ 9223372036854775807) (h3 : lst sz ≤ m) : mt m sz = true := by
  unfold mt
  have e1 : wrap64 (sz - m) = sz - m := by unfold wrap64; omega
  have e2 : wrap64 (m - (sz - m)) = m - (sz - m) := by unfold wrap64; omega
  rw [e1, e2, decide_eq_true_eq]
  unfold lst at h3
  split at h3 <;> omega
end Go.Proofs.Qxb6614831a
