import Derived.Test.Qxb6614850aWalkA
namespace Go.Proofs.Qxb6614850a
open Go.RowKit

set_option maxHeartbeats 1000000 in
theorem split_main (w : World) (a : Option Addr) (len cap k : Nat) (n : Int) (hc : len ≤ cap) (h1 : len ≤ 1048576) (h2 : 0 ≤ n) (h3 : n ≤ 1073741824) (h4 : k ≤ len) :
    Calls Try.prog 3 #[.slice a len cap, .int .i64 k, .int .i64 n] w fun e w' => e = .returned (.bool true) ∧ Below w.heap.size w w' := by
  obtain ⟨A1, q1⟩ := cut_upto a len cap k h4 hc
  obtain ⟨A2, q2⟩ := cut_from a len cap k h4
  go_enter Try.func3, Try.ntmps3
  go_wp2_with fail
  refine (bytes_any _ _ _ _ _ _ (by omega)).mono ?_
  rintro e w' ⟨b, rfl, rfl⟩
  cases b
  · go_wp2
    go_ret
    exact ⟨rfl, Below.refl _ _⟩
  · go_wp2_with fail
    refine (counterAt_any _ _).mono ?_
    rintro e w1 ⟨rfl, rfl⟩
    go_wp2_with fail
    refine (write_any _ _ n _ _ _ (by simp) (by simp) (by omega) (by omega) (by omega)).mono ?_
    rintro e w1 ⟨rfl, rfl⟩
    go_wp2_with fail
    refine (write_any _ _ (n + k) _ _ _ (by simp) (by simp) (by omega) (by omega) (by omega)).mono ?_
    rintro e w1 ⟨rfl, rfl⟩
    rw [show n + (k : Int) + ((len - k : Nat) : Int) = n + len by omega]
    go_wp2_with fail
    refine (counterAt_any _ _).mono ?_
    rintro e w1 ⟨rfl, rfl⟩
    go_wp2_with fail
    refine (write_any _ _ n _ _ _ (by simp) (by simp) (by omega) (by omega) (by omega)).mono ?_
    rintro e w1 ⟨rfl, rfl⟩
    have f1 : (((len - k : Nat) : Int) == (len : Int) - (k : Int)) = true := by rw [beq_iff_eq]; omega
    go_wp2_with fail
    refine (count_any _ _ (n + len) (by simp)).mono ?_
    rintro e w1 ⟨rfl, rfl⟩
    go_wp2_with fail
    refine (count_any _ _ (n + len) (by simp)).mono ?_
    rintro e w1 ⟨rfl, rfl⟩
    go_wp2
    go_ret
    exact ⟨rfl, ((Below.refl _ _).alloc (Nat.le_refl _) _).alloc (by simp) _⟩

theorem split_any (w : World) (a : Option Addr) (len cap : Nat) (k n : Int) (hc : len ≤ cap) (hm : cap ≤ 9223372036854775807) :
    Calls Try.prog 3 #[.slice a len cap, .int .i64 k, .int .i64 n] w fun e w' => e = .returned (.bool true) ∧ Below w.heap.size w w' := by
  by_cases h1 : len ≤ 1048576
  · by_cases h2 : 0 ≤ n
    · by_cases h3 : n ≤ 1073741824
      · by_cases h4 : 0 ≤ k
        · by_cases h5 : k ≤ (len : Int)
          · obtain ⟨m, rfl⟩ := Int.eq_ofNat_of_zero_le h4
            exact split_main w a len cap m n hc h1 h2 h3 (by omega)
          · go_enter Try.func3, Try.ntmps3
            go_wp2_with fail
            refine (bytes_any _ _ _ _ _ _ (by omega)).mono ?_
            rintro e w' ⟨b, rfl, rfl⟩
            cases b
            all_goals
              go_wp2
              go_ret
              exact ⟨rfl, Below.refl _ _⟩
        · go_enter Try.func3, Try.ntmps3
          go_wp2_with fail
          refine (bytes_any _ _ _ _ _ _ (by omega)).mono ?_
          rintro e w' ⟨b, rfl, rfl⟩
          cases b
          all_goals
            go_wp2
            go_ret
            exact ⟨rfl, Below.refl _ _⟩
      · go_enter Try.func3, Try.ntmps3
        go_wp2_with fail
        refine (bytes_any _ _ _ _ _ _ (by omega)).mono ?_
        rintro e w' ⟨b, rfl, rfl⟩
        cases b
        all_goals
          go_wp2
          go_ret
          exact ⟨rfl, Below.refl _ _⟩
    · go_enter Try.func3, Try.ntmps3
      go_wp2_with fail
      refine (bytes_any _ _ _ _ _ _ (by omega)).mono ?_
      rintro e w' ⟨b, rfl, rfl⟩
      cases b
      all_goals
        go_wp2
        go_ret
        exact ⟨rfl, Below.refl _ _⟩
  · go_enter Try.func3, Try.ntmps3
    go_wp2_with fail
    refine (bytes_any _ _ _ _ _ _ (by omega)).mono ?_
    rintro e w' ⟨b, rfl, rfl⟩
    cases b
    all_goals
      go_wp2
      go_ret
      exact ⟨rfl, Below.refl _ _⟩
end Go.Proofs.Qxb6614850a
