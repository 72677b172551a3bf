import Derived.Test.Qxb6614831aRows
import Derived.WalkKit
import Derived.ProofKit
import Derived.Below
namespace Go.Proofs.Qxb6614831a
open Go.RowKit

/-! ### What the functions come to, in plain words -/
abbrev cComplete : ByteArray := ⟨#[99, 111, 109, 112, 108, 101, 116, 101]⟩
abbrev cSecond : ByteArray := ⟨#[115, 101, 99, 111, 110, 100, 45, 114, 111, 117, 110, 100]⟩
abbrev cNext : ByteArray := ⟨#[110, 101, 120, 116, 45, 109, 101, 101, 116, 105, 110, 103]⟩
abbrev cWithin : ByteArray := ⟨#[109, 101, 101, 116, 105, 110, 103, 45, 119, 105, 116, 104, 105, 110, 45, 116, 119, 111, 45, 109, 111, 110, 116, 104, 115]⟩
abbrev cOld : ByteArray := ⟨#[111, 108, 100, 45, 98, 111, 97, 114, 100, 45, 99, 111, 110, 116, 105, 110, 117, 101, 115]⟩

def mt (m s : Int) : Bool := decide (wrap64 (s - m) < wrap64 (m - wrap64 (s - m)))
def ah (e s : Int) : Bool := decide (e ≤ wrap64 (s - e))

theorem ret_bool {a b : Bool} (h : a = b) : Ending.returned (.bool a) = .returned (.bool b) := by rw [h]
theorem ret_str {a b : ByteArray} (h : a = b) : Ending.returned (.string a) = .returned (.string b) := by rw [h]

theorem mt_any (w : World) (m s : Int) : Calls Try.prog 26 #[.int .i64 m, .int .i64 s] w fun e w' => e = .returned (.bool (mt m s)) ∧ w = w' := by
  unfold mt
  go_enter Try.func26, Try.ntmps26
  go_wp2
  go_ret
  exact ⟨rfl, rfl⟩

theorem ah_any (w : World) (m s : Int) : Calls Try.prog 35 #[.int .i64 m, .int .i64 s] w fun e w' => e = .returned (.bool (ah m s)) ∧ w = w' := by
  unfold ah
  go_enter Try.func35, Try.ntmps35
  go_wp2
  go_ret
  exact ⟨rfl, rfl⟩

def halfA (sz seats elected members : Int) : ByteArray := if ah elected seats then cOld else if mt members sz then cNext else cWithin
def threeA (lm members round : Int) (can : Bool) : ByteArray := if decide (round < 3) && can then cSecond else if members < lm then cOld else cNext
def twoA (sz lm members round : Int) (can : Bool) : ByteArray := if mt members sz && decide (lm < members) then cNext else if decide (round ≤ 1) && can then cSecond else cWithin

theorem two_boxes (w : World) (o o' : Obj) : Below w.heap.size w ((w.alloc o).alloc o') := ((Below.refl _ _).alloc (Nat.le_refl _) _).alloc (by simp) _

theorem half_any (w : World) (sz lm co ee le : Int) (of : ByteArray) (seats elected members : Int) (na : ByteArray) (ns : Int) :
    Calls Try.prog 32 #[.agg #[.int .i64 sz, .int .i64 lm, .int .i64 co, .int .i64 ee, .int .i64 le], .agg #[.string of, .int .i64 seats, .int .i64 elected, .int .i64 members, .string na, .int .i64 ns]] w
      fun e w' => e = .returned (.string (halfA sz seats elected members)) ∧ Below w.heap.size w w' := by
  unfold halfA
  cases h1 : ah elected seats
  · cases h2 : mt members sz
    · go_enter Try.func32, Try.ntmps32
      go_wp2_with fail
      refine (ah_any _ _ _).mono ?_
      rintro e w' ⟨rfl, rfl⟩
      rw [h1]
      go_wp2_with fail
      refine (mt_any _ _ _).mono ?_
      rintro e w' ⟨rfl, rfl⟩
      rw [h2]
      go_wp2
      go_ret
      exact ⟨rfl, two_boxes _ _ _⟩
    · go_enter Try.func32, Try.ntmps32
      go_wp2_with fail
      refine (ah_any _ _ _).mono ?_
      rintro e w' ⟨rfl, rfl⟩
      rw [h1]
      go_wp2_with fail
      refine (mt_any _ _ _).mono ?_
      rintro e w' ⟨rfl, rfl⟩
      rw [h2]
      go_wp2
      go_ret
      exact ⟨rfl, two_boxes _ _ _⟩
  · go_enter Try.func32, Try.ntmps32
    go_wp2_with fail
    refine (ah_any _ _ _).mono ?_
    rintro e w' ⟨rfl, rfl⟩
    rw [h1]
    go_wp2
    go_ret
    exact ⟨rfl, two_boxes _ _ _⟩

theorem three_any (w : World) (sz lm co ee le : Int) (of : ByteArray) (seats elected members : Int) (na : ByteArray) (ns : Int) (round : Int) (can : Bool) :
    Calls Try.prog 33 #[.agg #[.int .i64 sz, .int .i64 lm, .int .i64 co, .int .i64 ee, .int .i64 le], .agg #[.string of, .int .i64 seats, .int .i64 elected, .int .i64 members, .string na, .int .i64 ns], .int .i64 round, .bool can] w
      fun e w' => e = .returned (.string (threeA lm members round can)) ∧ Below w.heap.size w w' := by
  unfold threeA
  by_cases h1 : round < 3
  · cases can
    · by_cases h2 : members < lm
      · rw [if_neg (by simp), if_pos h2]
        go_enter Try.func33, Try.ntmps33
        go_wp2
        go_ret
        exact ⟨rfl, two_boxes _ _ _⟩
      · rw [if_neg (by simp), if_neg h2]
        go_enter Try.func33, Try.ntmps33
        go_wp2
        go_ret
        exact ⟨rfl, two_boxes _ _ _⟩
    · rw [if_pos (by simp [h1])]
      go_enter Try.func33, Try.ntmps33
      go_wp2
      go_ret
      exact ⟨rfl, two_boxes _ _ _⟩
  · have hd : decide (round < 3) = false := by simpa using h1
    by_cases h2 : members < lm
    · rw [if_neg (by simp [h1]), if_pos h2]
      go_enter Try.func33, Try.ntmps33
      go_wp2
      go_ret
      exact ⟨rfl, two_boxes _ _ _⟩
    · rw [if_neg (by simp [h1]), if_neg h2]
      go_enter Try.func33, Try.ntmps33
      go_wp2
      go_ret
      exact ⟨rfl, two_boxes _ _ _⟩

theorem two_any (w : World) (sz lm co ee le : Int) (of : ByteArray) (seats elected members : Int) (na : ByteArray) (ns : Int) (round : Int) (can : Bool) :
    Calls Try.prog 34 #[.agg #[.int .i64 sz, .int .i64 lm, .int .i64 co, .int .i64 ee, .int .i64 le], .agg #[.string of, .int .i64 seats, .int .i64 elected, .int .i64 members, .string na, .int .i64 ns], .int .i64 round, .bool can] w
      fun e w' => e = .returned (.string (twoA sz lm members round can)) ∧ Below w.heap.size w w' := by
  unfold twoA
  have rest : ∀ (_ : ¬ (mt members sz && decide (lm < members)) = true), (∀ v : ByteArray, v = (if decide (round ≤ 1) && can then cSecond else cWithin) → Calls Try.prog 34 #[.agg #[.int .i64 sz, .int .i64 lm, .int .i64 co, .int .i64 ee, .int .i64 le], .agg #[.string of, .int .i64 seats, .int .i64 elected, .int .i64 members, .string na, .int .i64 ns], .int .i64 round, .bool can] w
      fun e w' => e = .returned (.string v) ∧ Below w.heap.size w w') := by
    intro hn v hv
    cases h1 : mt members sz
    · by_cases h3 : round ≤ 1
      · cases can
        · rw [if_neg (by simp)] at hv
          subst hv
          go_enter Try.func34, Try.ntmps34
          go_wp2_with fail
          refine (mt_any _ _ _).mono ?_
          rintro e w' ⟨rfl, rfl⟩
          rw [h1]
          go_wp2
          go_ret
          exact ⟨rfl, two_boxes _ _ _⟩
        · rw [if_pos (by simp [h3])] at hv
          subst hv
          go_enter Try.func34, Try.ntmps34
          go_wp2_with fail
          refine (mt_any _ _ _).mono ?_
          rintro e w' ⟨rfl, rfl⟩
          rw [h1]
          go_wp2
          go_ret
          exact ⟨rfl, two_boxes _ _ _⟩
      · have hd : decide (round ≤ 1) = false := by simpa using h3
        rw [if_neg (by simp [h3])] at hv
        subst hv
        go_enter Try.func34, Try.ntmps34
        go_wp2_with fail
        refine (mt_any _ _ _).mono ?_
        rintro e w' ⟨rfl, rfl⟩
        rw [h1]
        go_wp2
        go_ret
        exact ⟨rfl, two_boxes _ _ _⟩
    · have h2 : ¬ lm < members := by simpa [h1] using hn
      clear hn
      by_cases h3 : round ≤ 1
      · cases can
        · rw [if_neg (by simp)] at hv
          subst hv
          go_enter Try.func34, Try.ntmps34
          go_wp2_with fail
          refine (mt_any _ _ _).mono ?_
          rintro e w' ⟨rfl, rfl⟩
          rw [h1]
          go_wp2
          go_ret
          exact ⟨rfl, two_boxes _ _ _⟩
        · rw [if_pos (by simp [h3])] at hv
          subst hv
          go_enter Try.func34, Try.ntmps34
          go_wp2_with fail
          refine (mt_any _ _ _).mono ?_
          rintro e w' ⟨rfl, rfl⟩
          rw [h1]
          go_wp2
          go_ret
          exact ⟨rfl, two_boxes _ _ _⟩
      · have hd : decide (round ≤ 1) = false := by simpa using h3
        rw [if_neg (by simp [h3])] at hv
        subst hv
        go_enter Try.func34, Try.ntmps34
        go_wp2_with fail
        refine (mt_any _ _ _).mono ?_
        rintro e w' ⟨rfl, rfl⟩
        rw [h1]
        go_wp2
        go_ret
        exact ⟨rfl, two_boxes _ _ _⟩
  by_cases hn : (mt members sz && decide (lm < members)) = true
  · rw [if_pos hn]
    have h1 : mt members sz = true := by simp at hn; exact hn.1
    have h2 : lm < members := by simp at hn; exact hn.2
    clear hn rest
    go_enter Try.func34, Try.ntmps34
    go_wp2_with fail
    refine (mt_any _ _ _).mono ?_
    rintro e w' ⟨rfl, rfl⟩
    rw [h1]
    go_wp2
    go_ret
    exact ⟨rfl, two_boxes _ _ _⟩
  · rw [if_neg hn]
    exact rest hn _ rfl
end Go.Proofs.Qxb6614831a
