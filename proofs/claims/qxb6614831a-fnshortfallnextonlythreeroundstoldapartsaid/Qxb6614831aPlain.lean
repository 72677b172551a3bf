import Derived.Test.Qxb6614831aNext
namespace Go.Proofs.Qxb6614831a
open Go.RowKit

theorem or_left {p q r : Prop} (h : p ∨ r) (k : p → q) : q ∨ r := by
  rcases h with h | h
  · exact .inl (k h)
  · exact .inr h
/-! ### What the plain functions answer -/
theorem n_full (hf th : Bool) (sz lm seats elected members round : Int) (can : Bool) : nextA true hf th sz lm seats elected members round can = cComplete := rfl
theorem n_half (th : Bool) (sz lm seats elected members round : Int) (can : Bool) : nextA false true th sz lm seats elected members round can = halfA sz seats elected members := rfl
theorem n_three (sz lm seats elected members round : Int) (can : Bool) : nextA false false true sz lm seats elected members round can = threeA lm members round can := rfl
theorem n_two (sz lm seats elected members round : Int) (can : Bool) : nextA false false false sz lm seats elected members round can = twoA sz lm members round can := rfl
theorem h_old {sz seats elected members : Int} (h : ah elected seats = true) : halfA sz seats elected members = cOld := by unfold halfA; rw [if_pos h]
theorem h_next {sz seats elected members : Int} (h : ah elected seats = false) (h' : mt members sz = true) : halfA sz seats elected members = cNext := by unfold halfA; rw [if_neg (by simp [h]), if_pos h']
theorem h_within {sz seats elected members : Int} (h : ah elected seats = false) (h' : mt members sz = false) : halfA sz seats elected members = cWithin := by unfold halfA; rw [if_neg (by simp [h]), if_neg (by simp [h'])]
theorem t_second {lm members round : Int} (h : round < 3) : threeA lm members round true = cSecond := by unfold threeA; rw [if_pos (by simp [h])]
theorem t_old {lm members round : Int} {can : Bool} (h : ¬ round < 3 ∨ can = false) (h' : members < lm) : threeA lm members round can = cOld := by
  unfold threeA; rw [if_neg (by rcases h with h | h <;> simp [h]), if_pos h']
theorem t_next {lm members round : Int} {can : Bool} (h : ¬ round < 3 ∨ can = false) (h' : ¬ members < lm) : threeA lm members round can = cNext := by
  unfold threeA; rw [if_neg (by rcases h with h | h <;> simp [h]), if_neg h']
theorem d_next {sz lm members round : Int} {can : Bool} (h : (mt members sz && decide (lm < members)) = true) : twoA sz lm members round can = cNext := by unfold twoA; rw [if_pos h]
theorem d_second {sz lm members round : Int} (h : ¬ (mt members sz && decide (lm < members)) = true) (h' : round ≤ 1) : twoA sz lm members round true = cSecond := by unfold twoA; rw [if_neg h, if_pos (by simp [h'])]
theorem d_within {sz lm members round : Int} {can : Bool} (h : ¬ (mt members sz && decide (lm < members)) = true) (h' : ¬ round ≤ 1 ∨ can = false) : twoA sz lm members round can = cWithin := by
  unfold twoA; rw [if_neg h, if_neg (by rcases h' with h' | h' <;> simp [h'])]
theorem half_not_three {s : ByteArray} (h : (s.toList == [104, 97, 108, 102, 45, 116, 104, 101, 110, 45, 116, 119, 111, 45, 116, 104, 105, 114, 100, 115]) = true) : (s.toList == [116, 104, 114, 101, 101, 45, 114, 111, 117, 110, 100, 115]) = false := by
  rw [eq_of_beq h]; rfl
end Go.Proofs.Qxb6614831a
