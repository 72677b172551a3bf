import Derived.Test.Qxb6614831aFive
import Derived.Test.Qxb6614831aFiveB
import Derived.Test.Qxb6614831aFiveC
namespace Go.Proofs.Qxb6614831a
open Go.RowKit

/-! ### What the plain functions answer -/
theorem n_full (hf th : Bool) (sz lm seats elected members round : Int) (can : Bool) : nextA true hf th sz lm seats elected members round can = cComplete := rfl
theorem n_half (th : Bool) (sz lm seats elected members round : Int) (can : Bool) : nextA false true th sz lm seats elected members round can = halfA sz seats elected members := rfl
theorem n_three (sz lm seats elected members round : Int) (can : Bool) : nextA false false true sz lm seats elected members round can = threeA lm members round can := rfl
theorem n_two (sz lm seats elected members round : Int) (can : Bool) : nextA false false false sz lm seats elected members round can = twoA sz lm members round can := rfl
theorem h_old {sz seats elected members : Int} (h : ah elected seats = true) : halfA sz seats elected members = cOld := by unfold halfA; rw [if_pos h]
theorem h_next {sz seats elected members : Int} (h : ah elected seats = false) (h' : mt members sz = true) : halfA sz seats elected members = cNext := by unfold halfA; rw [if_neg (by simp [h]), if_pos h']
theorem h_within {sz seats elected members : Int} (h : ah elected seats = false) (h' : mt members sz = false) : halfA sz seats elected members = cWithin := by unfold halfA; rw [if_neg (by simp [h]), if_neg (by simp [h'])]
theorem t_second {lm members round : Int} (h : round < 3) : threeA lm members round true = cSecond := by unfold threeA; rw [if_pos (by simp [h])]
theorem t_old {lm members round : Int} {can : Bool} (h : ¬ round < 3 ∨ can = false) (h' : members < lm) : threeA lm members round can = cOld := by
  unfold threeA; rw [if_neg (by rcases h with h | h <;> simp [h]), if_pos h']
theorem t_next {lm members round : Int} {can : Bool} (h : ¬ round < 3 ∨ can = false) (h' : ¬ members < lm) : threeA lm members round can = cNext := by
  unfold threeA; rw [if_neg (by rcases h with h | h <;> simp [h]), if_neg h']
theorem d_next {sz lm members round : Int} {can : Bool} (h : (mt members sz && decide (lm < members)) = true) : twoA sz lm members round can = cNext := by unfold twoA; rw [if_pos h]
theorem d_second {sz lm members round : Int} (h : ¬ (mt members sz && decide (lm < members)) = true) (h' : round ≤ 1) : twoA sz lm members round true = cSecond := by unfold twoA; rw [if_neg h, if_pos (by simp [h'])]
theorem d_within {sz lm members round : Int} {can : Bool} (h : ¬ (mt members sz && decide (lm < members)) = true) (h' : ¬ round ≤ 1 ∨ can = false) : twoA sz lm members round can = cWithin := by
  unfold twoA; rw [if_neg h, if_neg (by rcases h' with h' | h' <;> simp [h'])]
theorem half_not_three {s : ByteArray} (h : (s.toList == [104, 97, 108, 102, 45, 116, 104, 101, 110, 45, 116, 119, 111, 45, 116, 104, 105, 114, 100, 115]) = true) : (s.toList == [116, 104, 114, 101, 101, 45, 114, 111, 117, 110, 100, 115]) = false := by
  rw [eq_of_beq h]; rfl
theorem ah_in {e s : Int} (h0 : 0 ≤ e) (h1 : e ≤ s) (h2 : s ≤ 9223372036854775807) : ah e s = decide (e ≤ s / 2) := by
  unfold ah
  have ew : wrap64 (s - e) = s - e := by unfold wrap64; omega
  rw [ew]
  by_cases h : e ≤ s / 2
  · rw [decide_eq_true h, decide_eq_true (by omega)]
  · rw [decide_eq_false h, decide_eq_false (by omega)]

set_option maxHeartbeats 1000000 in
theorem five_any (w : World) (s : ByteArray) (sz lm co ee le : Int) (of : ByteArray) (seats elected members : Int) (na : ByteArray) (ns : Int) (round : Int) (b1 : seats ≤ 9223372036854775807)
    (hs : s.size ≤ 9223372036854775807) (ho : of.size ≤ 9223372036854775807) (hn : na.size ≤ 9223372036854775807) :
    Calls Try.prog 5 #[.string s, .agg #[.int .i64 sz, .int .i64 lm, .int .i64 co, .int .i64 ee, .int .i64 le], .agg #[.string of, .int .i64 seats, .int .i64 elected, .int .i64 members, .string na, .int .i64 ns], .int .i64 round] w
      fun e w' => e = .returned (.bool true) ∧ Below w.heap.size w w' := by
  by_cases g1 : s.size ≤ 262144
  · by_cases g2 : of.size ≤ 262144
    · by_cases g3 : na.size ≤ 262144
      · cases e1 : (elected == seats)
        · cases e2 : (s.toList == [104, 97, 108, 102, 45, 116, 104, 101, 110, 45, 116, 119, 111, 45, 116, 104, 105, 114, 100, 115])
          · cases e3 : (s.toList == [116, 104, 114, 101, 101, 45, 114, 111, 117, 110, 100, 115])
            · by_cases hm : (mt members sz && decide (lm < members)) = true
              · exact five_dNext w s sz lm co ee le of seats elected members na ns round g1 g2 g3 e1 e2 e3 (by rw [n_two, d_next hm]) (by rw [n_two, d_next hm])
              · by_cases hr : round ≤ 1
                · exact five_dSecond w s sz lm co ee le of seats elected members na ns round g1 g2 g3 e1 e2 e3 (by rw [n_two, d_second hm hr]) (by rw [n_two, d_within hm (.inr rfl)]) hr
                · exact five_dWithin w s sz lm co ee le of seats elected members na ns round g1 g2 g3 e1 e2 e3 (by rw [n_two, d_within hm (.inl hr)]) (by rw [n_two, d_within hm (.inl hr)])
            · by_cases hr : round < 3
              · by_cases hm : members < lm
                · exact five_tloOld w s sz lm co ee le of seats elected members na ns round g1 g2 g3 e1 e2 e3 (by rw [n_three, t_second hr]) (by rw [n_three, t_old (.inr rfl) hm]) hr
                · exact five_tloNext w s sz lm co ee le of seats elected members na ns round g1 g2 g3 e1 e2 e3 (by rw [n_three, t_second hr]) (by rw [n_three, t_next (.inr rfl) hm]) hr
              · by_cases hm : members < lm
                · exact five_thiOld w s sz lm co ee le of seats elected members na ns round g1 g2 g3 e1 e2 e3 (by rw [n_three, t_old (.inl hr) hm]) (by rw [n_three, t_old (.inl hr) hm]) hr
                · exact five_thiNext w s sz lm co ee le of seats elected members na ns round g1 g2 g3 e1 e2 e3 (by rw [n_three, t_next (.inl hr) hm]) (by rw [n_three, t_next (.inl hr) hm]) hr
          · have e3 := half_not_three e2
            cases ha : ah elected seats
            · cases hm : mt members sz
              · by_cases r1 : 0 ≤ elected
                · by_cases r2 : elected ≤ seats
                  · have r3 : ¬ elected ≤ seats / 2 := by rw [ah_in r1 r2 b1] at ha; simpa using ha
                    exact five_hWithin3 w s sz lm co ee le of seats elected members na ns round g1 g2 g3 e1 e2 e3 (by rw [n_half, h_within ha hm]) (by rw [n_half, h_within ha hm]) r1 r2 b1 r3
                  · exact five_hWithin2 w s sz lm co ee le of seats elected members na ns round g1 g2 g3 e1 e2 e3 (by rw [n_half, h_within ha hm]) (by rw [n_half, h_within ha hm]) r1 r2
                · exact five_hWithin1 w s sz lm co ee le of seats elected members na ns round g1 g2 g3 e1 e2 e3 (by rw [n_half, h_within ha hm]) (by rw [n_half, h_within ha hm]) r1
              · by_cases r1 : 0 ≤ elected
                · by_cases r2 : elected ≤ seats
                  · have r3 : ¬ elected ≤ seats / 2 := by rw [ah_in r1 r2 b1] at ha; simpa using ha
                    exact five_hNext3 w s sz lm co ee le of seats elected members na ns round g1 g2 g3 e1 e2 e3 (by rw [n_half, h_next ha hm]) (by rw [n_half, h_next ha hm]) r1 r2 b1 r3
                  · exact five_hNext2 w s sz lm co ee le of seats elected members na ns round g1 g2 g3 e1 e2 e3 (by rw [n_half, h_next ha hm]) (by rw [n_half, h_next ha hm]) r1 r2
                · exact five_hNext1 w s sz lm co ee le of seats elected members na ns round g1 g2 g3 e1 e2 e3 (by rw [n_half, h_next ha hm]) (by rw [n_half, h_next ha hm]) r1
            · by_cases r1 : 0 ≤ elected
              · by_cases r2 : elected ≤ seats
                · have r3 : elected ≤ seats / 2 := by rw [ah_in r1 r2 b1] at ha; simpa using ha
                  exact five_hOld3 w s sz lm co ee le of seats elected members na ns round g1 g2 g3 e1 e2 e3 (by rw [n_half, h_old ha]) (by rw [n_half, h_old ha]) r1 r2 b1 r3
                · exact five_hOld2 w s sz lm co ee le of seats elected members na ns round g1 g2 g3 e1 e2 e3 (by rw [n_half, h_old ha]) (by rw [n_half, h_old ha]) r1 r2
              · exact five_hOld1 w s sz lm co ee le of seats elected members na ns round g1 g2 g3 e1 e2 e3 (by rw [n_half, h_old ha]) (by rw [n_half, h_old ha]) r1
        · cases e2 : (s.toList == [104, 97, 108, 102, 45, 116, 104, 101, 110, 45, 116, 119, 111, 45, 116, 104, 105, 114, 100, 115])
          · cases e3 : (s.toList == [116, 104, 114, 101, 101, 45, 114, 111, 117, 110, 100, 115])
            · exact five_f00 w s sz lm co ee le of seats elected members na ns round g1 g2 g3 e1 e2 e3 rfl rfl
            · exact five_f01 w s sz lm co ee le of seats elected members na ns round g1 g2 g3 e1 e2 e3 rfl rfl
          · exact five_f10 w s sz lm co ee le of seats elected members na ns round g1 g2 g3 e1 e2 (half_not_three e2) rfl rfl
      · skip
        clear b1
        go_enter Try.func5, Try.ntmps5
        go_wp2_with fail
        refine (bytes12_any _ _ _ _ _ _ _ _ _ _ _ _ _ _ (by omega) (by omega) (by omega)).mono ?_
        rintro e w1 ⟨b, rfl, hb⟩
        have B1 := bnext (two_boxes w _ _) (Nat.le_refl _) hb
        obtain ⟨hc, hf⟩ := bcell hb
        cases b
        · go_wp2
          go_ret
          exact ⟨rfl, B1⟩
        · go_wp2
          go_ret
          exact ⟨rfl, B1⟩
    · skip
      clear b1
      go_enter Try.func5, Try.ntmps5
      go_wp2_with fail
      refine (bytes12_any _ _ _ _ _ _ _ _ _ _ _ _ _ _ (by omega) (by omega) (by omega)).mono ?_
      rintro e w1 ⟨b, rfl, hb⟩
      have B1 := bnext (two_boxes w _ _) (Nat.le_refl _) hb
      obtain ⟨hc, hf⟩ := bcell hb
      cases b
      · go_wp2
        go_ret
        exact ⟨rfl, B1⟩
      · go_wp2
        go_ret
        exact ⟨rfl, B1⟩
  · skip
    clear b1
    go_enter Try.func5, Try.ntmps5
    go_wp2_with fail
    refine (bytes12_any _ _ _ _ _ _ _ _ _ _ _ _ _ _ (by omega) (by omega) (by omega)).mono ?_
    rintro e w1 ⟨b, rfl, hb⟩
    have B1 := bnext (two_boxes w _ _) (Nat.le_refl _) hb
    obtain ⟨hc, hf⟩ := bcell hb
    cases b
    · go_wp2
      go_ret
      exact ⟨rfl, B1⟩
    · go_wp2
      go_ret
      exact ⟨rfl, B1⟩
end Go.Proofs.Qxb6614831a
