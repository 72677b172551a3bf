import Derived.Test.Qxb6614831aSix
import Derived.Test.Qxb6614831aSixB
import Derived.Test.Qxb6614831aSixC
import Derived.Test.Qxb6614831aSixD
import Derived.Test.Qxb6614831aPlain
namespace Go.Proofs.Qxb6614831a
open Go.RowKit

set_option maxHeartbeats 1000000 in
set_option maxRecDepth 100000 in
theorem six_any (w : World) (s : ByteArray) (sz lm co ee le : Int) (of : ByteArray) (seats elected members : Int) (na : ByteArray) (ns : Int) (round : Int) (can : Bool) (b0 : sz ≤ 9223372036854775807)
    (hs : s.size ≤ 9223372036854775807) (ho : of.size ≤ 9223372036854775807) (hn : na.size ≤ 9223372036854775807) :
    Calls Try.prog 6 #[.string s, .agg #[.int .i64 sz, .int .i64 lm, .int .i64 co, .int .i64 ee, .int .i64 le], .agg #[.string of, .int .i64 seats, .int .i64 elected, .int .i64 members, .string na, .int .i64 ns], .int .i64 round, .bool can] w
      fun e w' => e = .returned (.bool true) ∧ Below w.heap.size w w' := by
  by_cases g1 : s.size ≤ 262144
  · by_cases g2 : of.size ≤ 262144
    · by_cases g3 : na.size ≤ 262144
      · cases e1 : (elected == seats)
        · cases e2 : (s.toList == [104, 97, 108, 102, 45, 116, 104, 101, 110, 45, 116, 119, 111, 45, 116, 104, 105, 114, 100, 115])
          · cases e3 : (s.toList == [116, 104, 114, 101, 101, 45, 114, 111, 117, 110, 100, 115])
            · by_cases hm : (mt members sz && decide (lm < members)) = true
              · exact six_dNext w s sz lm co ee le of seats elected members na ns round can g1 g2 g3 e1 e2 e3 (fun r' _ _ => by rw [n_two, d_next hm]) b0 (by simp at hm; exact hm.2)
              · have D : Hid (0 ≤ members → members ≤ sz → lst sz ≤ members → decide (lm < members) = false) := fun q1 q2 q3 => by
                  simp only [mt_of_lst q1 q2 b0 q3, Bool.true_and] at hm; simpa using hm
                by_cases hr : round ≤ 1 ∧ can = true
                · obtain ⟨hr, rfl⟩ := hr
                  exact six_dSecond w s sz lm co ee le of seats elected members na ns round true g1 g2 g3 e1 e2 e3 (fun r' _ h => by rw [n_two, d_second hm (h.2 hr)]) b0 D
                · have hw : ¬ round ≤ 1 ∨ can = false := by
                    cases can
                    · exact .inr rfl
                    · exact .inl (fun h => hr ⟨h, rfl⟩)
                  exact six_dWithin w s sz lm co ee le of seats elected members na ns round can g1 g2 g3 e1 e2 e3 (fun r' _ h => by rw [n_two, d_within hm (or_left hw (fun k => fun q => k (h.1 q)))]) b0 D
            · by_cases hr : round < 3 ∧ can = true
              · obtain ⟨hr, rfl⟩ := hr
                exact six_tSecond w s sz lm co ee le of seats elected members na ns round true g1 g2 g3 e1 e2 e3 (fun r' h _ => by rw [n_three, t_second (h.2 hr)]) hr rfl
              · have hw : ¬ round < 3 ∨ can = false := by
                  cases can
                  · exact .inr rfl
                  · exact .inl (fun h => hr ⟨h, rfl⟩)
                by_cases hm : members < lm
                · exact six_tOld w s sz lm co ee le of seats elected members na ns round can g1 g2 g3 e1 e2 e3 (fun r' h _ => by rw [n_three, t_old (or_left hw (fun k => fun q => k (h.1 q))) hm]) hm
                · exact six_tNext w s sz lm co ee le of seats elected members na ns round can g1 g2 g3 e1 e2 e3 (fun r' h _ => by rw [n_three, t_next (or_left hw (fun k => fun q => k (h.1 q))) hm])
          · have e3 := half_not_three e2
            cases ha : ah elected seats
            · cases hm : mt members sz
              · exact six_hWithin w s sz lm co ee le of seats elected members na ns round can g1 g2 g3 e1 e2 e3 (fun r' _ _ => by rw [n_half, h_within ha hm])
              · exact six_hNext w s sz lm co ee le of seats elected members na ns round can g1 g2 g3 e1 e2 e3 (fun r' _ _ => by rw [n_half, h_next ha hm])
            · exact six_hOld w s sz lm co ee le of seats elected members na ns round can g1 g2 g3 e1 e2 e3 (fun r' _ _ => by rw [n_half, h_old ha])
        · cases e2 : (s.toList == [104, 97, 108, 102, 45, 116, 104, 101, 110, 45, 116, 119, 111, 45, 116, 104, 105, 114, 100, 115])
          · cases e3 : (s.toList == [116, 104, 114, 101, 101, 45, 114, 111, 117, 110, 100, 115])
            · exact six_f00 w s sz lm co ee le of seats elected members na ns round can g1 g2 g3 e1 e2 e3 (fun _ _ _ => rfl)
            · exact six_f01 w s sz lm co ee le of seats elected members na ns round can g1 g2 g3 e1 e2 e3 (fun _ _ _ => rfl)
          · exact six_f10 w s sz lm co ee le of seats elected members na ns round can g1 g2 g3 e1 e2 (half_not_three e2) (fun _ _ _ => rfl)
      · skip
        clear b0
        go_enter Try.func6, Try.ntmps6
        go_wp2_with fail
        refine (bytes15_any _ _ _ _ _ _ _ _ _ _ _ _ _ _ _ (by omega) (by omega) (by omega)).mono ?_
        rintro e w1 ⟨b, rfl, hb⟩
        have B1 := bnext (two_boxes w _ _) (Nat.le_refl _) hb
        obtain ⟨hc, hf⟩ := bcell hb
        cases b
        · go_wp2
          go_ret
          exact ⟨rfl, B1⟩
        · go_wp2
          go_ret
          exact ⟨rfl, B1⟩
    · skip
      clear b0
      go_enter Try.func6, Try.ntmps6
      go_wp2_with fail
      refine (bytes15_any _ _ _ _ _ _ _ _ _ _ _ _ _ _ _ (by omega) (by omega) (by omega)).mono ?_
      rintro e w1 ⟨b, rfl, hb⟩
      have B1 := bnext (two_boxes w _ _) (Nat.le_refl _) hb
      obtain ⟨hc, hf⟩ := bcell hb
      cases b
      · go_wp2
        go_ret
        exact ⟨rfl, B1⟩
      · go_wp2
        go_ret
        exact ⟨rfl, B1⟩
  · skip
    clear b0
    go_enter Try.func6, Try.ntmps6
    go_wp2_with fail
    refine (bytes15_any _ _ _ _ _ _ _ _ _ _ _ _ _ _ _ (by omega) (by omega) (by omega)).mono ?_
    rintro e w1 ⟨b, rfl, hb⟩
    have B1 := bnext (two_boxes w _ _) (Nat.le_refl _) hb
    obtain ⟨hc, hf⟩ := bcell hb
    cases b
    · go_wp2
      go_ret
      exact ⟨rfl, B1⟩
    · go_wp2
      go_ret
      exact ⟨rfl, B1⟩
end Go.Proofs.Qxb6614831a
