import Derived.Test.Qxb6614831aNext
namespace Go.Proofs.Qxb6614831a
open Go.RowKit

set_option maxHeartbeats 1000000 in
theorem five_hNext1 (w : World) (s : ByteArray) (sz lm co ee le : Int) (of : ByteArray) (seats elected members : Int) (na : ByteArray) (ns : Int) (round : Int) (g1 : s.size ≤ 262144) (g2 : of.size ≤ 262144) (g3 : na.size ≤ 262144)
    (e1 : (elected == seats) = false) (e2 : (s.toList == [104, 97, 108, 102, 45, 116, 104, 101, 110, 45, 116, 119, 111, 45, 116, 104, 105, 114, 100, 115]) = true) (e3 : (s.toList == [116, 104, 114, 101, 101, 45, 114, 111, 117, 110, 100, 115]) = false)
    (ec : nextA false true false sz lm seats elected members round true = cNext) (en : nextA false true false sz lm seats elected members round false = cNext) (r1 : ¬ 0 ≤ elected) :
    Calls Try.prog 5 #[.string s, .agg #[.int .i64 sz, .int .i64 lm, .int .i64 co, .int .i64 ee, .int .i64 le], .agg #[.string of, .int .i64 seats, .int .i64 elected, .int .i64 members, .string na, .int .i64 ns], .int .i64 round] w
      fun e w' => e = .returned (.bool true) ∧ Below w.heap.size w w' := by
  go_enter Try.func5, Try.ntmps5
  go_wp2_with fail
  refine (bytes12_any _ _ _ _ _ _ _ _ _ _ _ _ _ _ (by omega) (by omega) (by omega)).mono ?_
  rintro e w1 ⟨b, rfl, hb⟩
  have B1 := bnext (two_boxes w _ _) (Nat.le_refl _) hb
  obtain ⟨hc, hf⟩ := bcell hb
  cases b
  · go_wp2
    go_ret
    exact ⟨rfl, B1⟩
  · go_wp2_with fail
    refine (zznext_any _ _ _ _ _ _ _ _ _ _ _ _ _ _ _ false true false e1 e2 e3).mono ?_
    rintro e w2 ⟨rfl, hb2⟩
    rw [ec]
    clear hc hf B1
    have hb' := bnext hb (Nat.le_refl _) hb2
    clear hb hb2
    obtain ⟨hc, hf⟩ := bcell hb'
    go_wp2_with fail
    refine (zznext_any _ _ _ _ _ _ _ _ _ _ _ _ _ _ _ false true false e1 e2 e3).mono ?_
    rintro e w3 ⟨rfl, hb3⟩
    rw [en]
    clear hc hf ec en
    have hb := bnext hb' (Nat.le_refl _) hb3
    clear hb' hb3
    obtain ⟨hc, hf⟩ := bcell hb
    go_wp2_with fail
    refine (isact_any _ _ (.inr (.inr (.inl rfl)))).mono ?_
    rintro e w' ⟨rfl, rfl⟩
    go_wp2_with fail
    refine (isact_any _ _ (.inr (.inr (.inl rfl)))).mono ?_
    rintro e w' ⟨rfl, rfl⟩
    go_wp2
    go_ret
    exact ⟨rfl, bnext (two_boxes w _ _) (Nat.le_refl _) hb⟩

set_option maxHeartbeats 1000000 in
theorem five_hNext2 (w : World) (s : ByteArray) (sz lm co ee le : Int) (of : ByteArray) (seats elected members : Int) (na : ByteArray) (ns : Int) (round : Int) (g1 : s.size ≤ 262144) (g2 : of.size ≤ 262144) (g3 : na.size ≤ 262144)
    (e1 : (elected == seats) = false) (e2 : (s.toList == [104, 97, 108, 102, 45, 116, 104, 101, 110, 45, 116, 119, 111, 45, 116, 104, 105, 114, 100, 115]) = true) (e3 : (s.toList == [116, 104, 114, 101, 101, 45, 114, 111, 117, 110, 100, 115]) = false)
    (ec : nextA false true false sz lm seats elected members round true = cNext) (en : nextA false true false sz lm seats elected members round false = cNext) (r1 : 0 ≤ elected) (r2 : ¬ elected ≤ seats) :
    Calls Try.prog 5 #[.string s, .agg #[.int .i64 sz, .int .i64 lm, .int .i64 co, .int .i64 ee, .int .i64 le], .agg #[.string of, .int .i64 seats, .int .i64 elected, .int .i64 members, .string na, .int .i64 ns], .int .i64 round] w
      fun e w' => e = .returned (.bool true) ∧ Below w.heap.size w w' := by
  go_enter Try.func5, Try.ntmps5
  go_wp2_with fail
  refine (bytes12_any _ _ _ _ _ _ _ _ _ _ _ _ _ _ (by omega) (by omega) (by omega)).mono ?_
  rintro e w1 ⟨b, rfl, hb⟩
  have B1 := bnext (two_boxes w _ _) (Nat.le_refl _) hb
  obtain ⟨hc, hf⟩ := bcell hb
  cases b
  · go_wp2
    go_ret
    exact ⟨rfl, B1⟩
  · go_wp2_with fail
    refine (zznext_any _ _ _ _ _ _ _ _ _ _ _ _ _ _ _ false true false e1 e2 e3).mono ?_
    rintro e w2 ⟨rfl, hb2⟩
    rw [ec]
    clear hc hf B1
    have hb' := bnext hb (Nat.le_refl _) hb2
    clear hb hb2
    obtain ⟨hc, hf⟩ := bcell hb'
    go_wp2_with fail
    refine (zznext_any _ _ _ _ _ _ _ _ _ _ _ _ _ _ _ false true false e1 e2 e3).mono ?_
    rintro e w3 ⟨rfl, hb3⟩
    rw [en]
    clear hc hf ec en
    have hb := bnext hb' (Nat.le_refl _) hb3
    clear hb' hb3
    obtain ⟨hc, hf⟩ := bcell hb
    go_wp2_with fail
    refine (isact_any _ _ (.inr (.inr (.inl rfl)))).mono ?_
    rintro e w' ⟨rfl, rfl⟩
    go_wp2_with fail
    refine (isact_any _ _ (.inr (.inr (.inl rfl)))).mono ?_
    rintro e w' ⟨rfl, rfl⟩
    go_wp2
    go_ret
    exact ⟨rfl, bnext (two_boxes w _ _) (Nat.le_refl _) hb⟩

set_option maxHeartbeats 1000000 in
theorem five_hNext3 (w : World) (s : ByteArray) (sz lm co ee le : Int) (of : ByteArray) (seats elected members : Int) (na : ByteArray) (ns : Int) (round : Int) (g1 : s.size ≤ 262144) (g2 : of.size ≤ 262144) (g3 : na.size ≤ 262144)
    (e1 : (elected == seats) = false) (e2 : (s.toList == [104, 97, 108, 102, 45, 116, 104, 101, 110, 45, 116, 119, 111, 45, 116, 104, 105, 114, 100, 115]) = true) (e3 : (s.toList == [116, 104, 114, 101, 101, 45, 114, 111, 117, 110, 100, 115]) = false)
    (ec : nextA false true false sz lm seats elected members round true = cNext) (en : nextA false true false sz lm seats elected members round false = cNext) (r1 : 0 ≤ elected) (r2 : elected ≤ seats) (r0 : seats ≤ 9223372036854775807) (r3 : ¬ elected ≤ seats / 2) :
    Calls Try.prog 5 #[.string s, .agg #[.int .i64 sz, .int .i64 lm, .int .i64 co, .int .i64 ee, .int .i64 le], .agg #[.string of, .int .i64 seats, .int .i64 elected, .int .i64 members, .string na, .int .i64 ns], .int .i64 round] w
      fun e w' => e = .returned (.bool true) ∧ Below w.heap.size w w' := by
  go_enter Try.func5, Try.ntmps5
  go_wp2_with fail
  refine (bytes12_any _ _ _ _ _ _ _ _ _ _ _ _ _ _ (by omega) (by omega) (by omega)).mono ?_
  rintro e w1 ⟨b, rfl, hb⟩
  have B1 := bnext (two_boxes w _ _) (Nat.le_refl _) hb
  obtain ⟨hc, hf⟩ := bcell hb
  cases b
  · go_wp2
    go_ret
    exact ⟨rfl, B1⟩
  · go_wp2_with fail
    refine (zznext_any _ _ _ _ _ _ _ _ _ _ _ _ _ _ _ false true false e1 e2 e3).mono ?_
    rintro e w2 ⟨rfl, hb2⟩
    rw [ec]
    clear hc hf B1
    have hb' := bnext hb (Nat.le_refl _) hb2
    clear hb hb2
    obtain ⟨hc, hf⟩ := bcell hb'
    go_wp2_with fail
    refine (zznext_any _ _ _ _ _ _ _ _ _ _ _ _ _ _ _ false true false e1 e2 e3).mono ?_
    rintro e w3 ⟨rfl, hb3⟩
    rw [en]
    clear hc hf ec en
    have hb := bnext hb' (Nat.le_refl _) hb3
    clear hb' hb3
    obtain ⟨hc, hf⟩ := bcell hb
    go_wp2_with fail
    refine (isact_any _ _ (.inr (.inr (.inl rfl)))).mono ?_
    rintro e w' ⟨rfl, rfl⟩
    go_wp2_with fail
    refine (isact_any _ _ (.inr (.inr (.inl rfl)))).mono ?_
    rintro e w' ⟨rfl, rfl⟩
    go_wp2
    go_ret
    exact ⟨rfl, bnext (two_boxes w _ _) (Nat.le_refl _) hb⟩

set_option maxHeartbeats 1000000 in
theorem five_hWithin1 (w : World) (s : ByteArray) (sz lm co ee le : Int) (of : ByteArray) (seats elected members : Int) (na : ByteArray) (ns : Int) (round : Int) (g1 : s.size ≤ 262144) (g2 : of.size ≤ 262144) (g3 : na.size ≤ 262144)
    (e1 : (elected == seats) = false) (e2 : (s.toList == [104, 97, 108, 102, 45, 116, 104, 101, 110, 45, 116, 119, 111, 45, 116, 104, 105, 114, 100, 115]) = true) (e3 : (s.toList == [116, 104, 114, 101, 101, 45, 114, 111, 117, 110, 100, 115]) = false)
    (ec : nextA false true false sz lm seats elected members round true = cWithin) (en : nextA false true false sz lm seats elected members round false = cWithin) (r1 : ¬ 0 ≤ elected) :
    Calls Try.prog 5 #[.string s, .agg #[.int .i64 sz, .int .i64 lm, .int .i64 co, .int .i64 ee, .int .i64 le], .agg #[.string of, .int .i64 seats, .int .i64 elected, .int .i64 members, .string na, .int .i64 ns], .int .i64 round] w
      fun e w' => e = .returned (.bool true) ∧ Below w.heap.size w w' := by
  go_enter Try.func5, Try.ntmps5
  go_wp2_with fail
  refine (bytes12_any _ _ _ _ _ _ _ _ _ _ _ _ _ _ (by omega) (by omega) (by omega)).mono ?_
  rintro e w1 ⟨b, rfl, hb⟩
  have B1 := bnext (two_boxes w _ _) (Nat.le_refl _) hb
  obtain ⟨hc, hf⟩ := bcell hb
  cases b
  · go_wp2
    go_ret
    exact ⟨rfl, B1⟩
  · go_wp2_with fail
    refine (zznext_any _ _ _ _ _ _ _ _ _ _ _ _ _ _ _ false true false e1 e2 e3).mono ?_
    rintro e w2 ⟨rfl, hb2⟩
    rw [ec]
    clear hc hf B1
    have hb' := bnext hb (Nat.le_refl _) hb2
    clear hb hb2
    obtain ⟨hc, hf⟩ := bcell hb'
    go_wp2_with fail
    refine (zznext_any _ _ _ _ _ _ _ _ _ _ _ _ _ _ _ false true false e1 e2 e3).mono ?_
    rintro e w3 ⟨rfl, hb3⟩
    rw [en]
    clear hc hf ec en
    have hb := bnext hb' (Nat.le_refl _) hb3
    clear hb' hb3
    obtain ⟨hc, hf⟩ := bcell hb
    go_wp2_with fail
    refine (isact_any _ _ (.inr (.inr (.inr (.inl rfl))))).mono ?_
    rintro e w' ⟨rfl, rfl⟩
    go_wp2_with fail
    refine (isact_any _ _ (.inr (.inr (.inr (.inl rfl))))).mono ?_
    rintro e w' ⟨rfl, rfl⟩
    go_wp2
    go_ret
    exact ⟨rfl, bnext (two_boxes w _ _) (Nat.le_refl _) hb⟩

set_option maxHeartbeats 1000000 in
theorem five_hWithin2 (w : World) (s : ByteArray) (sz lm co ee le : Int) (of : ByteArray) (seats elected members : Int) (na : ByteArray) (ns : Int) (round : Int) (g1 : s.size ≤ 262144) (g2 : of.size ≤ 262144) (g3 : na.size ≤ 262144)
    (e1 : (elected == seats) = false) (e2 : (s.toList == [104, 97, 108, 102, 45, 116, 104, 101, 110, 45, 116, 119, 111, 45, 116, 104, 105, 114, 100, 115]) = true) (e3 : (s.toList == [116, 104, 114, 101, 101, 45, 114, 111, 117, 110, 100, 115]) = false)
    (ec : nextA false true false sz lm seats elected members round true = cWithin) (en : nextA false true false sz lm seats elected members round false = cWithin) (r1 : 0 ≤ elected) (r2 : ¬ elected ≤ seats) :
    Calls Try.prog 5 #[.string s, .agg #[.int .i64 sz, .int .i64 lm, .int .i64 co, .int .i64 ee, .int .i64 le], .agg #[.string of, .int .i64 seats, .int .i64 elected, .int .i64 members, .string na, .int .i64 ns], .int .i64 round] w
      fun e w' => e = .returned (.bool true) ∧ Below w.heap.size w w' := by
  go_enter Try.func5, Try.ntmps5
  go_wp2_with fail
  refine (bytes12_any _ _ _ _ _ _ _ _ _ _ _ _ _ _ (by omega) (by omega) (by omega)).mono ?_
  rintro e w1 ⟨b, rfl, hb⟩
  have B1 := bnext (two_boxes w _ _) (Nat.le_refl _) hb
  obtain ⟨hc, hf⟩ := bcell hb
  cases b
  · go_wp2
    go_ret
    exact ⟨rfl, B1⟩
  · go_wp2_with fail
    refine (zznext_any _ _ _ _ _ _ _ _ _ _ _ _ _ _ _ false true false e1 e2 e3).mono ?_
    rintro e w2 ⟨rfl, hb2⟩
    rw [ec]
    clear hc hf B1
    have hb' := bnext hb (Nat.le_refl _) hb2
    clear hb hb2
    obtain ⟨hc, hf⟩ := bcell hb'
    go_wp2_with fail
    refine (zznext_any _ _ _ _ _ _ _ _ _ _ _ _ _ _ _ false true false e1 e2 e3).mono ?_
    rintro e w3 ⟨rfl, hb3⟩
    rw [en]
    clear hc hf ec en
    have hb := bnext hb' (Nat.le_refl _) hb3
    clear hb' hb3
    obtain ⟨hc, hf⟩ := bcell hb
    go_wp2_with fail
    refine (isact_any _ _ (.inr (.inr (.inr (.inl rfl))))).mono ?_
    rintro e w' ⟨rfl, rfl⟩
    go_wp2_with fail
    refine (isact_any _ _ (.inr (.inr (.inr (.inl rfl))))).mono ?_
    rintro e w' ⟨rfl, rfl⟩
    go_wp2
    go_ret
    exact ⟨rfl, bnext (two_boxes w _ _) (Nat.le_refl _) hb⟩

set_option maxHeartbeats 1000000 in
theorem five_hWithin3 (w : World) (s : ByteArray) (sz lm co ee le : Int) (of : ByteArray) (seats elected members : Int) (na : ByteArray) (ns : Int) (round : Int) (g1 : s.size ≤ 262144) (g2 : of.size ≤ 262144) (g3 : na.size ≤ 262144)
    (e1 : (elected == seats) = false) (e2 : (s.toList == [104, 97, 108, 102, 45, 116, 104, 101, 110, 45, 116, 119, 111, 45, 116, 104, 105, 114, 100, 115]) = true) (e3 : (s.toList == [116, 104, 114, 101, 101, 45, 114, 111, 117, 110, 100, 115]) = false)
    (ec : nextA false true false sz lm seats elected members round true = cWithin) (en : nextA false true false sz lm seats elected members round false = cWithin) (r1 : 0 ≤ elected) (r2 : elected ≤ seats) (r0 : seats ≤ 9223372036854775807) (r3 : ¬ elected ≤ seats / 2) :
    Calls Try.prog 5 #[.string s, .agg #[.int .i64 sz, .int .i64 lm, .int .i64 co, .int .i64 ee, .int .i64 le], .agg #[.string of, .int .i64 seats, .int .i64 elected, .int .i64 members, .string na, .int .i64 ns], .int .i64 round] w
      fun e w' => e = .returned (.bool true) ∧ Below w.heap.size w w' := by
  go_enter Try.func5, Try.ntmps5
  go_wp2_with fail
  refine (bytes12_any _ _ _ _ _ _ _ _ _ _ _ _ _ _ (by omega) (by omega) (by omega)).mono ?_
  rintro e w1 ⟨b, rfl, hb⟩
  have B1 := bnext (two_boxes w _ _) (Nat.le_refl _) hb
  obtain ⟨hc, hf⟩ := bcell hb
  cases b
  · go_wp2
    go_ret
    exact ⟨rfl, B1⟩
  · go_wp2_with fail
    refine (zznext_any _ _ _ _ _ _ _ _ _ _ _ _ _ _ _ false true false e1 e2 e3).mono ?_
    rintro e w2 ⟨rfl, hb2⟩
    rw [ec]
    clear hc hf B1
    have hb' := bnext hb (Nat.le_refl _) hb2
    clear hb hb2
    obtain ⟨hc, hf⟩ := bcell hb'
    go_wp2_with fail
    refine (zznext_any _ _ _ _ _ _ _ _ _ _ _ _ _ _ _ false true false e1 e2 e3).mono ?_
    rintro e w3 ⟨rfl, hb3⟩
    rw [en]
    clear hc hf ec en
    have hb := bnext hb' (Nat.le_refl _) hb3
    clear hb' hb3
    obtain ⟨hc, hf⟩ := bcell hb
    go_wp2_with fail
    refine (isact_any _ _ (.inr (.inr (.inr (.inl rfl))))).mono ?_
    rintro e w' ⟨rfl, rfl⟩
    go_wp2_with fail
    refine (isact_any _ _ (.inr (.inr (.inr (.inl rfl))))).mono ?_
    rintro e w' ⟨rfl, rfl⟩
    go_wp2
    go_ret
    exact ⟨rfl, bnext (two_boxes w _ _) (Nat.le_refl _) hb⟩
end Go.Proofs.Qxb6614831a
