import Derived.Test.Qxb6614831aLeaves
namespace Go.Proofs.Qxb6614831a
open Go.RowKit

theorem bnext {B : Nat} {w w1 w2 : World} (h : Below B w w1) (hB : B ≤ w.heap.size) (h2 : Below w1.heap.size w1 w2) : Below B w w2 :=
  h.trans (h2.mono (Nat.le_trans hB h.size))
theorem four_boxes (w : World) (a b c d : Obj) : Below w.heap.size w ((((w.alloc a).alloc b).alloc c).alloc d) := bnext (two_boxes w a b) (Nat.le_refl _) (two_boxes _ c d)

def nextA (fl hf th : Bool) (sz lm seats elected members round : Int) (can : Bool) : ByteArray :=
  if fl then cComplete else if hf then halfA sz seats elected members else if th then threeA lm members round can else twoA sz lm members round can

theorem next_any (w : World) (s : ByteArray) (sz lm co ee le : Int) (of : ByteArray) (seats elected members : Int) (na : ByteArray) (ns : Int) (round : Int) (can : Bool)
    (fl hf th : Bool) (e1 : (elected == seats) = fl) (e2 : (s.toList == [104, 97, 108, 102, 45, 116, 104, 101, 110, 45, 116, 119, 111, 45, 116, 104, 105, 114, 100, 115]) = hf) (e3 : (s.toList == [116, 104, 114, 101, 101, 45, 114, 111, 117, 110, 100, 115]) = th) :
    Calls Try.prog 30 #[.string s, .agg #[.int .i64 sz, .int .i64 lm, .int .i64 co, .int .i64 ee, .int .i64 le], .agg #[.string of, .int .i64 seats, .int .i64 elected, .int .i64 members, .string na, .int .i64 ns], .int .i64 round, .bool can] w
      fun e w' => e = .returned (.string (nextA fl hf th sz lm seats elected members round can)) ∧ Below w.heap.size w w' := by
  cases fl
  · cases hf
    · cases th
      · go_enter Try.func30, Try.ntmps30
        go_wp2_with fail
        refine (two_any _ _ _ _ _ _ _ _ _ _ _ _ _ _).mono ?_
        rintro e w' ⟨rfl, hb⟩
        go_wp2
        go_ret
        exact ⟨rfl, bnext (two_boxes _ _ _) (Nat.le_refl _) hb⟩
      · go_enter Try.func30, Try.ntmps30
        go_wp2_with fail
        refine (three_any _ _ _ _ _ _ _ _ _ _ _ _ _ _).mono ?_
        rintro e w' ⟨rfl, hb⟩
        go_wp2
        go_ret
        exact ⟨rfl, bnext (two_boxes _ _ _) (Nat.le_refl _) hb⟩
    · clear e3
      go_enter Try.func30, Try.ntmps30
      go_wp2_with fail
      refine (half_any _ _ _ _ _ _ _ _ _ _ _ _).mono ?_
      rintro e w' ⟨rfl, hb⟩
      go_wp2
      go_ret
      exact ⟨rfl, bnext (two_boxes _ _ _) (Nat.le_refl _) hb⟩
  · clear e2 e3
    go_enter Try.func30, Try.ntmps30
    go_wp2
    go_ret
    exact ⟨rfl, two_boxes _ _ _⟩

theorem zznext27_any (w : World) (s : ByteArray) (sz lm co ee le : Int) (of : ByteArray) (seats elected members : Int) (na : ByteArray) (ns : Int) (round : Int) (can : Bool)
    (fl hf th : Bool) (e1 : (elected == seats) = fl) (e2 : (s.toList == [104, 97, 108, 102, 45, 116, 104, 101, 110, 45, 116, 119, 111, 45, 116, 104, 105, 114, 100, 115]) = hf) (e3 : (s.toList == [116, 104, 114, 101, 101, 45, 114, 111, 117, 110, 100, 115]) = th) :
    Calls Try.prog 27 #[.string s, .agg #[.int .i64 sz, .int .i64 lm, .int .i64 co, .int .i64 ee, .int .i64 le], .agg #[.string of, .int .i64 seats, .int .i64 elected, .int .i64 members, .string na, .int .i64 ns], .int .i64 round, .bool can] w
      fun e w' => e = .returned (.string (nextA fl hf th sz lm seats elected members round can)) ∧ Below w.heap.size w w' := by
  have E1 : Hid _ := e1
  have E2 : Hid _ := e2
  have E3 : Hid _ := e3
  clear e1 e2 e3
  go_enter Try.func27, Try.ntmps27
  go_wp2_with fail
  refine (next_any _ _ _ _ _ _ _ _ _ _ _ _ _ _ _ fl hf th E1.out E2.out E3.out).mono ?_
  rintro e w' ⟨rfl, hb⟩
  go_wp2
  go_ret
  exact ⟨rfl, bnext (two_boxes _ _ _) (Nat.le_refl _) hb⟩

theorem zznext_any (w : World) (s : ByteArray) (sz lm co ee le : Int) (of : ByteArray) (seats elected members : Int) (na : ByteArray) (ns : Int) (round : Int) (can : Bool)
    (fl hf th : Bool) (e1 : (elected == seats) = fl) (e2 : (s.toList == [104, 97, 108, 102, 45, 116, 104, 101, 110, 45, 116, 119, 111, 45, 116, 104, 105, 114, 100, 115]) = hf) (e3 : (s.toList == [116, 104, 114, 101, 101, 45, 114, 111, 117, 110, 100, 115]) = th) :
    Calls Try.prog 13 #[.string s, .agg #[.int .i64 sz, .int .i64 lm, .int .i64 co, .int .i64 ee, .int .i64 le], .agg #[.string of, .int .i64 seats, .int .i64 elected, .int .i64 members, .string na, .int .i64 ns], .int .i64 round, .bool can] w
      fun e w' => e = .returned (.string (nextA fl hf th sz lm seats elected members round can)) ∧ Below w.heap.size w w' := by
  have E1 : Hid _ := e1
  have E2 : Hid _ := e2
  have E3 : Hid _ := e3
  clear e1 e2 e3
  go_enter Try.func13, Try.ntmps13
  go_wp2_with fail
  refine (zznext27_any _ _ _ _ _ _ _ _ _ _ _ _ _ _ _ fl hf th E1.out E2.out E3.out).mono ?_
  rintro e w' ⟨rfl, hb⟩
  go_wp2
  go_ret
  exact ⟨rfl, bnext (four_boxes _ _ _ _ _) (Nat.le_refl _) hb⟩

theorem isact_any (w : World) (v : ByteArray) (h : v = cComplete ∨ v = cSecond ∨ v = cNext ∨ v = cWithin ∨ v = cOld) :
    Calls Try.prog 14 #[.string v] w fun e w' => e = .returned (.bool true) ∧ w = w' := by
  rcases h with rfl | rfl | rfl | rfl | rfl
  all_goals
    go_enter Try.func14, Try.ntmps14
    go_wp2
    go_ret
    exact ⟨rfl, rfl⟩

theorem bytes12_any (w : World) (s : ByteArray) (sz lm co ee le : Int) (of : ByteArray) (seats elected members : Int) (na : ByteArray) (ns : Int) (round : Int) (hs : s.size ≤ 9223372036854775807) (ho : of.size ≤ 9223372036854775807) (hn : na.size ≤ 9223372036854775807) :
    Calls Try.prog 12 #[.string s, .agg #[.int .i64 sz, .int .i64 lm, .int .i64 co, .int .i64 ee, .int .i64 le], .agg #[.string of, .int .i64 seats, .int .i64 elected, .int .i64 members, .string na, .int .i64 ns], .int .i64 round] w
      fun e w' => ∃ b, e = .returned (.bool b) ∧ Below w.heap.size w w' := by
  go_enter Try.func12, Try.ntmps12
  go_wp2
  all_goals
    go_ret
    exact ⟨_, rfl, two_boxes _ _ _⟩

theorem bytes15_any (w : World) (s : ByteArray) (sz lm co ee le : Int) (of : ByteArray) (seats elected members : Int) (na : ByteArray) (ns : Int) (round : Int) (can : Bool) (hs : s.size ≤ 9223372036854775807) (ho : of.size ≤ 9223372036854775807) (hn : na.size ≤ 9223372036854775807) :
    Calls Try.prog 15 #[.string s, .agg #[.int .i64 sz, .int .i64 lm, .int .i64 co, .int .i64 ee, .int .i64 le], .agg #[.string of, .int .i64 seats, .int .i64 elected, .int .i64 members, .string na, .int .i64 ns], .int .i64 round, .bool can] w
      fun e w' => ∃ b, e = .returned (.bool b) ∧ Below w.heap.size w w' := by
  go_enter Try.func15, Try.ntmps15
  go_wp2
  all_goals
    go_ret
    exact ⟨_, rfl, two_boxes _ _ _⟩

theorem bcell {W w1 : World} (hb : Below W.heap.size W w1) : (∀ b o, b < W.heap.size → w1.cell? ⟨b, o, none⟩ = W.cell? ⟨b, o, none⟩) ∧ (∀ b o, b < W.heap.size → w1.frozen? ⟨b, o, none⟩ = W.frozen? ⟨b, o, none⟩) :=
  ⟨fun b o h => hb.cell (p := ⟨b, o, none⟩) h, fun b o h => hb.frozen (p := ⟨b, o, none⟩) h⟩
end Go.Proofs.Qxb6614831a
