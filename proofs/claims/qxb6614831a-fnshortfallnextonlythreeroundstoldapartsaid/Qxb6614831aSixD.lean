import Derived.Test.Qxb6614831aSixPre
import Derived.Deep.DeepCutAuto
import Derived.BigQuiet
namespace Go.Proofs.Qxb6614831a
open Go.RowKit

set_option maxHeartbeats 2000000 in
set_option maxRecDepth 100000 in
theorem six_tSecond (w : World) (s : ByteArray) (sz lm co ee le : Int) (of : ByteArray) (seats elected members : Int) (na : ByteArray) (ns : Int) (round : Int) (can : Bool) (g1 : s.size ≤ 262144) (g2 : of.size ≤ 262144) (g3 : na.size ≤ 262144)
    (e1 : (elected == seats) = false) (e2 : (s.toList == [104, 97, 108, 102, 45, 116, 104, 101, 110, 45, 116, 119, 111, 45, 116, 104, 105, 114, 100, 115]) = false) (e3 : (s.toList == [116, 104, 114, 101, 101, 45, 114, 111, 117, 110, 100, 115]) = true)
    (eg : ∀ r', (r' < 3 ↔ round < 3) → (r' ≤ 1 ↔ round ≤ 1) → nextA false false true sz lm seats elected members r' can = cSecond) (t1 : round < 3) (t2 : can = true) :
    Calls Try.prog 6 #[.string s, .agg #[.int .i64 sz, .int .i64 lm, .int .i64 co, .int .i64 ee, .int .i64 le], .agg #[.string of, .int .i64 seats, .int .i64 elected, .int .i64 members, .string na, .int .i64 ns], .int .i64 round, .bool can] w
      fun e w' => e = .returned (.bool true) ∧ Below w.heap.size w w' := by
  subst t2
  have EG : Hid _ := eg
  clear eg
  go_enter Try.func6, Try.ntmps6
  go_wp2_with fail
  refine (bytes15_any _ _ _ _ _ _ _ _ _ _ _ _ _ _ _ (by omega) (by omega) (by omega)).mono ?_
  rintro e w1 ⟨b, rfl, hb⟩
  have B1 := bnext (two_boxes w _ _) (Nat.le_refl _) hb
  obtain ⟨hc, hf⟩ := bcell hb
  cases b
  · go_wp2
    go_ret
    exact ⟨rfl, B1⟩
  · go_wp2_with fail
    refine (zznext_any _ _ _ _ _ _ _ _ _ _ _ _ _ _ _ false false true e1 e2 e3).mono ?_
    rintro e w2 ⟨rfl, hb2⟩
    rw [EG.out round Iff.rfl Iff.rfl]
    clear hc hf B1
    have hb' := bnext hb (Nat.le_refl _) hb2
    clear hb hb2
    obtain ⟨hc, hf⟩ := bcell hb'
    go_upto_if 46 with fail
    go_cut [12] (fun s12 wx => wx = w2 ∧ ∃ r1 : Int, s12 = .int .i64 r1 ∧ Hid ((r1 < 3 ↔ round < 3) ∧ (r1 ≤ 1 ↔ round ≤ 1)))
    case first =>
      go_wp2_with fail
      all_goals
        go_meet
        case rel => exact ⟨rfl, _, rfl, by constructor <;> omega⟩
    case rest =>
      obtain ⟨rfl, r1, rfl, HR1⟩ := hcut
      go_upto_if 48 with fail
      go_cut [12] (fun s12 wx => wx = wc ∧ ∃ r2 : Int, s12 = .int .i64 r2 ∧ Hid ((r2 < 3 ↔ round < 3) ∧ (r2 ≤ 1 ↔ round ≤ 1)))
      case first =>
        have HR := HR1.out
        go_wp2_with fail
        all_goals
          go_meet
          case rel => exact ⟨rfl, _, rfl, by constructor <;> omega⟩
      case rest =>
        obtain ⟨rfl, r2, rfl, HR2⟩ := hcut
        clear HR1
        go_wp2_with fail
        refine (zznext_any _ _ _ _ _ _ _ _ _ _ _ _ _ _ _ false false true e1 e2 e3).mono ?_
        rintro e w3 ⟨rfl, hb3⟩
        rw [EG.out r2 HR2.out.1 HR2.out.2]
        clear hc hf HR2
        have hb := bnext hb' (Nat.le_refl _) hb3
        clear hb' hb3
        obtain ⟨hc, hf⟩ := bcell hb
        go_wp2_with fail
        refine (isact_any _ _ (.inr (.inl rfl))).mono ?_
        rintro e w' ⟨rfl, rfl⟩
        clear EG
        go_wp2_with fail
        go_quiet (fail)
        go_wp2
        all_goals
          go_ret
          exact ⟨rfl, bdrewN (bnext (two_boxes w _ _) (Nat.le_refl _) hb) _⟩

set_option maxHeartbeats 2000000 in
set_option maxRecDepth 100000 in
theorem six_tOld (w : World) (s : ByteArray) (sz lm co ee le : Int) (of : ByteArray) (seats elected members : Int) (na : ByteArray) (ns : Int) (round : Int) (can : Bool) (g1 : s.size ≤ 262144) (g2 : of.size ≤ 262144) (g3 : na.size ≤ 262144)
    (e1 : (elected == seats) = false) (e2 : (s.toList == [104, 97, 108, 102, 45, 116, 104, 101, 110, 45, 116, 119, 111, 45, 116, 104, 105, 114, 100, 115]) = false) (e3 : (s.toList == [116, 104, 114, 101, 101, 45, 114, 111, 117, 110, 100, 115]) = true)
    (eg : ∀ r', (r' < 3 ↔ round < 3) → (r' ≤ 1 ↔ round ≤ 1) → nextA false false true sz lm seats elected members r' can = cOld) (t1 : members < lm) :
    Calls Try.prog 6 #[.string s, .agg #[.int .i64 sz, .int .i64 lm, .int .i64 co, .int .i64 ee, .int .i64 le], .agg #[.string of, .int .i64 seats, .int .i64 elected, .int .i64 members, .string na, .int .i64 ns], .int .i64 round, .bool can] w
      fun e w' => e = .returned (.bool true) ∧ Below w.heap.size w w' := by
  have EG : Hid _ := eg
  clear eg
  go_enter Try.func6, Try.ntmps6
  go_wp2_with fail
  refine (bytes15_any _ _ _ _ _ _ _ _ _ _ _ _ _ _ _ (by omega) (by omega) (by omega)).mono ?_
  rintro e w1 ⟨b, rfl, hb⟩
  have B1 := bnext (two_boxes w _ _) (Nat.le_refl _) hb
  obtain ⟨hc, hf⟩ := bcell hb
  cases b
  · go_wp2
    go_ret
    exact ⟨rfl, B1⟩
  · go_wp2_with fail
    refine (zznext_any _ _ _ _ _ _ _ _ _ _ _ _ _ _ _ false false true e1 e2 e3).mono ?_
    rintro e w2 ⟨rfl, hb2⟩
    rw [EG.out round Iff.rfl Iff.rfl]
    clear hc hf B1
    have hb' := bnext hb (Nat.le_refl _) hb2
    clear hb hb2
    obtain ⟨hc, hf⟩ := bcell hb'
    go_upto_if 46 with fail
    go_cut [12] (fun s12 wx => wx = w2 ∧ ∃ r1 : Int, s12 = .int .i64 r1 ∧ Hid ((r1 < 3 ↔ round < 3) ∧ (r1 ≤ 1 ↔ round ≤ 1)))
    case first =>
      go_wp2_with fail
      all_goals
        go_meet
        case rel => exact ⟨rfl, _, rfl, by constructor <;> omega⟩
    case rest =>
      obtain ⟨rfl, r1, rfl, HR1⟩ := hcut
      go_upto_if 48 with fail
      go_cut [12] (fun s12 wx => wx = wc ∧ ∃ r2 : Int, s12 = .int .i64 r2 ∧ Hid ((r2 < 3 ↔ round < 3) ∧ (r2 ≤ 1 ↔ round ≤ 1)))
      case first =>
        have HR := HR1.out
        go_wp2_with fail
        all_goals
          go_meet
          case rel => exact ⟨rfl, _, rfl, by constructor <;> omega⟩
      case rest =>
        obtain ⟨rfl, r2, rfl, HR2⟩ := hcut
        clear HR1
        go_wp2_with fail
        refine (zznext_any _ _ _ _ _ _ _ _ _ _ _ _ _ _ _ false false true e1 e2 e3).mono ?_
        rintro e w3 ⟨rfl, hb3⟩
        rw [EG.out r2 HR2.out.1 HR2.out.2]
        clear hc hf HR2
        have hb := bnext hb' (Nat.le_refl _) hb3
        clear hb' hb3
        obtain ⟨hc, hf⟩ := bcell hb
        go_wp2_with fail
        refine (isact_any _ _ (.inr (.inr (.inr (.inr rfl))))).mono ?_
        rintro e w' ⟨rfl, rfl⟩
        clear EG
        go_wp2_with fail
        go_quiet (fail)
        go_wp2
        all_goals
          go_ret
          exact ⟨rfl, bdrewN (bnext (two_boxes w _ _) (Nat.le_refl _) hb) _⟩

set_option maxHeartbeats 2000000 in
set_option maxRecDepth 100000 in
theorem six_tNext (w : World) (s : ByteArray) (sz lm co ee le : Int) (of : ByteArray) (seats elected members : Int) (na : ByteArray) (ns : Int) (round : Int) (can : Bool) (g1 : s.size ≤ 262144) (g2 : of.size ≤ 262144) (g3 : na.size ≤ 262144)
    (e1 : (elected == seats) = false) (e2 : (s.toList == [104, 97, 108, 102, 45, 116, 104, 101, 110, 45, 116, 119, 111, 45, 116, 104, 105, 114, 100, 115]) = false) (e3 : (s.toList == [116, 104, 114, 101, 101, 45, 114, 111, 117, 110, 100, 115]) = true)
    (eg : ∀ r', (r' < 3 ↔ round < 3) → (r' ≤ 1 ↔ round ≤ 1) → nextA false false true sz lm seats elected members r' can = cNext) :
    Calls Try.prog 6 #[.string s, .agg #[.int .i64 sz, .int .i64 lm, .int .i64 co, .int .i64 ee, .int .i64 le], .agg #[.string of, .int .i64 seats, .int .i64 elected, .int .i64 members, .string na, .int .i64 ns], .int .i64 round, .bool can] w
      fun e w' => e = .returned (.bool true) ∧ Below w.heap.size w w' := by
  have EG : Hid _ := eg
  clear eg
  go_enter Try.func6, Try.ntmps6
  go_wp2_with fail
  refine (bytes15_any _ _ _ _ _ _ _ _ _ _ _ _ _ _ _ (by omega) (by omega) (by omega)).mono ?_
  rintro e w1 ⟨b, rfl, hb⟩
  have B1 := bnext (two_boxes w _ _) (Nat.le_refl _) hb
  obtain ⟨hc, hf⟩ := bcell hb
  cases b
  · go_wp2
    go_ret
    exact ⟨rfl, B1⟩
  · go_wp2_with fail
    refine (zznext_any _ _ _ _ _ _ _ _ _ _ _ _ _ _ _ false false true e1 e2 e3).mono ?_
    rintro e w2 ⟨rfl, hb2⟩
    rw [EG.out round Iff.rfl Iff.rfl]
    clear hc hf B1
    have hb' := bnext hb (Nat.le_refl _) hb2
    clear hb hb2
    obtain ⟨hc, hf⟩ := bcell hb'
    go_upto_if 46 with fail
    go_cut [12] (fun s12 wx => wx = w2 ∧ ∃ r1 : Int, s12 = .int .i64 r1 ∧ Hid ((r1 < 3 ↔ round < 3) ∧ (r1 ≤ 1 ↔ round ≤ 1)))
    case first =>
      go_wp2_with fail
      all_goals
        go_meet
        case rel => exact ⟨rfl, _, rfl, by constructor <;> omega⟩
    case rest =>
      obtain ⟨rfl, r1, rfl, HR1⟩ := hcut
      go_upto_if 48 with fail
      go_cut [12] (fun s12 wx => wx = wc ∧ ∃ r2 : Int, s12 = .int .i64 r2 ∧ Hid ((r2 < 3 ↔ round < 3) ∧ (r2 ≤ 1 ↔ round ≤ 1)))
      case first =>
        have HR := HR1.out
        go_wp2_with fail
        all_goals
          go_meet
          case rel => exact ⟨rfl, _, rfl, by constructor <;> omega⟩
      case rest =>
        obtain ⟨rfl, r2, rfl, HR2⟩ := hcut
        clear HR1
        go_wp2_with fail
        refine (zznext_any _ _ _ _ _ _ _ _ _ _ _ _ _ _ _ false false true e1 e2 e3).mono ?_
        rintro e w3 ⟨rfl, hb3⟩
        rw [EG.out r2 HR2.out.1 HR2.out.2]
        clear hc hf HR2
        have hb := bnext hb' (Nat.le_refl _) hb3
        clear hb' hb3
        obtain ⟨hc, hf⟩ := bcell hb
        go_wp2_with fail
        refine (isact_any _ _ (.inr (.inr (.inl rfl)))).mono ?_
        rintro e w' ⟨rfl, rfl⟩
        clear EG
        go_wp2_with fail
        go_quiet (fail)
        go_wp2
        all_goals
          go_ret
          exact ⟨rfl, bdrewN (bnext (two_boxes w _ _) (Nat.le_refl _) hb) _⟩
end Go.Proofs.Qxb6614831a
