import Derived.Test.Qxb6614850aWalkA
namespace Go.Proofs.Qxb6614850a
open Go.RowKit

/-- What is known of the list of pieces: piece i is the slice value 'f i'. -/
def Pcs (w : World) (a : Option Addr) (len : Nat) (f : Nat → Option Addr × Nat × Nat) : Prop :=
  len ≤ 9223372036854775807 ∧ (a = none → len = 0) ∧ (∀ i, (f i).2.1 ≤ 9223372036854775807) ∧ ∀ x, a = some x → ∀ i, i < len → w.cell? (x.add i) = some (.slice (f i).1 (f i).2.1 (f i).2.2)

theorem Pcs.at {w : World} {a : Option Addr} {len : Nat} {f : Nat → Option Addr × Nat × Nat} (h : Pcs w a len f) (k : Nat) (hk : k < len) :
    ∃ b off A l c, a = some ⟨b, off, none⟩ ∧ b < w.heap.size ∧ l = (f k).2.1 ∧ l ≤ 9223372036854775807 ∧ w.cell? ⟨b, off + k, none⟩ = some (.slice A l c) := by
  obtain ⟨h1, h2, h3, h4⟩ := h
  cases a with
  | none => have := h2 rfl; omega
  | some x =>
    obtain ⟨b, off, spot⟩ := x
    have hc := h4 _ rfl
    have hspot : spot = none := by simpa [Addr.add] using World.cell?_spot (hc 0 (by omega))
    subst hspot
    have hk' := hc k hk
    rw [Addr.add_lit] at hk'
    exact ⟨b, off, (f k).1, (f k).2.1, (f k).2.2, rfl, by simpa using World.block_lt_of_cell? w _ hk', rfl, h3 k, hk'⟩

def S (f : Nat → Option Addr × Nat × Nat) : Nat → Nat
  | 0 => 0
  | k + 1 => S f k + (f k).2.1
theorem S_mono (f : Nat → Option Addr × Nat × Nat) {j k : Nat} (h : j ≤ k) : S f j ≤ S f k := by
  induction h with
  | refl => exact Nat.le_refl _
  | step _ ih => exact Nat.le_trans ih (by simp [S])

/-- It ends with a bool. -/
def SomeBool (e : Ending) : Prop := ∃ b, e = .returned (.bool b)

set_option maxHeartbeats 1000000 in
theorem bytes9_any (w : World) (a : Option Addr) (len cap : Nat) (f : Nat → Option Addr × Nat × Nat) (n : Int) (h : Pcs w a len f) :
    Calls Try.prog 9 #[.slice a len cap, .int .i64 n] w fun e w' => SomeBool e ∧ w = w' := by
  have hl := h.1
  have H : Hid (Pcs w a len f) := h
  clear h
  by_cases hb : len ≤ 1048576
  · go_enter Try.func9, Try.ntmps9
    go_wp2
    go_loop [5, 6] (fun t i => ∃ (k z : Nat), k ≤ len ∧ i = .int .i64 k ∧ t = .int .i64 z ∧ z ≤ 1048576) (fun _ i => len - (intOf i).toNat)
    case atStart => exact ⟨0, len, Nat.zero_le _, rfl, rfl, hb⟩
    case round =>
      obtain ⟨k, z, hk, rfl, rfl, hz⟩ := hrel
      by_cases hlt : k < len
      · obtain ⟨b, off, A, l, c, rfl, -, -, hll, hc⟩ := H.out.at k hlt
        by_cases q1 : l ≤ 1048576
        · by_cases q2 : z + l ≤ 1048576
          · go_wp2
            go_round
            case rel => exact ⟨k + 1, z + l, by omega, by go_num, by go_num, q2⟩
            case measure => simp [intOf]; omega
          · go_wp2
            go_ret
            first | exact ⟨⟨_, rfl⟩, rfl⟩ | exact ⟨_, rfl⟩
        · go_wp2
          go_ret
          first | exact ⟨⟨_, rfl⟩, rfl⟩ | exact ⟨_, rfl⟩
      · go_wp2
        go_ret
        first | exact ⟨⟨_, rfl⟩, rfl⟩ | exact ⟨_, rfl⟩
  · go_enter Try.func9, Try.ntmps9
    go_wp2
    go_ret
    first | exact ⟨⟨_, rfl⟩, rfl⟩ | exact ⟨_, rfl⟩

theorem below_box (w : World) (o : Obj) : Below w.heap.size w (w.alloc o) := (Below.refl _ _).alloc (Nat.le_refl _) _

set_option maxHeartbeats 2000000 in
theorem total_any (w : World) (a : Option Addr) (len cap : Nat) (f : Nat → Option Addr × Nat × Nat) (n : Int) (h : Pcs w a len f) :
    Calls Try.prog 4 #[.slice a len cap, .int .i64 n] w fun e w' => e = .returned (.bool true) ∧ Below w.heap.size w w' := by
  have hl := h.1
  have H : Hid (Pcs w a len f) := h
  clear h
  go_enter Try.func4, Try.ntmps4
  go_wp2_with fail
  refine (bytes9_any _ _ _ _ f _ H.out).mono ?_
  rintro e w' ⟨⟨b, rfl⟩, rfl⟩
  cases b
  · go_wp2
    go_ret
    exact ⟨rfl, Below.refl _ _⟩
  · go_wp2
    go_loop [5, 6] (fun t i => ∃ (k z : Nat), k ≤ len ∧ i = .int .i64 k ∧ t = .int .i64 z ∧ z ≤ 1048576 ∧ Hid (S f k ≤ z)) (fun _ i => len - (intOf i).toNat)
    case atStart => exact ⟨0, 0, Nat.zero_le _, rfl, rfl, by omega, Nat.le_refl _⟩
    case round =>
      obtain ⟨k, z, hk, rfl, rfl, hz, HS⟩ := hrel
      by_cases hlt : k < len
      · obtain ⟨b, off, A, l, c, rfl, -, HL, hll, hc⟩ := H.out.at k hlt
        have HL' : Hid (l = (f k).2.1) := HL
        clear HL
        by_cases q1 : l ≤ 1048576
        · by_cases q2 : z + (24 + l) ≤ 1048576
          · go_wp2
            go_round
            case rel => exact ⟨k + 1, z + (24 + l), by omega, by go_num, by go_num, q2, by have h1 := HS.out; have h2 := HL'.out; show S f k + (f k).2.1 ≤ _; omega⟩
            case measure => simp [intOf]; omega
          · go_wp2
            go_ret
            exact ⟨rfl, Below.refl _ _⟩
        · go_wp2
          go_ret
          exact ⟨rfl, Below.refl _ _⟩
      · have hke : len = k := by omega
        subst hke
        by_cases r1 : 0 ≤ n
        · by_cases r2 : n ≤ 1073741824
          · have d1 : decide (n < 0) = false := decide_eq_false (by omega)
            have d2 : decide ((1073741824 : Int) < n) = false := decide_eq_false (by omega)
            go_wp2_with fail
            refine (counterAt_any _ _).mono ?_
            rintro e w1 ⟨rfl, rfl⟩
            go_wp2_with fail
            go_loopw [8, 9] (fun t i wr => ∃ (j : Nat) (q : Int), j ≤ len ∧ i = .int .i64 j ∧ t = .int .i64 q ∧ wr = w.alloc (.cells #[.int .i64 q] 33) ∧ 0 ≤ q ∧ q ≤ 1074790400 ∧ Hid (q = n + (S f j : Nat))) (fun _ i _ => len - (intOf i).toNat)
            case atStart => exact ⟨0, n, Nat.zero_le _, rfl, rfl, rfl, r1, by omega, by show n = n + ((0 : Nat) : Int); omega⟩
            case round =>
              obtain ⟨j, q, hj, rfl, rfl, rfl, q0, q1, HQ⟩ := hrel
              by_cases hlj : j < len
              · obtain ⟨b, off, A, l, c, rfl, hb, HL, hll, hc⟩ := H.out.at j hlj
                have HL' : Hid (l = (f j).2.1) := HL
                have hlen : S f (j + 1) ≤ z := Nat.le_trans (S_mono f hlj) HS.out
                have hsum : S f (j + 1) = S f j + l := by show S f j + (f j).2.1 = _; rw [HL]
                have l1 : l ≤ 1048576 := by omega
                have q2 : q + (l : Int) ≤ 1074790400 := by have := HQ.out; omega
                have HQ' : Hid (q + (l : Int) = n + (S f (j + 1) : Nat)) := by show q + (l : Int) = _; rw [hsum, HQ.out]; omega
                have hc' : (w.alloc (.cells #[.int .i64 q] 33)).cell? ⟨b, off + j, none⟩ = some (.slice A l c) := ((below_box w _).cell (by exact hb)).trans hc
                have hc'' : (w.alloc (.cells #[.int .i64 (q + (l : Int))] 33)).cell? ⟨b, off + j, none⟩ = some (.slice A l c) := ((below_box w _).cell (by exact hb)).trans hc
                clear HL hlen hsum hc
                go_wp2_with fail
                refine (write_any _ _ q _ _ _ (by simp) (by simp) (by omega) (by omega) (by omega)).mono ?_
                rintro e w1 ⟨rfl, rfl⟩
                go_wp2_with fail
                refine (count_any _ _ (q + (l : Int)) (by simp)).mono ?_
                rintro e w1 ⟨rfl, rfl⟩
                go_wp2
                go_roundw
                case rel => exact ⟨j + 1, q + (l : Int), by omega, by go_num, rfl, rfl, by omega, q2, HQ'⟩
                case measure => simp [intOf]; omega
              · go_wp2_with fail
                refine (count_any _ _ q (by simp)).mono ?_
                rintro e w1 ⟨rfl, rfl⟩
                go_wp2
                go_ret
                exact ⟨by first | rfl | simp, below_box w _⟩
          · go_wp2
            go_ret
            exact ⟨rfl, Below.refl _ _⟩
        · go_wp2
          go_ret
          exact ⟨rfl, Below.refl _ _⟩
end Go.Proofs.Qxb6614850a
