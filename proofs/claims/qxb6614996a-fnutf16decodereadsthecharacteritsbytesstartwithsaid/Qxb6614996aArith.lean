import Derived.Test.Qxb6614996aCuts
import Derived.Laws.BitsLemmas
import Derived.Lib.EndianBits
namespace Go.Proofs.Qxb6614996a
open Go.RowKit

/-! ### Bits -/
theorem i32_or8 (x y : Int) (hx₀ : 0 ≤ x) (hx : x % 256 = 0) (hx₁ : x < 2147483648) (h₀ : 0 ≤ y) (h₁ : y < 256) : bits .or .i32 x y = x + y :=
  bits_join .i32 31 (by decide) wraps_i32 8 x y hx₀ (by simpa using hx) (by simpa using hx₁) h₀ (by simpa using h₁) (by omega)
theorem i32_or10 (x y : Int) (hx₀ : 0 ≤ x) (hx : x % 1024 = 0) (hx₁ : x < 2147483648) (h₀ : 0 ≤ y) (h₁ : y < 1024) : bits .or .i32 x y = x + y :=
  bits_join .i32 31 (by decide) wraps_i32 10 x y hx₀ (by simpa using hx) (by simpa using hx₁) h₀ (by simpa using h₁) (by omega)
theorem i32_and10 (x : Int) (h₀ : 0 ≤ x) (h₁ : x < 2147483648) : bits .and .i32 x 1023 = x % 1024 :=
  bits_mask .i32 31 (by decide) wraps_i32 10 (by decide) x h₀ (by simpa using h₁)

theorem ret_int {k : IntKind} {a b : Int} (h : a = b) : Ending.returned (.int k a) = .returned (.int k b) := by rw [h]
theorem bdrewN {B : Nat} {w w1 : World} (h : Below B w w1) (n : Nat) : Below B w (w1.drewN n) := h.trans ⟨rfl, rfl, rfl, Nat.le_refl _, fun _ _ => rfl⟩
theorem below_box (w : World) (o : Obj) : Below w.heap.size w (w.alloc o) := (Below.refl _ _).alloc (Nat.le_refl _) _
theorem bnext {B : Nat} {w w1 w2 : World} (h : Below B w w1) (hB : B ≤ w.heap.size) (h2 : Below w1.heap.size w1 w2) : Below B w w2 :=
  h.trans (h2.mono (Nat.le_trans hB h.size))

/-! ### zzUnitOf -/
def un (big : Bool) (x y : Int) : Int := if big then x * 256 + y else y * 256 + x
theorem un_bd (big : Bool) (x y : Int) (hx : 0 ≤ x ∧ x ≤ 255) (hy : 0 ≤ y ∧ y ≤ 255) : 0 ≤ un big x y ∧ un big x y ≤ 65535 := by
  unfold un; cases big <;> simp <;> omega
theorem unit_any (w : World) (x y : Int) (big : Bool) (hx : 0 ≤ x ∧ x ≤ 255) (hy : 0 ≤ y ∧ y ≤ 255) :
    Calls Try.prog 13 #[.int .u8 x, .int .u8 y, .bool big] w fun e w' => e = .returned (.int .i32 (un big x y)) ∧ w' = w := by
  cases big
  · go_enter Try.func13, Try.ntmps13
    go_wp2
    go_ret
    exact ⟨ret_int (i32_or8 _ _ (by omega) (by omega) (by omega) (by omega) (by omega)), rfl⟩
  · go_enter Try.func13, Try.ntmps13
    go_wp2
    go_ret
    exact ⟨ret_int (i32_or8 _ _ (by omega) (by omega) (by omega) (by omega) (by omega)), rfl⟩

/-! ### zzUnitBytes -/
def ub (big : Bool) (u : Int) : List Int := if big then [u / 256, u % 256] else [u % 256, u / 256]
theorem ub_len (big : Bool) (u : Int) : (ub big u).length = 2 := by unfold ub; cases big <;> rfl
theorem sl_two (w : World) (x y : Int) : Sl (w.alloc (.cells #[.int .u8 x, .int .u8 y] 5)) (some ⟨w.heap.size, 0, none⟩) 2 2 [x, y] := by
  refine ⟨rfl, Nat.le_refl _, by unfold maxLen; omega, fun h => (by cases h), fun a ha i hi => ?_⟩
  obtain rfl := Option.some.inj ha
  match i, hi with
  | 0, _ => simp [Addr.add]
  | 1, _ => simp [Addr.add]
theorem ub_any (w : World) (u : Int) (big : Bool) (h0 : 0 ≤ u) (h1 : u ≤ 65535) :
    Calls Try.prog 20 #[.int .u16 u, .bool big] w fun e w' => ∃ b, e = .returned (.slice (some ⟨b, 0, none⟩) 2 2) ∧ Sl w' (some ⟨b, 0, none⟩) 2 2 (ub big u) ∧ Below w.heap.size w w' := by
  cases big
  · go_enter Try.func20, Try.ntmps20
    go_wp2
    go_ret
    exact ⟨_, rfl, sl_two _ _ _, below_box _ _⟩
  · go_enter Try.func20, Try.ntmps20
    go_wp2
    go_ret
    exact ⟨_, rfl, sl_two _ _ _, below_box _ _⟩

/-! ### zzValidScalar -/
def vs (c : Int) : Bool := decide (0 ≤ c ∧ c ≤ 1114111 ∧ (c < 55296 ∨ 57343 < c))
theorem vs_any (w : World) (c : Int) : Calls Try.prog 14 #[.int .i32 c] w fun e w' => e = .returned (.bool (vs c)) ∧ w' = w := by
  by_cases h0 : 0 ≤ c
  · by_cases h1 : c ≤ 1114111
    · by_cases h2 : c < 55296
      · have e : vs c = true := by simp [vs]; omega
        rw [e]
        go_enter Try.func14, Try.ntmps14
        go_wp2
        go_ret
        exact ⟨rfl, rfl⟩
      · by_cases h3 : 57343 < c
        · have e : vs c = true := by simp [vs]; omega
          have d2 : decide (c < 55296) = false := decide_eq_false h2
          rw [e]
          go_enter Try.func14, Try.ntmps14
          go_wp2
          go_ret
          exact ⟨rfl, rfl⟩
        · have e : vs c = false := by simp [vs]; omega
          have d2 : decide (c < 55296) = false := decide_eq_false h2
          have d3 : decide (57343 < c) = false := decide_eq_false h3
          rw [e]
          go_enter Try.func14, Try.ntmps14
          go_wp2
          go_ret
          exact ⟨rfl, rfl⟩
    · have e : vs c = false := by simp [vs]; omega
      have d1 : decide (c ≤ 1114111) = false := decide_eq_false h1
      rw [e]
      go_enter Try.func14, Try.ntmps14
      go_wp2
      go_ret
      exact ⟨rfl, rfl⟩
  · have e : vs c = false := by simp [vs]; omega
    have d0 : decide (0 ≤ c) = false := decide_eq_false h0
    rw [e]
    go_enter Try.func14, Try.ntmps14
    go_wp2
    go_ret
    exact ⟨rfl, rfl⟩

/-! ### utf16.IsSurrogate, utf16.DecodeRune -/
def su (c : Int) : Bool := decide (55296 ≤ c ∧ c < 57344)
theorem su_any (w : World) (c : Int) : Calls Try.prog 18 #[.int .i32 c] w fun e w' => e = .returned (.bool (su c)) ∧ w' = w := by
  by_cases h0 : 55296 ≤ c
  · by_cases h1 : c < 57344
    · have e : su c = true := by simp [su]; omega
      rw [e]
      go_enter Try.func18, Try.ntmps18
      go_wp2
      go_ret
      exact ⟨rfl, rfl⟩
    · have e : su c = false := by simp [su]; omega
      have d1 : decide (c < 57344) = false := decide_eq_false h1
      rw [e]
      go_enter Try.func18, Try.ntmps18
      go_wp2
      go_ret
      exact ⟨rfl, rfl⟩
  · have e : su c = false := by simp [su]; omega
    have d0 : decide (55296 ≤ c) = false := decide_eq_false h0
    rw [e]
    go_enter Try.func18, Try.ntmps18
    go_wp2
    go_ret
    exact ⟨rfl, rfl⟩

def pr (a b : Int) : Bool := decide (55296 ≤ a ∧ a < 56320 ∧ 56320 ≤ b ∧ b < 57344)
def dr (a b : Int) : Int := if pr a b then (a - 55296) * 1024 + (b - 56320) + 65536 else 65533
theorem dr_any (w : World) (a b : Int) (ha : 55296 ≤ a) (ha' : a < 57344) (hb : 0 ≤ b) (hb' : b ≤ 65535) : Calls Try.prog 19 #[.int .i32 a, .int .i32 b] w fun e w' => e = .returned (.int .i32 (dr a b)) ∧ w' = w := by
  by_cases h1 : a < 56320
  · by_cases h2 : 56320 ≤ b
    · by_cases h3 : b < 57344
      · have e : dr a b = (a - 55296) * 1024 + (b - 56320) + 65536 := by
          have : pr a b = true := by simp [pr]; omega
          simp [dr, this]
        rw [e]
        go_enter Try.func19, Try.ntmps19
        go_wp2
        go_ret
        refine ⟨ret_int ?_, rfl⟩
        rw [i32_or10 _ _ (by omega) (by omega) (by omega) (by omega) (by omega)]
        unfold wrap32
        omega
      · have e : dr a b = 65533 := by
          have : pr a b = false := by simp [pr]; omega
          simp [dr, this]
        have d3 : decide (b < 57344) = false := decide_eq_false h3
        rw [e]
        go_enter Try.func19, Try.ntmps19
        go_wp2
        go_ret
        exact ⟨rfl, rfl⟩
    · have e : dr a b = 65533 := by
        have : pr a b = false := by simp [pr]; omega
        simp [dr, this]
      have d3 : decide (56320 ≤ b) = false := decide_eq_false h2
      rw [e]
      go_enter Try.func19, Try.ntmps19
      go_wp2
      go_ret
      exact ⟨rfl, rfl⟩
  · have e : dr a b = 65533 := by
      have : pr a b = false := by simp [pr]; omega
      simp [dr, this]
    have d3 : decide (a < 56320) = false := decide_eq_false h1
    rw [e]
    go_enter Try.func19, Try.ntmps19
    go_wp2
    go_ret
    exact ⟨rfl, rfl⟩
end Go.Proofs.Qxb6614996a
