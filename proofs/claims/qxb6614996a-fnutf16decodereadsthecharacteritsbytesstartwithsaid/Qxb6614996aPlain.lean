import Derived.Test.Qxb6614996aEnc
namespace Go.Proofs.Qxb6614996a
open Go.RowKit

theorem ub_un (big : Bool) (x y : Int) (hx : 0 ≤ x ∧ x ≤ 255) (hy : 0 ≤ y ∧ y ≤ 255) : ub big (un big x y) = [x, y] := by
  cases big
  · have e1 : (y * 256 + x) % 256 = x := by omega
    have e2 : (y * 256 + x) / 256 = y := by omega
    simp [ub, un, e1, e2]
  · have e1 : (x * 256 + y) % 256 = y := by omega
    have e2 : (x * 256 + y) / 256 = x := by omega
    simp [ub, un, e1, e2]

theorem take2 (l : List Int) (h : 2 ≤ l.length) : l.take 2 = [l.getD 0 0, l.getD 1 0] := by
  match l, h with
  | x :: y :: r, _ => simp
theorem take4 (l : List Int) (h : 4 ≤ l.length) : l.take 4 = [l.getD 0 0, l.getD 1 0, l.getD 2 0, l.getD 3 0] := by
  match l, h with
  | x :: y :: z :: t :: r, _ => simp

/-- What the decoder answers at bytes that are there: all its ways. -/
theorem dec_cases (big : Bool) (l : List Int) (hy : By l) (h : 1 ≤ l.length) :
    (decR big l = -1 ∧ decN big l = 1 ∧ l.length = 1) ∨ (decR big l = -1 ∧ decN big l = 2 ∧ 2 ≤ l.length) ∨
    (∃ R, decR big l = R ∧ decN big l = 2 ∧ 2 ≤ l.length ∧ 0 ≤ R ∧ R ≤ 1114111 ∧ vs R = true ∧ encL big R = l.take 2) ∨
    (∃ R, decR big l = R ∧ decN big l = 4 ∧ 4 ≤ l.length ∧ 0 ≤ R ∧ R ≤ 1114111 ∧ vs R = true ∧ encL big R = l.take 4) := by
  by_cases h2 : l.length < 2
  · left
    exact ⟨decR_short big l h2, by rw [decN_short big l h2]; omega, by omega⟩
  right
  have hb0 := hy 0
  have hb1 := hy 1
  have ubd := un_bd big (l.getD 0 0) (l.getD 1 0) hb0 hb1
  have hub := ub_un big (l.getD 0 0) (l.getD 1 0) hb0 hb1
  obtain ⟨u, hu⟩ : ∃ u, u = un big (l.getD 0 0) (l.getD 1 0) := ⟨_, rfl⟩
  rw [← hu] at ubd hub
  cases hs : su u
  · right; left
    have hs' : ¬ (55296 ≤ u ∧ u < 57344) := by simpa [su] using hs
    refine ⟨u, decR_plain big l (by omega) hu hs, decN_plain big l (by omega) hu hs, by omega, by omega, by omega, by simp [vs]; omega, ?_⟩
    rw [take2 l (by omega), encL, if_pos (by omega), hub]
  · have hs' : 55296 ≤ u ∧ u < 57344 := by simpa [su] using hs
    by_cases h4 : l.length < 4
    · left
      exact ⟨decR_cut big l (by omega) h4 hu hs, decN_cut big l (by omega) h4 hu hs, by omega⟩
    · have hb2 := hy 2
      have hb3 := hy 3
      have hvb := ub_un big (l.getD 2 0) (l.getD 3 0) hb2 hb3
      obtain ⟨v, hv⟩ : ∃ v, v = un big (l.getD 2 0) (l.getD 3 0) := ⟨_, rfl⟩
      rw [← hv] at hvb
      cases hp : pr u v
      · left
        exact ⟨decR_bad big l (by omega) hu hv hs hp, decN_bad big l (by omega) hu hv hs hp, by omega⟩
      · right; right
        have hp' : 55296 ≤ u ∧ u < 56320 ∧ 56320 ≤ v ∧ v < 57344 := by simpa [pr] using hp
        have e4 : dr u v = (u - 55296) * 1024 + (v - 56320) + 65536 := by simp [dr, hp]
        refine ⟨dr u v, decR_pair big l (by omega) hu hv hs hp, decN_pair big l (by omega) hu hv hs hp, by omega, by omega, by omega, by simp [vs]; omega, ?_⟩
        have e5 : 55296 + (dr u v - 65536) / 1024 = u := by rw [e4]; omega
        have e6 : 56320 + (dr u v - 65536) % 1024 = v := by rw [e4]; omega
        rw [take4 l (by omega), encL, if_neg (by omega), e5, e6, hub, hvb]
        rfl

theorem By.drop {l : List Int} (h : By l) (k : Nat) : By (l.drop k) := by
  intro i
  have := h (k + i)
  simpa [List.getD, List.getElem?_drop] using this

/-- 'x[n:m]': where it lies, and what it holds. -/
theorem Sl.mid {w : World} {a : Option Addr} {len cap : Nat} {l : List Int} (h : Sl w a len cap l) (k j : Int) (n m : Nat) (hk : k = (n : Int)) (hj : j = ((n + m : Nat) : Int)) (hn : n + m ≤ len) :
    ∃ A, (∀ w', (Instr.slice 22 (.slice a len cap) (some (.int .i64 k)) (some (.int .i64 j)) none).run Try.prog w' = .ok (.slice A m (cap - n)) w') ∧ Sl w A m (cap - n) ((l.drop n).take m) := by
  obtain ⟨h1, h2, h3, h4, h5⟩ := h
  subst hk hj
  refine ⟨if cap = n then a else a.map (·.add n), fun w' => ?_, ?_⟩
  · rw [run_slice_lh w' 22 a len cap under22 .i64 .i64 (n : Int) ((n + m : Nat) : Int) (by omega) (by omega) (by omega), size22]
    simp [Result.andThen, sliced]
    omega
  · refine ⟨by rw [List.length_take, List.length_drop, h1]; omega, by omega, by omega, fun e => ?_, fun x hx i hi => ?_⟩
    · split at e
      · omega
      · have : a = none := by simpa using e
        have := h4 this
        omega
    · rw [if_neg (by omega)] at hx
      obtain ⟨y, rfl, hy⟩ := Option.map_eq_some_iff.1 hx
      subst hy
      have := h5 y rfl (n + i) (by omega)
      rw [show (y.add n).add i = y.add (n + i) from ?_]
      · rw [this]
        simp [List.getD, List.getElem?_drop, hi]
      · have hs : y.spot = none := by
          have e0 := h5 y rfl 0 (by omega)
          simpa [Addr.add] using World.cell?_spot e0
        obtain ⟨b, off, sp⟩ := y
        simp only at hs
        subst hs
        simp [Addr.add_lit, Nat.add_assoc]
end Go.Proofs.Qxb6614996a
