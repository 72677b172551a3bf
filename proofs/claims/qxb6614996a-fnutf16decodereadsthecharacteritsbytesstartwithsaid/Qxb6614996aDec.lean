import Derived.Test.Qxb6614996aArith
namespace Go.Proofs.Qxb6614996a
open Go.RowKit

/-! ### Uint16 of the two byte orders -/
theorem le16_any (w : World) (b off len cap : Nat) (x y : Int) (h : 2 ≤ len) (hx : 0 ≤ x ∧ x ≤ 255) (hy : 0 ≤ y ∧ y ≤ 255) (c0 : w.cell? ⟨b, off, none⟩ = some (.int .u8 x)) (c1 : w.cell? ⟨b, off + 1, none⟩ = some (.int .u8 y)) :
    Calls Try.prog 38 #[.agg #[], .slice (some ⟨b, off, none⟩) len cap] w fun e w' => e = .returned (.int .u16 (un false x y)) ∧ Below w.heap.size w w' := by
  have hb := World.block_lt_of_cell? w _ c0
  have i0 : (0 : Int) < (len : Int) := by omega
  have i1 : (1 : Int) < (len : Int) := by omega
  go_enter Try.func38, Try.ntmps38
  go_wp2
  go_quiet (fail)
  go_wp2
  go_ret
  refine ⟨ret_int ?_, bdrewN (below_box _ _) _⟩
  rw [u16_or8 _ _ (by omega) (by omega) (by omega) (by omega) (by omega)]
  unfold un
  simp
  omega
theorem be16_any (w : World) (b off len cap : Nat) (x y : Int) (h : 2 ≤ len) (hx : 0 ≤ x ∧ x ≤ 255) (hy : 0 ≤ y ∧ y ≤ 255) (c0 : w.cell? ⟨b, off, none⟩ = some (.int .u8 x)) (c1 : w.cell? ⟨b, off + 1, none⟩ = some (.int .u8 y)) :
    Calls Try.prog 41 #[.agg #[], .slice (some ⟨b, off, none⟩) len cap] w fun e w' => e = .returned (.int .u16 (un true x y)) ∧ Below w.heap.size w w' := by
  have hb := World.block_lt_of_cell? w _ c0
  have i0 : (0 : Int) < (len : Int) := by omega
  have i1 : (1 : Int) < (len : Int) := by omega
  go_enter Try.func41, Try.ntmps41
  go_wp2
  go_quiet (fail)
  go_wp2
  go_ret
  refine ⟨ret_int ?_, bdrewN (below_box _ _) _⟩
  rw [u16_or8 _ _ (by omega) (by omega) (by omega) (by omega) (by omega)]
  unfold un
  simp
  omega
end Go.Proofs.Qxb6614996a
