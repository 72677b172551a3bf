import Derived.Test.Qxb6614831aRows
import Derived.WalkKit
import Derived.ProofKit
import Derived.OpenShut
namespace Go.Proofs.Qxb6614831a
open Go.ChangeShapes Go.WideShapes Go.ChangeAt Go.RowKit

theorem cells3 : Try.prog.cellsOf 3 = 1 := by kernel_rfl
theorem cells9 : Try.prog.cellsOf 9 = 1 := by kernel_rfl
theorem cells27 : Try.prog.cellsOf 27 = 5 := by kernel_rfl
theorem cells29 : Try.prog.cellsOf 29 = 6 := by kernel_rfl

theorem array5 {α : Type} {cs : Array α} (h : cs.size = 5) : ∃ c0 c1 c2 c3 c4, cs = #[c0, c1, c2, c3, c4] := by
  obtain ⟨l⟩ := cs
  match l, h with
  | [c0, c1, c2, c3, c4], _ => exact ⟨c0, c1, c2, c3, c4, rfl⟩
theorem array6 {α : Type} {cs : Array α} (h : cs.size = 6) : ∃ c0 c1 c2 c3 c4 c5, cs = #[c0, c1, c2, c3, c4, c5] := by
  obtain ⟨l⟩ := cs
  match l, h with
  | [c0, c1, c2, c3, c4, c5], _ => exact ⟨c0, c1, c2, c3, c4, c5, rfl⟩

/-- The board, as it came in. -/
theorem open_board {H : Type} {enc : TypeId × Value → H} {w : World} {base : Nat} {spare : Nat → Bool} {held : Bool} {r : Reach} {b0 : Nat} {v : Value} {d : DataW H} {p : List MemPlace}
    (hv : Value.okWide Try.prog w r b0 27 v) (h : DataW.Trod enc Try.prog w base spare held 27 v d p) :
    ∃ (x0 : Int) (x1 : Int) (x2 : Int) (x3 : Int) (x4 : Int), v = .agg #[.int .i64 x0, .int .i64 x1, .int .i64 x2, .int .i64 x3, .int .i64 x4] ∧ (Lit.int .i64 x0).wf = true ∧ (Lit.int .i64 x1).wf = true ∧ (Lit.int .i64 x2).wf = true ∧ (Lit.int .i64 x3).wf = true ∧ (Lit.int .i64 x4).wf = true := by
  obtain ⟨cs, rfl, hsz⟩ := okWide_struct Try.underlying27 hv
  obtain ⟨c0, c1, c2, c3, c4, rfl⟩ := array5 (hsz.trans cells27)
  obtain ⟨fuel, hf⟩ := h
  obtain ⟨xs, n, _, _, _, hlen, hfs⟩ := DataW.trod_struct Try.underlying27 hf
  have hl : xs.length = 5 := hlen
  have at' : ∀ i, i < 5 → ∃ y, xs[i]? = some y := fun i hi => ⟨_, List.getElem?_eq_getElem (by omega)⟩
  obtain ⟨y0, g0⟩ := at' 0 (by omega)
  have h0 := hfs 0 _ rfl
  rw [g0] at h0
  obtain ⟨x0, e0, _, w0⟩ := DataW.trod_int Try.underlying3 h0
  simp [Value.cells, cells3] at e0
  obtain ⟨y1, g1⟩ := at' 1 (by omega)
  have h1 := hfs 1 _ rfl
  rw [g1] at h1
  obtain ⟨x1, e1, _, w1⟩ := DataW.trod_int Try.underlying3 h1
  simp [Value.cells, cells3] at e1
  obtain ⟨y2, g2⟩ := at' 2 (by omega)
  have h2 := hfs 2 _ rfl
  rw [g2] at h2
  obtain ⟨x2, e2, _, w2⟩ := DataW.trod_int Try.underlying3 h2
  simp [Value.cells, cells3] at e2
  obtain ⟨y3, g3⟩ := at' 3 (by omega)
  have h3 := hfs 3 _ rfl
  rw [g3] at h3
  obtain ⟨x3, e3, _, w3⟩ := DataW.trod_int Try.underlying3 h3
  simp [Value.cells, cells3] at e3
  obtain ⟨y4, g4⟩ := at' 4 (by omega)
  have h4 := hfs 4 _ rfl
  rw [g4] at h4
  obtain ⟨x4, e4, _, w4⟩ := DataW.trod_int Try.underlying3 h4
  simp [Value.cells, cells3] at e4
  subst e0 e1 e2 e3 e4
  exact ⟨x0, x1, x2, x3, x4, rfl, w0, w1, w2, w3, w4⟩

/-- The report, as it came in. -/
theorem open_report {H : Type} {enc : TypeId × Value → H} {w : World} {base : Nat} {spare : Nat → Bool} {held : Bool} {r : Reach} {b0 : Nat} {v : Value} {d : DataW H} {p : List MemPlace}
    (hv : Value.okWide Try.prog w r b0 29 v) (h : DataW.Trod enc Try.prog w base spare held 29 v d p) :
    ∃ (x0 : ByteArray) (x1 : Int) (x2 : Int) (x3 : Int) (x4 : ByteArray) (x5 : Int), v = .agg #[.string x0, .int .i64 x1, .int .i64 x2, .int .i64 x3, .string x4, .int .i64 x5] ∧ x0.size ≤ maxLen ∧ (Lit.int .i64 x1).wf = true ∧ (Lit.int .i64 x2).wf = true ∧ (Lit.int .i64 x3).wf = true ∧ x4.size ≤ maxLen ∧ (Lit.int .i64 x5).wf = true := by
  obtain ⟨cs, rfl, hsz⟩ := okWide_struct Try.underlying29 hv
  obtain ⟨c0, c1, c2, c3, c4, c5, rfl⟩ := array6 (hsz.trans cells29)
  obtain ⟨fuel, hf⟩ := h
  obtain ⟨xs, n, _, _, _, hlen, hfs⟩ := DataW.trod_struct Try.underlying29 hf
  have hl : xs.length = 6 := hlen
  have at' : ∀ i, i < 6 → ∃ y, xs[i]? = some y := fun i hi => ⟨_, List.getElem?_eq_getElem (by omega)⟩
  obtain ⟨y0, g0⟩ := at' 0 (by omega)
  have h0 := hfs 0 _ rfl
  rw [g0] at h0
  obtain ⟨x0, e0, _, w0⟩ := DataW.trod_string Try.underlying9 h0
  simp [Value.cells, cells9] at e0
  obtain ⟨y1, g1⟩ := at' 1 (by omega)
  have h1 := hfs 1 _ rfl
  rw [g1] at h1
  obtain ⟨x1, e1, _, w1⟩ := DataW.trod_int Try.underlying3 h1
  simp [Value.cells, cells3] at e1
  obtain ⟨y2, g2⟩ := at' 2 (by omega)
  have h2 := hfs 2 _ rfl
  rw [g2] at h2
  obtain ⟨x2, e2, _, w2⟩ := DataW.trod_int Try.underlying3 h2
  simp [Value.cells, cells3] at e2
  obtain ⟨y3, g3⟩ := at' 3 (by omega)
  have h3 := hfs 3 _ rfl
  rw [g3] at h3
  obtain ⟨x3, e3, _, w3⟩ := DataW.trod_int Try.underlying3 h3
  simp [Value.cells, cells3] at e3
  obtain ⟨y4, g4⟩ := at' 4 (by omega)
  have h4 := hfs 4 _ rfl
  rw [g4] at h4
  obtain ⟨x4, e4, _, w4⟩ := DataW.trod_string Try.underlying9 h4
  simp [Value.cells, cells9] at e4
  obtain ⟨y5, g5⟩ := at' 5 (by omega)
  have h5 := hfs 5 _ rfl
  rw [g5] at h5
  obtain ⟨x5, e5, _, w5⟩ := DataW.trod_int Try.underlying3 h5
  simp [Value.cells, cells3] at e5
  subst e0 e1 e2 e3 e4 e5
  exact ⟨x0, x1, x2, x3, x4, x5, rfl, w0, w1, w2, w3, w4, w5⟩
end Go.Proofs.Qxb6614831a
