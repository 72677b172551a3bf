/-
  What a slice of bytes holds, said of a world: 'Sl w a len cap l'. Plain lemmas; no program.
-/
import Derived.WalkKit
import Derived.ProofKit
import Derived.Below
namespace Go.Proofs.Qxb6614996a
open Go.RowKit

/-- The slice value '.slice a len cap' holds the bytes l in the world w. -/
def Sl (w : World) (a : Option Addr) (len cap : Nat) (l : List Int) : Prop :=
  l.length = len ∧ len ≤ cap ∧ cap ≤ maxLen ∧ (a = none → cap = 0) ∧ ∀ x, a = some x → ∀ i, i < len → w.cell? (x.add i) = some (.int .u8 (l.getD i 0))

theorem Sl.len {w : World} {a : Option Addr} {len cap : Nat} {l : List Int} (h : Sl w a len cap l) : l.length = len := h.1

theorem Sl.below {w w' : World} {a : Option Addr} {len cap : Nat} {l : List Int} (h : Sl w a len cap l) (hb : Below w.heap.size w w') : Sl w' a len cap l := by
  obtain ⟨h1, h2, h3, h4, h5⟩ := h
  refine ⟨h1, h2, h3, h4, fun x hx i hi => ?_⟩
  have hc := h5 x hx i hi
  rw [hb.cell (World.block_lt_of_cell? w _ hc)]
  exact hc

/-- Where there is an element the address is a plain one. -/
theorem Sl.at {w : World} {a : Option Addr} {len cap : Nat} {l : List Int} (h : Sl w a len cap l) (hp : 0 < len) :
    ∃ b off, a = some ⟨b, off, none⟩ ∧ b < w.heap.size ∧ ∀ i, i < len → w.cell? ⟨b, off + i, none⟩ = some (.int .u8 (l.getD i 0)) := by
  obtain ⟨h1, h2, h3, h4, h5⟩ := h
  cases a with
  | none => have := h4 rfl; omega
  | some x =>
    obtain ⟨b, off, spot⟩ := x
    have hc := h5 _ rfl
    have hspot : spot = none := by simpa [Addr.add] using World.cell?_spot (hc 0 hp)
    subst hspot
    refine ⟨b, off, rfl, ?_, fun i hi => ?_⟩
    · have := World.block_lt_of_cell? w _ (hc 0 hp)
      simpa [Addr.add] using this
    · have := hc i hi
      rwa [Addr.add_lit] at this

theorem Sl.of_own {w : World} {base : Nat} {v : Value} {n : Nat} {l : List Int} (h : w.ownsRow base 5 1 v n (l.map (Value.int .u8))) :
    ∃ a cap, v = .slice a n cap ∧ Sl w a n cap l := by
  have hl : l.length = n := by simpa using h.1
  rcases h.2 with ⟨rfl, rfl⟩ | ⟨g, cap, cur, rfl, hb, hg, hnc, hcm, hcs, htake⟩
  · exact ⟨none, 0, rfl, hl, Nat.le_refl _, Nat.zero_le _, fun _ => rfl, fun x hx => (by cases hx)⟩
  · refine ⟨_, _, rfl, hl, hnc, hcm, fun h => (by cases h), fun x hx i hi => ?_⟩
    obtain rfl := Option.some.inj hx
    refine h.cells (g := g) rfl i _ ?_
    simp [List.getD, show i < l.length by omega]

end Go.Proofs.Qxb6614996a
