import Derived.Test.Qxb6614996aClo
import Derived.Laws.EntriesVeiled
namespace Go.Proofs.Qxb6614996a
open Go.RowKit

abbrev cU16 : ByteArray := ⟨#[85, 84, 70, 45, 49, 54]⟩

theorem bcell {W w1 : World} (hb : Below W.heap.size W w1) : (∀ b o, b < W.heap.size → w1.cell? ⟨b, o, none⟩ = W.cell? ⟨b, o, none⟩) ∧ (∀ b o, b < W.heap.size → w1.frozen? ⟨b, o, none⟩ = W.frozen? ⟨b, o, none⟩) :=
  ⟨fun b o h => hb.cell (p := ⟨b, o, none⟩) h, fun b o h => hb.frozen (p := ⟨b, o, none⟩) h⟩
theorem three_boxes (w : World) (a b c : Obj) : Below w.heap.size w (((w.alloc a).alloc b).alloc c) := (((Below.refl _ _).alloc (Nat.le_refl _) _).alloc (by simp) _).alloc (by simp; omega) _

theorem three_at (w : World) (v : Value) (e : TypeId) (b c : Obj) : (((w.alloc (.cells #[v] e)).alloc b).alloc c).cell? ⟨w.heap.size, 0, none⟩ = some v := by
  have h1 : Below (w.alloc (.cells #[v] e)).heap.size (w.alloc (.cells #[v] e)) (((w.alloc (.cells #[v] e)).alloc b).alloc c) := ((Below.refl _ _).alloc (Nat.le_refl _) _).alloc (by simp) _
  rw [h1.cell (by simp)]
  simp

theorem enc_any (w : World) (T : TypeId) :
    Calls Try.prog 12 #[.iface T (.agg #[])] w fun e w' => e = .returned (.agg #[.string cU16, .func (Fn.func 17) #[] #[.pointer (some ⟨w.heap.size, 0, none⟩)]]) ∧ w' = (w.alloc (.cells #[.iface T (.agg #[])] 43)).alloc (.cells #[.string cU16, .func (Fn.func 17) #[] #[.pointer (some ⟨w.heap.size, 0, none⟩)]] 32) := by
  go_enter Try.func12, Try.ntmps12
  go_wp2
  exact bodyPost_ret (v := .agg #[.string cU16, .func (Fn.func 17) #[] #[.pointer (some ⟨w.heap.size, 0, none⟩)]]) (by simp [results, Try.results12, go_sem]) rfl ⟨rfl, rfl⟩

theorem le_any (w : World) (a : Option Addr) (len cap : Nat) (l : List Int) (hs : Sl w a len cap l) (hy : By l) :
    Calls Try.prog 7 #[.slice a len cap] w fun e w' => e = .returned (.tuple #[.string cU16, .int .i32 (decR false l), .int .i64 (decN false l)]) ∧ Below w.heap.size w w' := by
  have HS : Hid (Sl w a len cap l) := hs
  have HY : Hid (By l) := hy
  clear hs hy
  go_enter Try.func7, Try.ntmps7
  go_wp2_with fail
  refine (enc_any _ 35).mono ?_
  rintro e w1 ⟨rfl, rfl⟩
  go_wp2_with fail
  have hb0 := three_boxes w (.cells #[.iface 35 (.agg #[])] 43) (.cells #[.string cU16, .func (Fn.func 17) #[] #[.pointer (some ⟨w.heap.size, 0, none⟩)]] 32) (.cells #[.string cU16, .func (Fn.func 17) #[] #[.pointer (some ⟨w.heap.size, 0, none⟩)]] 32)
  refine (clo_le _ w.heap.size a len cap l (three_at w _ _ _ _) (HS.out.below hb0) HY.out).mono ?_
  rintro e w1 ⟨rfl, hb⟩
  obtain ⟨hc, hf⟩ := bcell hb
  go_wp2
  go_ret3
  exact ⟨rfl, bnext hb0 (Nat.le_refl _) hb⟩

theorem be_any (w : World) (a : Option Addr) (len cap : Nat) (l : List Int) (hs : Sl w a len cap l) (hy : By l) :
    Calls Try.prog 8 #[.slice a len cap] w fun e w' => e = .returned (.tuple #[.string cU16, .int .i32 (decR true l), .int .i64 (decN true l)]) ∧ Below w.heap.size w w' := by
  have HS : Hid (Sl w a len cap l) := hs
  have HY : Hid (By l) := hy
  clear hs hy
  go_enter Try.func8, Try.ntmps8
  go_wp2_with fail
  refine (enc_any _ 36).mono ?_
  rintro e w1 ⟨rfl, rfl⟩
  go_wp2_with fail
  have hb0 := three_boxes w (.cells #[.iface 36 (.agg #[])] 43) (.cells #[.string cU16, .func (Fn.func 17) #[] #[.pointer (some ⟨w.heap.size, 0, none⟩)]] 32) (.cells #[.string cU16, .func (Fn.func 17) #[] #[.pointer (some ⟨w.heap.size, 0, none⟩)]] 32)
  refine (clo_be _ w.heap.size a len cap l (three_at w _ _ _ _) (HS.out.below hb0) HY.out).mono ?_
  rintro e w1 ⟨rfl, hb⟩
  obtain ⟨hc, hf⟩ := bcell hb
  go_wp2
  go_ret3
  exact ⟨rfl, bnext hb0 (Nat.le_refl _) hb⟩
end Go.Proofs.Qxb6614996a
