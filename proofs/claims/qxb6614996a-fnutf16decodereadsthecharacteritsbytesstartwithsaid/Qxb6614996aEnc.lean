import Derived.Test.Qxb6614996aZz
namespace Go.Proofs.Qxb6614996a
open Go.RowKit

theorem Try.info5' : (Try.prog.info? 5).map (fun i => (i.zero, i.size, i.bytes)) = some (some (.int .u8 0), 1, 1) := by kernel_rfl

theorem Sl.olds {w w' : World} {a : Option Addr} {len cap : Nat} {l : List Int} (h : Sl w a len cap l) (hb : Below w.heap.size w w') :
    ∀ b, a = some b → ∀ j u, (l.map (Value.int .u8))[j]? = some u → w'.cell? (b.add j) = some u := by
  intro b hb' j u hu
  have hj : j < l.length := by simpa using (List.getElem?_eq_some_iff.1 hu).1
  have := (h.below hb).2.2.2.2 b hb' j (by rw [← h.1]; exact hj)
  rw [this, ← hu]
  simp [List.getD, hj]

def encL (big : Bool) (c : Int) : List Int := if c < 65536 then ub big c else ub big (55296 + (c - 65536) / 1024) ++ ub big (56320 + (c - 65536) % 1024)

set_option maxHeartbeats 1000000 in
theorem enc16_any (w : World) (c : Int) (big : Bool) (h0 : 0 ≤ c) (h1 : c ≤ 1114111) :
    Calls Try.prog 16 #[.int .i32 c, .bool big] w fun e w' => ∃ a n cap, e = .returned (.slice a n cap) ∧ Sl w' a n cap (encL big c) ∧ Below w.heap.size w w' := by
  unfold encL
  obtain ⟨i0, hi, hz0, hz1, hz2⟩ := info_parts Try.info5'
  by_cases hc : c < 65536
  · rw [if_pos hc]
    go_enter Try.func16, Try.ntmps16
    go_wp2_with fail
    refine (ub_any _ _ _ (by omega) (by omega)).mono ?_
    rintro e w1 ⟨b, rfl, hs, hb⟩
    go_wp2
    go_ret
    exact ⟨_, _, _, rfl, hs, hb⟩
  · rw [if_neg hc]
    have hand := i32_and10 (c - 65536) (by omega) (by omega)
    go_enter Try.func16, Try.ntmps16
    go_wp2_with fail
    refine (ub_any _ _ _ (by omega) (by omega)).mono ?_
    rintro e w1 ⟨b, rfl, hs, hb⟩
    go_wp2_with fail
    refine (ub_any _ _ _ (by omega) (by omega)).mono ?_
    rintro e w2 ⟨b', rfl, hs', hb'⟩
    replace hs := hs.below hb'
    have hB := bnext hb (Nat.le_refl _) hb'
    clear hb hb'
    go_wp2_with (at_builtin; refine wpList_append_grows _ rfl (.tmp 21) (.tmp 27) 22 rfl 5 i0 (.int .u8 0) 1 1 Try.underlying22 hi hz0 hz1 hz2 rfl (by decide) (some ⟨b, 0, none⟩) 2 2 ((ub big (55296 + (c - 65536) / 1024)).map (Value.int .u8)) rfl (fun h => by cases h) (by simp [ub_len]) (hs.olds (Below.refl _ _)) ⟨b', 0, none⟩ 2 2 ((ub big (56320 + (c - 65536) % 1024)).map (Value.int .u8)) rfl (by simp [ub_len]) (hs'.olds (Below.refl _ _) _ rfl) (ints_oneCell _ _) (by omega) (by unfold maxLen; omega) (by omega) ?_)
    intro v3 w3 hown hgrow
    rw [← List.map_append] at hown
    obtain ⟨a', cap', rfl, hsl⟩ := Sl.of_own hown
    have hB' := hB.grown hgrow hB.size (fun k hk => by cases hk)
    clear hown hgrow hs hs' hB
    go_wp2
    go_ret
    exact ⟨_, _, _, rfl, hsl, hB'⟩
end Go.Proofs.Qxb6614996a
