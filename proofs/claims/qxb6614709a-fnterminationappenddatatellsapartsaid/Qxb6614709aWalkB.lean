import Derived.Test.Qxb6614709aWalkA
import Derived.Deep.RegionHeld3
import Derived.Deep.RegionLawGrows
namespace Go.Proofs.Qxb6614709a
open Go.RowKit

/-- append onto a row of the call's own, the source nil or not, as one step of a region that draws. -/
theorem step_append_own_opt {P : Program} {ops : Array Oper} {o : Oper} {a : Act} {w : World} {K : Act → World → Prop} {Q : Exit → Act → World → Prop} {E : Prop}
    (hg : o.guard = none) (s x : Operand) (t : TypeId) (hop : o.op = Op.call { callee := Callee.builtin Builtin.append, args := #[s, x], argTypes := #[t, t] })
    (base : Nat) (e : TypeId) (i : TypeInfo) (z : Value) (size bytes : Nat) (h1 : P.underlying t = some (.slice e)) (h2 : P.info? e = some i) (h3 : i.zero = some z) (h4 : i.size = size) (h5 : i.bytes = bytes) (h6 : z.cells.size = size) (h7 : 0 < size)
    (v : Value) (n : Nat) (xs : List Value) (hs : a.eval s = v) (hown : w.ownsRow base e size v n xs)
    (ao : Option Addr) (m c : Nat) (news : List Value) (hx : a.eval x = .slice ao m c) (hnone : ao = none → m = 0 ∧ c = 0) (hn : news.length = m * size) (hc : ∀ ad, ao = some ad → ∀ j u, news[j]? = some u → w.cell? (ad.add j) = some u) (h1c : ∀ u ∈ news, u.oneCell' = true)
    (b1 : n + m ≤ maxLen) (b2 : (n + m) * bytes ≤ 140737488355328) (b3 : base ≤ w.heap.size)
    (hK : ∀ v' w', w'.ownsRow base e size v' (n + m) (xs ++ news) → w.grownBy w' v.ownBlock → K (a.put o.dst v') w') :
    if Region.wanted o (yielded ops a.tmps) = true then Oper.wp P o a w K Q else E := by
  have hw : Region.wanted o (yielded ops a.tmps) = true := by simp [Region.wanted, hg]
  rw [if_pos hw]
  cases ao with
  | some b =>
    obtain ⟨v', w', hrun, r1, r2, _⟩ := run_append_own (P := P) w base t o.type e i z size bytes h1 h2 h3 h4 h5 h6 h7 v n xs hown b m c news hn (hc b rfl) h1c b1 b2 b3
    unfold Oper.wp
    simp [execOp, hop, resolve, invoke, builtin, hs, hx, hrun, Result.andThen]
    exact hK v' w' r1 r2
  | none =>
    obtain ⟨rfl, rfl⟩ := hnone rfl
    obtain rfl : news = [] := List.eq_nil_of_length_eq_zero (by simpa using hn)
    have hrun := run_append_owned_none (P := P) w base t o.type e i size h1 h2 v n xs hown
    unfold Oper.wp
    simp [execOp, hop, resolve, invoke, builtin, hs, hx, hrun, Result.andThen]
    exact hK _ _ (by simpa using hown) (World.grownBy.refl _ _)

theorem Sl.olds {w w' : World} {a : Option Addr} {len cap : Nat} {l : List Int} (h : Sl w a len cap l) (hb : Below w.heap.size w w') :
    ∀ b, a = some b → ∀ j u, (l.map (Value.int .u8))[j]? = some u → w'.cell? (b.add j) = some u := by
  intro b hb' j u hu
  have hj : j < l.length := by simpa using (List.getElem?_eq_some_iff.1 hu).1
  have := (h.below hb).2.2.2.2 b hb' j (by rw [← h.1]; exact hj)
  rw [this, ← hu]
  simp [List.getD, hj]

theorem new_one (w : World) (v : Value) (e : TypeId) : ∀ j u, [v][j]? = some u → (w.alloc (.cells #[v] e)).drew.cell? ((⟨w.heap.size, 0, none⟩ : Addr).add j) = some u := by
  intro j u hu
  match j, hu with
  | 0, hu => simp at hu; subst hu; simp [Addr.add]

theorem kept_two {w w' : World} {B : Nat} {u v : Value} (c0 : w.cell? ⟨B, 0, none⟩ = some u) (c1 : w.cell? ⟨B, 1, none⟩ = some v) (hb : Below w.heap.size w w') : w'.cell? ⟨B, 0, none⟩ = some u ∧ w'.cell? ⟨B, 1, none⟩ = some v :=
  ⟨(hb.cell (World.block_lt_of_cell? w _ c0)).trans c0, (hb.cell (World.block_lt_of_cell? w _ c1)).trans c1⟩

theorem below_of {w w1 : World} {o : Obj} {v : Value} {n k : Nat} {xs : List Value} (h : w1.ownsRow (w.alloc o).drew.heap.size 5 1 v n xs) (hk : v.ownBlock = some k) : w.heap.size ≤ k := by
  have := (h.lt k hk).1
  have e : (w.alloc o).drew.heap.size = w.heap.size + 1 := by simp
  omega

theorem row_eq (l dl : List Int) (r : Int) : l.map (Value.int .u8) ++ [Value.int .u8 r] ++ dl.map (Value.int .u8) = (l ++ r :: dl).map (Value.int .u8) := by simp

set_option maxHeartbeats 1000000 in
theorem append_any (w : World) (B : Nat) (r : Int) (ad : Option Addr) (ld cd : Nat) (dl : List Int) (a : Option Addr) (len cap : Nat) (l : List Int)
    (c0 : w.cell? ⟨B, 0, none⟩ = some (.int .u8 r)) (c1 : w.cell? ⟨B, 1, none⟩ = some (.slice ad ld cd)) (hd : Sl w ad ld cd dl) (h : Sl w a len cap l) (hcap : cap = len) (hs : ld ≤ 1048576) (hs' : len ≤ 1048576) :
    Calls Try.prog 10 #[.pointer (some ⟨B, 0, none⟩), .slice a len cap] w fun e w' => ∃ a' cap', e = .returned (.slice a' (len + 1 + ld) cap') ∧ Sl w' a' (len + 1 + ld) cap' (l ++ r :: dl) ∧ Below w.heap.size w w' := by
  obtain ⟨i0, hi, hz0, hz1, hz2⟩ := info_parts Try.info5
  have HH : Hid (Sl w a len cap l) := h
  have HD : Hid (Sl w ad ld cd dl) := hd
  have HC : Hid (cap = len) := hcap
  have HB1 : Hid (Below w.heap.size w (w.alloc (.cells #[.int .u8 r] 5)).drew) := ((Below.refl _ _).alloc (Nat.le_refl _) _).drew
  have n1 : a = none → len = 0 ∧ cap = 0 := fun e => by have h1 := h.2.2.2.1 e; have h2 := h.2.1; omega
  have n2 : ad = none → ld = 0 ∧ cd = 0 := fun e => by have h1 := hd.2.2.2.1 e; have h2 := hd.2.1; omega
  have N1 : Hid (a = none → len = 0 ∧ cap = 0) := n1
  have N2 : Hid (ad = none → ld = 0 ∧ cd = 0) := n2
  clear h hd hcap n1 n2
  go_enter Try.func10, Try.ntmps10
  go_wp2
  go_region_held3 (fun w' => w'.cell? ⟨B, 0, none⟩ = some (.int .u8 r) ∧ w'.cell? ⟨B, 1, none⟩ = some (.slice ad ld cd)) (first | go_keep | exact kept_two c0 c1 hb2 | exact kept_two c0 c1 hb1)
    (first
      | (refine step_append_grows (by rfl) (.tmp 5) (.tmp 10) 22 (by rfl) 5 i0 (.int .u8 0) 1 1 Try.underlying22 hi hz0 hz1 hz2 rfl (by decide) a len cap (l.map (Value.int .u8)) (by rfl) N1.out (by simp [HH.out.1]) (HH.out.olds HB1.out) ⟨w.heap.size, 0, none⟩ 1 1 [.int .u8 r] (by rfl) rfl (new_one w _ 5) (by intro u hu; simp at hu; subst hu; rfl) (by have := HC.out; omega) (by unfold maxLen; omega) (by omega) ?_; intro v1 w1 hown1 hgrow1; have hb1 := HB1.out.grown hgrow1 (by simp) (fun k hk => by cases hk))
      | (refine step_append_own_opt (by rfl) (.tmp 11) (.tmp 15) 22 (by rfl) _ 5 i0 (.int .u8 0) 1 1 Try.underlying22 hi hz0 hz1 hz2 rfl (by decide) v1 (len + 1) (l.map (Value.int .u8) ++ [Value.int .u8 r]) (by rfl) hown1 ad ld cd (dl.map (Value.int .u8)) (by rfl) N2.out (by simp [HD.out.1]) (HD.out.olds hb1) (ints_oneCell _ _) (by unfold maxLen; omega) (by omega) hgrow1.size ?_; intro v2 w2 hown2 hgrow2; have hb2 := hb1.grown hgrow2 hb1.size (fun k hk => below_of hown1 hk)))
  go_wp2
  go_ret
  rw [row_eq] at hown2
  obtain ⟨a', cap', e', hsl⟩ := Sl.of_own hown2
  exact ⟨a', cap', congrArg Ending.returned e', hsl, hb2⟩

set_option maxHeartbeats 400000 in
theorem zzappend_any (w : World) (B : Nat) (r : Int) (ad : Option Addr) (ld cd : Nat) (dl : List Int) (a : Option Addr) (len cap : Nat) (l : List Int)
    (c0 : w.cell? ⟨B, 0, none⟩ = some (.int .u8 r)) (c1 : w.cell? ⟨B, 1, none⟩ = some (.slice ad ld cd)) (hd : Sl w ad ld cd dl) (h : Sl w a len cap l) (hcap : cap = len) (hs : ld ≤ 1048576) (hs' : len ≤ 1048576) :
    Calls Try.prog 7 #[.pointer (some ⟨B, 0, none⟩), .slice a len cap] w fun e w' => ∃ a' cap', e = .returned (.slice a' (len + 1 + ld) cap') ∧ Sl w' a' (len + 1 + ld) cap' (l ++ r :: dl) ∧ Below w.heap.size w w' := by
  have H := append_any w B r ad ld cd dl a len cap l c0 c1 hd h hcap hs hs'
  have HH := (show Hid _ from H)
  clear H c0 c1 hd h hcap
  go_enter Try.func7, Try.ntmps7
  go_wp2_with fail
  refine Calls.mono HH.out ?_
  rintro e w1 ⟨a', cap', rfl, hsl, hb⟩
  go_wp2
  go_ret
  exact ⟨a', cap', rfl, hsl, hb⟩

/-! ### zzBytes: two lengths -/
def fitB (m n : Nat) : Bool := decide (m ≤ 1048576 ∧ n ≤ 1048576 ∧ m + n ≤ 1048576)
set_option maxHeartbeats 400000 in
theorem bytes_any (w : World) (a0 : Int) (a1 : Option Addr) (len1 cap1 : Nat) (a2 : Option Addr) (len2 cap2 : Nat) (a3 : Int) (h1 : len1 ≤ 9223372036854775807) (h2 : len2 ≤ 9223372036854775807) :
    Calls Try.prog 5 #[.int .u8 a0, .slice a1 len1 cap1, .slice a2 len2 cap2, .int .i64 a3] w fun e w' => e = .returned (.bool (fitB len1 len2)) ∧ w = w' := by
  by_cases g1 : len1 ≤ 1048576
  · by_cases g2 : len2 ≤ 1048576
    · by_cases g3 : len1 + len2 ≤ 1048576
      · have e : fitB len1 len2 = true := by simp [fitB]; omega
        rw [e]
        go_enter Try.func5, Try.ntmps5
        go_wp2
        go_ret
        exact ⟨rfl, rfl⟩
      · have e : fitB len1 len2 = false := by simp [fitB]; omega
        rw [e]
        go_enter Try.func5, Try.ntmps5
        go_wp2
        go_ret
        exact ⟨rfl, rfl⟩
    · have e : fitB len1 len2 = false := by simp [fitB]; omega
      rw [e]
      go_enter Try.func5, Try.ntmps5
      go_wp2
      go_ret
      exact ⟨rfl, rfl⟩
  · have e : fitB len1 len2 = false := by simp [fitB]; omega
    rw [e]
    go_enter Try.func5, Try.ntmps5
    go_wp2
    go_ret
    exact ⟨rfl, rfl⟩
end Go.Proofs.Qxb6614709a
