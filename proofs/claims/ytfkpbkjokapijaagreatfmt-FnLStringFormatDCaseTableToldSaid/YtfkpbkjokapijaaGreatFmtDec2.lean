/- The slow road: shouldRoundUp and RoundedInteger only read. -/
import Derived.Test.YtfkpbkjokapijaaGreatFmtPQ0
import Derived.WalkSpells
import Derived.WalkLawsBesides
import Derived.Laws.BitsAllLaws
import Derived.Deep.QuietTactic
import Derived.Deep.LoopGhost
import Derived.BigQuiet
import Derived.Outline
/- The slow road's number: a block of 800 digits, and what each step makes of it. -/
namespace Go.Proofs.YtfkpbkjokapijaaGreatFmt.PQ
open Go.RowKit Go.Proofs.YtfkpbkjokapijaaGreatFmtW.PrintWords
set_option linter.unusedVariables false
set_option linter.unusedSimpArgs false

structure D where
  c : Nat → Int
  nd : Int
  dp : Int
  neg : Bool
  tr : Bool
/-- The digits as they lie. -/
def digsN (N : Nat) (c : Nat → Int) : List Value := (List.range N).map fun i => Value.int IntKind.u8 (c i)
theorem digsN_length (N : Nat) (c : Nat → Int) : (digsN N c).length = N := by rw [digsN, List.length_map, List.length_range]
theorem digsN_at (N : Nat) (c : Nat → Int) (j : Nat) (h : j < N) : (digsN N c)[j]? = some (.int .u8 (c j)) := by rw [digsN, List.getElem?_map, List.getElem?_range h]; rfl
theorem N8e : ∃ n : Nat, n = 800 := ⟨800, rfl⟩
/-- Eight hundred, as a number that nothing unfolds. -/
noncomputable def N8 : { n : Nat // n = 800 } := ⟨Classical.choose N8e, Classical.choose_spec N8e⟩
noncomputable def digs (c : Nat → Int) : List Value := digsN N8.val c
theorem digs_length (c : Nat → Int) : (digs c).length = 800 := (digsN_length _ c).trans N8.property
theorem digs_at (c : Nat → Int) (j : Nat) (h : j < 800) : (digs c)[j]? = some (.int .u8 (c j)) := digsN_at _ c j (N8.property.symm ▸ h)
def D.rest (x : D) : List Value := [Value.int IntKind.i64 x.nd, Value.int IntKind.i64 x.dp, Value.bool x.neg, Value.bool x.tr]
noncomputable def D.cells (x : D) : Array Value := (digs x.c ++ x.rest).toArray
structure IsDec (g : Nat) (x : D) (w : World) : Prop where
  blk : w.heap[g]? = some (.cells x.cells 124 (0, 0))
variable {g : Nat} {x : D} {w : World}
theorem IsDec.cell (h : IsDec g x w) (j : Nat) : w.cell? ⟨g, j, none⟩ = x.cells[j]? := by simp [World.cell?, h.blk]
theorem cells_d (x : D) (j : Nat) (h : j < 800) : x.cells[j]? = some (.int .u8 (x.c j)) := by
  simp only [D.cells, List.getElem?_toArray]
  rw [List.getElem?_append_left (by rw [digs_length]; exact h)]
  exact digs_at _ _ h
theorem cells_r (x : D) (j : Nat) : x.cells[800 + j]? = x.rest[j]? := by
  simp only [D.cells, List.getElem?_toArray]
  rw [List.getElem?_append_right (by rw [digs_length]; omega), digs_length, Nat.add_sub_cancel_left]
theorem IsDec.d (h : IsDec g x w) (j : Nat) (hj : j < 800) : w.cell? ⟨g, j, none⟩ = some (.int .u8 (x.c j)) := (h.cell j).trans (cells_d x j hj)
theorem IsDec.nd (h : IsDec g x w) : w.cell? ⟨g, 800, none⟩ = some (.int .i64 x.nd) := (h.cell 800).trans (cells_r x 0)
theorem IsDec.dp (h : IsDec g x w) : w.cell? ⟨g, 801, none⟩ = some (.int .i64 x.dp) := (h.cell 801).trans (cells_r x 1)
theorem IsDec.neg (h : IsDec g x w) : w.cell? ⟨g, 802, none⟩ = some (.bool x.neg) := (h.cell 802).trans (cells_r x 2)
theorem IsDec.tr (h : IsDec g x w) : w.cell? ⟨g, 803, none⟩ = some (.bool x.tr) := (h.cell 803).trans (cells_r x 3)
theorem IsDec.frozen (h : IsDec g x w) (j : Nat) : w.frozen? ⟨g, j, none⟩ = false := by simp [World.frozen?, h.blk]
/-- One digit set. -/
def upd (c : Nat → Int) (j : Nat) (v : Int) : Nat → Int := fun i => if i = j then v else c i
theorem IsDec.set (h : IsDec g x w) (j : Nat) (v : Value) (y : D) (hy : y.cells = x.cells.setIfInBounds j v) : IsDec g y (w.setCell ⟨g, j, none⟩ v) := by
  refine ⟨?_⟩
  rw [hy]
  simp only [World.setCell, Array.getElem?_modify, if_true, h.blk, Option.map_some, Option.isSome_none, Bool.false_eq_true, if_false]
theorem set_d (x : D) (j : Nat) (hj : j < 800) (v : Int) : D.cells { x with c := upd x.c j v } = x.cells.setIfInBounds j (.int .u8 v) := by
  have key : digs (upd x.c j v) = (digs x.c).set j (.int .u8 v) := ?_
  · simp only [D.cells, List.setIfInBounds_toArray]
    rw [List.set_append, if_pos (by rw [digs_length]; exact hj), key]
    rfl
  refine List.ext_getElem? fun i => ?_
  rw [List.getElem?_set]
  by_cases hi : i < 800
  · rw [digs_at _ _ hi, digs_length]
    by_cases e : j = i
    · subst e; simp [hj, upd]
    · rw [if_neg e, digs_at _ _ hi]; simp [upd, Ne.symm e]
  · rw [if_neg (by omega), List.getElem?_eq_none (by rw [digs_length]; omega), List.getElem?_eq_none (by rw [digs_length]; omega)]
theorem set_r (x : D) (j : Nat) (v : Value) : x.cells.setIfInBounds (800 + j) v = (digs x.c ++ x.rest.set j v).toArray := by
  simp only [D.cells, List.setIfInBounds_toArray]
  rw [List.set_append, if_neg (by rw [digs_length]; omega), digs_length, Nat.add_sub_cancel_left]
theorem IsDec.set_d (h : IsDec g x w) (j : Nat) (hj : j < 800) (v : Int) : IsDec g { x with c := upd x.c j v } (w.setCell ⟨g, j, none⟩ (.int .u8 v)) := h.set j _ _ (PQ.set_d x j hj v)
theorem IsDec.set_nd (h : IsDec g x w) (v : Int) : IsDec g { x with nd := v } (w.setCell ⟨g, 800, none⟩ (.int .i64 v)) := h.set 800 _ _ (set_r x 0 (.int .i64 v)).symm
theorem IsDec.set_dp (h : IsDec g x w) (v : Int) : IsDec g { x with dp := v } (w.setCell ⟨g, 801, none⟩ (.int .i64 v)) := h.set 801 _ _ (set_r x 1 (.int .i64 v)).symm
theorem IsDec.set_neg (h : IsDec g x w) (v : Bool) : IsDec g { x with neg := v } (w.setCell ⟨g, 802, none⟩ (.bool v)) := h.set 802 _ _ (set_r x 2 (.bool v)).symm
theorem IsDec.set_tr (h : IsDec g x w) (v : Bool) : IsDec g { x with tr := v } (w.setCell ⟨g, 803, none⟩ (.bool v)) := h.set 803 _ _ (set_r x 3 (.bool v)).symm
theorem IsDec.drewN (h : IsDec g x w) (n : Nat) : IsDec g x (w.drewN n) := ⟨h.blk⟩

/-- No other block has moved. -/
structure OnlyAt (g : Nat) (w w' : World) : Prop where
  os : w'.os = w.os
  tape : w'.tape = w.tape
  output : w'.output = w.output
  size : w'.heap.size = w.heap.size
  block : ∀ k, k ≠ g → w'.heap[k]? = w.heap[k]?
theorem OnlyAt.refl (g : Nat) (w : World) : OnlyAt g w w := ⟨rfl, rfl, rfl, rfl, fun _ _ => rfl⟩
theorem OnlyAt.trans {w w1 w2 : World} (h : OnlyAt g w w1) (k : OnlyAt g w1 w2) : OnlyAt g w w2 :=
  ⟨k.os.trans h.os, k.tape.trans h.tape, k.output.trans h.output, k.size.trans h.size, fun i hi => (k.block i hi).trans (h.block i hi)⟩
theorem OnlyAt.drewN {w w1 : World} (h : OnlyAt g w w1) (n : Nat) : OnlyAt g w (w1.drewN n) := ⟨h.os, h.tape, h.output, h.size, h.block⟩
theorem OnlyAt.set {w w1 : World} (h : OnlyAt g w w1) (j : Nat) (v : Value) : OnlyAt g w (w1.setCell ⟨g, j, none⟩ v) :=
  ⟨h.os, h.tape, h.output, (World.size_setCell ..).trans h.size, fun k hk => (Below.heap_setCell w1 ⟨g, j, none⟩ v k hk).trans (h.block k hk)⟩
theorem OnlyAt.below {w0 w w1 : World} {B : Nat} (h : OnlyAt g w w1) (k : Below B w0 w) (hg : B ≤ g) : Below B w0 w1 :=
  ⟨h.os.trans k.os, h.tape.trans k.tape, h.output.trans k.output, h.size ▸ k.size, fun i hi => (h.block i (by omega)).trans (k.block i hi)⟩
theorem OnlyAt.cell {w w1 : World} (h : OnlyAt g w w1) {a : Addr} {v : Value} (ha : a.block ≠ g) (hc : w.cell? a = some v) : w1.cell? a = some v := by
  simp only [World.cell?, h.block _ ha]; exact hc

/-- trim's last digit. -/
def trimN (c : Nat → Int) : Nat → Nat
  | 0 => 0
  | n + 1 => if c n = 48 then trimN c n else n + 1

set_option maxHeartbeats 2000000 in
set_option maxRecDepth 100000 in
theorem trim_any (g : Nat) (x : D) (n : Nat) (hn : x.nd = n) (h8 : n ≤ 800) (w : World) (h : IsDec g x w) :
    Calls Tryz.prog 104 #[.pointer (some ⟨g, 0, none⟩)] w fun en w' => en = .returned (.tuple #[]) ∧
      IsDec g { x with nd := trimN x.c n, dp := if trimN x.c n = 0 then 0 else x.dp } w' ∧ OnlyAt g w w' := by
  obtain ⟨c, nd, dp, neg, tr⟩ := x
  simp only at hn
  subst hn
  obtain ⟨Y, hY⟩ : ∃ Y : D, (⟨c, trimN c n, if trimN c n = 0 then 0 else dp, neg, tr⟩ : D) = Y := ⟨_, rfl⟩
  show Calls Tryz.prog 104 _ w fun en w' => en = .returned (.tuple #[]) ∧ IsDec g (⟨c, trimN c n, if trimN c n = 0 then 0 else dp, neg, tr⟩ : D) w' ∧ OnlyAt g w w'
  rw [hY]
  replace hY := Aside0.mk hY
  go_enter Tryz.func104, Tryz.ntmps104
  go_wp2
  go_loopg [] n (fun k wr => Aside0 (trimN c k = trimN c n) ∧ k ≤ 800 ∧ IsDec g ⟨c, k, dp, neg, tr⟩ wr ∧ OnlyAt g w wr)
  case atStart => exact ⟨⟨rfl⟩, h8, h, OnlyAt.refl _ _⟩
  case round =>
    obtain ⟨he, hk, hd, ho⟩ := hrel
    have c0 := hd.nd
    have fz := hd.frozen 800
    have fz1 := hd.frozen 801
    have c2 := hd.dp
    simp only at c0 c2
    rcases gk with _ | m
    · simp only [Int.natCast_zero] at c0
      go_wp2
      go_quiet (fail)
      go_wp2
      go_end0
      have e1 : trimN c n = 0 := he.out.symm
      have := hY.out
      rw [e1, if_pos rfl] at this
      rw [← this]
      exact ⟨rfl, (hd.drewN nq).set_dp 0, (ho.drewN nq).set _ _⟩
    · have c1 := hd.d m (by omega)
      by_cases hm : c m = 48
      · simp only [hm] at c1
        replace hm := Aside0.mk hm
        go_wp2
        go_quiet (fail)
        go_wp2
        go_roundg m
        case measure => omega
        case rel =>
          refine ⟨⟨?_⟩, by omega, (hd.drewN nq).set_nd m, (ho.drewN nq).set _ _⟩
          rw [← he.out]
          show _ = if c m = 48 then _ else _
          rw [if_pos hm.out]
      · simp only at c1
        have hb : (c m == 48) = false := beq_eq_false_iff_ne.mpr hm
        replace hm := Aside0.mk hm
        go_wp2
        go_quiet (fail)
        go_wp2
        go_end0
        have e1 : trimN c n = m + 1 := by
          rw [← he.out]
          show (if c m = 48 then _ else _) = _
          rw [if_neg hm.out]
        have := hY.out
        rw [e1, if_neg (by omega)] at this
        rw [← this]
        exact ⟨rfl, hd.drewN nq, ho.drewN nq⟩
end Go.Proofs.YtfkpbkjokapijaaGreatFmt.PQ
namespace Go.Proofs.YtfkpbkjokapijaaGreatFmt.PQ
open Go.RowKit Go.Proofs.YtfkpbkjokapijaaGreatFmtW.PrintWords
set_option linter.unusedVariables false
set_option linter.unusedSimpArgs false

/-- The digits stand, and they are digits. -/
structure D.Ok (x : D) : Prop where
  n0 : 0 ≤ x.nd
  n8 : x.nd ≤ 800
  dig : ∀ j : Nat, (j : Int) < x.nd → 48 ≤ x.c j ∧ x.c j ≤ 57

set_option maxHeartbeats 2000000 in
set_option maxRecDepth 100000 in
theorem roundUp_any (x : D) (hx : x.Ok) (n : Int) (hn : -2000000 ≤ n) (hn2 : n ≤ 2000000) : ∃ b : Bool, ∀ (g : Nat) (w : World), IsDec g x w →
    Calls Tryz.prog 99 #[.pointer (some ⟨g, 0, none⟩), .int .i64 n] w fun en w' => en = .returned (.bool b) ∧ ∃ m, w' = w.drewN m := by
  have h0 := hx.n0
  have h8 := hx.n8
  by_cases c0 : n < 0
  · refine ⟨false, fun g w hd => ?_⟩
    go_enter Tryz.func99, Tryz.ntmps99
    go_wp2
    go_ret
    exact ⟨rfl, 0, rfl⟩
  by_cases c1 : x.nd ≤ n
  · refine ⟨false, fun g w hd => ?_⟩
    have e0 := hd.nd
    go_enter Tryz.func99, Tryz.ntmps99
    go_wp2
    go_ret
    exact ⟨rfl, 0, rfl⟩
  obtain ⟨j, rfl⟩ : ∃ j : Nat, n = (j : Int) := ⟨n.toNat, by omega⟩
  have hj : j < 800 := by omega
  by_cases c2 : x.c j = 53
  · by_cases c3 : (j : Int) + 1 = x.nd
    · have c3' : ((j : Int) + 1 == x.nd) = true := beq_iff_eq.mpr c3
      replace c3 := Aside0.mk c3
      cases ht : x.tr
      · by_cases cz : 0 < (j : Int)
        · obtain ⟨i, hi⟩ : ∃ i : Nat, (j : Int) - 1 = (i : Int) := ⟨j - 1, by omega⟩
          obtain ⟨p0, p1⟩ := hx.dig i (by omega)
          refine ⟨((x.c i - 48) % 2 != 0), fun g w hd => ?_⟩
          have e0 := hd.nd
          have e1 := hd.d j hj
          have e2 := hd.tr
          have e3 := hd.d i (by omega)
          rw [c2] at e1
          rw [ht] at e2
          clear hd
          go_enter Tryz.func99, Tryz.ntmps99
          go_wp2
          go_ret
          exact ⟨rfl, 0, rfl⟩
        · refine ⟨false, fun g w hd => ?_⟩
          have e0 := hd.nd
          have e1 := hd.d j hj
          have e2 := hd.tr
          rw [c2] at e1
          rw [ht] at e2
          clear hd
          go_enter Tryz.func99, Tryz.ntmps99
          go_wp2
          go_ret
          exact ⟨rfl, 0, rfl⟩
      · refine ⟨true, fun g w hd => ?_⟩
        have e0 := hd.nd
        have e1 := hd.d j hj
        have e2 := hd.tr
        rw [c2] at e1
        rw [ht] at e2
        go_enter Tryz.func99, Tryz.ntmps99
        go_wp2
        go_ret
        exact ⟨rfl, 0, rfl⟩
    · have c3' : ((j : Int) + 1 == x.nd) = false := beq_eq_false_iff_ne.mpr c3
      refine ⟨true, fun g w hd => ?_⟩
      have e0 := hd.nd
      have e1 := hd.d j hj
      rw [c2] at e1
      replace c3 := Aside0.mk c3
      go_enter Tryz.func99, Tryz.ntmps99
      go_wp2
      go_ret
      exact ⟨rfl, 0, rfl⟩
  · have c2' : (x.c j == 53) = false := beq_eq_false_iff_ne.mpr c2
    replace c2 := Aside0.mk c2
    refine ⟨decide (53 ≤ x.c j), fun g w hd => ?_⟩
    · have e0 := hd.nd
      have e1 := hd.d j hj
      clear hd
      go_enter Tryz.func99, Tryz.ntmps99
      go_wp2
      go_ret
      exact ⟨rfl, 0, rfl⟩

/-- The whole part's digits read. -/
def riN (c : Nat → Int) : Nat → Int
  | 0 => 0
  | i + 1 => IntKind.u64.wrap (IntKind.u64.wrap (riN c i * 10) + (c i - 48))
def rtN (n : Int) : Nat → Int
  | 0 => n
  | i + 1 => IntKind.u64.wrap (rtN n i * 10)

set_option maxHeartbeats 2000000 in
set_option maxRecDepth 100000 in
theorem roundedInteger_any (x : D) (hx : x.Ok) (hd0 : -1000000 ≤ x.dp) (hd1 : x.dp ≤ 1000000) : ∃ r : Int, ∀ (g : Nat) (w : World), IsDec g x w →
    Calls Tryz.prog 88 #[.pointer (some ⟨g, 0, none⟩)] w fun en w' => en = .returned (.int .u64 r) ∧ ∃ m, w' = w.drewN m := by
  have h0 := hx.n0
  have h8 := hx.n8
  by_cases cb : 20 < x.dp
  · refine ⟨18446744073709551615, fun g w hd => ?_⟩
    have e0 := hd.dp
    go_enter Tryz.func88, Tryz.ntmps88
    go_wp2
    go_ret
    exact ⟨rfl, 0, rfl⟩
  obtain ⟨b, hb⟩ := roundUp_any x hx x.dp (by omega) (by omega)
  obtain ⟨M, hM⟩ : ∃ M : Nat, (min x.dp x.nd).toNat = M := ⟨_, rfl⟩
  obtain ⟨N, hN⟩ : ∃ N : Nat, x.dp.toNat = N := ⟨_, rfl⟩
  have hMN : M ≤ N := by omega
  obtain ⟨q, hq⟩ : ∃ q : Int, rtN (riN x.c M) (N - M) = q := ⟨_, rfl⟩
  replace hq := Aside0.mk hq
  refine ⟨if b then IntKind.u64.wrap (q + 1) else q, fun g w hd => ?_⟩
  have e0 := hd.dp
  have e1 := hd.nd
  go_enter Tryz.func88, Tryz.ntmps88
  go_wp2
  go_loopg [3, 4] M (fun k v3 v4 wr => ∃ i : Nat, v3 = .int .i64 i ∧ v4 = .int .u64 (riN x.c i) ∧ Aside0 (k + i = M) ∧ Aside0 (w = wr))
  case atStart => exact ⟨0, rfl, rfl, ⟨by omega⟩, ⟨rfl⟩⟩
  case round =>
    obtain ⟨i, rfl, rfl, hki, hw⟩ := hrel
    obtain rfl := hw.out
    clear hw
    by_cases cm : i < M
    · have ca : (i : Int) < x.dp := by omega
      have cb : (i : Int) < x.nd := by omega
      have cd := hd.d i (by omega)
      obtain ⟨p0, p1⟩ := hx.dig i cb
      rcases gk with _ | m
      · exact absurd hki.out (by omega)
      replace cm := Aside0.mk cm
      go_wp2
      go_roundg m
      case measure => omega
      case rel => exact ⟨i + 1, by simp, rfl, ⟨by have := hki.out; omega⟩, ⟨rfl⟩⟩
    · have ci : M = i := by have := hki.out; omega
      subst ci
      replace cm := Aside0.mk cm
      by_cases ca : (M : Int) < x.dp
      · have cb : ¬ (M : Int) < x.nd := by omega
        replace hM := Aside0.mk hM
        replace hN := Aside0.mk hN
        replace hMN := Aside0.mk hMN
        go_wp2
        go_loopg [3, 4] (N - M) (fun k v3 v4 wr => ∃ (j i : Nat), v3 = .int .i64 j ∧ v4 = .int .u64 (rtN (riN x.c M) i) ∧ Aside0 (j = M + i) ∧ Aside0 (k + i = N - M) ∧ Aside0 (w = wr))
        case atStart => exact ⟨M, 0, rfl, rfl, ⟨rfl⟩, ⟨by omega⟩, ⟨rfl⟩⟩
        case round =>
          obtain ⟨j, i, rfl, rfl, hj, hki, hw⟩ := hrel
          obtain rfl := hw.out
          clear hw
          rcases gk with _ | m
          · have ca : ¬ (j : Int) < x.dp := by have := hj.out; have := hki.out; have := hN.out; omega
            have ci : i = N - M := by have := hki.out; omega
            rw [ci]
            rw [hq.out]
            cases b
            · go_wp2_with (first | (go_at_call 99; ((with_reducible refine (hb g _ hd).mono ?_); rintro e w' ⟨rfl, m, rfl⟩)))
              go_ret
              exact ⟨rfl, m, rfl⟩
            · go_wp2_with (first | (go_at_call 99; ((with_reducible refine (hb g _ hd).mono ?_); rintro e w' ⟨rfl, m, rfl⟩)))
              go_ret
              exact ⟨rfl, m, rfl⟩
          · have ca : (j : Int) < x.dp := by have := hj.out; have := hki.out; have := hN.out; omega
            go_wp2
            go_roundg m
            case measure => omega
            case rel => exact ⟨j + 1, i + 1, by simp, rfl, ⟨by have := hj.out; omega⟩, ⟨by have := hki.out; omega⟩, ⟨rfl⟩⟩
      · replace hM := Aside0.mk hM
        replace hN := Aside0.mk hN
        have hNM : N - M = 0 := by have := hN.out; omega
        go_wp2
        go_loopg [3, 4] (N - M) (fun k v3 v4 wr => ∃ (j i : Nat), v3 = .int .i64 j ∧ v4 = .int .u64 (rtN (riN x.c M) i) ∧ Aside0 (j = M + i) ∧ Aside0 (k + i = N - M) ∧ Aside0 (w = wr))
        case atStart => exact ⟨M, 0, rfl, rfl, ⟨rfl⟩, ⟨by omega⟩, ⟨rfl⟩⟩
        case round =>
          obtain ⟨j, i, rfl, rfl, hj, hki, hw⟩ := hrel
          obtain rfl := hw.out
          clear hw
          rcases gk with _ | m
          · have ca : ¬ (j : Int) < x.dp := by have := hj.out; have := hki.out; have := hN.out; omega
            have ci : i = N - M := by have := hki.out; omega
            rw [ci]
            rw [hq.out]
            cases b
            · go_wp2_with (first | (go_at_call 99; ((with_reducible refine (hb g _ hd).mono ?_); rintro e w' ⟨rfl, m, rfl⟩)))
              go_ret
              exact ⟨rfl, m, rfl⟩
            · go_wp2_with (first | (go_at_call 99; ((with_reducible refine (hb g _ hd).mono ?_); rintro e w' ⟨rfl, m, rfl⟩)))
              go_ret
              exact ⟨rfl, m, rfl⟩
          · have ca : (j : Int) < x.dp := by have := hj.out; have := hki.out; have := hN.out; omega
            go_wp2
            go_roundg m
            case measure => omega
            case rel => exact ⟨j + 1, i + 1, by simp, rfl, ⟨by have := hj.out; omega⟩, ⟨by have := hki.out; omega⟩, ⟨rfl⟩⟩
end Go.Proofs.YtfkpbkjokapijaaGreatFmt.PQ
