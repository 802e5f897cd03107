/- floatBits ends: the road through both loops. -/
import Derived.Test.YtfkpbkjokapijaaGreatFmtDecLS
import Derived.WalkMore
import Derived.ScopeJumps
/- floatBits ends, and what it answers is the same in every memory. -/
namespace Go
/-- A scope out of which the run jumps once at most, to one of two labels. -/
theorem ytf_scope_two {P : Program} {a : Act} {w : World} {Q : Exit → Act → World → Prop} {c r0 r1 : Code} (hf0 : findLabel c 0 = some r0) (hf1 : findLabel c 1 = some r1)
    (h : ∀ L : Exit → Act → World → Prop, (∀ a w, r0.wp P (Exit.noGoto Q) a w → L (.goto 0) a w) → (∀ a w, r1.wp P (Exit.noGoto Q) a w → L (.goto 1) a w) → (∀ a w, Q .ret a w → L .ret a w) → c.wp P L a w) : (Code.scope c).wp P Q a w := by
  intro b k cs
  have hg0 : gotoIn 0 (.inScope c :: k) = some (.code r0 :: .inScope c :: k) := by simp [gotoIn, hf0]
  have hg1 : gotoIn 1 (.inScope c :: k) = some (.code r1 :: .inScope c :: k) := by simp [gotoIn, hf1]
  have land : ∀ (r : Code) a w, r.wp P (Exit.noGoto Q) a w → ∃ e a' w', Q e a' w' ∧ Arrives P (lone (b.at a (.code r :: .inScope c :: k)) cs w) b k cs e a' w' := by
    intro r a w hr
    obtain ⟨e, a₁, w₁, hq, harr⟩ := hr b (.inScope c :: k) cs
    cases e with
    | normal => exact ⟨.normal, a₁, w₁, hq, Steps.trans harr (.one step_inScope)⟩
    | exit id => exact ⟨.exit id, a₁, w₁, hq, fun k' hk => harr k' (by simp [exitTo, hk])⟩
    | goto l => exact hq.elim
    | ret => exact ⟨_, a₁, w₁, hq, harr⟩
    | panic ch => exact ⟨_, a₁, w₁, hq, harr⟩
    | outgrown => exact ⟨_, a₁, w₁, hq, harr⟩
  obtain ⟨e, a₁, w₁, hq, harr⟩ := h (fun e a w => match e with
    | .goto l => (l = 0 ∧ r0.wp P (Exit.noGoto Q) a w) ∨ (l = 1 ∧ r1.wp P (Exit.noGoto Q) a w)
    | e => Q e a w) (fun a w h => .inl ⟨rfl, h⟩) (fun a w h => .inr ⟨rfl, h⟩) (fun a w h => h) b (.inScope c :: k) cs
  cases e with
  | normal => exact ⟨.normal, a₁, w₁, hq, .head step_scope (Steps.trans harr (.one step_inScope))⟩
  | exit id => exact ⟨.exit id, a₁, w₁, hq, fun k' hk => .head step_scope (harr k' (by simp [exitTo, hk]))⟩
  | goto l =>
    rcases hq with ⟨rfl, hw⟩ | ⟨rfl, hw⟩
    · obtain ⟨e₂, a₂, w₂, hq₂, harr₂⟩ := land _ _ _ hw
      exact ⟨e₂, a₂, w₂, hq₂, .of_steps (.head step_scope (harr _ hg0)) harr₂⟩
    · obtain ⟨e₂, a₂, w₂, hq₂, harr₂⟩ := land _ _ _ hw
      exact ⟨e₂, a₂, w₂, hq₂, .of_steps (.head step_scope (harr _ hg1)) harr₂⟩
  | ret => exact ⟨_, a₁, w₁, hq, .of_steps (.one step_scope) harr⟩
  | panic ch => exact ⟨_, a₁, w₁, hq, .of_steps (.one step_scope) harr⟩
  | outgrown => exact ⟨_, a₁, w₁, hq, .of_steps (.one step_scope) harr⟩
end Go
namespace Go.Proofs.YtfkpbkjokapijaaGreatFmt.PQ
open Go.RowKit Go.Proofs.YtfkpbkjokapijaaGreatFmtW.PrintWords
set_option linter.unusedVariables false
set_option linter.unusedSimpArgs false

theorem run_seq {α : Type} (P stop : α → Prop) (R : α → α → Prop) (μ : α → Nat) (hs : ∀ a, P a → ¬ stop a → ∃ b, R a b ∧ P b ∧ μ b < μ a) :
    ∀ (n : Nat) (a0 : α), μ a0 ≤ n → P a0 → ∃ (J : Nat) (X : Nat → α), X 0 = a0 ∧ (∀ j, j ≤ J → P (X j)) ∧ (∀ j, j < J → ¬ stop (X j) ∧ R (X j) (X (j + 1))) ∧ stop (X J) := by
  intro n
  induction n with
  | zero =>
    intro a0 hm hP
    by_cases hst : stop a0
    · exact ⟨0, fun _ => a0, rfl, fun _ _ => hP, fun j hj => absurd hj (by omega), hst⟩
    · obtain ⟨b, _, _, h⟩ := hs a0 hP hst
      omega
  | succ n ih =>
    intro a0 hm hP
    by_cases hst : stop a0
    · exact ⟨0, fun _ => a0, rfl, fun _ _ => hP, fun j hj => absurd hj (by omega), hst⟩
    · obtain ⟨b, hR, hPb, h⟩ := hs a0 hP hst
      obtain ⟨J, X, x0, x1, x2, x3⟩ := ih b (by omega) hPb
      refine ⟨J + 1, fun j => match j with | 0 => a0 | j + 1 => X j, rfl, ?_, ?_, x3⟩
      · intro j hj
        rcases j with _ | j
        · exact hP
        · exact x1 j (by omega)
      · intro j hj
        rcases j with _ | j
        · refine ⟨hst, ?_⟩
          show R a0 (X 0)
          rw [x0]; exact hR
        · exact x2 j (by omega)

/-- The steps of the slow road. -/
def ptN (j : Nat) : Int := #[1, 3, 6, 9, 13, 16, 19, 23, 26].getD j 0
structure FB (g : Nat) (w : World) : Prop where
  g6 : 6 ≠ g
  g8 : 8 ≠ g
  i0 : w.cell? ⟨6, 0, none⟩ = some (.int .u64 52)
  i1 : w.cell? ⟨6, 0 + 1, none⟩ = some (.int .u64 11)
  i2 : w.cell? ⟨6, 0 + 2, none⟩ = some (.int .i64 (-1023))
  pt : ∃ b bo, b ≠ g ∧ w.cell? ⟨8, 0, none⟩ = some (.slice (some ⟨b, bo, none⟩) 9 9) ∧ ∀ j, j < 9 → w.cell? ⟨b, bo + j, none⟩ = some (.int .i64 (ptN j))
  lc : LCT g w
theorem FB.only {g : Nat} {w w1 : World} (h : FB g w) (o : OnlyAt g w w1) : FB g w1 := by
  obtain ⟨b, bo, hb, h1, h2⟩ := h.pt
  exact ⟨h.g6, h.g8, o.cell h.g6 h.i0, o.cell h.g6 h.i1, o.cell h.g6 h.i2, ⟨b, bo, hb, o.cell h.g8 h1, fun j hj => o.cell hb (h2 j hj)⟩, h.lc.only o⟩

set_option maxHeartbeats 4000000 in
set_option maxRecDepth 100000 in
theorem fb_zero (x : D) (h0 : x.nd = 0) : ∃ o : Bool, ∀ (g : Nat) (w : World), FB g w → IsDec g x w →
    Calls Tryz.prog 68 #[.pointer (some ⟨g, 0, none⟩), .pointer (some ⟨6, 0, none⟩)] w fun en w' => (∃ b : Int, en = .returned (.tuple #[.int .u64 b, .bool o])) ∧ OnlyAt g w w' := by
  refine ⟨false, fun g w hF hd => ?_⟩
  have e0 := hd.nd
  rw [h0] at e0
  have en := hd.neg
  have i0 := hF.i0
  have i1 := hF.i1
  have i2 := hF.i2
  cases hneg : x.neg
  · rw [hneg] at en
    go_enter Tryz.func68, Tryz.ntmps68
    go_wp2
    refine ytf_scope_two rfl rfl ?_
    intro L hL0 hL1 hLr
    go_wp2
    refine wp_goto ?_
    refine hL0 _ _ ?_
    go_wp2
    go_quiet (fail)
    go_wp2
    rw [Exit.noGoto_ret]
    go_ret2
    exact ⟨⟨_, rfl⟩, by repeat (first | exact OnlyAt.refl _ _ | apply OnlyAt.drewN)⟩
  · rw [hneg] at en
    go_enter Tryz.func68, Tryz.ntmps68
    go_wp2
    refine ytf_scope_two rfl rfl ?_
    intro L hL0 hL1 hLr
    go_wp2
    refine wp_goto ?_
    refine hL0 _ _ ?_
    go_wp2
    go_quiet (fail)
    go_wp2
    go_quiet (fail)
    go_wp2
    rw [Exit.noGoto_ret]
    go_ret2
    exact ⟨⟨_, rfl⟩, by repeat (first | exact OnlyAt.refl _ _ | apply OnlyAt.drewN)⟩
set_option maxHeartbeats 4000000 in
set_option maxRecDepth 100000 in
theorem fb_big (x : D) (hn : 0 < x.nd) (h0 : 310 < x.dp) : ∃ o : Bool, ∀ (g : Nat) (w : World), FB g w → IsDec g x w →
    Calls Tryz.prog 68 #[.pointer (some ⟨g, 0, none⟩), .pointer (some ⟨6, 0, none⟩)] w fun en w' => (∃ b : Int, en = .returned (.tuple #[.int .u64 b, .bool o])) ∧ OnlyAt g w w' := by
  refine ⟨true, fun g w hF hd => ?_⟩
  have e0 := hd.nd
  have e1 := hd.dp
  have b0 : (x.nd == 0) = false := by simp only [beq_eq_false_iff_ne]; omega
  have en := hd.neg
  have i0 := hF.i0
  have i1 := hF.i1
  have i2 := hF.i2
  cases hneg : x.neg
  · rw [hneg] at en
    go_enter Tryz.func68, Tryz.ntmps68
    go_wp2
    refine ytf_scope_two rfl rfl ?_
    intro L hL0 hL1 hLr
    go_wp2
    refine wp_goto ?_
    refine hL1 _ _ ?_
    go_wp2
    go_quiet (fail)
    go_wp2
    go_step3
    go_wp2
    go_quiet (fail)
    go_wp2
    rw [Exit.noGoto_ret]
    go_ret2
    exact ⟨⟨_, rfl⟩, by repeat (first | exact OnlyAt.refl _ _ | apply OnlyAt.drewN)⟩
  · rw [hneg] at en
    go_enter Tryz.func68, Tryz.ntmps68
    go_wp2
    refine ytf_scope_two rfl rfl ?_
    intro L hL0 hL1 hLr
    go_wp2
    refine wp_goto ?_
    refine hL1 _ _ ?_
    go_wp2
    go_quiet (fail)
    go_wp2
    go_step3
    go_wp2
    go_quiet (fail)
    go_wp2
    go_quiet (fail)
    go_wp2
    rw [Exit.noGoto_ret]
    go_ret2
    exact ⟨⟨_, rfl⟩, by repeat (first | exact OnlyAt.refl _ _ | apply OnlyAt.drewN)⟩
set_option maxHeartbeats 4000000 in
set_option maxRecDepth 100000 in
theorem fb_small (x : D) (hn : 0 < x.nd) (h0 : x.dp < -330) : ∃ o : Bool, ∀ (g : Nat) (w : World), FB g w → IsDec g x w →
    Calls Tryz.prog 68 #[.pointer (some ⟨g, 0, none⟩), .pointer (some ⟨6, 0, none⟩)] w fun en w' => (∃ b : Int, en = .returned (.tuple #[.int .u64 b, .bool o])) ∧ OnlyAt g w w' := by
  refine ⟨false, fun g w hF hd => ?_⟩
  have e0 := hd.nd
  have e1 := hd.dp
  have b0 : (x.nd == 0) = false := by simp only [beq_eq_false_iff_ne]; omega
  have b1 : x.dp ≤ 310 := by omega
  have en := hd.neg
  have i0 := hF.i0
  have i1 := hF.i1
  have i2 := hF.i2
  cases hneg : x.neg
  · rw [hneg] at en
    go_enter Tryz.func68, Tryz.ntmps68
    go_wp2
    refine ytf_scope_two rfl rfl ?_
    intro L hL0 hL1 hLr
    go_wp2
    refine wp_goto ?_
    refine hL0 _ _ ?_
    go_wp2
    go_quiet (fail)
    go_wp2
    rw [Exit.noGoto_ret]
    go_ret2
    exact ⟨⟨_, rfl⟩, by repeat (first | exact OnlyAt.refl _ _ | apply OnlyAt.drewN)⟩
  · rw [hneg] at en
    go_enter Tryz.func68, Tryz.ntmps68
    go_wp2
    refine ytf_scope_two rfl rfl ?_
    intro L hL0 hL1 hLr
    go_wp2
    refine wp_goto ?_
    refine hL0 _ _ ?_
    go_wp2
    go_quiet (fail)
    go_wp2
    go_quiet (fail)
    go_wp2
    rw [Exit.noGoto_ret]
    go_ret2
    exact ⟨⟨_, rfl⟩, by repeat (first | exact OnlyAt.refl _ _ | apply OnlyAt.drewN)⟩
end Go.Proofs.YtfkpbkjokapijaaGreatFmt.PQ
namespace Go.Proofs.YtfkpbkjokapijaaGreatFmt.PQ
open Go.RowKit Go.Proofs.YtfkpbkjokapijaaGreatFmtW.PrintWords
set_option linter.unusedVariables false
set_option linter.unusedSimpArgs false

theorem ptN_bd (j : Nat) (h : j < 9) : 1 ≤ ptN j ∧ ptN j ≤ 27 := by
  have : ∀ j : Fin 9, 1 ≤ ptN j.val ∧ ptN j.val ≤ 27 := by decide
  exact this ⟨j, h⟩
def stepN (d : Int) : Int := if 9 ≤ d then 27 else ptN d.toNat
theorem stepN_bd (d : Int) : 1 ≤ stepN d ∧ stepN d ≤ 27 := by
  unfold stepN
  split
  · omega
  · exact ptN_bd _ (by omega)
abbrev Shifts (x y : D) (n : Int) : Prop := ∀ (g : Nat) (w : World), LCT g w → IsDec g x w →
  Calls Tryz.prog 87 #[.pointer (some ⟨g, 0, none⟩), .int .i64 n] w fun en w' => en = .returned (.tuple #[]) ∧ IsDec g y w' ∧ OnlyAt g w w'
theorem loop1_any (x : D) (hx : x.Good) (d0 : -330 ≤ x.dp) (d1 : x.dp ≤ 310) : ∃ (J : Nat) (X : Nat → D × Int), X 0 = (x, 0) ∧ (∀ j, j ≤ J → (X j).1.Good ∧ -400 ≤ (X j).1.dp ∧ (X j).1.dp ≤ 310 ∧ 0 ≤ (X j).2 ∧ (X j).2 ≤ 300000) ∧
    (∀ j, j < J → 0 < (X j).1.dp ∧ (X (j + 1)).2 = (X j).2 + stepN (X j).1.dp ∧ Shifts (X j).1 (X (j + 1)).1 (-(stepN (X j).1.dp))) ∧ (X J).1.dp ≤ 0 := by
  have c57 : ∀ a : D, a.Good → a.c 0 ≤ 57 ∧ 49 ≤ a.c 0 := fun a ha => ⟨(ha.ok.dig 0 (by have := ha.pos; omega)).2, ha.first⟩
  obtain ⟨J, X, a, b, c, d⟩ := run_seq (α := D × Int) (fun a => a.1.Good ∧ -400 ≤ a.1.dp ∧ a.1.dp ≤ 310 ∧ 0 ≤ a.2 ∧ a.2 + 27 * (10 * a.1.dp + a.1.c 0 + 5000) ≤ 300000) (fun a => a.1.dp ≤ 0)
    (fun a b => b.2 = a.2 + stepN a.1.dp ∧ Shifts a.1 b.1 (-(stepN a.1.dp))) (fun a => (10 * a.1.dp + a.1.c 0 + 5000).toNat) (by
      rintro ⟨a, e⟩ ⟨h1, h2, h3, h4, h5⟩ hs
      simp only at h1 h2 h3 h4 h5 hs
      obtain ⟨n0, n1⟩ := stepN_bd a.dp
      obtain ⟨y, hy, y1, y2, y3, H⟩ := shiftR_any a h1 (stepN a.dp).toNat (by omega) (by omega) (by omega) (by omega)
      rw [Int.toNat_of_nonneg (by omega)] at H
      have := c57 y hy
      have := c57 a h1
      refine ⟨(y, e + stepN a.dp), ⟨rfl, fun g w _ hd => H g w hd⟩, ⟨hy, ?_, ?_, ?_, ?_⟩, ?_⟩ <;> simp only <;> omega) _ (x, 0) (Nat.le_refl _) (by
      have := c57 x hx
      refine ⟨hx, ?_, ?_, ?_, ?_⟩ <;> simp only <;> omega)
  refine ⟨J, X, a, fun j hj => ?_, fun j hj => ?_, d⟩
  · obtain ⟨h1, h2, h3, h4, h5⟩ := b j hj
    have := c57 _ h1
    exact ⟨h1, h2, h3, h4, by omega⟩
  · obtain ⟨h1, h2, h3⟩ := c j hj
    exact ⟨by omega, h2, h3⟩
theorem loop2_any (x : D) (e : Int) (hx : x.Good) (d0 : -400 ≤ x.dp) (d1 : x.dp ≤ 0) (e0 : 0 ≤ e) (e1 : e ≤ 300000) : ∃ (J : Nat) (X : Nat → D × Int), X 0 = (x, e) ∧ (∀ j, j ≤ J → (X j).1.Good ∧ -400 ≤ (X j).1.dp ∧ (X j).1.dp ≤ 400 ∧ -290000 ≤ (X j).2 ∧ (X j).2 ≤ 300000) ∧
    (∀ j, j < J → ((X j).1.dp < 0 ∨ (X j).1.dp = 0 ∧ (X j).1.c 0 < 53) ∧ (X (j + 1)).2 = (X j).2 - stepN (-(X j).1.dp) ∧ Shifts (X j).1 (X (j + 1)).1 (stepN (-(X j).1.dp))) ∧ ¬ ((X J).1.dp < 0 ∨ (X J).1.dp = 0 ∧ (X J).1.c 0 < 53) := by
  have c57 : ∀ a : D, a.Good → a.c 0 ≤ 57 ∧ 49 ≤ a.c 0 := fun a ha => ⟨(ha.ok.dig 0 (by have := ha.pos; omega)).2, ha.first⟩
  obtain ⟨J, X, a, b, c, d⟩ := run_seq (α := D × Int) (fun a => a.1.Good ∧ -400 ≤ a.1.dp ∧ a.1.dp ≤ 400 ∧ a.2 ≤ 300000 ∧ 0 ≤ a.2 + 27 * (3951 + 10 * a.1.dp + a.1.c 0)) (fun a => ¬ (a.1.dp < 0 ∨ a.1.dp = 0 ∧ a.1.c 0 < 53))
    (fun a b => b.2 = a.2 - stepN (-a.1.dp) ∧ Shifts a.1 b.1 (stepN (-a.1.dp))) (fun a => (5000 - 10 * a.1.dp - a.1.c 0).toNat) (by
      rintro ⟨a, e⟩ ⟨h1, h2, h3, h4, h5⟩ hs
      simp only at h1 h2 h3 h4 h5 hs
      obtain ⟨n0, n1⟩ := stepN_bd (-a.dp)
      obtain ⟨y, hy, y1, y2, y3, H⟩ := shiftL_any a h1 (stepN (-a.dp)).toNat (by omega) (by omega) (by omega) (by omega)
      rw [Int.toNat_of_nonneg (by omega)] at H
      have := c57 y hy
      have := c57 a h1
      refine ⟨(y, e - stepN (-a.dp)), ⟨rfl, H⟩, ⟨hy, ?_, ?_, ?_, ?_⟩, ?_⟩ <;> simp only <;> omega) _ (x, e) (Nat.le_refl _) (by
      have := c57 x hx
      refine ⟨hx, ?_, ?_, ?_, ?_⟩ <;> simp only <;> omega)
  refine ⟨J, X, a, fun j hj => ?_, fun j hj => ?_, d⟩
  · obtain ⟨h1, h2, h3, h4, h5⟩ := b j hj
    have := c57 _ h1
    exact ⟨h1, h2, h3, by omega, h4⟩
  · obtain ⟨h1, h2, h3⟩ := c j hj
    exact ⟨Classical.not_not.1 h1, h2, h3⟩
end Go.Proofs.YtfkpbkjokapijaaGreatFmt.PQ
