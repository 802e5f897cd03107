/- ParseInt at base 0: whether it errs hangs on the text alone. -/
import Derived.Test.YtfkpbkjokapijaaGreatFmtPU2
/- ParseInt at base 0 ends; whether it errs is the same in every memory. -/
namespace Go.Proofs.YtfkpbkjokapijaaGreatFmt.PQ
open Go.RowKit Go.Proofs.YtfkpbkjokapijaaGreatFmtW.PrintWords
set_option linter.unusedVariables false
set_option linter.unusedSimpArgs false

set_option maxRecDepth 100000 in
theorem pu_empty (s : ByteArray) (hs : s = ByteArray.empty) (w : World) : Calls Tryz.prog 41 #[.string s, .int .i64 0, .int .i64 64] w fun en w' => en = .returned (.tuple #[.int .u64 0, .iface 74 (.int .i64 2)]) ∧ Below w.heap.size w w' := by
  have hse2 : s.toList.isEmpty = true := by rw [← decide_eq_emptyBytes s]; exact decide_eq_true hs
  clear hs
  go_enter Tryz.func41, Tryz.ntmps41
  go_wp2
  go_ret2
  exact ⟨rfl, Below.refl _ _⟩
/-- ParseUint: its number and its error hang on the text alone. -/
theorem pu_any (s : ByteArray) (hs : s.size ≤ 1000000) : ∃ (v : Int) (er : Option Int), (er = none ∨ er = some 1 ∨ er = some 2) ∧ 0 ≤ v ∧ v < 18446744073709551616 ∧ ∀ w : World, Calls Tryz.prog 41 #[.string s, .int .i64 0, .int .i64 64] w fun en w' => en = .returned (.tuple #[.int .u64 v, errW er]) ∧ Below w.heap.size w w' := by
  by_cases h0 : s.size = 0
  · exact ⟨0, some 2, .inr (.inr rfl), by omega, by omega, fun w => pu_empty s (ByteArray.size_eq_zero_iff.mp h0) w⟩
  obtain ⟨t, base, cut, hpre⟩ := pre_any s
  have stopc : ∀ f i us n v c, pu t base cut f i us n = .stop v c → (c = 1 ∧ v = 18446744073709551615) ∨ (c = 2 ∧ v = 0) := by
    intro f
    induction f with
    | zero => intro i us n v c h; rw [pu] at h; cases h
    | succ f ih =>
      intro i us n v c h
      rw [pu] at h
      repeat' split at h
      all_goals first | exact ih _ _ _ _ _ h | (cases h; first | exact .inl ⟨rfl, rfl⟩ | exact .inr ⟨rfl, rfl⟩)
  have donec : ∀ f i us n us' n', 0 ≤ n → n < 18446744073709551616 → pu t base cut f i us n = .done us' n' → 0 ≤ n' ∧ n' < 18446744073709551616 := by
    have ps : ∀ n d q, pstep base cut n d = some q → 0 ≤ q ∧ q < 18446744073709551616 := by
      intro n d q h
      unfold pstep at h
      split at h
      · cases h
      · cases h; exact u64w_bd _
    intro f
    induction f with
    | zero => intro i us n us' n' h0 h1 h; rw [pu] at h; cases h; exact ⟨h0, h1⟩
    | succ f ih =>
      intro i us n us' n' h0 h1 h
      rw [pu] at h
      repeat' split at h
      all_goals first | exact ih _ _ _ _ _ h0 h1 h | (cases h; done) | (next hq => exact ih _ _ _ _ _ (ps _ _ _ hq).1 (ps _ _ _ hq).2 h)
  cases hR : pu t base cut t.size 0 false 0 with
  | stop v c =>
    rcases stopc _ _ _ _ _ _ hR with ⟨rfl, rfl⟩ | ⟨rfl, rfl⟩
    · exact ⟨_, some 1, .inr (.inl rfl), by omega, by omega, fun w => pu_stop s t hs (by omega) base cut hpre _ _ hR w⟩
    · exact ⟨_, some 2, .inr (.inr rfl), by omega, by omega, fun w => pu_stop s t hs (by omega) base cut hpre _ _ hR w⟩
  | done us n =>
    obtain ⟨n0, n1⟩ := donec _ _ _ _ _ _ (by omega) (by omega) hR
    obtain ⟨b51, h51⟩ := us_f s hs (2 * s.size + 10) (Nat.le_refl _)
    refine ⟨_, _, ?_, ?_, ?_, fun w => pu_done s t hs (by omega) base cut hpre us n hR b51 h51 w⟩
    · split
      · exact .inr (.inr rfl)
      · exact .inl rfl
    · split <;> omega
    · split <;> omega
end Go.Proofs.YtfkpbkjokapijaaGreatFmt.PQ
namespace Go.Proofs.YtfkpbkjokapijaaGreatFmt.PQ
open Go.RowKit Go.Proofs.YtfkpbkjokapijaaGreatFmtW.PrintWords
set_option linter.unusedVariables false
set_option linter.unusedSimpArgs false

theorem info74 : ∃ j, Tryz.prog.info? 74 = some j ∧ j.comparable = true := by
  have := (show (Tryz.prog.info? 74).map (fun i => i.comparable) = some true by kernel_rfl)
  cases h : Tryz.prog.info? 74 with
  | none => rw [h] at this; cases this
  | some j => rw [h] at this; exact ⟨j, rfl, by simpa using this⟩
theorem eqIn_err (d : Nat) (a b : Int) (w : World) : (Op.equalIn (d + 2) 31 (.iface 74 (.int .i64 a)) (.iface 74 (.int .i64 b))).run Tryz.prog w = .ok (a == b) w := by
  have h31 : Tryz.prog.underlying 31 = some (.interface (Tryz.prog.methodsAt 31)) := by kernel_rfl
  have h74 : Tryz.prog.underlying 74 = some (.int .i64) := by kernel_rfl
  obtain ⟨j, h1, h2⟩ := info74
  simp [Op.equalIn, run_underlying h31, run_underlying h74, typeInfo, h1, h2]
@[go_sem] theorem neq_err (a b : Int) (w : World) : (binOp .neq 31 (.iface 74 (.int .i64 a)) (.iface 74 (.int .i64 b))).run Tryz.prog w = .ok (.bool (a != b)) w := by
  have h := eqIn_err 9998 a b w
  have e : (Op.equal 31 (.iface 74 (.int .i64 a)) (.iface 74 (.int .i64 b))).run Tryz.prog w = .ok (a == b) w := h
  simp only [binOp]
  simp [e, bne]

set_option maxRecDepth 100000 in
theorem pi_empty (s : ByteArray) (hs : s = ByteArray.empty) (w : World) : Calls Tryz.prog 32 #[.string s, .int .i64 0, .int .i64 64] w fun en w' => (∃ v, en = .returned (.tuple #[.int .i64 v, errW (some 2)])) ∧ Below w.heap.size w w' := by
  have hse2 : s.toList.isEmpty = true := by rw [← decide_eq_emptyBytes s]; exact decide_eq_true hs
  clear hs
  go_enter Tryz.func32, Tryz.ntmps32
  go_wp2
  go_ret2
  exact ⟨⟨_, rfl⟩, Below.refl _ _⟩
set_option maxHeartbeats 4000000 in
set_option maxRecDepth 100000 in
theorem pi_walk (s t : ByteArray) (hs0 : 0 < s.size) (neg : Bool) (hsign : bt s 0 = 43 ∧ t = s.extract 1 s.size ∧ neg = false ∨ bt s 0 = 45 ∧ t = s.extract 1 s.size ∧ neg = true ∨ bt s 0 ≠ 43 ∧ bt s 0 ≠ 45 ∧ t = s ∧ neg = false)
    (v : Int) (er : Option Int) (her : er = none ∨ er = some 1 ∨ er = some 2) (v0 : 0 ≤ v) (v1 : v < 18446744073709551616)
    (H : ∀ w : World, Calls Tryz.prog 41 #[.string t, .int .i64 0, .int .i64 64] w fun en w' => en = .returned (.tuple #[.int .u64 v, errW er]) ∧ Below w.heap.size w w') :
    ∃ er', (er' = none ∨ er' = some 1 ∨ er' = some 2) ∧ ∀ w : World, Calls Tryz.prog 32 #[.string s, .int .i64 0, .int .i64 64] w fun en w' => (∃ v, en = .returned (.tuple #[.int .i64 v, errW er'])) ∧ Below w.heap.size w w' := by
  have hse2 : s.toList.isEmpty = false := by rw [← decide_eq_emptyBytes s]; exact decide_eq_false (fun e => by subst e; exact absurd hs0 (by decide))
  have hx0 : ∀ h : 0 < s.size, ((s[0]'h).toNat : Int) = bt s 0 := fun h => bt_at s (0 : Int) h
  have hsz : (0 : Int) < s.size := by omega
  have hsz1 : (1 : Int) ≤ s.size := by omega
  rcases hsign with ⟨h1, rfl, rfl⟩ | ⟨h1, rfl, rfl⟩ | ⟨h1, h3, rfl, rfl⟩
  · have hb : (bt s 0 == 43) = true := beq_iff_eq.mpr h1
    clear h1
    rcases her with rfl | rfl | rfl
    · rw [errW_none] at H
      replace H := Aside0.mk H
      by_cases hv : 9223372036854775808 ≤ v
      · refine ⟨some 1, .inr (.inl rfl), fun w => ?_⟩
        have hB0 : True := trivial
        go_enter Tryz.func32, Tryz.ntmps32
        go_wp2_with (first | (go_at_call 41; ((with_reducible refine (H.out _).mono ?_); rintro e w' ⟨rfl, hB⟩)))
        go_ret2
        exact ⟨⟨_, rfl⟩, hB⟩
      · have hv' : v < 9223372036854775808 := by omega
        clear hv
        refine ⟨none, .inl rfl, fun w => ?_⟩
        have hB0 : True := trivial
        go_enter Tryz.func32, Tryz.ntmps32
        go_wp2_with (first | (go_at_call 41; ((with_reducible refine (H.out _).mono ?_); rintro e w' ⟨rfl, hB⟩)))
        go_ret2
        exact ⟨⟨_, rfl⟩, hB⟩
    · rw [errW_some] at H
      replace H := Aside0.mk H
      by_cases hv : 9223372036854775808 ≤ v
      · refine ⟨some 1, .inr (.inl rfl), fun w => ?_⟩
        have hB0 : True := trivial
        go_enter Tryz.func32, Tryz.ntmps32
        go_wp2_with (first | (go_at_call 41; ((with_reducible refine (H.out _).mono ?_); rintro e w' ⟨rfl, hB⟩)))
        go_ret2
        exact ⟨⟨_, rfl⟩, hB⟩
      · have hv' : v < 9223372036854775808 := by omega
        clear hv
        refine ⟨none, .inl rfl, fun w => ?_⟩
        have hB0 : True := trivial
        go_enter Tryz.func32, Tryz.ntmps32
        go_wp2_with (first | (go_at_call 41; ((with_reducible refine (H.out _).mono ?_); rintro e w' ⟨rfl, hB⟩)))
        go_ret2
        exact ⟨⟨_, rfl⟩, hB⟩
    · rw [errW_some] at H
      replace H := Aside0.mk H
      refine ⟨some 2, .inr (.inr rfl), fun w => ?_⟩
      have hB0 : True := trivial
      go_enter Tryz.func32, Tryz.ntmps32
      go_wp2_with (first | (go_at_call 41; ((with_reducible refine (H.out _).mono ?_); rintro e w' ⟨rfl, hB⟩)))
      go_ret2
      exact ⟨⟨_, rfl⟩, hB⟩
  · have hb : (bt s 0 == 43) = false := by rw [h1]; rfl
    have hb2 : (bt s 0 == 45) = true := beq_iff_eq.mpr h1
    clear h1
    rcases her with rfl | rfl | rfl
    · rw [errW_none] at H
      replace H := Aside0.mk H
      by_cases hv : 9223372036854775808 < v
      · refine ⟨some 1, .inr (.inl rfl), fun w => ?_⟩
        have hB0 : True := trivial
        go_enter Tryz.func32, Tryz.ntmps32
        go_wp2_with (first | (go_at_call 41; ((with_reducible refine (H.out _).mono ?_); rintro e w' ⟨rfl, hB⟩)))
        go_ret2
        exact ⟨⟨_, rfl⟩, hB⟩
      · have hv' : v ≤ 9223372036854775808 := by omega
        clear hv
        refine ⟨none, .inl rfl, fun w => ?_⟩
        have hB0 : True := trivial
        go_enter Tryz.func32, Tryz.ntmps32
        go_wp2_with (first | (go_at_call 41; ((with_reducible refine (H.out _).mono ?_); rintro e w' ⟨rfl, hB⟩)))
        go_ret2
        exact ⟨⟨_, rfl⟩, hB⟩
    · rw [errW_some] at H
      replace H := Aside0.mk H
      by_cases hv : 9223372036854775808 < v
      · refine ⟨some 1, .inr (.inl rfl), fun w => ?_⟩
        have hB0 : True := trivial
        go_enter Tryz.func32, Tryz.ntmps32
        go_wp2_with (first | (go_at_call 41; ((with_reducible refine (H.out _).mono ?_); rintro e w' ⟨rfl, hB⟩)))
        go_ret2
        exact ⟨⟨_, rfl⟩, hB⟩
      · have hv' : v ≤ 9223372036854775808 := by omega
        clear hv
        refine ⟨none, .inl rfl, fun w => ?_⟩
        have hB0 : True := trivial
        go_enter Tryz.func32, Tryz.ntmps32
        go_wp2_with (first | (go_at_call 41; ((with_reducible refine (H.out _).mono ?_); rintro e w' ⟨rfl, hB⟩)))
        go_ret2
        exact ⟨⟨_, rfl⟩, hB⟩
    · rw [errW_some] at H
      replace H := Aside0.mk H
      refine ⟨some 2, .inr (.inr rfl), fun w => ?_⟩
      have hB0 : True := trivial
      go_enter Tryz.func32, Tryz.ntmps32
      go_wp2_with (first | (go_at_call 41; ((with_reducible refine (H.out _).mono ?_); rintro e w' ⟨rfl, hB⟩)))
      go_ret2
      exact ⟨⟨_, rfl⟩, hB⟩
  · have hb : (bt t 0 == 43) = false := beq_eq_false_iff_ne.mpr h1
    have hb2 : (bt t 0 == 45) = false := beq_eq_false_iff_ne.mpr h3
    clear h1 h3
    rcases her with rfl | rfl | rfl
    · rw [errW_none] at H
      replace H := Aside0.mk H
      by_cases hv : 9223372036854775808 ≤ v
      · refine ⟨some 1, .inr (.inl rfl), fun w => ?_⟩
        have hB0 : True := trivial
        go_enter Tryz.func32, Tryz.ntmps32
        go_wp2_with (first | (go_at_call 41; ((with_reducible refine (H.out _).mono ?_); rintro e w' ⟨rfl, hB⟩)))
        go_ret2
        exact ⟨⟨_, rfl⟩, hB⟩
      · have hv' : v < 9223372036854775808 := by omega
        clear hv
        refine ⟨none, .inl rfl, fun w => ?_⟩
        have hB0 : True := trivial
        go_enter Tryz.func32, Tryz.ntmps32
        go_wp2_with (first | (go_at_call 41; ((with_reducible refine (H.out _).mono ?_); rintro e w' ⟨rfl, hB⟩)))
        go_ret2
        exact ⟨⟨_, rfl⟩, hB⟩
    · rw [errW_some] at H
      replace H := Aside0.mk H
      by_cases hv : 9223372036854775808 ≤ v
      · refine ⟨some 1, .inr (.inl rfl), fun w => ?_⟩
        have hB0 : True := trivial
        go_enter Tryz.func32, Tryz.ntmps32
        go_wp2_with (first | (go_at_call 41; ((with_reducible refine (H.out _).mono ?_); rintro e w' ⟨rfl, hB⟩)))
        go_ret2
        exact ⟨⟨_, rfl⟩, hB⟩
      · have hv' : v < 9223372036854775808 := by omega
        clear hv
        refine ⟨none, .inl rfl, fun w => ?_⟩
        have hB0 : True := trivial
        go_enter Tryz.func32, Tryz.ntmps32
        go_wp2_with (first | (go_at_call 41; ((with_reducible refine (H.out _).mono ?_); rintro e w' ⟨rfl, hB⟩)))
        go_ret2
        exact ⟨⟨_, rfl⟩, hB⟩
    · rw [errW_some] at H
      replace H := Aside0.mk H
      refine ⟨some 2, .inr (.inr rfl), fun w => ?_⟩
      have hB0 : True := trivial
      go_enter Tryz.func32, Tryz.ntmps32
      go_wp2_with (first | (go_at_call 41; ((with_reducible refine (H.out _).mono ?_); rintro e w' ⟨rfl, hB⟩)))
      go_ret2
      exact ⟨⟨_, rfl⟩, hB⟩
end Go.Proofs.YtfkpbkjokapijaaGreatFmt.PQ
