/- ParseFloat ends; whether it errs is the same in every memory. -/
import Derived.Test.YtfkpbkjokapijaaGreatFmtAtof
import Derived.Test.YtfkpbkjokapijaaGreatFmtShelf
namespace Go.Proofs.YtfkpbkjokapijaaGreatFmt.PQ
open Go.RowKit Go.Proofs.YtfkpbkjokapijaaGreatFmtW.PrintWords
set_option linter.unusedVariables false
set_option linter.unusedSimpArgs false

theorem pf46_any (T : Nat → Int) (s : ByteArray) (hs : s.size ≤ 1000000) : ∃ (n : Int) (er : Option Int), (er = none ∨ er = some 1 ∨ er = some 2) ∧ ∀ w : World, Tabs T w → Calls Tryz.prog 46 #[.string s, .int .i64 64] w fun en w' => (∃ x, en = .returned (.tuple #[.float .f64 x, .int .i64 n, errW er])) ∧ Below w.heap.size w w' := by
  obtain ⟨n, er, her, H⟩ := atof64_any T s hs
  replace H := Aside0.mk H
  refine ⟨n, er, her, fun w hT => ?_⟩
  clear her
  go_enter Tryz.func46, Tryz.ntmps46
  go_wp2_with (first | (go_at_call 55; ((with_reducible refine (H.out _ hT).mono ?_); rintro e w' ⟨⟨x, rfl⟩, hB⟩)))
  go_ret3
  exact ⟨⟨_, rfl⟩, hB⟩
theorem pf34_any (T : Nat → Int) (s : ByteArray) (hs : s.size ≤ 1000000) : ∃ (er : Option Int), (er = none ∨ er = some 1 ∨ er = some 2) ∧ ∀ w : World, Tabs T w → Calls Tryz.prog 34 #[.string s, .int .i64 64] w fun en w' => (∃ x, en = .returned (.tuple #[.float .f64 x, errW er])) ∧ Below w.heap.size w w' := by
  obtain ⟨n, er, her, H⟩ := pf46_any T s hs
  replace H := Aside0.mk H
  by_cases hn : n = s.size
  · have hb : (n != (s.size : Int)) = false := bne_eq_false_iff_eq.mpr hn
    clear hn
    refine ⟨er, her, fun w hT => ?_⟩
    clear her
    go_enter Tryz.func34, Tryz.ntmps34
    go_wp2_with (first | (go_at_call 46; ((with_reducible refine (H.out _ hT).mono ?_); rintro e w' ⟨⟨x, rfl⟩, hB⟩)))
    go_ret2
    exact ⟨⟨_, rfl⟩, hB⟩
  · have hb : (n != (s.size : Int)) = true := bne_iff_ne.mpr hn
    clear hn
    refine ⟨some 2, .inr (.inr rfl), fun w hT => ?_⟩
    clear her
    rw [errW_some]
    go_enter Tryz.func34, Tryz.ntmps34
    go_wp2_with (first | (go_at_call 46; ((with_reducible refine (H.out _ hT).mono ?_); rintro e w' ⟨⟨x, rfl⟩, hB⟩)))
    go_ret2
    exact ⟨⟨_, rfl⟩, hB⟩

/-- What the two errors' variables hold: an error or none. -/
structure Errs (w : World) : Prop where
  e2 : ∃ ev, w.cell? ⟨2, 0, none⟩ = some ev ∧ (ev = .nilIface ∨ ∃ te pe, ev = .iface te pe)
  e3 : ∃ ev, w.cell? ⟨3, 0, none⟩ = some ev ∧ (ev = .nilIface ∨ ∃ te pe, ev = .iface te pe)
theorem Errs.below {w w' : World} (h : Errs w) (hb : Below w.heap.size w w') : Errs w' := by
  obtain ⟨a, a1, a2⟩ := h.e2
  obtain ⟨b, b1, b2⟩ := h.e3
  exact ⟨⟨a, pw_cell_below hb a1, a2⟩, ⟨b, pw_cell_below hb b1, b2⟩⟩
theorem toError_any (fn s : ByteArray) (base bits : Int) (c : Int) (hc : c = 1 ∨ c = 2) (hs : s.size ≤ 1000000) (w : World) (hE : Errs w) :
    Calls Tryz.prog 33 #[.string fn, .string s, .int .i64 base, .int .i64 bits, .iface 74 (.int .i64 c)] w fun e w' => (∃ p, e = .returned (.iface 78 p)) ∧ Below w.heap.size w w' := by
  rcases hc with rfl | rfl
  · obtain ⟨ev, h1, h2⟩ := hE.e3
    exact (Tryz.strconv_toError_range fn s base bits ev w (by omega) h1 h2).mono fun e w' ⟨N, a, _, _, b⟩ => ⟨⟨_, a⟩, b⟩
  · obtain ⟨ev, h1, h2⟩ := hE.e2
    exact (Tryz.strconv_toError_syntax fn s base bits ev w (by omega) h1 h2).mono fun e w' ⟨N, a, _, _, b⟩ => ⟨⟨_, a⟩, b⟩

/-- An error or none, as the flag says. -/
def evOk (ok : Bool) (ev : Value) : Prop := if ok then ev = .nilIface else ∃ p, ev = .iface 78 p
theorem pf20_any (T : Nat → Int) (s : ByteArray) (hs : s.size ≤ 1000000) : ∃ ok : Bool, ∀ w : World, Tabs T w → Errs w → Calls Tryz.prog 20 #[.string s, .int .i64 64] w fun en w' => (∃ x ev, en = .returned (.tuple #[.float .f64 x, ev]) ∧ evOk ok ev) ∧ Below w.heap.size w w' := by
  obtain ⟨er, her, H⟩ := pf34_any T s hs
  cases er with
  | none =>
    rw [errW_none] at H
    replace H := Aside0.mk H
    refine ⟨true, fun w hT hE => ?_⟩
    go_enter Tryz.func20, Tryz.ntmps20
    go_wp2_with (first | (go_at_call 34; ((with_reducible refine (H.out _ hT).mono ?_); rintro e w' ⟨⟨x, rfl⟩, hB⟩)))
    go_ret2
    exact ⟨⟨_, _, rfl, rfl⟩, hB⟩
  | some c =>
    have hc : c = 1 ∨ c = 2 := by
      rcases her with h | h | h
      · cases h
      · exact .inl (Option.some.inj h)
      · exact .inr (Option.some.inj h)
    rw [errW_some] at H
    replace H := Aside0.mk H
    replace hc := Aside0.mk hc
    refine ⟨false, fun w hT hE => ?_⟩
    clear her
    go_enter Tryz.func20, Tryz.ntmps20
    go_wp2_with (first | (go_at_call 34; ((with_reducible refine (H.out _ hT).mono ?_); rintro e w' ⟨⟨x, rfl⟩, hB⟩)) | (go_at_call 33; ((with_reducible refine (toError_any _ _ _ _ c hc.out hs _ (hE.below hB)).mono ?_); rintro e w2 ⟨⟨p, rfl⟩, hB2⟩)))
    go_ret2
    exact ⟨⟨_, _, rfl, _, rfl⟩, below_then hB hB.size hB2⟩
end Go.Proofs.YtfkpbkjokapijaaGreatFmt.PQ
