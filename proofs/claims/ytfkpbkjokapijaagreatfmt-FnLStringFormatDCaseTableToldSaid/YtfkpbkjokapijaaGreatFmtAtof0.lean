/- The tables that the readers of numbers look into. -/
import Derived.Test.YtfkpbkjokapijaaGreatFmtDecSA
import Derived.Test.YtfkpbkjokapijaaGreatFmtDecF3
import Derived.Test.YtfkpbkjokapijaaGreatFmtSafe3
import Derived.Test.YtfkpbkjokapijaaGreatFmtHex
import Derived.Test.YtfkpbkjokapijaaGreatFmtScale
import Derived.Test.YtfkpbkjokapijaaGreatFmtFloat
namespace Go.Proofs.YtfkpbkjokapijaaGreatFmt.PQ
open Go.RowKit Go.Proofs.YtfkpbkjokapijaaGreatFmtW.PrintWords
set_option linter.unusedVariables false
set_option linter.unusedSimpArgs false

structure Tabs (T : Nat → Int) (w : World) : Prop where
  flt : Flt w
  f10 : F10 w
  powt : PowT T w
  opt : w.cell? ⟨5, 0, none⟩ = some (.bool true)
  pt : ∃ b bo, w.cell? ⟨8, 0, none⟩ = some (.slice (some ⟨b, bo, none⟩) 9 9) ∧ ∀ j, j < 9 → w.cell? ⟨b, bo + j, none⟩ = some (.int .i64 (ptN j))
  lc : ∃ b bo, w.cell? ⟨13, 0, none⟩ = some (.slice (some ⟨b, bo, none⟩) 61 61) ∧ ∀ k, k < 61 → w.cell? ⟨b, bo + k * 2, none⟩ = some (.int .i64 (lcD k)) ∧ w.cell? ⟨b, bo + k * 2 + 1, none⟩ = some (.string (lcS k))
theorem Tabs.size {T : Nat → Int} {w : World} (h : Tabs T w) : 14 ≤ w.heap.size := by
  obtain ⟨b, bo, h1, h2⟩ := h.lc
  have := World.block_lt_of_cell? w _ h1
  exact this
theorem Tabs.below {T : Nat → Int} {w w' : World} (h : Tabs T w) (hb : Below w.heap.size w w') : Tabs T w' := by
  obtain ⟨f0, f1, f2, f6, f4⟩ := h.flt
  obtain ⟨i0, ⟨b, bo, t1, t2⟩⟩ := h.f10
  obtain ⟨b8, o8, p1, p2⟩ := h.pt
  obtain ⟨b13, o13, l1, l2⟩ := h.lc
  have hs := h.size
  refine ⟨⟨pw_cell_below hb f0, pw_cell_below hb f1, pw_cell_below hb f2, ?_, ?_⟩, ⟨pw_cell_below hb i0, b, bo, pw_cell_below hb t1, fun j hj => pw_cell_below hb (t2 j hj)⟩, ⟨fun j hj => pw_cell_below hb (h.powt.cell j hj)⟩, pw_cell_below hb h.opt,
    ⟨b8, o8, pw_cell_below hb p1, fun j hj => pw_cell_below hb (p2 j hj)⟩, ⟨b13, o13, pw_cell_below hb l1, fun k hk => ⟨pw_cell_below hb (l2 k hk).1, pw_cell_below hb (l2 k hk).2⟩⟩⟩
  · rw [hb.block _ (by omega)]; exact f6
  · rw [hb.block _ (by omega)]; exact f4
theorem Tabs.fb {T : Nat → Int} {w w' : World} (h : Tabs T w) (hb : Below w.heap.size w w') (g : Nat) (hg : w.heap.size ≤ g) : FB g w' := by
  have h' := h.below hb
  obtain ⟨f0, f1, f2, f6, f4⟩ := h'.flt
  have hs := h.size
  obtain ⟨b8, o8, p1, p2⟩ := h.pt
  obtain ⟨b13, o13, l1, l2⟩ := h.lc
  have q8 : b8 < w.heap.size := World.block_lt_of_cell? w _ (p2 0 (by omega))
  have q13 : b13 < w.heap.size := World.block_lt_of_cell? w _ (l2 0 (by omega)).1
  exact ⟨by omega, by omega, f0, f1, f2, ⟨b8, o8, by omega, pw_cell_below hb p1, fun j hj => pw_cell_below hb (p2 j hj)⟩, ⟨by omega, b13, o13, by omega, pw_cell_below hb l1, fun k hk => ⟨pw_cell_below hb (l2 k hk).1, pw_cell_below hb (l2 k hk).2⟩⟩⟩

theorem hexErr_two (m e : Int) : hexErr m e = none ∨ hexErr m e = some 1 := by
  unfold hexErr
  repeat' split
  all_goals first | exact .inl rfl | exact .inr rfl
theorem atofHex_two (t : ByteArray) (m e : Int) (neg tr : Bool) (h0 : 0 ≤ m) (h1 : m < 18446744073709551616) : ∃ er, (er = none ∨ er = some 1) ∧ ∀ w : World, Flt w →
    Calls Tryz.prog 62 #[.string t, .pointer (some ⟨6, 0, none⟩), .int .u64 m, .int .i64 e, .bool neg, .bool tr] w fun e w' => ∃ x n, e = .returned (.tuple #[.float .f64 x, errW er]) ∧ w' = w.drewN n := by
  obtain ⟨k1, m1, e1, H1, a0, a1⟩ := hx1_ends _ m (wrap64 (e + 52)) h0 h1 rfl
  obtain ⟨n0, n1⟩ := or_one m1 a0 a1
  cases tr with
  | false =>
    obtain ⟨k2, m2, e2, H2, b0, b1⟩ := hx2_ends _ m1 e1 a0 a1 rfl
    obtain ⟨k3, m3, e3, H3, c0, c1⟩ := hx3_ends _ m2 e2 b0 b1 rfl
    exact ⟨_, hexErr_two _ _, fun w hw => atofHex_false t m e neg h0 h1 k1 k2 k3 m1 e1 m2 e2 m3 e3 H1 a0 a1 H2 b0 b1 H3 c0 c1 w hw⟩
  | true =>
    obtain ⟨k2, m2, e2, H2, b0, b1⟩ := hx2_ends _ (Go.bits .or .u64 m1 1) e1 n0 n1 rfl
    obtain ⟨k3, m3, e3, H3, c0, c1⟩ := hx3_ends _ m2 e2 b0 b1 rfl
    exact ⟨_, hexErr_two _ _, fun w hw => atofHex_true t m e neg h0 h1 k1 k2 k3 m1 e1 m2 e2 m3 e3 H1 a0 a1 n0 n1 H2 b0 b1 H3 c0 c1 w hw⟩
end Go.Proofs.YtfkpbkjokapijaaGreatFmt.PQ
