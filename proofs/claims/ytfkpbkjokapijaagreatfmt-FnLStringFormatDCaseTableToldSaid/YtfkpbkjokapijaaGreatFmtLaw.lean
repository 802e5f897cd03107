/- The law's walk, from the contracts of its callees. -/
import Derived.Test.YtfkpbkjokapijaaGreatFmtTrim3
import Derived.Test.YtfkpbkjokapijaaGreatFmtPI3
import Derived.Test.YtfkpbkjokapijaaGreatFmtText
import Derived.Test.YtfkpbkjokapijaaGreatFmtLow
import Derived.Test.YtfkpbkjokapijaaGreatFmtPQ4
/- parseNumber, and what the law asks of it: whether a text is a numeral is a function of the text. -/
namespace Go.Proofs.YtfkpbkjokapijaaGreatFmt.PQ
open Go.RowKit Go.Proofs.YtfkpbkjokapijaaGreatFmtW.PrintWords
set_option linter.unusedVariables false
set_option linter.unusedSimpArgs false

theorem evOk_true (ev : Value) : evOk true ev = (ev = .nilIface) := rfl
theorem evOk_false (ev : Value) : evOk false ev = ∃ p, ev = .iface 78 p := if_neg (by decide)
set_option maxHeartbeats 1000000 in
set_option maxRecDepth 100000 in
theorem pn10_any (T : Nat → Int) (s : ByteArray) (hs : s.size ≤ 1000000) : ∃ ok : Bool, ∀ w : World, Tabs T w → Errs w → Calls Tryz.prog 10 #[.string s] w fun en w' => (∃ x ev, en = .returned (.tuple #[.float .f64 x, ev]) ∧ evOk ok ev ∧ (ok = false → x = 0)) ∧ Below w.heap.size w w' := by
  obtain ⟨r, hr, h18⟩ := trim18_any s hs
  obtain ⟨ok1, h19⟩ := pi19_any r (by omega)
  obtain ⟨ok2, h20⟩ := pf20_any T r (by omega)
  simp only [blanks3] at h18
  clear hr hs
  replace h18 := Aside0.mk h18
  cases ok1 with
  | true =>
    simp only [evOk_true] at h19
    replace h19 := Aside0.mk h19
    clear h20
    refine ⟨true, fun w hT hE => ?_⟩
    go_enter Tryz.func10, Tryz.ntmps10
    go_wp2_with (first | (go_at_call 18; ((with_reducible refine (h18.out _).mono ?_); rintro e w1 ⟨rfl, hB1⟩)) | (go_at_call 19; ((with_reducible refine (h19.out _ (hE.below hB1)).mono ?_); rintro e w2 ⟨⟨v, ev, rfl, rfl⟩, hB2⟩)))
    go_ret2
    exact ⟨⟨_, _, rfl, rfl, fun h => by cases h⟩, below_then hB1 hB1.size hB2⟩
  | false =>
    simp only [evOk_false] at h19
    replace h19 := Aside0.mk h19
    cases ok2 with
    | true =>
      simp only [evOk_true] at h20
      replace h20 := Aside0.mk h20
      refine ⟨true, fun w hT hE => ?_⟩
      go_enter Tryz.func10, Tryz.ntmps10
      go_wp2_with (first | (go_at_call 18; ((with_reducible refine (h18.out _).mono ?_); rintro e w1 ⟨rfl, hB1⟩)) | (go_at_call 19; ((with_reducible refine (h19.out _ (hE.below hB1)).mono ?_); rintro e w2 ⟨⟨v, ev, rfl, p, rfl⟩, hB2⟩; replace hB2 := below_then hB1 hB1.size hB2)) | (go_at_call 20; ((with_reducible refine (h20.out _ (hT.below hB2) (hE.below hB2)).mono ?_); rintro e w3 ⟨⟨x, ev2, rfl, rfl⟩, hB3⟩)))
      go_ret2
      exact ⟨⟨_, _, rfl, rfl, fun h => by cases h⟩, below_then hB2 hB2.size hB3⟩
    | false =>
      simp only [evOk_false] at h20
      replace h20 := Aside0.mk h20
      refine ⟨false, fun w hT hE => ?_⟩
      go_enter Tryz.func10, Tryz.ntmps10
      go_wp2_with (first | (go_at_call 18; ((with_reducible refine (h18.out _).mono ?_); rintro e w1 ⟨rfl, hB1⟩)) | (go_at_call 19; ((with_reducible refine (h19.out _ (hE.below hB1)).mono ?_); rintro e w2 ⟨⟨v, ev, rfl, p, rfl⟩, hB2⟩; replace hB2 := below_then hB1 hB1.size hB2)) | (go_at_call 20; ((with_reducible refine (h20.out _ (hT.below hB2) (hE.below hB2)).mono ?_); rintro e w3 ⟨⟨x, ev2, rfl, p2, rfl⟩, hB3⟩)))
      go_ret2
      exact ⟨⟨_, _, rfl, ⟨_, rfl⟩, fun _ => rfl⟩, below_then hB2 hB2.size hB3⟩

/-- What ZZparseNumberOK answers, from the same contract. -/
theorem ok6_of (s : ByteArray) (ok : Bool) (w : World) (h10 : Calls Tryz.prog 10 #[.string s] w fun en w' => (∃ x ev, en = .returned (.tuple #[.float .f64 x, ev]) ∧ evOk ok ev ∧ (ok = false → x = 0)) ∧ Below w.heap.size w w') :
    Calls Tryz.prog 6 #[.string s] w fun en w' => en = .returned (.bool ok) ∧ Below w.heap.size w w' := by
  cases ok with
  | true =>
    simp only [evOk_true] at h10
    replace h10 := Aside0.mk h10
    go_enter Tryz.func6, Tryz.ntmps6
    go_wp2_with (first | (go_at_call 10; ((with_reducible refine h10.out.mono ?_); rintro e w1 ⟨⟨x, ev, rfl, rfl, _⟩, hB1⟩)))
    go_ret
    exact ⟨rfl, hB1⟩
  | false =>
    simp only [evOk_false] at h10
    replace h10 := Aside0.mk h10
    go_enter Tryz.func6, Tryz.ntmps6
    go_wp2_with (first | (go_at_call 10; ((with_reducible refine h10.out.mono ?_); rintro e w1 ⟨⟨x, ev, rfl, ⟨p, rfl⟩, _⟩, hB1⟩)))
    go_ret
    exact ⟨rfl, hB1⟩
end Go.Proofs.YtfkpbkjokapijaaGreatFmt.PQ
/- byVerb and value at d and i. -/
namespace Go.Proofs.YtfkpbkjokapijaaGreatFmt.PQ
open Go.RowKit Go.Proofs.YtfkpbkjokapijaaGreatFmtW.PrintWords Go.Extern.Stop Go.Stop Go.Extern
set_option linter.unusedVariables false
set_option linter.unusedSimpArgs false

/-- What parseNumber does at a text. -/
def PN (T : Nat → Int) (s : ByteArray) (ok : Bool) : Prop := ∀ w : World, Tabs T w → Errs w → Calls Tryz.prog 10 #[.string s] w fun en w' => (∃ x ev, en = .returned (.tuple #[.float .f64 x, ev]) ∧ evOk ok ev ∧ (ok = false → x = 0)) ∧ Below w.heap.size w w'
/-- The texts of a directive. -/
def TXT (mn wp : Bool) (wd : Int) (c : Int) (f : ByteArray) : Prop := ∀ w : World, Calls Tryz.prog 39 #[.agg #[.bool mn, .bool false, .bool false, .bool false, .bool false, .int .i64 wd, .int .i64 0, .bool wp, .bool false], .int .i32 c] w fun e w' => e = .returned (.string f) ∧ Below w.heap.size w w'
noncomputable def ans (F : Interp) (fs fd s : ByteArray) (ok : Bool) : ByteArray := if ok then ansS F fs s else ansD F fd 0

theorem ans_below {F : Interp} {n : Nat} {w w1 : World} {o : Obj} (h : Below n (w.alloc o) w1) (hF : Aside0 (F.answers w.tape)) : F.answers w1.tape := by
  rw [h.tape]; exact hF.out
@[go_sem] theorem conv0 (w : World) : (convert 29 2 (.float .f64 0)).run Tryz.prog w = .ok (.int .i64 0) w := by kernel_rfl
theorem dir_cells (mn wp : Bool) (wd : Int) (w w1 : World) (h : Below (w.alloc (.cells #[.bool mn, .bool false, .bool false, .bool false, .bool false, .int .i64 wd, .int .i64 0, .bool wp, .bool false] 39)).heap.size (w.alloc (.cells #[.bool mn, .bool false, .bool false, .bool false, .bool false, .int .i64 wd, .int .i64 0, .bool wp, .bool false] 39)) w1) :
    w1.cell? ⟨w.heap.size, 0, none⟩ = some (.bool mn) ∧ w1.cell? ⟨w.heap.size, 1, none⟩ = some (.bool false) ∧ w1.cell? ⟨w.heap.size, 2, none⟩ = some (.bool false) ∧ w1.cell? ⟨w.heap.size, 3, none⟩ = some (.bool false) ∧ w1.cell? ⟨w.heap.size, 4, none⟩ = some (.bool false) ∧ w1.cell? ⟨w.heap.size, 5, none⟩ = some (.int .i64 wd) ∧ w1.cell? ⟨w.heap.size, 6, none⟩ = some (.int .i64 0) ∧ w1.cell? ⟨w.heap.size, 7, none⟩ = some (.bool wp) ∧ w1.cell? ⟨w.heap.size, 8, none⟩ = some (.bool false) := by
  refine ⟨?_, ?_, ?_, ?_, ?_, ?_, ?_, ?_, ?_⟩
  all_goals
    refine (h.cell (by simp)).trans ?_
    go_simp

set_option maxHeartbeats 1000000 in
set_option maxRecDepth 100000 in
theorem byVerb_any (T : Nat → Int) (F : Interp) (fs fd s : ByteArray) (ok mn wp : Bool) (wd c : Int) (hc : c = 100 ∨ c = 105) (hfs : fs = fS ∨ fs = f8S ∨ fs = fm8S) (hfd : fd = fD ∨ fd = f8D ∨ fd = fm8D)
    (hP : PN T s ok) (htS : TXT mn wp wd 115 fs) (htD : TXT mn wp wd 100 fd) (w : World) (hF : F.answers w.tape) (hT : Tabs T w) (hE : Errs w) :
    Calls Tryz.prog 25 #[.string s, .agg #[.bool mn, .bool false, .bool false, .bool false, .bool false, .int .i64 wd, .int .i64 0, .bool wp, .bool false], .int .i32 c] w fun e w' => e = .returned (.string (ans F fs fd s ok)) ∧ Below w.heap.size w w' := by
  have pS := fun w (h : F.answers w.tape) => print_S F fs s hfs mn wp wd 115 w h htS
  have pD := fun w (h : F.answers w.tape) => print_D F fd 0 hfd mn wp wd 100 w h htD
  replace pS := Aside0.mk pS
  replace pD := Aside0.mk pD
  replace hF := Aside0.mk hF
  clear htS htD hfs hfd
  cases ok with
  | true =>
    simp only [PN, evOk_true] at hP
    replace hP := Aside0.mk hP
    rcases hc with rfl | rfl
    all_goals
      go_enter Tryz.func25, Tryz.ntmps25
      go_wp2_with (first | (go_at_call 10; ((with_reducible refine (hP.out _ (hT.below ((Below.refl _ _).alloc (Nat.le_refl _) _)) (hE.below ((Below.refl _ _).alloc (Nat.le_refl _) _))).mono ?_); rintro e w1 ⟨⟨x, ev, rfl, rfl, _⟩, hB1⟩; obtain ⟨c0, c1, c2, c3, c4, c5, c6, c7, c8⟩ := dir_cells mn wp wd _ _ hB1)) | (go_at_call 29; ((with_reducible refine (pS.out w1 (ans_below hB1 hF)).mono ?_); rintro e w3 ⟨rfl, hB3⟩)))
      go_ret
      exact ⟨rfl, below_then (below_then ((Below.refl _ _).alloc (Nat.le_refl _) _) (by simp) hB1) (by have := hB1.size; simp at this; omega) hB3⟩
  | false =>
    simp only [PN, evOk_false] at hP
    replace hP := Aside0.mk hP
    rcases hc with rfl | rfl
    all_goals
      go_enter Tryz.func25, Tryz.ntmps25
      go_wp2_with (first | (go_at_call 10; ((with_reducible refine (hP.out _ (hT.below ((Below.refl _ _).alloc (Nat.le_refl _) _)) (hE.below ((Below.refl _ _).alloc (Nat.le_refl _) _))).mono ?_); rintro e w1 ⟨⟨x, ev, rfl, ⟨p, rfl⟩, hx⟩, hB1⟩; obtain rfl := hx trivial; clear hx; obtain ⟨c0, c1, c2, c3, c4, c5, c6, c7, c8⟩ := dir_cells mn wp wd _ _ hB1)) | (go_at_call 29; ((with_reducible refine (pD.out w1 (ans_below hB1 hF)).mono ?_); rintro e w3 ⟨rfl, hB3⟩)))
      go_ret
      exact ⟨rfl, below_then (below_then ((Below.refl _ _).alloc (Nat.le_refl _) _) (by simp) hB1) (by have := hB1.size; simp at this; omega) hB3⟩
end Go.Proofs.YtfkpbkjokapijaaGreatFmt.PQ
/- value at d and i, and the bytes that the answer lies in. -/
namespace Go.Proofs.YtfkpbkjokapijaaGreatFmt.PQ
open Go.RowKit Go.Proofs.YtfkpbkjokapijaaGreatFmtW.PrintWords Go.Extern.Stop Go.Stop Go.Extern
set_option linter.unusedVariables false
set_option linter.unusedSimpArgs false

theorem ans_alloc {F : Interp} {w : World} (o : Obj) (hF : Aside0 (F.answers w.tape)) : F.answers (w.alloc o).tape := hF.out
@[go_sem] theorem ta26 (x : Value) (w : World) : (Instr.typeAssert (.iface 26 x) 20 26 true).run Tryz.prog w = .ok (.tuple #[x, .bool true]) w := by kernel_rfl
set_option maxHeartbeats 1000000 in
set_option maxRecDepth 100000 in
theorem value_any (T : Nat → Int) (F : Interp) (fs fd s : ByteArray) (ok mn wp : Bool) (wd c : Int) (hc : c = 100 ∨ c = 105) (hfs : fs = fS ∨ fs = f8S ∨ fs = fm8S) (hfd : fd = fD ∨ fd = f8D ∨ fd = fm8D)
    (hP : PN T s ok) (htS : TXT mn wp wd 115 fs) (htD : TXT mn wp wd 100 fd) (w : World) (hF : F.answers w.tape) (hT : Tabs T w) (hE : Errs w) :
    Calls Tryz.prog 17 #[.agg #[.bool mn, .bool false, .bool false, .bool false, .bool false, .int .i64 wd, .int .i64 0, .bool wp, .bool false], .iface 26 (.string s), .int .i32 c] w fun e w' => e = .returned (.string (ans F fs fd s ok)) ∧ Below w.heap.size w w' := by
  have hV := fun w (h : F.answers w.tape) => byVerb_any T F fs fd s ok mn wp wd c hc hfs hfd hP htS htD w h
  clear hfs hfd hP htS htD
  replace hV := Aside0.mk hV
  replace hF := Aside0.mk hF
  rcases hc with rfl | rfl
  all_goals
    go_enter Tryz.func17, Tryz.ntmps17
    go_wp2_with (first | (go_at_call 25; ((with_reducible refine (hV.out _ (ans_alloc _ hF) (hT.below (below_one _ _)) (hE.below (below_one _ _))).mono ?_); rintro e w1 ⟨rfl, hB1⟩)))
    go_ret
    exact ⟨rfl, below_then (below_one _ _) (by simp) hB1⟩

end Go.Proofs.YtfkpbkjokapijaaGreatFmt.PQ
namespace Go.Proofs.YtfkpbkjokapijaaGreatFmt.PQ
open Go.RowKit Go.Proofs.YtfkpbkjokapijaaGreatFmtW.PrintWords Go.Extern.Stop Go.Stop Go.Extern
set_option linter.unusedVariables false
set_option linter.unusedSimpArgs false

/-- What formatted does at a format and one operand. -/
def FM (T : Nat → Int) (F : Interp) (f s R : ByteArray) : Prop := ∀ (w : World) (blk : Nat), F.answers w.tape → Tabs T w → Errs w → w.cell? ⟨blk, 0, none⟩ = some (.iface 26 (.string s)) →
  Calls Tryz.prog 9 #[.string f, .slice (some ⟨blk, 0, none⟩) 1 1] w fun e w' => e = .returned (.string R) ∧ Below w.heap.size w w'
set_option maxHeartbeats 1000000 in
theorem sp5 (T : Nat → Int) (F : Interp) (f s R : ByteArray) (h9 : FM T F f s R) (w : World) (hF : F.answers w.tape) (hT : Tabs T w) (hE : Errs w) :
    Calls Tryz.prog 5 #[.string f, .string s] w fun e w' => e = .returned (.string R) ∧ Below w.heap.size w w' := by
  have h := h9 (w.alloc (.cells #[.iface 26 (.string s)] 20)) w.heap.size hF (hT.below (below_one _ _)) (hE.below (below_one _ _)) (by go_simp)
  replace h := Aside0.mk h
  clear h9
  go_enter Tryz.func5, Tryz.ntmps5
  go_wp2_with (first | (go_at_call 9; ((with_reducible refine h.out.mono ?_); rintro e w1 ⟨rfl, hB1⟩)))
  go_ret
  exact ⟨rfl, below_then (below_one _ _) (by simp) hB1⟩
theorem zb_small (s : ByteArray) (hs : s.size ≤ 1048576) (w : World) : Calls Tryz.prog 4 #[.string s] w fun e w' => e = .returned (.bool true) ∧ w' = w := by
  have h1 : ((s.size : Int) > 1048576) = False := eq_false (by omega)
  have h2 : wrap64 (s.size : Int) = s.size := w64_id (by omega) (by omega)
  have h1' : ((1048576 : Int) < (s.size : Int)) = False := eq_false (by omega)
  go_enter Tryz.func4, Tryz.ntmps4
  go_wp2
  go_ret
  exact ⟨rfl, rfl⟩
theorem zb_big (s : ByteArray) (hs : 1048576 < s.size) (w : World) : Calls Tryz.prog 4 #[.string s] w fun e w' => e = .returned (.bool false) ∧ w' = w := by
  have h1 : ((s.size : Int) > 1048576) = True := eq_true (by omega)
  have h1' : ((1048576 : Int) < (s.size : Int)) = True := eq_true (by omega)
  go_enter Tryz.func4, Tryz.ntmps4
  go_wp2
  go_ret
  exact ⟨rfl, rfl⟩
set_option maxHeartbeats 1000000 in
theorem law_huge (s : ByteArray) (hs : 1048576 < s.size) (w : World) : Calls Tryz.prog 3 #[.string s] w fun e w' => e = .returned (.bool true) ∧ Below w.heap.size w w' := by
  have h4 := zb_big s hs
  replace h4 := Aside0.mk h4
  go_enter Tryz.func3, Tryz.ntmps3
  go_wp2_with (first | (go_at_call 4; ((with_reducible refine (h4.out _).mono ?_); rintro e w1 ⟨rfl, rfl⟩)))
  go_ret
  exact ⟨rfl, Below.refl _ _⟩
set_option maxHeartbeats 1000000 in
theorem law_big (s : ByteArray) (hs : s.size ≤ 1048576) (hb : 65536 < s.size) (w : World) : Calls Tryz.prog 3 #[.string s] w fun e w' => e = .returned (.bool true) ∧ Below w.heap.size w w' := by
  have h4 := zb_small s hs
  replace h4 := Aside0.mk h4
  have h1 : ((s.size : Int) > 65536) = True := eq_true (by omega)
  have h1' : ((65536 : Int) < (s.size : Int)) = True := eq_true (by omega)
  clear hs
  go_enter Tryz.func3, Tryz.ntmps3
  go_wp2_with (first | (go_at_call 4; ((with_reducible refine (h4.out _).mono ?_); rintro e w1 ⟨rfl, rfl⟩)))
  go_ret
  exact ⟨rfl, Below.refl _ _⟩
theorem ans_bel {F : Interp} {n : Nat} {w w1 : World} (h : Below n w w1) (hF : F.answers w.tape) : F.answers w1.tape := by
  rw [h.tape]; exact hF
def sp7 : ByteArray := ⟨#[32, 32, 32, 32, 32, 32, 32, 48]⟩
def sp8 : ByteArray := ⟨#[48, 32, 32, 32, 32, 32, 32, 32]⟩
set_option maxHeartbeats 4000000 in
set_option maxRecDepth 100000 in
theorem law_yes (T : Nat → Int) (F : Interp) (s L R : ByteArray) (hs : s.size ≤ 65536) (h1 : FM T F ⟨#[37, 100]⟩ s s) (h2 : FM T F ⟨#[37, 105]⟩ s s) (h3 : FM T F ⟨#[37, 56, 100]⟩ s L) (h4 : FM T F ⟨#[37, 45, 56, 100]⟩ s R) (hP : PN T s true)
    (hL : ∀ w : World, Calls Tryz.prog 7 #[.string s, .int .i64 8] w fun e w' => e = .returned (.string L) ∧ Below w.heap.size w w') (hR : ∀ w : World, Calls Tryz.prog 8 #[.string s, .int .i64 8] w fun e w' => e = .returned (.string R) ∧ Below w.heap.size w w')
    (w : World) (hF : F.answers w.tape) (hT : Tabs T w) (hE : Errs w) : Calls Tryz.prog 3 #[.string s] w fun e w' => e = .returned (.bool true) ∧ Below w.heap.size w w' := by
  have z4 := zb_small s (by omega)
  have c1 := fun w => sp5 T F _ s _ h1 w
  have c2 := fun w => sp5 T F _ s _ h2 w
  have c3 := fun w => sp5 T F _ s _ h3 w
  have c4 := fun w => sp5 T F _ s _ h4 w
  have c6 := fun (w : World) (hT : Tabs T w) (hE : Errs w) => ok6_of s true w (hP w hT hE)
  have q1 : ((s.size : Int) > 65536) = False := eq_false (by omega)
  have q2 : ((65536 : Int) < (s.size : Int)) = False := eq_false (by omega)
  replace z4 := Aside0.mk z4
  replace c1 := Aside0.mk c1
  replace c2 := Aside0.mk c2
  replace c3 := Aside0.mk c3
  replace c4 := Aside0.mk c4
  replace c6 := Aside0.mk c6
  replace hL := Aside0.mk hL
  replace hR := Aside0.mk hR
  replace hF := Aside0.mk hF
  clear h1 h2 h3 h4 hP hs
  go_enter Tryz.func3, Tryz.ntmps3
  go_wp2_with (first
    | (go_at_call 4; ((with_reducible refine (z4.out _).mono ?_); rintro e w0 ⟨rfl, rfl⟩))
    | (go_at_call 5; ((with_reducible refine (c1.out _ hF.out hT hE).mono ?_); rintro e w1 ⟨rfl, hB1⟩; have hT1 := hT.below hB1; have hE1 := hE.below hB1; have hF1 := Aside0.mk (ans_bel hB1 hF.out)))
    | (go_at_call 5; ((with_reducible refine (c2.out _ hF1.out hT1 hE1).mono ?_); rintro e w2 ⟨rfl, hB2⟩; replace hB2 := below_then hB1 hB1.size hB2; have hT2 := hT.below hB2; have hE2 := hE.below hB2; have hF2 := Aside0.mk (ans_bel hB2 hF.out)))
    | (go_at_call 5; ((with_reducible refine (c3.out _ hF2.out hT2 hE2).mono ?_); rintro e w3 ⟨rfl, hB3⟩; replace hB3 := below_then hB2 hB2.size hB3; have hT3 := hT.below hB3; have hE3 := hE.below hB3; have hF3 := Aside0.mk (ans_bel hB3 hF.out)))
    | (go_at_call 5; ((with_reducible refine (c4.out _ hF3.out hT3 hE3).mono ?_); rintro e w4 ⟨rfl, hB4⟩; replace hB4 := below_then hB3 hB3.size hB4; have hT4 := hT.below hB4; have hE4 := hE.below hB4))
    | (go_at_call 6; ((with_reducible refine (c6.out _ hT4 hE4).mono ?_); rintro e w5 ⟨rfl, hB5⟩; replace hB5 := below_then hB4 hB4.size hB5))
    | (go_at_call 7; ((with_reducible refine (hL.out _).mono ?_); rintro e w6 ⟨rfl, hB6⟩; replace hB6 := below_then hB5 hB5.size hB6))
    | (go_at_call 8; ((with_reducible refine (hR.out _).mono ?_); rintro e w7 ⟨rfl, hB7⟩; replace hB7 := below_then hB6 hB6.size hB7)))
  go_ret
  exact ⟨rfl, hB7⟩
set_option maxHeartbeats 4000000 in
set_option maxRecDepth 100000 in
theorem law_no (T : Nat → Int) (F : Interp) (s : ByteArray) (hs : s.size ≤ 65536) (h1 : FM T F ⟨#[37, 100]⟩ s ⟨#[48]⟩) (h2 : FM T F ⟨#[37, 105]⟩ s ⟨#[48]⟩) (h3 : FM T F ⟨#[37, 56, 100]⟩ s ⟨#[32, 32, 32, 32, 32, 32, 32, 48]⟩) (h4 : FM T F ⟨#[37, 45, 56, 100]⟩ s ⟨#[48, 32, 32, 32, 32, 32, 32, 32]⟩) (hP : PN T s false)
    (w : World) (hF : F.answers w.tape) (hT : Tabs T w) (hE : Errs w) : Calls Tryz.prog 3 #[.string s] w fun e w' => e = .returned (.bool true) ∧ Below w.heap.size w w' := by
  have z4 := zb_small s (by omega)
  have c1 := fun w => sp5 T F _ s _ h1 w
  have c2 := fun w => sp5 T F _ s _ h2 w
  have c3 := fun w => sp5 T F _ s _ h3 w
  have c4 := fun w => sp5 T F _ s _ h4 w
  have c6 := fun (w : World) (hT : Tabs T w) (hE : Errs w) => ok6_of s false w (hP w hT hE)
  have q1 : ((s.size : Int) > 65536) = False := eq_false (by omega)
  have q2 : ((65536 : Int) < (s.size : Int)) = False := eq_false (by omega)
  replace z4 := Aside0.mk z4
  replace c1 := Aside0.mk c1
  replace c2 := Aside0.mk c2
  replace c3 := Aside0.mk c3
  replace c4 := Aside0.mk c4
  replace c6 := Aside0.mk c6
  replace hF := Aside0.mk hF
  clear h1 h2 h3 h4 hP hs
  go_enter Tryz.func3, Tryz.ntmps3
  go_wp2_with (first
    | (go_at_call 4; ((with_reducible refine (z4.out _).mono ?_); rintro e w0 ⟨rfl, rfl⟩))
    | (go_at_call 5; ((with_reducible refine (c1.out _ hF.out hT hE).mono ?_); rintro e w1 ⟨rfl, hB1⟩; have hT1 := hT.below hB1; have hE1 := hE.below hB1; have hF1 := Aside0.mk (ans_bel hB1 hF.out)))
    | (go_at_call 5; ((with_reducible refine (c2.out _ hF1.out hT1 hE1).mono ?_); rintro e w2 ⟨rfl, hB2⟩; replace hB2 := below_then hB1 hB1.size hB2; have hT2 := hT.below hB2; have hE2 := hE.below hB2; have hF2 := Aside0.mk (ans_bel hB2 hF.out)))
    | (go_at_call 5; ((with_reducible refine (c3.out _ hF2.out hT2 hE2).mono ?_); rintro e w3 ⟨rfl, hB3⟩; replace hB3 := below_then hB2 hB2.size hB3; have hT3 := hT.below hB3; have hE3 := hE.below hB3; have hF3 := Aside0.mk (ans_bel hB3 hF.out)))
    | (go_at_call 5; ((with_reducible refine (c4.out _ hF3.out hT3 hE3).mono ?_); rintro e w4 ⟨rfl, hB4⟩; replace hB4 := below_then hB3 hB3.size hB4; have hT4 := hT.below hB4; have hE4 := hE.below hB4))
    | (go_at_call 6; ((with_reducible refine (c6.out _ hT4 hE4).mono ?_); rintro e w5 ⟨rfl, hB5⟩; replace hB5 := below_then hB4 hB4.size hB5)))
  go_ret
  exact ⟨rfl, hB5⟩
end Go.Proofs.YtfkpbkjokapijaaGreatFmt.PQ
