/- A frame of which only the one statement's own slots have turned, written out. -/
import Derived.Test.YtfkpbkjokapijaaGreatFmtPQ0
import Derived.Lib.AppendStr
import Derived.Laws.IdiomStrings
import Derived.Lib.BufferRead
import Derived.Deep.RegionLaw
import Derived.Test.YtfkpbkjokapijaaGreatFmtShelf
/- The bytes that an answer lies in, and an append of a text to nil as one step of a region. -/
namespace Go.Proofs.YtfkpbkjokapijaaGreatFmt.PQ
open Go.RowKit Go.Proofs.YtfkpbkjokapijaaGreatFmtW.PrintWords
set_option linter.unusedVariables false
set_option linter.unusedSimpArgs false

theorem below_one (w : World) (o : Obj) : Below w.heap.size w (w.alloc o) := (Below.refl _ w).alloc (Nat.le_refl _) o
/-- What a []byte value holds. -/
def HasB (base : Nat) (w : World) (v : Value) (s : ByteArray) : Prop :=
  (v = .slice none 0 0 ∧ s.size = 0) ∨ ∃ b c, v = .slice (some ⟨b, 0, none⟩) s.size c ∧ base ≤ b ∧ b < w.heap.size ∧ ∀ j x, s.data.toList[j]? = some x → w.cell? ⟨b, j, none⟩ = some (.int .u8 (x.toNat : Int))
theorem HasB.kept {base : Nat} {w w' : World} {v : Value} {s : ByteArray} (h : HasB base w v s) (hsz : w.heap.size ≤ w'.heap.size) (hk : ∀ b, base ≤ b → b < w.heap.size → w'.heap[b]? = w.heap[b]?) : HasB base w' v s := by
  rcases h with h | ⟨b, c, e, h1, h2, h3⟩
  · exact .inl h
  · exact .inr ⟨b, c, e, h1, Nat.lt_of_lt_of_le h2 hsz, fun j x hx => (World.cell?_of_block (hk b h1 h2)).trans (h3 j x hx)⟩
theorem hasB_conv {base : Nat} {w : World} {v : Value} {s : ByteArray} (h : HasB base w v s) : (convert 37 9 v).run Tryz.prog w = .ok (.string s) w := by
  rcases h with ⟨rfl, hs⟩ | ⟨b, c, rfl, h1, h2, h3⟩
  · have e : s = ByteArray.empty := ByteArray.size_eq_zero_iff.1 hs
    subst e
    exact Lib.run_convert_nil_bytes w 37 9 5 0 (by kernel_rfl) (by kernel_rfl) (by kernel_rfl)
  · have := run_convert_bytes_back (P := Tryz.prog) w 37 9 5 ⟨b, 0, none⟩ c s.data.toList (by kernel_rfl) (by kernel_rfl) (by kernel_rfl) (fun j hj => by
      have := h3 j _ (List.getElem?_eq_getElem hj)
      rw [← this]
      rcases j with _ | j
      · rfl
      · simp [Addr.add])
    rw [← Lib.size_eq] at this
    exact this
theorem app_nil (s : ByteArray) (hs : s.size ≤ 1000000) (ty : TypeId) (w : World) : ∃ v w', (Builtin.append_ #[37, 9] ty #[.slice none 0 0, .string s]).run Tryz.prog w = .ok v w' ∧ HasB w.heap.size w' v s ∧ Below w.heap.size w w' := by
  by_cases h0 : s.size = 0
  · have e : s = ByteArray.empty := ByteArray.size_eq_zero_iff.1 h0
    subst e
    have h : (Builtin.append_ #[37, 9] ty #[.slice none 0 0, .string ByteArray.empty]).run Tryz.prog w = .ok (.slice none 0 0) w := by kernel_rfl
    exact ⟨_, _, h, .inl ⟨rfl, rfl⟩, Below.refl _ w⟩
  · obtain ⟨i, hi⟩ : ∃ i, Tryz.prog.info? 5 = some i := by
      have := info5
      cases h : Tryz.prog.info? 5 with
      | none => rw [h] at this; cases this
      | some i => exact ⟨i, rfl⟩
    have hin := info5
    rw [hi] at hin
    simp only [Option.map_some, Option.some.injEq, Prod.mk.injEq] at hin
    obtain ⟨z1, z2, z3⟩ := hin
    refine ⟨_, _, run_append_nil_string w 37 9 ty 5 i (.int .u8 0) (by kernel_rfl) (by kernel_rfl) hi z1 s (by omega) (by omega) (by rw [z3]; omega), ?_, ?_⟩
    · refine .inr ⟨_, _, rfl, Nat.le_refl _, by simp, fun j x hx => ?_⟩
      have hj : j < s.data.toList.length := (List.getElem?_eq_some_iff.1 hx).1
      rw [World.cell?, show (w.drew.alloc _).heap[w.heap.size]? = _ from heap_alloc_new w.drew _]
      simp only [Array.getElem?_toList] at hx hj
      simp
      rw [Array.getElem?_append_left (by simpa using hj), Array.getElem?_map, hx]
      rfl
    · exact ((Below.refl _ w).drew).alloc (Nat.le_refl _) _
theorem step_app_nil {ops : Array Oper} {o : Oper} {a : Act} {w : World} {K : Act → World → Prop} {Q : Exit → Act → World → Prop} {E : Prop}
    (hg : o.guard = none) (sl x : Operand) (hop : o.op = Op.call { callee := Callee.builtin Builtin.append, args := #[sl, x], argTypes := #[37, 9] })
    (hs : a.eval sl = .slice none 0 0) (s : ByteArray) (hx : a.eval x = .string s) (hz : s.size ≤ 1000000)
    (hK : ∀ b n c w', HasB w.heap.size w' (.slice b n c) s → Below w.heap.size w w' → K (a.put o.dst (.slice b n c)) w') :
    if Region.wanted o (yielded ops a.tmps) = true then Oper.wp Tryz.prog o a w K Q else E := by
  have hw : Region.wanted o (yielded ops a.tmps) = true := by simp [Region.wanted, hg]
  rw [if_pos hw]
  obtain ⟨v, w', hr, h2, h3⟩ := app_nil s hz o.type w
  unfold Oper.wp
  simp [execOp, hop, resolve, invoke, builtin, hs, hx, hr, Result.andThen]
  rcases h2 with ⟨rfl, hs0⟩ | ⟨b, c, rfl, h4⟩
  · exact hK _ _ _ w' (.inl ⟨rfl, hs0⟩) h3
  · exact hK _ _ _ w' (.inr ⟨b, c, rfl, h4⟩) h3
end Go.Proofs.YtfkpbkjokapijaaGreatFmt.PQ
/- The readers of a format at the four formats: an explicit argument's number (none), a width. -/
namespace Go.Proofs.YtfkpbkjokapijaaGreatFmt.PQ
open Go.RowKit Go.Proofs.YtfkpbkjokapijaaGreatFmtW.PrintWords
set_option linter.unusedVariables false
set_option linter.unusedSimpArgs false

set_option maxHeartbeats 400000 in
theorem an_d1 (p : Value) (x : UInt8) (hx : x = 100 ∨ x = 105) (a n : Int) (w : World) : Calls Tryz.prog 13 #[p, .int .i64 a, .string ⟨#[37, x]⟩, .int .i64 1, .int .i64 n] w fun e w' => e = .returned (.tuple #[.int .i64 a, .int .i64 1, .bool false]) ∧ w' = w := by
  rcases hx with rfl | rfl
  all_goals
    go_enter Tryz.func13, Tryz.ntmps13
    go_wp2
    go_ret3
    exact ⟨rfl, rfl⟩
set_option maxHeartbeats 400000 in
theorem an_81 (p : Value) (a n : Int) (w : World) : Calls Tryz.prog 13 #[p, .int .i64 a, .string ⟨#[37, 56, 100]⟩, .int .i64 1, .int .i64 n] w fun e w' => e = .returned (.tuple #[.int .i64 a, .int .i64 1, .bool false]) ∧ w' = w := by
  go_enter Tryz.func13, Tryz.ntmps13
  go_wp2
  go_ret3
  exact ⟨rfl, rfl⟩
set_option maxHeartbeats 400000 in
theorem an_82 (p : Value) (a n : Int) (w : World) : Calls Tryz.prog 13 #[p, .int .i64 a, .string ⟨#[37, 56, 100]⟩, .int .i64 2, .int .i64 n] w fun e w' => e = .returned (.tuple #[.int .i64 a, .int .i64 2, .bool false]) ∧ w' = w := by
  go_enter Tryz.func13, Tryz.ntmps13
  go_wp2
  go_ret3
  exact ⟨rfl, rfl⟩
set_option maxHeartbeats 400000 in
theorem an_m2 (p : Value) (a n : Int) (w : World) : Calls Tryz.prog 13 #[p, .int .i64 a, .string ⟨#[37, 45, 56, 100]⟩, .int .i64 2, .int .i64 n] w fun e w' => e = .returned (.tuple #[.int .i64 a, .int .i64 2, .bool false]) ∧ w' = w := by
  go_enter Tryz.func13, Tryz.ntmps13
  go_wp2
  go_ret3
  exact ⟨rfl, rfl⟩
set_option maxHeartbeats 400000 in
theorem an_m3 (p : Value) (a n : Int) (w : World) : Calls Tryz.prog 13 #[p, .int .i64 a, .string ⟨#[37, 45, 56, 100]⟩, .int .i64 3, .int .i64 n] w fun e w' => e = .returned (.tuple #[.int .i64 a, .int .i64 3, .bool false]) ∧ w' = w := by
  go_enter Tryz.func13, Tryz.ntmps13
  go_wp2
  go_ret3
  exact ⟨rfl, rfl⟩

theorem tooLarge0 (w : World) : Calls Tryz.prog 23 #[.int .i64 0] w fun e w' => e = .returned (.bool false) ∧ w' = w := by
  go_enter Tryz.func23, Tryz.ntmps23
  go_wp2
  go_ret
  exact ⟨rfl, rfl⟩
set_option maxHeartbeats 400000 in
theorem fn_d (x : UInt8) (hx : x = 100 ∨ x = 105) (w : World) : Calls Tryz.prog 15 #[.string ⟨#[37, x]⟩, .int .i64 1, .int .i64 2] w fun e w' => e = .returned (.tuple #[.int .i64 0, .bool false, .int .i64 1]) ∧ w' = w := by
  rcases hx with rfl | rfl
  all_goals
    go_enter Tryz.func15, Tryz.ntmps15
    go_wp2
    go_loopg [6, 7, 8] 0 (fun kk v6 v7 v8 wr => v6 = .int .i64 0 ∧ v7 = .bool false ∧ v8 = .int .i64 1 ∧ w = wr)
    case atStart => exact ⟨rfl, rfl, rfl, rfl⟩
    case round =>
      obtain ⟨rfl, rfl, rfl, rfl⟩ := hrel
      go_wp2
      go_ret3
      exact ⟨rfl, rfl⟩
set_option maxHeartbeats 400000 in
theorem fn_8 (w : World) : Calls Tryz.prog 15 #[.string ⟨#[37, 56, 100]⟩, .int .i64 1, .int .i64 3] w fun e w' => e = .returned (.tuple #[.int .i64 8, .bool true, .int .i64 2]) ∧ w' = w := by
  go_enter Tryz.func15, Tryz.ntmps15
  go_wp2
  go_loopg [6, 7, 8] 1 (fun kk v6 v7 v8 wr => ((kk = 1 ∧ v6 = .int .i64 0 ∧ v7 = .bool false ∧ v8 = .int .i64 1) ∨ (kk = 0 ∧ v6 = .int .i64 8 ∧ v7 = .bool true ∧ v8 = .int .i64 2)) ∧ w = wr)
  case atStart => exact ⟨.inl ⟨rfl, rfl, rfl, rfl⟩, rfl⟩
  case round =>
    obtain ⟨⟨rfl, rfl, rfl, rfl⟩ | ⟨rfl, rfl, rfl, rfl⟩, rfl⟩ := hrel
    · go_wp2_with (first | (go_at_call 23; ((with_reducible refine (tooLarge0 _).mono ?_); rintro e w1 ⟨rfl, rfl⟩)))
      go_roundg 0
      case measure => omega
      case rel => exact ⟨.inr ⟨rfl, rfl, rfl, rfl⟩, rfl⟩
    · go_wp2
      go_ret3
      exact ⟨rfl, rfl⟩
set_option maxHeartbeats 400000 in
theorem fn_m (w : World) : Calls Tryz.prog 15 #[.string ⟨#[37, 45, 56, 100]⟩, .int .i64 2, .int .i64 4] w fun e w' => e = .returned (.tuple #[.int .i64 8, .bool true, .int .i64 3]) ∧ w' = w := by
  go_enter Tryz.func15, Tryz.ntmps15
  go_wp2
  go_loopg [6, 7, 8] 1 (fun kk v6 v7 v8 wr => ((kk = 1 ∧ v6 = .int .i64 0 ∧ v7 = .bool false ∧ v8 = .int .i64 2) ∨ (kk = 0 ∧ v6 = .int .i64 8 ∧ v7 = .bool true ∧ v8 = .int .i64 3)) ∧ w = wr)
  case atStart => exact ⟨.inl ⟨rfl, rfl, rfl, rfl⟩, rfl⟩
  case round =>
    obtain ⟨⟨rfl, rfl, rfl, rfl⟩ | ⟨rfl, rfl, rfl, rfl⟩, rfl⟩ := hrel
    · go_wp2_with (first | (go_at_call 23; ((with_reducible refine (tooLarge0 _).mono ?_); rintro e w1 ⟨rfl, rfl⟩)))
      go_roundg 0
      case measure => omega
      case rel => exact ⟨.inr ⟨rfl, rfl, rfl, rfl⟩, rfl⟩
    · go_wp2
      go_ret3
      exact ⟨rfl, rfl⟩
end Go.Proofs.YtfkpbkjokapijaaGreatFmt.PQ
/- formatted at the four formats. -/
namespace Go.Proofs.YtfkpbkjokapijaaGreatFmt.PQ
open Go.RowKit Go.Proofs.YtfkpbkjokapijaaGreatFmtW.PrintWords
set_option linter.unusedVariables false
set_option linter.unusedSimpArgs false

/-- What stands behind the one verb. -/
def After (w wr : World) (R : ByteArray) : Prop :=
  Below w.heap.size w wr ∧ ∃ vb, wr.cell? ⟨w.heap.size, 0, none⟩ = some vb ∧ wr.cell? ⟨w.heap.size, 10, none⟩ = some (.bool false) ∧ HasB (w.heap.size + 1) wr vb R
theorem row_cell {w1 : World} {p : Nat} {cs : Array Value} (h : w1.heap[p]? = some (.cells cs 41 (0, 0))) (k : Nat) (v : Value) (hk : cs[k]? = some v) : w1.cell? ⟨p, k, none⟩ = some v := by
  simp [World.cell?, h, hk]
theorem after_mk {w w1 w' : World} {R : ByteArray} {v : Value} {cs : Array Value} (hB1 : Below w.heap.size w w1) (hp : w.heap.size < w1.heap.size) (hblk : w'.heap[w.heap.size]? = some (.cells cs 41 (0, 0)))
    (hc0 : cs[0]? = some (.slice none 0 0)) (hc : cs[10]? = some (.bool false)) (hB : Below w1.heap.size w1 w') (hH : HasB w1.heap.size w' v R) : After w (w'.setCell ⟨w.heap.size, 0, none⟩ v) R := by
  refine ⟨(below_then hB1 hB1.size hB).setCell (Nat.le_refl _) v, v, World.cell?_setCell_same _ _ _ (row_cell hblk 0 _ hc0), (World.cell?_setCell_other _ _ _ _ (by intro h; cases h)).trans (row_cell hblk 10 _ hc), ?_⟩
  have hk : HasB (w.heap.size + 1) w' v R := by
    rcases hH with h | ⟨b, c, e, h1, h2, h3⟩
    · exact .inl h
    · exact .inr ⟨b, c, e, by omega, h2, h3⟩
  exact hk.kept (by rw [World.size_setCell]; exact Nat.le_refl _) (fun b hb _ => Below.heap_setCell w' ⟨w.heap.size, 0, none⟩ v b (by show b ≠ w.heap.size; omega))
end Go.Proofs.YtfkpbkjokapijaaGreatFmt.PQ
/- The one statement of formatted that draws its order: buf = append(buf, value(..)...). -/
namespace Go.Proofs.YtfkpbkjokapijaaGreatFmt.PQ
open Go.RowKit Go.Proofs.YtfkpbkjokapijaaGreatFmtW.PrintWords
set_option linter.unusedVariables false
set_option linter.unusedSimpArgs false

/-- The statement of this number in a body. -/
def findReg (n : Nat) : Code → Option Code
  | .region id ops d => if id = n then some (.region id ops d) else none
  | .seq a b => match findReg n a with
    | some c => some c
    | none => findReg n b
  | .cond _ a b => match findReg n a with
    | some c => some c
    | none => findReg n b
  | .block _ c => findReg n c
  | .loop c => findReg n c
  | .scope c => findReg n c
  | _ => none
/-- Only the statement's own slots have turned. -/
structure Low (a a' : Act) : Prop where
  size : a'.tmps.size = a.tmps.size
  defers : a'.defers = a.defers
  same : ∀ j, j < 346 ∨ 363 < j → a'.tmps[j]? = a.tmps[j]?
theorem Low.refl (a : Act) : Low a a := ⟨rfl, rfl, fun _ _ => rfl⟩
theorem Low.set {a : Act} {ts : Array Value} {ds : List Deferred} (h : Low a ⟨ts, ds⟩) (d : Nat) (hd : 346 ≤ d ∧ d ≤ 363) (v : Value) : Low a ⟨ts.setIfInBounds d v, ds⟩ := by
  refine ⟨by simpa using h.size, h.defers, fun j hj => ?_⟩
  have := h.same j hj
  simp only at this ⊢
  rw [Array.getElem?_setIfInBounds_ne (by omega), this]

def PostR (a : Act) (w : World) (R : ByteArray) : Exit → Act → World → Prop
  | .normal, a', w' => Low a a' ∧ After w w' R
  | _, _, _ => False
theorem PostR.mk {a a' : Act} {w w' : World} {R : ByteArray} (h : Low a a') (h2 : After w w' R) : PostR a w R .normal a' w' := ⟨h, h2⟩
set_option maxHeartbeats 1000000 in
set_option maxRecDepth 100000 in
theorem reg67 (mn wp : Bool) (wd c : Int) (s R : ByteArray) (hz : R.size ≤ 1000000) (w : World)
    (hV : ∀ w1, Below w.heap.size w w1 → Calls Tryz.prog 17 #[.agg #[.bool mn, .bool false, .bool false, .bool false, .bool false, .int .i64 wd, .int .i64 0, .bool wp, .bool false], .iface 26 (.string s), .int .i32 c] w1 fun e w' => e = .returned (.string R) ∧ Below w1.heap.size w1 w')
    (blk : Nat) (harg : w.cell? ⟨blk, 0, none⟩ = some (.iface 26 (.string s))) (a : Act) (hs : a.tmps.size = 492) (h1 : a.tmps[1]? = some (.slice (some ⟨blk, 0, none⟩) 1 1)) (h5 : a.tmps[5]? = some (.pointer (some ⟨w.heap.size, 0, none⟩)))
    (h7 : a.tmps[7]? = some (.int .i64 0)) (h11 : a.tmps[11]? = some (.int .i32 c)) (code : Code) (hcode : Tryz.f9.body.bind (findReg 67) = some code) :
    code.wp Tryz.prog (PostR a w R) a (w.alloc (.cells #[.slice none 0 0, .bool mn, .bool false, .bool false, .bool false, .bool false, .int .i64 wd, .int .i64 0, .bool wp, .bool false, .bool false, .bool true] 41)) := by
  have hblk : blk < w.heap.size := World.block_lt_of_cell? _ _ harg
  have hblk' : (blk = w.heap.size) = False := eq_false (by omega)
  replace hV := Aside0.mk hV
  replace hz := Aside0.mk hz
  obtain rfl := Option.some.inj (hcode.symm.trans (rfl : Tryz.f9.body.bind (findReg 67) = some _))
  obtain ⟨ts, ds⟩ := a
  simp only at hs h1 h5 h7 h11
  have g1 : ∀ h : 1 < ts.size, ts[1]'h = .slice (some ⟨blk, 0, none⟩) 1 1 := fun h => by rw [Array.getElem?_eq_getElem h] at h1; exact Option.some.inj h1
  have g5 : ∀ h : 5 < ts.size, ts[5]'h = .pointer (some ⟨w.heap.size, 0, none⟩) := fun h => by rw [Array.getElem?_eq_getElem h] at h5; exact Option.some.inj h5
  have g7 : ∀ h : 7 < ts.size, ts[7]'h = .int .i64 0 := fun h => by rw [Array.getElem?_eq_getElem h] at h7; exact Option.some.inj h7
  have g11 : ∀ h : 11 < ts.size, ts[11]'h = .int .i32 c := fun h => by rw [Array.getElem?_eq_getElem h] at h11; exact Option.some.inj h11
  clear h1 h5 h7 h11
  go_region_law (first | (refine step_app_nil rfl (.tmp 350) (.tmp 360) rfl (by simp [Act.eval, Act.put, hs]) R (by simp [Act.eval, Act.put, hs]) hz.out ?_; intro vb vn vc w' hH hB; have hb2 := (hB.block w.heap.size (by (have := hB1.size; simp at this; omega))).trans hb1; have c2 := row_cell hb2 0 _ rfl; have f2 := frozen_of_row w' w.heap.size 0 _ _ hb2) | (go_simp; go_at_call 17; (with_reducible refine (hV.out _ (below_one _ _).drew).mono ?_); rintro e w1 ⟨rfl, hB1⟩; have hb1 := (hB1.block w.heap.size (by simp)).trans (heap_alloc_new w _); have c1 := row_cell hb1 0 _ rfl))
  all_goals
    refine PostR.mk ?_ ?_
    · iterate 18 refine Low.set ?_ _ (by decide) _
      exact Low.refl _
    · have hp : w.heap.size < w1.heap.size := by
        have := hB1.size
        simp at this
        omega
      have hbw : Below w.heap.size w w1 := below_then (below_one _ _).drew (by simp) hB1
      exact after_mk hbw hp hb2 rfl rfl hB hH
end Go.Proofs.YtfkpbkjokapijaaGreatFmt.PQ
namespace Go.Proofs.YtfkpbkjokapijaaGreatFmt.PQ
open Go.RowKit
set_option linter.unusedVariables false
set_option linter.unusedSimpArgs false
structure LowN (n : Nat) (a a' : Act) : Prop where
  size : a'.tmps.size = a.tmps.size
  defers : a'.defers = a.defers
  same : ∀ j, j < 346 ∨ 346 + n ≤ j → a'.tmps[j]? = a.tmps[j]?
theorem LowN.step {n : Nat} {ts : Array Value} {ds : List Deferred} {a' : Act} (h : LowN (n + 1) ⟨ts, ds⟩ a') : ∃ u, LowN n ⟨ts.setIfInBounds (346 + n) u, ds⟩ a' := by
  refine ⟨a'.tmps.getD (346 + n) (.bool false), by simpa using h.size, h.defers, fun j hj => ?_⟩
  simp only
  by_cases e : j = 346 + n
  · subst e
    have hz : a'.tmps.size = ts.size := h.size
    rw [Array.getElem?_setIfInBounds_self]
    by_cases hl : 346 + n < ts.size
    · rw [if_pos hl, Array.getElem?_eq_getElem (by omega), Array.getD, dif_pos (by omega)]
      rfl
    · rw [if_neg hl, Array.getElem?_eq_none (by omega)]
  · rw [Array.getElem?_setIfInBounds_ne (by omega)]
    exact h.same j (by omega)
theorem LowN.zero {a a' : Act} (h : LowN 0 a a') : a' = a := by
  obtain ⟨ts', ds'⟩ := a'
  obtain ⟨ts, ds⟩ := a
  have e2 : ds' = ds := h.defers
  subst e2
  congr 1
  apply Array.ext_getElem?
  intro i
  exact h.same i (by omega)
theorem Low.to18 {a a' : Act} (h : Low a a') : LowN 18 a a' := ⟨h.size, h.defers, fun j hj => h.same j (by omega)⟩
theorem Low.out {ts : Array Value} {ds : List Deferred} {a' : Act} (h : Low ⟨ts, ds⟩ a') : ∃ u363 u362 u361 u360 u359 u358 u357 u356 u355 u354 u353 u352 u351 u350 u349 u348 u347 u346 : Value, a' = ⟨((((((((((((((((((ts.setIfInBounds 363 u363).setIfInBounds 362 u362).setIfInBounds 361 u361).setIfInBounds 360 u360).setIfInBounds 359 u359).setIfInBounds 358 u358).setIfInBounds 357 u357).setIfInBounds 356 u356).setIfInBounds 355 u355).setIfInBounds 354 u354).setIfInBounds 353 u353).setIfInBounds 352 u352).setIfInBounds 351 u351).setIfInBounds 350 u350).setIfInBounds 349 u349).setIfInBounds 348 u348).setIfInBounds 347 u347).setIfInBounds 346 u346), ds⟩ := by
  have h18 := h.to18
  obtain ⟨u363, h17⟩ := h18.step
  obtain ⟨u362, h16⟩ := h17.step
  obtain ⟨u361, h15⟩ := h16.step
  obtain ⟨u360, h14⟩ := h15.step
  obtain ⟨u359, h13⟩ := h14.step
  obtain ⟨u358, h12⟩ := h13.step
  obtain ⟨u357, h11⟩ := h12.step
  obtain ⟨u356, h10⟩ := h11.step
  obtain ⟨u355, h9⟩ := h10.step
  obtain ⟨u354, h8⟩ := h9.step
  obtain ⟨u353, h7⟩ := h8.step
  obtain ⟨u352, h6⟩ := h7.step
  obtain ⟨u351, h5⟩ := h6.step
  obtain ⟨u350, h4⟩ := h5.step
  obtain ⟨u349, h3⟩ := h4.step
  obtain ⟨u348, h2⟩ := h3.step
  obtain ⟨u347, h1⟩ := h2.step
  obtain ⟨u346, h0⟩ := h1.step
  exact ⟨_, _, _, _, _, _, _, _, _, _, _, _, _, _, _, _, _, _, h0.zero⟩
end Go.Proofs.YtfkpbkjokapijaaGreatFmt.PQ
