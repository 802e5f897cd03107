/- What fmt answers, told: at the six formats, a string or the number zero. -/
import Derived.Test.YtfkpbkjokapijaaGreatFmtPQ0
import Derived.Stop.CallBack
import Derived.Stop.IfaceNil
import Derived.BigCall
import GoSem.ClaimData
import Derived.Stop.Told
import Derived.Stop.Texts
import Derived.Stop.FmtTextKit
import Derived.Stop.FmtTextVerbs
import Derived.Stop.FmtTextWidths
/- fmt.Sprintf at one operand, a string or an int64, over the four formats that are asked. -/
namespace Go.Proofs.YtfkpbkjokapijaaGreatFmt.PQ
set_option linter.unusedVariables false
set_option linter.unusedSimpArgs false
open Go.RowKit Go.Proofs.YtfkpbkjokapijaaGreatFmtW.PrintWords Go.Extern.Stop Go.Stop Go.Extern

@[go_sem] theorem call38 (args : Array Value) (w : World) : (callFunc 38 args).run Tryz.prog w = (FmtCalls.sprintf #[9, 27] #[9] args).run Tryz.prog w :=
  run_callFunc_next Tryz.func38 (by kernel_rfl) (by kernel_rfl) (by kernel_rfl) args w
@[go_sem] theorem guardF (name : String) (w : World) : (FmtStop.guard name).run Tryz.prog w = .ok () w := by kernel_rfl
theorem nextTurns : Extern.next FmtCalls.turnsRow = some (FmtCalls.begun #[] #[]) := by kernel_rfl
def fD : ByteArray := ⟨#[37, 100]⟩
def fS : ByteArray := ⟨#[37, 115]⟩
def f8D : ByteArray := ⟨#[37, 56, 100]⟩
def f8S : ByteArray := ⟨#[37, 56, 115]⟩
def fm8D : ByteArray := ⟨#[37, 45, 56, 100]⟩
def fm8S : ByteArray := ⟨#[37, 45, 56, 115]⟩
@[go_sem] theorem prD : FmtStop.printed? ⟨#[37, 100]⟩ 1 = some [(0, 100, false)] := by kernel_rfl
@[go_sem] theorem prS : FmtStop.printed? ⟨#[37, 115]⟩ 1 = some [(0, 115, false)] := by kernel_rfl
@[go_sem] theorem pr8D : FmtStop.printed? ⟨#[37, 56, 100]⟩ 1 = some [(0, 100, false)] := by kernel_rfl
@[go_sem] theorem pr8S : FmtStop.printed? ⟨#[37, 56, 115]⟩ 1 = some [(0, 115, false)] := by kernel_rfl
@[go_sem] theorem prm8D : FmtStop.printed? ⟨#[37, 45, 56, 100]⟩ 1 = some [(0, 100, false)] := by kernel_rfl
@[go_sem] theorem prm8S : FmtStop.printed? ⟨#[37, 45, 56, 115]⟩ 1 = some [(0, 115, false)] := by kernel_rfl
def shape9 : List UInt8 := [12, 6, 0, 0, 0, 0, 0, 0, 0, 115, 116, 114, 105, 110, 103]
def shape2 : List UInt8 := [5, 5, 0, 0, 0, 0, 0, 0, 0, 105, 110, 116, 54, 52]
@[go_sem] theorem act9_115 (name : String) (x : Value) (w : World) : (FmtCalls.act name false 115 false (.iface 9 x)).run Tryz.prog w = .ok (.closed false) w := by kernel_rfl
@[go_sem] theorem op9_115 (name : String) (x : ByteArray) (w : World) : (FmtStop.operand name false 115 false (.iface 9 (.string x))).run Tryz.prog w = .ok (shape9, FmtStop.pack x.data.toList) w := by kernel_rfl
@[go_sem] theorem act2_100 (name : String) (x : Value) (w : World) : (FmtCalls.act name false 100 false (.iface 2 x)).run Tryz.prog w = .ok (.closed false) w := by kernel_rfl
@[go_sem] theorem op2_100 (name : String) (x : Int) (w : World) : (FmtStop.operand name false 100 false (.iface 2 (.int .i64 x))).run Tryz.prog w = .ok (shape2, Go.Extern.Stop.digits 8 (x % 2 ^ 64).toNat) w := by kernel_rfl

/-- What fmt is asked. -/
def rdS (f : ByteArray) (s : ByteArray) : List (List UInt8) := [f.data.toList, shape9, FmtStop.pack s.data.toList]
def rdD (f : ByteArray) (x : Int) : List (List UInt8) := [f.data.toList, shape2, Go.Extern.Stop.digits 8 (x % 2 ^ 64).toNat]
/-- What fmt answers. -/
noncomputable def ansS (F : Interp) (f s : ByteArray) : ByteArray := FmtStop.textOf (F "fmt.Sprintf" (rdS f s) 0)
noncomputable def ansD (F : Interp) (f : ByteArray) (x : Int) : ByteArray := FmtStop.textOf (F "fmt.Sprintf" (rdD f x) 0)

set_option maxHeartbeats 1000000 in
theorem print_S (F : Interp) (f s : ByteArray) (hf : f = fS ∨ f = f8S ∨ f = fm8S) (mn wp : Bool) (wd c : Int) (w : World) (hF : F.answers w.tape)
    (htxt : ∀ w, Calls Tryz.prog 39 #[.agg #[.bool mn, .bool false, .bool false, .bool false, .bool false, .int .i64 wd, .int .i64 0, .bool wp, .bool false], .int .i32 c] w fun e w' => e = .returned (.string f) ∧ Below w.heap.size w w') :
    Calls Tryz.prog 29 #[.agg #[.bool mn, .bool false, .bool false, .bool false, .bool false, .int .i64 wd, .int .i64 0, .bool wp, .bool false], .iface 9 (.string s), .int .i32 c] w fun e w' => e = .returned (.string (ansS F f s)) ∧ Below w.heap.size w w' := by
  rcases hf with rfl | rfl | rfl
  all_goals
    simp only [fS, f8S, fm8S] at htxt ⊢
    replace htxt := Aside0.mk htxt
    go_enter Tryz.func29, Tryz.ntmps29
    go_wp2_with (first | (go_at_call 39; ((with_reducible refine (htxt.out _).mono ?_); rintro e w1 ⟨rfl, hB1⟩; have hF' : ∀ i name reading k range, w1.tape i (.extern (word name reading k) range) = F name reading k := by (rw [hB1.tape]; exact hF))))
    apply rows_value nextTurns
    case hr =>
      go_simp
      exact ⟨rfl, rfl⟩
    case h =>
      go_wp2
      go_ret
      exact ⟨rfl, (((hB1.mono (by simp)) |> Below.trans ((Below.refl _ w).alloc (Nat.le_refl _) _)).alloc (Nat.le_trans (by simp) hB1.size) _).drew⟩
set_option maxHeartbeats 1000000 in
theorem print_D (F : Interp) (f : ByteArray) (x : Int) (hf : f = fD ∨ f = f8D ∨ f = fm8D) (mn wp : Bool) (wd c : Int) (w : World) (hF : F.answers w.tape)
    (htxt : ∀ w, Calls Tryz.prog 39 #[.agg #[.bool mn, .bool false, .bool false, .bool false, .bool false, .int .i64 wd, .int .i64 0, .bool wp, .bool false], .int .i32 c] w fun e w' => e = .returned (.string f) ∧ Below w.heap.size w w') :
    Calls Tryz.prog 29 #[.agg #[.bool mn, .bool false, .bool false, .bool false, .bool false, .int .i64 wd, .int .i64 0, .bool wp, .bool false], .iface 2 (.int .i64 x), .int .i32 c] w fun e w' => e = .returned (.string (ansD F f x)) ∧ Below w.heap.size w w' := by
  rcases hf with rfl | rfl | rfl
  all_goals
    simp only [fD, f8D, fm8D] at htxt ⊢
    replace htxt := Aside0.mk htxt
    go_enter Tryz.func29, Tryz.ntmps29
    go_wp2_with (first | (go_at_call 39; ((with_reducible refine (htxt.out _).mono ?_); rintro e w1 ⟨rfl, hB1⟩; have hF' : ∀ i name reading k range, w1.tape i (.extern (word name reading k) range) = F name reading k := by (rw [hB1.tape]; exact hF))))
    apply rows_value nextTurns
    case hr =>
      go_simp
      exact ⟨rfl, rfl⟩
    case h =>
      go_wp2
      go_ret
      exact ⟨rfl, (((hB1.mono (by simp)) |> Below.trans ((Below.refl _ w).alloc (Nat.le_refl _) _)).alloc (Nat.le_trans (by simp) hB1.size) _).drew⟩
end Go.Proofs.YtfkpbkjokapijaaGreatFmt.PQ
namespace Go.Proofs.YtfkpbkjokapijaaGreatFmt.PQ
set_option linter.unusedVariables false
set_option linter.unusedSimpArgs false
open Go.RowKit Go.Extern.Stop Go.Stop Go.Extern Go.Kit

theorem byt_len (s : ByteArray) : s.data.toList.length = s.size := rfl
theorem byt_ext (a b : ByteArray) (h : a.data.toList = b.data.toList) : a = b := by
  cases a; cases b
  simp only [ByteArray.mk.injEq]
  exact Array.ext' h
theorem p_S : (FmtText.parse [37, 115]).map FmtText.glue = some [.verb {} 115] := by rfl
theorem p_D : (FmtText.parse [37, 100]).map FmtText.glue = some [.verb {} 100] := by rfl
theorem p_8S : (FmtText.parse [37, 56, 115]).map FmtText.glue = some [.verb { widPresent := true, wid := 8, minus := false } 115] := by rfl
theorem p_8D : (FmtText.parse [37, 56, 100]).map FmtText.glue = some [.verb { widPresent := true, wid := 8, minus := false } 100] := by rfl
theorem p_m8S : (FmtText.parse [37, 45, 56, 115]).map FmtText.glue = some [.verb { widPresent := true, wid := 8, minus := true } 115] := by rfl
theorem p_m8D : (FmtText.parse [37, 45, 56, 100]).map FmtText.glue = some [.verb { widPresent := true, wid := 8, minus := true } 100] := by rfl

theorem oS (s : ByteArray) (hs : s.size ≤ 1000000) : FmtText.operands [shape9, FmtStop.pack s.data.toList] = some [.str [115, 116, 114, 105, 110, 103] s.data.toList] :=
  FmtText.operands_cons (FmtText.operand_str_at (sh := shape9) rfl rfl s.data.toList (by rw [byt_len]; omega)) FmtText.operands_nil
theorem oD : FmtText.operands [shape2, Go.Extern.Stop.digits 8 ((0 : Int) % 2 ^ 64).toNat] = some [.int [105, 110, 116, 54, 52] true 0] :=
  FmtText.operands_cons (FmtText.operand_int_at (sh := shape2) (k := .i64) rfl rfl 0 (by decide)) FmtText.operands_nil
theorem told_S (F : Interp) (s : ByteArray) (hs : s.size ≤ 1000000) : ansS F.told fS s = s := by
  apply byt_ext
  rw [ansS, textOf_list]
  refine told_string F ?_ (by rw [byt_len]; omega)
  rw [rdS]
  show FmtText.text "fmt.Sprintf" ([37, 115] :: _) = _
  rw [FmtText.text_sprintf_glued p_S (oS s hs)]
  simp [FmtText.render, FmtText.printArg_s_str]
theorem told_8S (F : Interp) (s : ByteArray) (hs : s.size ≤ 1000000) : ansS F.told f8S s = ⟨(FmtText.blanks false 8 s.data.toList).toArray⟩ := by
  apply byt_ext
  rw [ansS, textOf_list]
  have hb := FmtText.blanks_length_le false 8 s.data.toList
  refine told_string F ?_ (by simp only [List.toList_toArray]; rw [byt_len] at hb; omega)
  rw [rdS]
  show FmtText.text "fmt.Sprintf" ([37, 56, 115] :: _) = _
  rw [FmtText.text_sprintf_glued p_8S (oS s hs)]
  simp [FmtText.render, FmtText.printArg_s_wid]
theorem told_m8S (F : Interp) (s : ByteArray) (hs : s.size ≤ 1000000) : ansS F.told fm8S s = ⟨(FmtText.blanks true 8 s.data.toList).toArray⟩ := by
  apply byt_ext
  rw [ansS, textOf_list]
  have hb := FmtText.blanks_length_le true 8 s.data.toList
  refine told_string F ?_ (by simp only [List.toList_toArray]; rw [byt_len] at hb; omega)
  rw [rdS]
  show FmtText.text "fmt.Sprintf" ([37, 45, 56, 115] :: _) = _
  rw [FmtText.text_sprintf_glued p_m8S (oS s hs)]
  simp [FmtText.render, FmtText.printArg_s_wid]
theorem told_D (F : Interp) : ansD F.told fD 0 = ⟨#[48]⟩ := by
  apply byt_ext
  rw [ansD, textOf_list]
  refine told_string F ?_ (by decide)
  rw [rdD]
  show FmtText.text "fmt.Sprintf" ([37, 100] :: _) = _
  rw [FmtText.text_sprintf_glued p_D oD]
  decide
theorem told_8D (F : Interp) : ansD F.told f8D 0 = ⟨#[32, 32, 32, 32, 32, 32, 32, 48]⟩ := by
  apply byt_ext
  rw [ansD, textOf_list]
  refine told_string F ?_ (by decide)
  rw [rdD]
  show FmtText.text "fmt.Sprintf" ([37, 56, 100] :: _) = _
  rw [FmtText.text_sprintf_glued p_8D oD]
  decide
theorem told_m8D (F : Interp) : ansD F.told fm8D 0 = ⟨#[48, 32, 32, 32, 32, 32, 32, 32]⟩ := by
  apply byt_ext
  rw [ansD, textOf_list]
  refine told_string F ?_ (by decide)
  rw [rdD]
  show FmtText.text "fmt.Sprintf" ([37, 45, 56, 100] :: _) = _
  rw [FmtText.text_sprintf_glued p_m8D oD]
  decide
end Go.Proofs.YtfkpbkjokapijaaGreatFmt.PQ
