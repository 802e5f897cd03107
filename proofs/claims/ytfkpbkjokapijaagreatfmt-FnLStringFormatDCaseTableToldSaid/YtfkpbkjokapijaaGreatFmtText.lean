/- (directive).text at the directives that are asked. -/
import Derived.Test.YtfkpbkjokapijaaGreatFmtToldT
import Derived.Test.YtfkpbkjokapijaaGreatFmtShelf
namespace Go.Proofs.YtfkpbkjokapijaaGreatFmt.PQ
open Go.RowKit Go.Proofs.YtfkpbkjokapijaaGreatFmtW.PrintWords
set_option linter.unusedVariables false
set_option linter.unusedSimpArgs false

@[go_sem] theorem mk10 (w : World) : (Instr.makeSlice 84 (.int .i64 0) (.int .i64 10)).run Tryz.prog w = .ok (.slice (some ⟨w.heap.size, 0, none⟩) 0 10) (w.alloc (.cells #[.string ByteArray.empty, .string ByteArray.empty, .string ByteArray.empty, .string ByteArray.empty, .string ByteArray.empty, .string ByteArray.empty, .string ByteArray.empty, .string ByteArray.empty, .string ByteArray.empty, .string ByteArray.empty] 9)) := by kernel_rfl
theorem bA {w w1 : World} (h : Below w.heap.size w w1) (o : Obj) : Below w.heap.size w (w1.alloc o) := h.alloc h.size o
def b1F : Array Value := #[.string ⟨#[37]⟩, .string ByteArray.empty, .string ByteArray.empty, .string ByteArray.empty, .string ByteArray.empty, .string ByteArray.empty, .string ByteArray.empty, .string ByteArray.empty, .string ByteArray.empty, .string ByteArray.empty]
def b1T : Array Value := #[.string ⟨#[37]⟩, .string ⟨#[45]⟩, .string ByteArray.empty, .string ByteArray.empty, .string ByteArray.empty, .string ByteArray.empty, .string ByteArray.empty, .string ByteArray.empty, .string ByteArray.empty, .string ByteArray.empty]
def dirC (mn wp : Bool) (wd : Int) : Array Value := #[.bool mn, .bool false, .bool false, .bool false, .bool false, .int .i64 wd, .int .i64 0, .bool wp, .bool false]
def tw0 (mn wp : Bool) (wd : Int) (b1 : Array Value) (w : World) : World :=
  (((w.alloc (.cells (dirC mn wp wd) 39)).alloc (.cells b1 9)).alloc (.cells #[.string ⟨#[37]⟩] 9)).alloc (.cells #[.bool false, .string ⟨#[32]⟩, .bool false, .string ⟨#[35]⟩, .bool false, .string ⟨#[43]⟩, .bool mn, .string ⟨#[45]⟩, .bool false, .string ⟨#[48]⟩] 85)
def twA (b : Bool) (x : UInt8) (w : World) : World := w.alloc (.cells #[.bool b, .string ⟨#[x]⟩] 85)
def twF (wp : Bool) (wd : Int) (w : World) : Nat → World
  | 0 => tw0 false wp wd b1F w
  | 1 => twA false 32 (tw0 false wp wd b1F w)
  | 2 => twA false 35 (twA false 32 (tw0 false wp wd b1F w))
  | 3 => twA false 43 (twA false 35 (twA false 32 (tw0 false wp wd b1F w)))
  | 4 => twA false 45 (twA false 43 (twA false 35 (twA false 32 (tw0 false wp wd b1F w))))
  | _ => twA false 48 (twA false 45 (twA false 43 (twA false 35 (twA false 32 (tw0 false wp wd b1F w)))))
def twT (w : World) : Nat → World
  | 0 => tw0 true true 8 b1F w
  | 1 => twA false 32 (tw0 true true 8 b1F w)
  | 2 => twA false 35 (twA false 32 (tw0 true true 8 b1F w))
  | 3 => twA false 43 (twA false 35 (twA false 32 (tw0 true true 8 b1F w)))
  | 4 => (twA true 45 (twA false 43 (twA false 35 (twA false 32 (tw0 true true 8 b1T w))))).alloc (.cells #[.string ⟨#[45]⟩] 9)
  | _ => twA false 48 ((twA true 45 (twA false 43 (twA false 35 (twA false 32 (tw0 true true 8 b1T w))))).alloc (.cells #[.string ⟨#[45]⟩] 9))
@[go_sem] theorem enc100 : Utf8.encode 100 = ⟨#[100]⟩ := by rfl
@[go_sem] theorem enc115 : Utf8.encode 115 = ⟨#[115]⟩ := by rfl
@[go_sem] theorem dig8 : Lib.decDigits 8 = [56] := Lib.decDigits_one (by decide)
theorem itoa8 (w : World) : Calls Tryz.prog 48 #[.int .i64 8] w fun e w' => e = .returned (.string ⟨#[56]⟩) ∧ w' = w := by
  have h := Tryz.strconv_Itoa_small 8 (by decide) w
  rw [dig8] at h
  exact h
theorem join_n (bk : Nat) (W : World) (xs : List ByteArray) (r : ByteArray) (hbk : bk < W.heap.size) (hc : ∀ (j : Nat) x, xs[j]? = some x → W.cell? ⟨bk, 0 + j, none⟩ = some (.string x)) (hr : (Lib.join (xs.map (·.data.toList)) []) = r.data.toList) (hl : xs.length ≤ 10) (hz : r.size ≤ 100) :
    Calls Tryz.prog 49 #[.slice (some ⟨bk, 0, none⟩) xs.length 10, .string ⟨#[]⟩] W fun e w' => e = .returned (.string r) ∧ Below W.heap.size W w' := by
  have hr' : Lib.join (xs.map (·.data.toList)) (⟨#[]⟩ : ByteArray).data.toList = r.data.toList := hr
  refine (Tryz.strings_Join bk 0 10 xs ⟨#[]⟩ W hc hbk (by omega) hl (by rw [hr', ← Lib.size_eq]; omega)).mono ?_
  rintro e w' ⟨he, hB⟩
  rw [hr'] at he
  exact ⟨he, hB⟩
theorem join2 (bk : Nat) (W : World) (x0 x1 r : ByteArray) (hbk : bk < W.heap.size) (h0 : W.cell? ⟨bk, 0, none⟩ = some (.string x0)) (h1 : W.cell? ⟨bk, 1, none⟩ = some (.string x1)) (hr : (Lib.join [x0.data.toList, x1.data.toList] []) = r.data.toList) (hz : r.size ≤ 100) :
    Calls Tryz.prog 49 #[.slice (some ⟨bk, 0, none⟩) 2 10, .string ⟨#[]⟩] W fun e w' => e = .returned (.string r) ∧ Below W.heap.size W w' :=
  join_n bk W [x0, x1] r hbk (fun j x hx => by
    rcases j with _ | _ | j
    · cases hx; exact h0
    · cases hx; exact h1
    · cases hx) hr (by simp) hz
theorem join3 (bk : Nat) (W : World) (x0 x1 x2 r : ByteArray) (hbk : bk < W.heap.size) (h0 : W.cell? ⟨bk, 0, none⟩ = some (.string x0)) (h1 : W.cell? ⟨bk, 1, none⟩ = some (.string x1)) (h2 : W.cell? ⟨bk, 2, none⟩ = some (.string x2)) (hr : (Lib.join [x0.data.toList, x1.data.toList, x2.data.toList] []) = r.data.toList) (hz : r.size ≤ 100) :
    Calls Tryz.prog 49 #[.slice (some ⟨bk, 0, none⟩) 3 10, .string ⟨#[]⟩] W fun e w' => e = .returned (.string r) ∧ Below W.heap.size W w' :=
  join_n bk W [x0, x1, x2] r hbk (fun j x hx => by
    rcases j with _ | _ | _ | j
    · cases hx; exact h0
    · cases hx; exact h1
    · cases hx; exact h2
    · cases hx) hr (by simp) hz
theorem join4 (bk : Nat) (W : World) (x0 x1 x2 x3 r : ByteArray) (hbk : bk < W.heap.size) (h0 : W.cell? ⟨bk, 0, none⟩ = some (.string x0)) (h1 : W.cell? ⟨bk, 1, none⟩ = some (.string x1)) (h2 : W.cell? ⟨bk, 2, none⟩ = some (.string x2)) (h3 : W.cell? ⟨bk, 3, none⟩ = some (.string x3)) (hr : (Lib.join [x0.data.toList, x1.data.toList, x2.data.toList, x3.data.toList] []) = r.data.toList) (hz : r.size ≤ 100) :
    Calls Tryz.prog 49 #[.slice (some ⟨bk, 0, none⟩) 4 10, .string ⟨#[]⟩] W fun e w' => e = .returned (.string r) ∧ Below W.heap.size W w' :=
  join_n bk W [x0, x1, x2, x3] r hbk (fun j x hx => by
    rcases j with _ | _ | _ | _ | j
    · cases hx; exact h0
    · cases hx; exact h1
    · cases hx; exact h2
    · cases hx; exact h3
    · cases hx) hr (by simp) hz
def lnT : Nat → Nat
  | 0 => 1
  | 1 => 1
  | 2 => 1
  | 3 => 1
  | _ => 2

set_option maxHeartbeats 2000000 in
set_option maxRecDepth 100000 in
theorem text_D (w : World) :
    Calls Tryz.prog 39 #[.agg #[.bool false, .bool false, .bool false, .bool false, .bool false, .int .i64 0, .int .i64 0, .bool false, .bool false], .int .i32 100] w fun e w' => e = .returned (.string fD) ∧ Below w.heap.size w w' := by
  go_enter Tryz.func39, Tryz.ntmps39
  go_wp2
  go_loopg [5, 29] 5 (fun kk v5 v29 wr => ∃ (j : Nat) (z : Int) (L : Nat), Aside0 (L = 1) ∧ Aside0 (j + kk = 5) ∧ Aside0 (z = j) ∧ v5 = .slice (some ⟨w.heap.size + 1, 0, none⟩) L 10 ∧ v29 = .int .i64 z ∧ wr = twF false 0 w j)
  case atStart => exact ⟨0, 0, 1, ⟨rfl⟩, ⟨by omega⟩, ⟨by omega⟩, rfl, rfl, rfl⟩
  case round =>
    obtain ⟨j, z, L, hL, hj, hz, rfl, rfl, hw⟩ := hrel
    rcases gk with _ | _ | _ | _ | _ | _ | kk
    · have hj5 : j = 5 := by have := hj.out; omega
      subst hj5
      have hz5 : z = 5 := by have := hz.out; omega
      subst hz5
      simp only [twF, twA, tw0, dirC, b1F] at hw
      subst hw
      have hLe : L = 1 := hL.out
      subst hLe
      clear hj hz hL
      go_wp2_with (first | (go_at_call 48; ((with_reducible refine (itoa8 _).mono ?_); rintro e w1 ⟨rfl, rfl⟩)) | (go_at_call 49; ((refine (join2 _ _ ⟨#[37]⟩ ⟨#[100]⟩ fD (by simp; try omega) (by go_simp) (by go_simp) (by decide) (by decide)).mono ?_); rintro e w2 ⟨rfl, hB2⟩)))
      go_ret
      refine ⟨rfl, below_then ?_ ?_ hB2⟩
      · repeat (first | exact Below.refl _ _ | refine bA ?_ _)
      · simp; omega
    · have hj4 : j = 4 := by have := hj.out; omega
      subst hj4
      have hz4 : z = 4 := by have := hz.out; omega
      subst hz4
      simp only [twF, twA, tw0, dirC, b1F] at hw
      subst hw
      have hLe : L = 1 := hL.out
      subst hLe
      clear hj hz hL
      go_wp2
      go_roundg 0
      case measure => omega
      case rel => exact ⟨5, 5, _, ⟨rfl⟩, ⟨by omega⟩, ⟨by omega⟩, rfl, rfl, rfl⟩
    · have hj3 : j = 3 := by have := hj.out; omega
      subst hj3
      have hz3 : z = 3 := by have := hz.out; omega
      subst hz3
      simp only [twF, twA, tw0, dirC, b1F] at hw
      subst hw
      have hLe : L = 1 := hL.out
      subst hLe
      clear hj hz hL
      go_wp2
      go_roundg 1
      case measure => omega
      case rel => exact ⟨4, 4, _, ⟨rfl⟩, ⟨by omega⟩, ⟨by omega⟩, rfl, rfl, rfl⟩
    · have hj2 : j = 2 := by have := hj.out; omega
      subst hj2
      have hz2 : z = 2 := by have := hz.out; omega
      subst hz2
      simp only [twF, twA, tw0, dirC, b1F] at hw
      subst hw
      have hLe : L = 1 := hL.out
      subst hLe
      clear hj hz hL
      go_wp2
      go_roundg 2
      case measure => omega
      case rel => exact ⟨3, 3, _, ⟨rfl⟩, ⟨by omega⟩, ⟨by omega⟩, rfl, rfl, rfl⟩
    · have hj1 : j = 1 := by have := hj.out; omega
      subst hj1
      have hz1 : z = 1 := by have := hz.out; omega
      subst hz1
      simp only [twF, twA, tw0, dirC, b1F] at hw
      subst hw
      have hLe : L = 1 := hL.out
      subst hLe
      clear hj hz hL
      go_wp2
      go_roundg 3
      case measure => omega
      case rel => exact ⟨2, 2, _, ⟨rfl⟩, ⟨by omega⟩, ⟨by omega⟩, rfl, rfl, rfl⟩
    · have hj0 : j = 0 := by have := hj.out; omega
      subst hj0
      have hz0 : z = 0 := by have := hz.out; omega
      subst hz0
      simp only [twF, twA, tw0, dirC, b1F] at hw
      subst hw
      have hLe : L = 1 := hL.out
      subst hLe
      clear hj hz hL
      go_wp2
      go_roundg 4
      case measure => omega
      case rel => exact ⟨1, 1, _, ⟨rfl⟩, ⟨by omega⟩, ⟨by omega⟩, rfl, rfl, rfl⟩
    · exact absurd hj.out (by omega)

set_option maxHeartbeats 2000000 in
set_option maxRecDepth 100000 in
theorem text_S (w : World) :
    Calls Tryz.prog 39 #[.agg #[.bool false, .bool false, .bool false, .bool false, .bool false, .int .i64 0, .int .i64 0, .bool false, .bool false], .int .i32 115] w fun e w' => e = .returned (.string fS) ∧ Below w.heap.size w w' := by
  go_enter Tryz.func39, Tryz.ntmps39
  go_wp2
  go_loopg [5, 29] 5 (fun kk v5 v29 wr => ∃ (j : Nat) (z : Int) (L : Nat), Aside0 (L = 1) ∧ Aside0 (j + kk = 5) ∧ Aside0 (z = j) ∧ v5 = .slice (some ⟨w.heap.size + 1, 0, none⟩) L 10 ∧ v29 = .int .i64 z ∧ wr = twF false 0 w j)
  case atStart => exact ⟨0, 0, 1, ⟨rfl⟩, ⟨by omega⟩, ⟨by omega⟩, rfl, rfl, rfl⟩
  case round =>
    obtain ⟨j, z, L, hL, hj, hz, rfl, rfl, hw⟩ := hrel
    rcases gk with _ | _ | _ | _ | _ | _ | kk
    · have hj5 : j = 5 := by have := hj.out; omega
      subst hj5
      have hz5 : z = 5 := by have := hz.out; omega
      subst hz5
      simp only [twF, twA, tw0, dirC, b1F] at hw
      subst hw
      have hLe : L = 1 := hL.out
      subst hLe
      clear hj hz hL
      go_wp2_with (first | (go_at_call 48; ((with_reducible refine (itoa8 _).mono ?_); rintro e w1 ⟨rfl, rfl⟩)) | (go_at_call 49; ((refine (join2 _ _ ⟨#[37]⟩ ⟨#[115]⟩ fS (by simp; try omega) (by go_simp) (by go_simp) (by decide) (by decide)).mono ?_); rintro e w2 ⟨rfl, hB2⟩)))
      go_ret
      refine ⟨rfl, below_then ?_ ?_ hB2⟩
      · repeat (first | exact Below.refl _ _ | refine bA ?_ _)
      · simp; omega
    · have hj4 : j = 4 := by have := hj.out; omega
      subst hj4
      have hz4 : z = 4 := by have := hz.out; omega
      subst hz4
      simp only [twF, twA, tw0, dirC, b1F] at hw
      subst hw
      have hLe : L = 1 := hL.out
      subst hLe
      clear hj hz hL
      go_wp2
      go_roundg 0
      case measure => omega
      case rel => exact ⟨5, 5, _, ⟨rfl⟩, ⟨by omega⟩, ⟨by omega⟩, rfl, rfl, rfl⟩
    · have hj3 : j = 3 := by have := hj.out; omega
      subst hj3
      have hz3 : z = 3 := by have := hz.out; omega
      subst hz3
      simp only [twF, twA, tw0, dirC, b1F] at hw
      subst hw
      have hLe : L = 1 := hL.out
      subst hLe
      clear hj hz hL
      go_wp2
      go_roundg 1
      case measure => omega
      case rel => exact ⟨4, 4, _, ⟨rfl⟩, ⟨by omega⟩, ⟨by omega⟩, rfl, rfl, rfl⟩
    · have hj2 : j = 2 := by have := hj.out; omega
      subst hj2
      have hz2 : z = 2 := by have := hz.out; omega
      subst hz2
      simp only [twF, twA, tw0, dirC, b1F] at hw
      subst hw
      have hLe : L = 1 := hL.out
      subst hLe
      clear hj hz hL
      go_wp2
      go_roundg 2
      case measure => omega
      case rel => exact ⟨3, 3, _, ⟨rfl⟩, ⟨by omega⟩, ⟨by omega⟩, rfl, rfl, rfl⟩
    · have hj1 : j = 1 := by have := hj.out; omega
      subst hj1
      have hz1 : z = 1 := by have := hz.out; omega
      subst hz1
      simp only [twF, twA, tw0, dirC, b1F] at hw
      subst hw
      have hLe : L = 1 := hL.out
      subst hLe
      clear hj hz hL
      go_wp2
      go_roundg 3
      case measure => omega
      case rel => exact ⟨2, 2, _, ⟨rfl⟩, ⟨by omega⟩, ⟨by omega⟩, rfl, rfl, rfl⟩
    · have hj0 : j = 0 := by have := hj.out; omega
      subst hj0
      have hz0 : z = 0 := by have := hz.out; omega
      subst hz0
      simp only [twF, twA, tw0, dirC, b1F] at hw
      subst hw
      have hLe : L = 1 := hL.out
      subst hLe
      clear hj hz hL
      go_wp2
      go_roundg 4
      case measure => omega
      case rel => exact ⟨1, 1, _, ⟨rfl⟩, ⟨by omega⟩, ⟨by omega⟩, rfl, rfl, rfl⟩
    · exact absurd hj.out (by omega)

set_option maxHeartbeats 2000000 in
set_option maxRecDepth 100000 in
theorem text_8D (w : World) :
    Calls Tryz.prog 39 #[.agg #[.bool false, .bool false, .bool false, .bool false, .bool false, .int .i64 8, .int .i64 0, .bool true, .bool false], .int .i32 100] w fun e w' => e = .returned (.string f8D) ∧ Below w.heap.size w w' := by
  go_enter Tryz.func39, Tryz.ntmps39
  go_wp2
  go_loopg [5, 29] 5 (fun kk v5 v29 wr => ∃ (j : Nat) (z : Int) (L : Nat), Aside0 (L = 1) ∧ Aside0 (j + kk = 5) ∧ Aside0 (z = j) ∧ v5 = .slice (some ⟨w.heap.size + 1, 0, none⟩) L 10 ∧ v29 = .int .i64 z ∧ wr = twF true 8 w j)
  case atStart => exact ⟨0, 0, 1, ⟨rfl⟩, ⟨by omega⟩, ⟨by omega⟩, rfl, rfl, rfl⟩
  case round =>
    obtain ⟨j, z, L, hL, hj, hz, rfl, rfl, hw⟩ := hrel
    rcases gk with _ | _ | _ | _ | _ | _ | kk
    · have hj5 : j = 5 := by have := hj.out; omega
      subst hj5
      have hz5 : z = 5 := by have := hz.out; omega
      subst hz5
      simp only [twF, twA, tw0, dirC, b1F] at hw
      subst hw
      have hLe : L = 1 := hL.out
      subst hLe
      clear hj hz hL
      go_wp2_with (first | (go_at_call 48; ((with_reducible refine (itoa8 _).mono ?_); rintro e w1 ⟨rfl, rfl⟩)) | (go_at_call 49; ((refine (join3 _ _ ⟨#[37]⟩ ⟨#[56]⟩ ⟨#[100]⟩ f8D (by simp; try omega) (by go_simp) (by go_simp) (by go_simp) (by decide) (by decide)).mono ?_); rintro e w2 ⟨rfl, hB2⟩)))
      go_ret
      refine ⟨rfl, below_then ?_ ?_ hB2⟩
      · repeat (first | exact Below.refl _ _ | refine bA ?_ _)
      · simp; omega
    · have hj4 : j = 4 := by have := hj.out; omega
      subst hj4
      have hz4 : z = 4 := by have := hz.out; omega
      subst hz4
      simp only [twF, twA, tw0, dirC, b1F] at hw
      subst hw
      have hLe : L = 1 := hL.out
      subst hLe
      clear hj hz hL
      go_wp2
      go_roundg 0
      case measure => omega
      case rel => exact ⟨5, 5, _, ⟨rfl⟩, ⟨by omega⟩, ⟨by omega⟩, rfl, rfl, rfl⟩
    · have hj3 : j = 3 := by have := hj.out; omega
      subst hj3
      have hz3 : z = 3 := by have := hz.out; omega
      subst hz3
      simp only [twF, twA, tw0, dirC, b1F] at hw
      subst hw
      have hLe : L = 1 := hL.out
      subst hLe
      clear hj hz hL
      go_wp2
      go_roundg 1
      case measure => omega
      case rel => exact ⟨4, 4, _, ⟨rfl⟩, ⟨by omega⟩, ⟨by omega⟩, rfl, rfl, rfl⟩
    · have hj2 : j = 2 := by have := hj.out; omega
      subst hj2
      have hz2 : z = 2 := by have := hz.out; omega
      subst hz2
      simp only [twF, twA, tw0, dirC, b1F] at hw
      subst hw
      have hLe : L = 1 := hL.out
      subst hLe
      clear hj hz hL
      go_wp2
      go_roundg 2
      case measure => omega
      case rel => exact ⟨3, 3, _, ⟨rfl⟩, ⟨by omega⟩, ⟨by omega⟩, rfl, rfl, rfl⟩
    · have hj1 : j = 1 := by have := hj.out; omega
      subst hj1
      have hz1 : z = 1 := by have := hz.out; omega
      subst hz1
      simp only [twF, twA, tw0, dirC, b1F] at hw
      subst hw
      have hLe : L = 1 := hL.out
      subst hLe
      clear hj hz hL
      go_wp2
      go_roundg 3
      case measure => omega
      case rel => exact ⟨2, 2, _, ⟨rfl⟩, ⟨by omega⟩, ⟨by omega⟩, rfl, rfl, rfl⟩
    · have hj0 : j = 0 := by have := hj.out; omega
      subst hj0
      have hz0 : z = 0 := by have := hz.out; omega
      subst hz0
      simp only [twF, twA, tw0, dirC, b1F] at hw
      subst hw
      have hLe : L = 1 := hL.out
      subst hLe
      clear hj hz hL
      go_wp2
      go_roundg 4
      case measure => omega
      case rel => exact ⟨1, 1, _, ⟨rfl⟩, ⟨by omega⟩, ⟨by omega⟩, rfl, rfl, rfl⟩
    · exact absurd hj.out (by omega)

set_option maxHeartbeats 2000000 in
set_option maxRecDepth 100000 in
theorem text_8S (w : World) :
    Calls Tryz.prog 39 #[.agg #[.bool false, .bool false, .bool false, .bool false, .bool false, .int .i64 8, .int .i64 0, .bool true, .bool false], .int .i32 115] w fun e w' => e = .returned (.string f8S) ∧ Below w.heap.size w w' := by
  go_enter Tryz.func39, Tryz.ntmps39
  go_wp2
  go_loopg [5, 29] 5 (fun kk v5 v29 wr => ∃ (j : Nat) (z : Int) (L : Nat), Aside0 (L = 1) ∧ Aside0 (j + kk = 5) ∧ Aside0 (z = j) ∧ v5 = .slice (some ⟨w.heap.size + 1, 0, none⟩) L 10 ∧ v29 = .int .i64 z ∧ wr = twF true 8 w j)
  case atStart => exact ⟨0, 0, 1, ⟨rfl⟩, ⟨by omega⟩, ⟨by omega⟩, rfl, rfl, rfl⟩
  case round =>
    obtain ⟨j, z, L, hL, hj, hz, rfl, rfl, hw⟩ := hrel
    rcases gk with _ | _ | _ | _ | _ | _ | kk
    · have hj5 : j = 5 := by have := hj.out; omega
      subst hj5
      have hz5 : z = 5 := by have := hz.out; omega
      subst hz5
      simp only [twF, twA, tw0, dirC, b1F] at hw
      subst hw
      have hLe : L = 1 := hL.out
      subst hLe
      clear hj hz hL
      go_wp2_with (first | (go_at_call 48; ((with_reducible refine (itoa8 _).mono ?_); rintro e w1 ⟨rfl, rfl⟩)) | (go_at_call 49; ((refine (join3 _ _ ⟨#[37]⟩ ⟨#[56]⟩ ⟨#[115]⟩ f8S (by simp; try omega) (by go_simp) (by go_simp) (by go_simp) (by decide) (by decide)).mono ?_); rintro e w2 ⟨rfl, hB2⟩)))
      go_ret
      refine ⟨rfl, below_then ?_ ?_ hB2⟩
      · repeat (first | exact Below.refl _ _ | refine bA ?_ _)
      · simp; omega
    · have hj4 : j = 4 := by have := hj.out; omega
      subst hj4
      have hz4 : z = 4 := by have := hz.out; omega
      subst hz4
      simp only [twF, twA, tw0, dirC, b1F] at hw
      subst hw
      have hLe : L = 1 := hL.out
      subst hLe
      clear hj hz hL
      go_wp2
      go_roundg 0
      case measure => omega
      case rel => exact ⟨5, 5, _, ⟨rfl⟩, ⟨by omega⟩, ⟨by omega⟩, rfl, rfl, rfl⟩
    · have hj3 : j = 3 := by have := hj.out; omega
      subst hj3
      have hz3 : z = 3 := by have := hz.out; omega
      subst hz3
      simp only [twF, twA, tw0, dirC, b1F] at hw
      subst hw
      have hLe : L = 1 := hL.out
      subst hLe
      clear hj hz hL
      go_wp2
      go_roundg 1
      case measure => omega
      case rel => exact ⟨4, 4, _, ⟨rfl⟩, ⟨by omega⟩, ⟨by omega⟩, rfl, rfl, rfl⟩
    · have hj2 : j = 2 := by have := hj.out; omega
      subst hj2
      have hz2 : z = 2 := by have := hz.out; omega
      subst hz2
      simp only [twF, twA, tw0, dirC, b1F] at hw
      subst hw
      have hLe : L = 1 := hL.out
      subst hLe
      clear hj hz hL
      go_wp2
      go_roundg 2
      case measure => omega
      case rel => exact ⟨3, 3, _, ⟨rfl⟩, ⟨by omega⟩, ⟨by omega⟩, rfl, rfl, rfl⟩
    · have hj1 : j = 1 := by have := hj.out; omega
      subst hj1
      have hz1 : z = 1 := by have := hz.out; omega
      subst hz1
      simp only [twF, twA, tw0, dirC, b1F] at hw
      subst hw
      have hLe : L = 1 := hL.out
      subst hLe
      clear hj hz hL
      go_wp2
      go_roundg 3
      case measure => omega
      case rel => exact ⟨2, 2, _, ⟨rfl⟩, ⟨by omega⟩, ⟨by omega⟩, rfl, rfl, rfl⟩
    · have hj0 : j = 0 := by have := hj.out; omega
      subst hj0
      have hz0 : z = 0 := by have := hz.out; omega
      subst hz0
      simp only [twF, twA, tw0, dirC, b1F] at hw
      subst hw
      have hLe : L = 1 := hL.out
      subst hLe
      clear hj hz hL
      go_wp2
      go_roundg 4
      case measure => omega
      case rel => exact ⟨1, 1, _, ⟨rfl⟩, ⟨by omega⟩, ⟨by omega⟩, rfl, rfl, rfl⟩
    · exact absurd hj.out (by omega)

set_option maxHeartbeats 2000000 in
set_option maxRecDepth 100000 in
theorem text_m8D (w : World) :
    Calls Tryz.prog 39 #[.agg #[.bool true, .bool false, .bool false, .bool false, .bool false, .int .i64 8, .int .i64 0, .bool true, .bool false], .int .i32 100] w fun e w' => e = .returned (.string fm8D) ∧ Below w.heap.size w w' := by
  go_enter Tryz.func39, Tryz.ntmps39
  go_wp2
  go_loopg [5, 29] 5 (fun kk v5 v29 wr => ∃ (j : Nat) (z : Int) (L : Nat), Aside0 (L = (lnT j)) ∧ Aside0 (j + kk = 5) ∧ Aside0 (z = j) ∧ v5 = .slice (some ⟨w.heap.size + 1, 0, none⟩) L 10 ∧ v29 = .int .i64 z ∧ wr = twT w j)
  case atStart => exact ⟨0, 0, 1, ⟨rfl⟩, ⟨by omega⟩, ⟨by omega⟩, rfl, rfl, rfl⟩
  case round =>
    obtain ⟨j, z, L, hL, hj, hz, rfl, rfl, hw⟩ := hrel
    rcases gk with _ | _ | _ | _ | _ | _ | kk
    · have hj5 : j = 5 := by have := hj.out; omega
      subst hj5
      have hz5 : z = 5 := by have := hz.out; omega
      subst hz5
      simp only [twT, lnT, twA, tw0, dirC, b1F, b1T] at hw
      subst hw
      have hLe : L = 2 := hL.out
      subst hLe
      clear hj hz hL
      go_wp2_with (first | (go_at_call 48; ((with_reducible refine (itoa8 _).mono ?_); rintro e w1 ⟨rfl, rfl⟩)) | (go_at_call 49; ((refine (join4 _ _ ⟨#[37]⟩ ⟨#[45]⟩ ⟨#[56]⟩ ⟨#[100]⟩ fm8D (by simp; try omega) (by go_simp) (by go_simp) (by go_simp) (by go_simp) (by decide) (by decide)).mono ?_); rintro e w2 ⟨rfl, hB2⟩)))
      go_ret
      refine ⟨rfl, below_then ?_ ?_ hB2⟩
      · repeat (first | exact Below.refl _ _ | refine bA ?_ _)
      · simp; omega
    · have hj4 : j = 4 := by have := hj.out; omega
      subst hj4
      have hz4 : z = 4 := by have := hz.out; omega
      subst hz4
      simp only [twT, lnT, twA, tw0, dirC, b1F, b1T] at hw
      subst hw
      have hLe : L = 2 := hL.out
      subst hLe
      clear hj hz hL
      go_wp2
      go_roundg 0
      case measure => omega
      case rel => exact ⟨5, 5, _, ⟨rfl⟩, ⟨by omega⟩, ⟨by omega⟩, rfl, rfl, rfl⟩
    · have hj3 : j = 3 := by have := hj.out; omega
      subst hj3
      have hz3 : z = 3 := by have := hz.out; omega
      subst hz3
      simp only [twT, lnT, twA, tw0, dirC, b1F, b1T] at hw
      subst hw
      have hLe : L = 1 := hL.out
      subst hLe
      clear hj hz hL
      go_wp2
      go_roundg 1
      case measure => omega
      case rel => exact ⟨4, 4, _, ⟨rfl⟩, ⟨by omega⟩, ⟨by omega⟩, rfl, rfl, rfl⟩
    · have hj2 : j = 2 := by have := hj.out; omega
      subst hj2
      have hz2 : z = 2 := by have := hz.out; omega
      subst hz2
      simp only [twT, lnT, twA, tw0, dirC, b1F, b1T] at hw
      subst hw
      have hLe : L = 1 := hL.out
      subst hLe
      clear hj hz hL
      go_wp2
      go_roundg 2
      case measure => omega
      case rel => exact ⟨3, 3, _, ⟨rfl⟩, ⟨by omega⟩, ⟨by omega⟩, rfl, rfl, rfl⟩
    · have hj1 : j = 1 := by have := hj.out; omega
      subst hj1
      have hz1 : z = 1 := by have := hz.out; omega
      subst hz1
      simp only [twT, lnT, twA, tw0, dirC, b1F, b1T] at hw
      subst hw
      have hLe : L = 1 := hL.out
      subst hLe
      clear hj hz hL
      go_wp2
      go_roundg 3
      case measure => omega
      case rel => exact ⟨2, 2, _, ⟨rfl⟩, ⟨by omega⟩, ⟨by omega⟩, rfl, rfl, rfl⟩
    · have hj0 : j = 0 := by have := hj.out; omega
      subst hj0
      have hz0 : z = 0 := by have := hz.out; omega
      subst hz0
      simp only [twT, lnT, twA, tw0, dirC, b1F, b1T] at hw
      subst hw
      have hLe : L = 1 := hL.out
      subst hLe
      clear hj hz hL
      go_wp2
      go_roundg 4
      case measure => omega
      case rel => exact ⟨1, 1, _, ⟨rfl⟩, ⟨by omega⟩, ⟨by omega⟩, rfl, rfl, rfl⟩
    · exact absurd hj.out (by omega)

set_option maxHeartbeats 2000000 in
set_option maxRecDepth 100000 in
theorem text_m8S (w : World) :
    Calls Tryz.prog 39 #[.agg #[.bool true, .bool false, .bool false, .bool false, .bool false, .int .i64 8, .int .i64 0, .bool true, .bool false], .int .i32 115] w fun e w' => e = .returned (.string fm8S) ∧ Below w.heap.size w w' := by
  go_enter Tryz.func39, Tryz.ntmps39
  go_wp2
  go_loopg [5, 29] 5 (fun kk v5 v29 wr => ∃ (j : Nat) (z : Int) (L : Nat), Aside0 (L = (lnT j)) ∧ Aside0 (j + kk = 5) ∧ Aside0 (z = j) ∧ v5 = .slice (some ⟨w.heap.size + 1, 0, none⟩) L 10 ∧ v29 = .int .i64 z ∧ wr = twT w j)
  case atStart => exact ⟨0, 0, 1, ⟨rfl⟩, ⟨by omega⟩, ⟨by omega⟩, rfl, rfl, rfl⟩
  case round =>
    obtain ⟨j, z, L, hL, hj, hz, rfl, rfl, hw⟩ := hrel
    rcases gk with _ | _ | _ | _ | _ | _ | kk
    · have hj5 : j = 5 := by have := hj.out; omega
      subst hj5
      have hz5 : z = 5 := by have := hz.out; omega
      subst hz5
      simp only [twT, lnT, twA, tw0, dirC, b1F, b1T] at hw
      subst hw
      have hLe : L = 2 := hL.out
      subst hLe
      clear hj hz hL
      go_wp2_with (first | (go_at_call 48; ((with_reducible refine (itoa8 _).mono ?_); rintro e w1 ⟨rfl, rfl⟩)) | (go_at_call 49; ((refine (join4 _ _ ⟨#[37]⟩ ⟨#[45]⟩ ⟨#[56]⟩ ⟨#[115]⟩ fm8S (by simp; try omega) (by go_simp) (by go_simp) (by go_simp) (by go_simp) (by decide) (by decide)).mono ?_); rintro e w2 ⟨rfl, hB2⟩)))
      go_ret
      refine ⟨rfl, below_then ?_ ?_ hB2⟩
      · repeat (first | exact Below.refl _ _ | refine bA ?_ _)
      · simp; omega
    · have hj4 : j = 4 := by have := hj.out; omega
      subst hj4
      have hz4 : z = 4 := by have := hz.out; omega
      subst hz4
      simp only [twT, lnT, twA, tw0, dirC, b1F, b1T] at hw
      subst hw
      have hLe : L = 2 := hL.out
      subst hLe
      clear hj hz hL
      go_wp2
      go_roundg 0
      case measure => omega
      case rel => exact ⟨5, 5, _, ⟨rfl⟩, ⟨by omega⟩, ⟨by omega⟩, rfl, rfl, rfl⟩
    · have hj3 : j = 3 := by have := hj.out; omega
      subst hj3
      have hz3 : z = 3 := by have := hz.out; omega
      subst hz3
      simp only [twT, lnT, twA, tw0, dirC, b1F, b1T] at hw
      subst hw
      have hLe : L = 1 := hL.out
      subst hLe
      clear hj hz hL
      go_wp2
      go_roundg 1
      case measure => omega
      case rel => exact ⟨4, 4, _, ⟨rfl⟩, ⟨by omega⟩, ⟨by omega⟩, rfl, rfl, rfl⟩
    · have hj2 : j = 2 := by have := hj.out; omega
      subst hj2
      have hz2 : z = 2 := by have := hz.out; omega
      subst hz2
      simp only [twT, lnT, twA, tw0, dirC, b1F, b1T] at hw
      subst hw
      have hLe : L = 1 := hL.out
      subst hLe
      clear hj hz hL
      go_wp2
      go_roundg 2
      case measure => omega
      case rel => exact ⟨3, 3, _, ⟨rfl⟩, ⟨by omega⟩, ⟨by omega⟩, rfl, rfl, rfl⟩
    · have hj1 : j = 1 := by have := hj.out; omega
      subst hj1
      have hz1 : z = 1 := by have := hz.out; omega
      subst hz1
      simp only [twT, lnT, twA, tw0, dirC, b1F, b1T] at hw
      subst hw
      have hLe : L = 1 := hL.out
      subst hLe
      clear hj hz hL
      go_wp2
      go_roundg 3
      case measure => omega
      case rel => exact ⟨2, 2, _, ⟨rfl⟩, ⟨by omega⟩, ⟨by omega⟩, rfl, rfl, rfl⟩
    · have hj0 : j = 0 := by have := hj.out; omega
      subst hj0
      have hz0 : z = 0 := by have := hz.out; omega
      subst hz0
      simp only [twT, lnT, twA, tw0, dirC, b1F, b1T] at hw
      subst hw
      have hLe : L = 1 := hL.out
      subst hLe
      clear hj hz hL
      go_wp2
      go_roundg 4
      case measure => omega
      case rel => exact ⟨1, 1, _, ⟨rfl⟩, ⟨by omega⟩, ⟨by omega⟩, rfl, rfl, rfl⟩
    · exact absurd hj.out (by omega)
end Go.Proofs.YtfkpbkjokapijaaGreatFmt.PQ
