/- zzTrim: both sides. -/
import Derived.Test.YtfkpbkjokapijaaGreatFmtPQ1
import Derived.Laws.RangeAny
import Derived.Lib.OthersKept
import Derived.Test.YtfkpbkjokapijaaGreatFmtSafe3
/- zzTrim: what it cuts off. -/
namespace Go.Proofs.YtfkpbkjokapijaaGreatFmt.PQ
open Go.RowKit Go.Proofs.YtfkpbkjokapijaaGreatFmtW.PrintWords
set_option linter.unusedVariables false
set_option linter.unusedSimpArgs false

/-- The blanks that a numeral may stand between. -/
def blanks3 : ByteArray := ⟨#[32, 9, 10]⟩
def isB (c : Int) : Bool := c == 32 || c == 9 || c == 10

set_option maxHeartbeats 2000000 in
set_option maxRecDepth 100000 in
theorem inSet_any (c : Int) (w : World) : Calls Tryz.prog 40 #[.int .i32 c, .string blanks3] w fun en w' => en = .returned (.bool (isB c)) ∧ Below w.heap.size w w' := by
  obtain ⟨b, hb⟩ : ∃ b, isB c = b := ⟨_, rfl⟩
  rw [hb]
  replace hb := Aside0.mk hb
  obtain ⟨set, hset⟩ : ∃ s, blanks3 = s := ⟨_, rfl⟩
  have hz : set.size = 3 := by rw [← hset]; rfl
  rw [hset]
  go_enter Tryz.func40, Tryz.ntmps40
  go_wp2
  go_loopg [] 3 (fun kk wr => ∃ pos : Nat, Aside0 (kk + pos = 3) ∧ wr.heap[w.heap.size]? = some (.stringIter set pos) ∧ Below w.heap.size w wr ∧ Aside0 ((0 < pos → c ≠ 32) ∧ (1 < pos → c ≠ 9) ∧ (2 < pos → c ≠ 10)))
  case atStart => exact ⟨0, ⟨rfl⟩, World.iter_heap w set 0, (Below.refl _ w).alloc (Nat.le_refl _) _, ⟨by omega, by omega, by omega⟩⟩
  case round =>
    obtain ⟨pos, hk, hit, hbw, hns⟩ := hrel
    obtain ⟨a1, a2, a3⟩ := hns.out
    have hsz : w.heap.size < wr.heap.size := (Array.getElem?_eq_some_iff.1 hit).1
    rcases gk with _ | _ | _ | _ | kk
    · have hp : pos = 3 := by have := hk.out; omega
      subst hp
      have hnx : ∀ ty, (Instr.next (.pointer (some ⟨w.heap.size, 0, none⟩)) true ty).run Tryz.prog wr = _ := fun ty => Lib.run_next_end_at wr w.heap.size set 3 ty hit (by omega)
      have e : b = false := by
        have := hb.out
        rw [← this, isB]
        simp only [Bool.or_eq_false_iff, beq_eq_false_iff_ne]
        exact ⟨⟨a1 (by omega), a2 (by omega)⟩, a3 (by omega)⟩
      subst e
      clear a1 a2 a3
      go_wp2
      go_ret
      exact ⟨rfl, hbw⟩
    · have hp : pos = 2 := by have := hk.out; omega
      subst hp
      have hd : Utf8.decode set 2 = (10, 1) := by rw [← hset]; decide
      have hnx : ∀ ty, (Instr.next (.pointer (some ⟨w.heap.size, 0, none⟩)) true ty).run Tryz.prog wr = .ok (.tuple #[.bool true, .int .i64 2, .int .i32 10]) (wr.iterAt w.heap.size set 3) := by
        intro ty
        have := Lib.run_next_any_at (P := Tryz.prog) wr w.heap.size set 2 ty hit (by omega)
        rw [hd] at this
        exact this
      have hit2 := Lib.iterAt_heap wr w.heap.size set 2 3 hit
      have hbw2 := Lib.below_iterAt hbw (k := w.heap.size) (Nat.le_refl _) set 3
      by_cases hc : c = 10
      · have hcb : (c == 10) = true := beq_iff_eq.mpr hc
        have e : b = true := by
          have := hb.out
          rw [← this, isB, hc]; rfl
        subst e
        clear hc a1 a2 a3
        go_wp2
        go_ret
        exact ⟨rfl, hbw2⟩
      · have hcb : (c == 10) = false := beq_eq_false_iff_ne.mpr hc
        have hns' : Aside0 ((0 < 3 → c ≠ 32) ∧ (1 < 3 → c ≠ 9) ∧ (2 < 3 → c ≠ 10)) := ⟨⟨fun _ => a1 (by omega), fun _ => a2 (by omega), fun _ => hc⟩⟩
        clear hc a1 a2 a3
        go_wp2
        go_roundg 0
        case measure => omega
        case rel => exact ⟨3, ⟨by omega⟩, hit2, hbw2, hns'⟩
    · have hp : pos = 1 := by have := hk.out; omega
      subst hp
      have hd : Utf8.decode set 1 = (9, 1) := by rw [← hset]; decide
      have hnx : ∀ ty, (Instr.next (.pointer (some ⟨w.heap.size, 0, none⟩)) true ty).run Tryz.prog wr = .ok (.tuple #[.bool true, .int .i64 1, .int .i32 9]) (wr.iterAt w.heap.size set 2) := by
        intro ty
        have := Lib.run_next_any_at (P := Tryz.prog) wr w.heap.size set 1 ty hit (by omega)
        rw [hd] at this
        exact this
      have hit2 := Lib.iterAt_heap wr w.heap.size set 1 2 hit
      have hbw2 := Lib.below_iterAt hbw (k := w.heap.size) (Nat.le_refl _) set 2
      by_cases hc : c = 9
      · have hcb : (c == 9) = true := beq_iff_eq.mpr hc
        have e : b = true := by
          have := hb.out
          rw [← this, isB, hc]; rfl
        subst e
        clear hc a1 a2 a3
        go_wp2
        go_ret
        exact ⟨rfl, hbw2⟩
      · have hcb : (c == 9) = false := beq_eq_false_iff_ne.mpr hc
        have hns' : Aside0 ((0 < 2 → c ≠ 32) ∧ (1 < 2 → c ≠ 9) ∧ (2 < 2 → c ≠ 10)) := ⟨⟨fun _ => a1 (by omega), fun _ => hc, fun h => absurd h (by omega)⟩⟩
        clear hc a1 a2 a3
        go_wp2
        go_roundg 1
        case measure => omega
        case rel => exact ⟨2, ⟨by omega⟩, hit2, hbw2, hns'⟩
    · have hp : pos = 0 := by have := hk.out; omega
      subst hp
      have hd : Utf8.decode set 0 = (32, 1) := by rw [← hset]; decide
      have hnx : ∀ ty, (Instr.next (.pointer (some ⟨w.heap.size, 0, none⟩)) true ty).run Tryz.prog wr = .ok (.tuple #[.bool true, .int .i64 0, .int .i32 32]) (wr.iterAt w.heap.size set 1) := by
        intro ty
        have := Lib.run_next_any_at (P := Tryz.prog) wr w.heap.size set 0 ty hit (by omega)
        rw [hd] at this
        exact this
      have hit2 := Lib.iterAt_heap wr w.heap.size set 0 1 hit
      have hbw2 := Lib.below_iterAt hbw (k := w.heap.size) (Nat.le_refl _) set 1
      by_cases hc : c = 32
      · have hcb : (c == 32) = true := beq_iff_eq.mpr hc
        have e : b = true := by
          have := hb.out
          rw [← this, isB, hc]; rfl
        subst e
        clear hc a1 a2 a3
        go_wp2
        go_ret
        exact ⟨rfl, hbw2⟩
      · have hcb : (c == 32) = false := beq_eq_false_iff_ne.mpr hc
        have hns' : Aside0 ((0 < 1 → c ≠ 32) ∧ (1 < 1 → c ≠ 9) ∧ (2 < 1 → c ≠ 10)) := ⟨⟨fun _ => hc, fun h => absurd h (by omega), fun h => absurd h (by omega)⟩⟩
        clear hc a1 a2 a3
        go_wp2
        go_roundg 2
        case measure => omega
        case rel => exact ⟨1, ⟨by omega⟩, hit2, hbw2, hns'⟩
    · exact absurd hk.out (by omega)
end Go.Proofs.YtfkpbkjokapijaaGreatFmt.PQ
/- zzTrim: what it cuts off, on the left. -/
namespace Go.Proofs.YtfkpbkjokapijaaGreatFmt.PQ
open Go.RowKit Go.Proofs.YtfkpbkjokapijaaGreatFmtW.PrintWords
set_option linter.unusedVariables false
set_option linter.unusedSimpArgs false

theorem width1 (s : ByteArray) (pos : Nat) (h : pos < s.size) : 1 ≤ (Utf8.decode s pos).2 := by
  by_cases ha : (s[pos]'h).toNat < 128
  · rw [decode_ascii s pos h ha]; exact Nat.le_refl _
  · exact (decode_high s pos h (by omega)).2
def tl (s : ByteArray) : Nat → Nat → ByteArray
  | 0, _ => ByteArray.empty
  | f + 1, pos => if pos < s.size then (if isB ((Utf8.decode s pos).1 : Int) then tl s f (pos + (Utf8.decode s pos).2) else s.extract pos s.size) else ByteArray.empty
theorem tl_size (s : ByteArray) : ∀ f pos, (tl s f pos).size ≤ s.size
  | 0, _ => by rw [tl]; exact Nat.zero_le _
  | f + 1, pos => by
    rw [tl]
    split
    · split
      · exact tl_size s f _
      · rw [ByteArray.size_extract]; omega
    · exact Nat.zero_le _

set_option maxHeartbeats 2000000 in
set_option maxRecDepth 100000 in
theorem trimLeft_any (s : ByteArray) (hs : s.size ≤ 1000000) (w : World) : Calls Tryz.prog 31 #[.string s, .string blanks3] w fun en w' => en = .returned (.string (tl s s.size 0)) ∧ Below w.heap.size w w' := by
  obtain ⟨R, hR⟩ : ∃ R, tl s s.size 0 = R := ⟨_, rfl⟩
  rw [hR]
  replace hR := Aside0.mk hR
  obtain ⟨set, hset⟩ : ∃ s, blanks3 = s := ⟨_, rfl⟩
  have hin := inSet_any
  rw [hset] at hin ⊢
  replace hin := Aside0.mk hin
  clear hset
  go_enter Tryz.func31, Tryz.ntmps31
  go_wp2
  go_loopg [] s.size (fun kk wr => ∃ pos : Nat, Aside0 (s.size ≤ pos + kk) ∧ Aside0 (tl s kk pos = R) ∧ wr.heap[w.heap.size]? = some (.stringIter s pos) ∧ Below w.heap.size w wr)
  case atStart => exact ⟨0, ⟨by omega⟩, hR, World.iter_heap w s 0, (Below.refl _ w).alloc (Nat.le_refl _) _⟩
  case round =>
    clear hR
    obtain ⟨pos, hk, hR, hit, hbw⟩ := hrel
    have hsz : w.heap.size < wr.heap.size := (Array.getElem?_eq_some_iff.1 hit).1
    by_cases hp : pos < s.size
    · obtain ⟨kk, rfl⟩ : ∃ kk, gk = kk + 1 := ⟨gk - 1, by have := hk.out; omega⟩
      have hw1 := width1 s pos hp
      have hd1 := decode_le s pos
      have H := hR.out
      rw [tl, if_pos hp] at H
      have hnx : ∀ ty, (Instr.next (.pointer (some ⟨w.heap.size, 0, none⟩)) true ty).run Tryz.prog wr = _ := fun ty => Lib.run_next_any_at wr w.heap.size s pos ty hit hp
      obtain ⟨wd, hwd⟩ : ∃ wd, (Utf8.decode s pos).2 = wd := ⟨_, rfl⟩
      obtain ⟨r, hr⟩ : ∃ r, (Utf8.decode s pos).1 = r := ⟨_, rfl⟩
      rw [hwd] at hw1 H
      simp only [hwd, hr] at hnx
      rw [hr] at hd1 H
      have hit2 := Lib.iterAt_heap wr w.heap.size s pos (pos + wd) hit
      have hbw2 := Lib.below_iterAt hbw (k := w.heap.size) (Nat.le_refl _) s (pos + wd)
      have hsz2 : w.heap.size < (wr.iterAt w.heap.size s (pos + wd)).heap.size := by rw [Lib.iterAt_size]; exact hsz
      have hI := hin.out (r : Int)
      cases hb : isB (r : Int)
      · rw [hb] at H hI
        rw [if_neg (by decide)] at H
        subst H
        replace hI := Aside0.mk hI
        clear hR
        go_wp2_with (first | (go_at_call 40; ((with_reducible refine (hI.out _).mono ?_); rintro e w2 ⟨rfl, hB2⟩)))
        go_ret
        exact ⟨rfl, below_then hbw2 (Nat.le_of_lt hsz2) hB2⟩
      · rw [hb] at H hI
        rw [if_pos rfl] at H
        replace hI := Aside0.mk hI
        have H' := Aside0.mk H
        clear hR H
        go_wp2_with (first | (go_at_call 40; ((with_reducible refine (hI.out _).mono ?_); rintro e w2 ⟨rfl, hB2⟩)))
        go_roundg kk
        case measure => omega
        case rel => exact ⟨pos + wd, ⟨by have := hk.out; omega⟩, H', (hB2.block _ hsz2).trans hit2, below_then hbw2 (Nat.le_of_lt hsz2) hB2⟩
    · have hnx : ∀ ty, (Instr.next (.pointer (some ⟨w.heap.size, 0, none⟩)) true ty).run Tryz.prog wr = _ := fun ty => Lib.run_next_end_at wr w.heap.size s pos ty hit hp
      have hRe : R = ByteArray.empty := by
        have := hR.out
        rcases gk with _ | kk
        · rw [← this, tl]
        · rw [← this, tl, if_neg hp]
      subst hRe
      clear hR hp
      go_wp2
      go_ret
      exact ⟨rfl, hbw⟩
end Go.Proofs.YtfkpbkjokapijaaGreatFmt.PQ
namespace Go.Proofs.YtfkpbkjokapijaaGreatFmt.PQ
open Go.RowKit Go.Proofs.YtfkpbkjokapijaaGreatFmtW.PrintWords
set_option linter.unusedVariables false
set_option linter.unusedSimpArgs false

theorem tr_in (t set : ByteArray) (ht : t.size ≤ 1000000) (hset : set.size = 3) (x5 : Int) (h0 : 0 < x5) (h1 : x5 ≤ t.size) (K : Nat)
    (ih : ∀ k, K ≤ k → ∃ r, gopher_lua_zzTrimRight.l0 k t set (x5 - 1) = some r ∧ r.size ≤ t.size) :
    ∀ (m k : Nat) (x6 : Bool) (x7 : Int), 0 ≤ x7 → x7 + m = 3 → K + m + 1 ≤ k → ∃ r, gopher_lua_zzTrimRight.l1 k t set x5 x6 x7 = some r ∧ r.size ≤ t.size := by
  intro m
  induction m with
  | zero =>
    intro k x6 x7 a b hk
    obtain ⟨k, rfl⟩ : ∃ j, k = j + 1 := ⟨k - 1, by omega⟩
    rw [gopher_lua_zzTrimRight.l1, if_neg (by omega), w64_id (x := x5 - 1) (by omega) (by omega)]
    split
    · exact ih _ (by omega)
    · repeat rw [if_pos (by omega)]
      exact ⟨_, rfl, by rw [ByteArray.size_extract]; omega⟩
  | succ m im =>
    intro k x6 x7 a b hk
    obtain ⟨k, rfl⟩ : ∃ j, k = j + 1 := ⟨k - 1, by omega⟩
    rw [gopher_lua_zzTrimRight.l1, if_pos (by omega), if_pos a, w64_id (x := x5 - 1) (by omega) (by omega), w64_id (x := x7 + 1) (by omega) (by omega), if_pos (by omega), if_pos (by omega)]
    split
    · exact im _ _ _ (by omega) (by omega) (by omega)
    · exact im _ _ _ (by omega) (by omega) (by omega)
theorem tr_l0 (t set : ByteArray) (ht : t.size ≤ 1000000) (hset : set.size = 3) : ∀ (n k : Nat) (x5 : Int), 0 ≤ x5 → x5 ≤ t.size → x5 ≤ n → 6 * n + 2 ≤ k → ∃ r, gopher_lua_zzTrimRight.l0 k t set x5 = some r ∧ r.size ≤ t.size := by
  intro n
  induction n with
  | zero =>
    intro k x5 a b c hk
    obtain ⟨k, rfl⟩ : ∃ j, k = j + 1 := ⟨k - 1, by omega⟩
    rw [gopher_lua_zzTrimRight.l0, if_neg (by omega), if_pos (by omega), if_pos (by omega)]
    exact ⟨_, rfl, by rw [ByteArray.size_extract]; omega⟩
  | succ n ih =>
    intro k x5 a b c hk
    obtain ⟨k, rfl⟩ : ∃ j, k = j + 1 := ⟨k - 1, by omega⟩
    rw [gopher_lua_zzTrimRight.l0]
    split
    · exact tr_in t set ht hset x5 (by omega) b (6 * n + 2) (fun k hk => ih k _ (by omega) (by omega) (by omega) hk) 3 k false 0 (by omega) (by omega) (by omega)
    · repeat rw [if_pos (by omega)]
      exact ⟨_, rfl, by rw [ByteArray.size_extract]; omega⟩
theorem trimRight_any (t : ByteArray) (ht : t.size ≤ 1000000) : ∃ r : ByteArray, r.size ≤ t.size ∧ ∀ w : World, Calls Tryz.prog 30 #[.string t, .string blanks3] w fun e w' => e = .returned (.string r) ∧ Drawn0 w w' := by
  obtain ⟨r, h, hr⟩ := tr_l0 t blanks3 ht rfl t.size (6 * t.size + 2) t.size (by omega) (by omega) (by omega) (Nat.le_refl _)
  exact ⟨r, hr, fun w => gopher_lua_zzTrimRight.calls _ _ _ _ w h⟩

set_option maxHeartbeats 1000000 in
set_option maxRecDepth 100000 in
theorem trim18_any (s : ByteArray) (hs : s.size ≤ 1000000) : ∃ r : ByteArray, r.size ≤ s.size ∧ ∀ w : World, Calls Tryz.prog 18 #[.string s, .string blanks3] w fun e w' => e = .returned (.string r) ∧ Below w.heap.size w w' := by
  have hL := trimLeft_any s hs
  have hz := tl_size s s.size 0
  obtain ⟨t, ht⟩ : ∃ t, tl s s.size 0 = t := ⟨_, rfl⟩
  rw [ht] at hL hz
  obtain ⟨r, hr, hR⟩ := trimRight_any t (by omega)
  refine ⟨r, by omega, fun w => ?_⟩
  clear ht hs
  obtain ⟨set, hset⟩ : ∃ s, blanks3 = s := ⟨_, rfl⟩
  rw [hset] at hL hR ⊢
  clear hset
  replace hL := Aside0.mk hL
  replace hR := Aside0.mk hR
  go_enter Tryz.func18, Tryz.ntmps18
  go_wp2_with (first | (go_at_call 31; ((with_reducible refine (hL.out _).mono ?_); rintro e w1 ⟨rfl, hB1⟩)) | (go_at_call 30; ((with_reducible refine (hR.out _).mono ?_); rintro e w2 ⟨rfl, hD2⟩)))
  go_ret
  exact ⟨rfl, below_then hB1 hB1.size hD2.below⟩
end Go.Proofs.YtfkpbkjokapijaaGreatFmt.PQ
