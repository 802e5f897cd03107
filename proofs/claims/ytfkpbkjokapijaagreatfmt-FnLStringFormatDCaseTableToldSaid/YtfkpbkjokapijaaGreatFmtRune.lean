/- The law's own count of runes is the decoder's. -/
import Derived.Test.YtfkpbkjokapijaaGreatFmtPQ4
import Derived.Test.YtfkpbkjokapijaaGreatFmtSafe3
import Derived.Lib.DecodeN
import Derived.Stop.FmtTextVerbs
import Derived.Stop.FmtTextWidths
namespace Go.Proofs.YtfkpbkjokapijaaGreatFmt.PQ
open Go.RowKit Go.Proofs.YtfkpbkjokapijaaGreatFmtW.PrintWords
set_option linter.unusedVariables false
set_option linter.unusedSimpArgs false
/-- What the law's reader answers behind the first byte: m bytes are left. -/
def tw (m need lo hi g1 g2 g3 : Int) : Int :=
  if m < need + 1 then 1 else if g1 < lo then 1 else if g1 > hi then 1 else if need = 1 then 2 else if g2 < 128 then 1 else if g2 > 191 then 1 else if need = 2 then 3 else if g3 < 128 then 1 else if g3 > 191 then 1 else 4
def rw1 (m g0 g1 g2 g3 : Int) : Int :=
  if g0 < 128 then 1 else if 194 ≤ g0 ∧ g0 ≤ 223 then tw m 1 128 191 g1 g2 g3 else if g0 = 224 then tw m 2 160 191 g1 g2 g3 else if 225 ≤ g0 ∧ g0 ≤ 236 then tw m 2 128 191 g1 g2 g3
  else if g0 = 237 then tw m 2 128 159 g1 g2 g3 else if 238 ≤ g0 ∧ g0 ≤ 239 then tw m 2 128 191 g1 g2 g3 else if g0 = 240 then tw m 3 144 191 g1 g2 g3 else if 241 ≤ g0 ∧ g0 ≤ 243 then tw m 3 128 191 g1 g2 g3
  else if g0 = 244 then tw m 3 128 143 g1 g2 g3 else 1
set_option maxHeartbeats 1000000 in
theorem rl_j41 (k : Nat) (s : ByteArray) (hs : s.size ≤ 1000000) (i : Nat) (hi : i < s.size) (lo hi' : Int) :
    n005_152_zzRuneLen.j4 (k + 6) s i 1 lo hi' = some (tw ((s.size : Int) - i) 1 lo hi' (bt s ((i : Int) + 1)) (bt s ((i : Int) + 2)) (bt s ((i : Int) + 3))) := by
  have w1 : wrap64 ((s.size : Int) - i) = (s.size : Int) - i := w64_id (by omega) (by omega)
  have w2 : wrap64 2 = 2 := w64_id (by omega) (by omega)
  have w3 : wrap64 ((i : Int) + 1) = (i : Int) + 1 := w64_id (by omega) (by omega)
  simp only [n005_152_zzRuneLen.j4, n005_152_zzRuneLen.j5, n005_152_zzRuneLen.l0, w1, w3, Int.reduceAdd, w2, tw, decide_eq_true_eq]
  generalize bt s ((i : Int) + 1) = g1
  by_cases a : (s.size : Int) - i < 2 <;> by_cases b : g1 < lo <;> by_cases c : g1 > hi'
  all_goals repeat (first | rw [if_pos (by omega)] | rw [if_neg (by omega)] | rw [if_pos trivial] | rw [if_pos rfl] | rw [if_neg (by decide)])
set_option maxHeartbeats 1000000 in
theorem rl_j42 (k : Nat) (s : ByteArray) (hs : s.size ≤ 1000000) (i : Nat) (hi : i < s.size) (lo hi' : Int) :
    n005_152_zzRuneLen.j4 (k + 6) s i 2 lo hi' = some (tw ((s.size : Int) - i) 2 lo hi' (bt s ((i : Int) + 1)) (bt s ((i : Int) + 2)) (bt s ((i : Int) + 3))) := by
  have w1 : wrap64 ((s.size : Int) - i) = (s.size : Int) - i := w64_id (by omega) (by omega)
  have w2 : wrap64 3 = 3 := w64_id (by omega) (by omega)
  have w3 : wrap64 ((i : Int) + 1) = (i : Int) + 1 := w64_id (by omega) (by omega)
  have w4 : wrap64 ((i : Int) + 2) = (i : Int) + 2 := w64_id (by omega) (by omega)
  simp only [n005_152_zzRuneLen.j4, n005_152_zzRuneLen.j5, n005_152_zzRuneLen.l0, w1, w3, w4, Int.reduceAdd, w2, tw, decide_eq_true_eq]
  generalize bt s ((i : Int) + 1) = g1
  generalize bt s ((i : Int) + 2) = g2
  by_cases a : (s.size : Int) - i < 3 <;> by_cases b : g1 < lo <;> by_cases c : g1 > hi' <;> by_cases d : g2 < 128 <;> by_cases e : g2 > 191
  all_goals repeat (first | rw [if_pos (by omega)] | rw [if_neg (by omega)] | rw [if_pos trivial] | rw [if_pos rfl] | rw [if_neg (by decide)])
set_option maxHeartbeats 1000000 in
theorem rl_j43 (k : Nat) (s : ByteArray) (hs : s.size ≤ 1000000) (i : Nat) (hi : i < s.size) (lo hi' : Int) :
    n005_152_zzRuneLen.j4 (k + 6) s i 3 lo hi' = some (tw ((s.size : Int) - i) 3 lo hi' (bt s ((i : Int) + 1)) (bt s ((i : Int) + 2)) (bt s ((i : Int) + 3))) := by
  have w1 : wrap64 ((s.size : Int) - i) = (s.size : Int) - i := w64_id (by omega) (by omega)
  have w2 : wrap64 4 = 4 := w64_id (by omega) (by omega)
  have w6 : wrap64 3 = 3 := w64_id (by omega) (by omega)
  have w3 : wrap64 ((i : Int) + 1) = (i : Int) + 1 := w64_id (by omega) (by omega)
  have w4 : wrap64 ((i : Int) + 2) = (i : Int) + 2 := w64_id (by omega) (by omega)
  have w5 : wrap64 ((i : Int) + 3) = (i : Int) + 3 := w64_id (by omega) (by omega)
  simp only [n005_152_zzRuneLen.j4, n005_152_zzRuneLen.j5, n005_152_zzRuneLen.l0, w1, w3, w4, w5, Int.reduceAdd, w2, w6, tw, decide_eq_true_eq]
  generalize bt s ((i : Int) + 1) = g1
  generalize bt s ((i : Int) + 2) = g2
  generalize bt s ((i : Int) + 3) = g3
  by_cases a : (s.size : Int) - i < 4
  · repeat (first | rw [if_pos (by omega)] | rw [if_neg (by omega)] | rw [if_pos trivial] | rw [if_pos rfl] | rw [if_neg (by decide)])
  by_cases b : g1 < lo
  · repeat (first | rw [if_pos (by omega)] | rw [if_neg (by omega)] | rw [if_pos trivial] | rw [if_pos rfl] | rw [if_neg (by decide)])
  by_cases c : g1 > hi'
  · repeat (first | rw [if_pos (by omega)] | rw [if_neg (by omega)] | rw [if_pos trivial] | rw [if_pos rfl] | rw [if_neg (by decide)])
  by_cases d : g2 < 128
  · repeat (first | rw [if_pos (by omega)] | rw [if_neg (by omega)] | rw [if_pos trivial] | rw [if_pos rfl] | rw [if_neg (by decide)])
  by_cases e : g2 > 191
  · repeat (first | rw [if_pos (by omega)] | rw [if_neg (by omega)] | rw [if_pos trivial] | rw [if_pos rfl] | rw [if_neg (by decide)])
  by_cases f : g3 < 128
  · repeat (first | rw [if_pos (by omega)] | rw [if_neg (by omega)] | rw [if_pos trivial] | rw [if_pos rfl] | rw [if_neg (by decide)])
  by_cases g : g3 > 191
  · repeat (first | rw [if_pos (by omega)] | rw [if_neg (by omega)] | rw [if_pos trivial] | rw [if_pos rfl] | rw [if_neg (by decide)])
  repeat (first | rw [if_pos (by omega)] | rw [if_neg (by omega)] | rw [if_pos trivial] | rw [if_pos rfl] | rw [if_neg (by decide)])
set_option maxHeartbeats 2000000 in
theorem rl_f (k : Nat) (s : ByteArray) (hs : s.size ≤ 1000000) (i : Nat) (hi : i < s.size) :
    n005_152_zzRuneLen.f (k + 10) s i = some (rw1 ((s.size : Int) - i) (bt s i) (bt s ((i : Int) + 1)) (bt s ((i : Int) + 2)) (bt s ((i : Int) + 3))) := by
  obtain ⟨g, hg⟩ : ∃ g, bt s (i : Int) = g := ⟨_, rfl⟩
  simp only [n005_152_zzRuneLen.f, hg, n005_152_zzRuneLen.j0, n005_152_zzRuneLen.j1, n005_152_zzRuneLen.j2, n005_152_zzRuneLen.j3, rl_j41 _ s hs i hi, rl_j42 _ s hs i hi, rl_j43 _ s hs i hi, rw1, decide_eq_true_eq, Bool.false_eq_true, if_false, eq_self, if_true]
  have hr : g < 128 ∨ (128 ≤ g ∧ g < 194) ∨ (194 ≤ g ∧ g ≤ 223) ∨ g = 224 ∨ (225 ≤ g ∧ g ≤ 236) ∨ g = 237 ∨ (238 ≤ g ∧ g ≤ 239) ∨ g = 240 ∨ (241 ≤ g ∧ g ≤ 243) ∨ g = 244 ∨ 245 ≤ g := by omega
  clear hg
  rcases hr with h | h | h | h | h | h | h | h | h | h | h
  all_goals repeat (first | rw [if_pos (by omega)] | rw [if_neg (by omega)] | rw [if_pos trivial] | rw [if_pos rfl] | rw [if_neg (by decide)])
theorem bt_get (s : ByteArray) (i : Nat) (h : i < s.size) : bt s (i : Int) = ((s.get! i).toNat : Int) := by
  rw [← bt_at s i (by simpa using h)]
  have e : s.get! i = s[i]'h := by
    have h' : i < s.data.size := h
    show s.data[i]! = s.data[i]'h'
    exact getElem!_pos s.data i h'
  rw [e]
  rfl
set_option maxHeartbeats 20000000 in
set_option maxRecDepth 100000 in
theorem decode_w (s : ByteArray) (i : Nat) (hi : i < s.size) : ((Utf8.decode s i).2 : Int) = rw1 ((s.size : Int) - i) (bt s i) (bt s ((i : Int) + 1)) (bt s ((i : Int) + 2)) (bt s ((i : Int) + 3)) := by
  have e0 := bt_get s i hi
  have e1 : i + 1 < s.size → bt s ((i : Int) + 1) = ((s.get! (i + 1)).toNat : Int) := fun h => bt_get s (i + 1) h
  have e2 : i + 2 < s.size → bt s ((i : Int) + 2) = ((s.get! (i + 2)).toNat : Int) := fun h => bt_get s (i + 2) h
  have e3 : i + 3 < s.size → bt s ((i : Int) + 3) = ((s.get! (i + 3)).toNat : Int) := fun h => bt_get s (i + 3) h
  have l0 := (s.get! i).toNat_lt
  have l1 := (s.get! (i + 1)).toNat_lt
  have l2 := (s.get! (i + 2)).toNat_lt
  have l3 := (s.get! (i + 3)).toNat_lt
  rw [Lib.decode_at, Lib.decodeN]
  simp only [rw1, tw]
  rw [e0]
  generalize (s.get! i).toNat = b0 at *
  generalize (s.get! (i + 1)).toNat = b1 at *
  generalize (s.get! (i + 2)).toNat = b2 at *
  generalize (s.get! (i + 3)).toNat = b3 at *
  clear e0
  have hr : b0 < 128 ∨ (128 ≤ b0 ∧ b0 < 192) ∨ (192 ≤ b0 ∧ b0 < 194) ∨ (194 ≤ b0 ∧ b0 ≤ 223) ∨ b0 = 224 ∨ (225 ≤ b0 ∧ b0 ≤ 236) ∨ b0 = 237 ∨ (238 ≤ b0 ∧ b0 ≤ 239) ∨ b0 = 240 ∨ (241 ≤ b0 ∧ b0 ≤ 243) ∨ b0 = 244 ∨ (245 ≤ b0 ∧ b0 < 248) ∨ 248 ≤ b0 := by omega
  have r1 : b1 < 128 ∨ (128 ≤ b1 ∧ b1 < 144) ∨ (144 ≤ b1 ∧ b1 < 160) ∨ (160 ≤ b1 ∧ b1 < 192) ∨ 192 ≤ b1 := by omega
  have r2 : b2 < 128 ∨ (128 ≤ b2 ∧ b2 < 192) ∨ 192 ≤ b2 := by omega
  have r3 : b3 < 128 ∨ (128 ≤ b3 ∧ b3 < 192) ∨ 192 ≤ b3 := by omega
  rcases hr with h | h | h | h | h | h | h | h | h | h | h | h | h
  · repeat (first | rw [if_pos (by omega)] | rw [if_neg (by omega)] | rw [if_pos trivial] | rw [if_pos rfl] | rw [if_neg (by decide)])
    rfl
  ·
    by_cases h1 : i + 1 < s.size
    · rw [e1 h1]
      rcases r1 with b | b | b | b | b
      all_goals repeat (first | rw [if_pos (by omega)] | rw [if_neg (by omega)] | rw [if_pos trivial] | rw [if_pos rfl] | rw [if_neg (by decide)])
      all_goals rfl
    · repeat (first | rw [if_pos (by omega)] | rw [if_neg (by omega)] | rw [if_pos trivial] | rw [if_pos rfl] | rw [if_neg (by decide)])
      rfl
  ·
    by_cases h1 : i + 1 < s.size
    · rw [e1 h1]
      rcases r1 with b | b | b | b | b
      all_goals repeat (first | rw [if_pos (by omega)] | rw [if_neg (by omega)] | rw [if_pos trivial] | rw [if_pos rfl] | rw [if_neg (by decide)])
      all_goals rfl
    · repeat (first | rw [if_pos (by omega)] | rw [if_neg (by omega)] | rw [if_pos trivial] | rw [if_pos rfl] | rw [if_neg (by decide)])
      rfl
  ·
    by_cases h1 : i + 1 < s.size
    · rw [e1 h1]
      rcases r1 with b | b | b | b | b
      all_goals repeat (first | rw [if_pos (by omega)] | rw [if_neg (by omega)] | rw [if_pos trivial] | rw [if_pos rfl] | rw [if_neg (by decide)])
      all_goals rfl
    · repeat (first | rw [if_pos (by omega)] | rw [if_neg (by omega)] | rw [if_pos trivial] | rw [if_pos rfl] | rw [if_neg (by decide)])
      rfl
  ·
    by_cases h2 : i + 2 < s.size
    · rw [e1 (by omega), e2 h2]
      rcases r1 with b | b | b | b | b <;> rcases r2 with d | d | d
      all_goals repeat (first | rw [if_pos (by omega)] | rw [if_neg (by omega)] | rw [if_pos trivial] | rw [if_pos rfl] | rw [if_neg (by decide)])
      all_goals rfl
    · repeat (first | rw [if_pos (by omega)] | rw [if_neg (by omega)] | rw [if_pos trivial] | rw [if_pos rfl] | rw [if_neg (by decide)])
      rfl
  ·
    by_cases h2 : i + 2 < s.size
    · rw [e1 (by omega), e2 h2]
      rcases r1 with b | b | b | b | b <;> rcases r2 with d | d | d
      all_goals repeat (first | rw [if_pos (by omega)] | rw [if_neg (by omega)] | rw [if_pos trivial] | rw [if_pos rfl] | rw [if_neg (by decide)])
      all_goals rfl
    · repeat (first | rw [if_pos (by omega)] | rw [if_neg (by omega)] | rw [if_pos trivial] | rw [if_pos rfl] | rw [if_neg (by decide)])
      rfl
  ·
    by_cases h2 : i + 2 < s.size
    · rw [e1 (by omega), e2 h2]
      rcases r1 with b | b | b | b | b <;> rcases r2 with d | d | d
      all_goals repeat (first | rw [if_pos (by omega)] | rw [if_neg (by omega)] | rw [if_pos trivial] | rw [if_pos rfl] | rw [if_neg (by decide)])
      all_goals rfl
    · repeat (first | rw [if_pos (by omega)] | rw [if_neg (by omega)] | rw [if_pos trivial] | rw [if_pos rfl] | rw [if_neg (by decide)])
      rfl
  ·
    by_cases h2 : i + 2 < s.size
    · rw [e1 (by omega), e2 h2]
      rcases r1 with b | b | b | b | b <;> rcases r2 with d | d | d
      all_goals repeat (first | rw [if_pos (by omega)] | rw [if_neg (by omega)] | rw [if_pos trivial] | rw [if_pos rfl] | rw [if_neg (by decide)])
      all_goals rfl
    · repeat (first | rw [if_pos (by omega)] | rw [if_neg (by omega)] | rw [if_pos trivial] | rw [if_pos rfl] | rw [if_neg (by decide)])
      rfl
  ·
    by_cases h3 : i + 3 < s.size
    · rw [e1 (by omega), e2 (by omega), e3 h3]
      rcases r1 with b | b | b | b | b <;> rcases r2 with d | d | d <;> rcases r3 with f | f | f
      all_goals repeat (first | rw [if_pos (by omega)] | rw [if_neg (by omega)] | rw [if_pos trivial] | rw [if_pos rfl] | rw [if_neg (by decide)])
      all_goals rfl
    · repeat (first | rw [if_pos (by omega)] | rw [if_neg (by omega)] | rw [if_pos trivial] | rw [if_pos rfl] | rw [if_neg (by decide)])
      rfl
  ·
    by_cases h3 : i + 3 < s.size
    · rw [e1 (by omega), e2 (by omega), e3 h3]
      rcases r1 with b | b | b | b | b <;> rcases r2 with d | d | d <;> rcases r3 with f | f | f
      all_goals repeat (first | rw [if_pos (by omega)] | rw [if_neg (by omega)] | rw [if_pos trivial] | rw [if_pos rfl] | rw [if_neg (by decide)])
      all_goals rfl
    · repeat (first | rw [if_pos (by omega)] | rw [if_neg (by omega)] | rw [if_pos trivial] | rw [if_pos rfl] | rw [if_neg (by decide)])
      rfl
  ·
    by_cases h3 : i + 3 < s.size
    · rw [e1 (by omega), e2 (by omega), e3 h3]
      rcases r1 with b | b | b | b | b <;> rcases r2 with d | d | d <;> rcases r3 with f | f | f
      all_goals repeat (first | rw [if_pos (by omega)] | rw [if_neg (by omega)] | rw [if_pos trivial] | rw [if_pos rfl] | rw [if_neg (by decide)])
      all_goals rfl
    · repeat (first | rw [if_pos (by omega)] | rw [if_neg (by omega)] | rw [if_pos trivial] | rw [if_pos rfl] | rw [if_neg (by decide)])
      rfl
  ·
    by_cases h3 : i + 3 < s.size
    · rw [e1 (by omega), e2 (by omega), e3 h3]
      rcases r1 with b | b | b | b | b <;> rcases r2 with d | d | d <;> rcases r3 with f | f | f
      all_goals repeat (first | rw [if_pos (by omega)] | rw [if_neg (by omega)] | rw [if_pos trivial] | rw [if_pos rfl] | rw [if_neg (by decide)])
      all_goals rfl
    · repeat (first | rw [if_pos (by omega)] | rw [if_neg (by omega)] | rw [if_pos trivial] | rw [if_pos rfl] | rw [if_neg (by decide)])
      rfl
  ·
    by_cases h3 : i + 3 < s.size
    · rw [e1 (by omega), e2 (by omega), e3 h3]
      rcases r1 with b | b | b | b | b <;> rcases r2 with d | d | d <;> rcases r3 with f | f | f
      all_goals repeat (first | rw [if_pos (by omega)] | rw [if_neg (by omega)] | rw [if_pos trivial] | rw [if_pos rfl] | rw [if_neg (by decide)])
      all_goals rfl
    · repeat (first | rw [if_pos (by omega)] | rw [if_neg (by omega)] | rw [if_pos trivial] | rw [if_pos rfl] | rw [if_neg (by decide)])
      rfl
theorem rw1_le (m g0 g1 g2 g3 : Int) : 1 ≤ rw1 m g0 g1 g2 g3 ∧ rw1 m g0 g1 g2 g3 ≤ 4 := by
  have T : ∀ m need lo hi, 1 ≤ tw m need lo hi g1 g2 g3 ∧ tw m need lo hi g1 g2 g3 ≤ 4 := by
    intro m need lo hi
    unfold tw
    repeat' split
    all_goals exact ⟨by decide, by decide⟩
  unfold rw1
  repeat' split
  all_goals first | exact T _ _ _ _ | exact ⟨by decide, by decide⟩
open Go.Extern in
theorem rc_l0 (s : ByteArray) (hs : s.size ≤ 100000) : ∀ (n k : Nat) (c : Int) (pos : Nat), s.size ≤ pos + n → pos ≤ s.size + 4 → 0 ≤ c → c ≤ pos → n + 12 ≤ k →
    n005_152_zzRuneCount.l0 k s c pos = some (c + ((FmtText.runeCountFrom s n pos : Nat) : Int)) := by
  intro n
  induction n with
  | zero =>
    intro k c pos h1 h2 h3 h4 hk
    obtain ⟨k, rfl⟩ : ∃ j, k = j + 1 := ⟨k - 1, by omega⟩
    rw [n005_152_zzRuneCount.l0, if_neg (by omega), FmtText.runeCountFrom]
    simp
  | succ n ih =>
    intro k c pos h1 h2 h3 h4 hk
    obtain ⟨k, rfl⟩ : ∃ j, k = j + 11 := ⟨k - 11, by omega⟩
    rw [n005_152_zzRuneCount.l0, FmtText.runeCountFrom]
    by_cases hp : pos < s.size
    · rw [if_pos (by omega), if_pos hp, rl_f k s (by omega) pos hp, ← decode_w s pos hp]
      have hw := rw1_le ((s.size : Int) - pos) (bt s pos) (bt s ((pos : Int) + 1)) (bt s ((pos : Int) + 2)) (bt s ((pos : Int) + 3))
      rw [← decode_w s pos hp] at hw
      rw [Option.bind_some, w64_id (x := c + 1) (by omega) (by omega), w64_id (x := (pos : Int) + _) (by omega) (by omega)]
      have := ih (k + 10) (c + 1) (pos + (Utf8.decode s pos).2) (by omega) (by omega) (by omega) (by omega) (by omega)
      rw [Int.natCast_add] at this
      rw [this]
      congr 1
      omega
    · rw [if_neg (by omega), if_neg hp]
      simp
open Go.Extern in
theorem rc_f (s : ByteArray) (hs : s.size ≤ 100000) (k : Nat) : n005_152_zzRuneCount.f (s.size + 12 + k) s = some ((FmtText.runeCount s.data.toList : Nat) : Int) := by
  rw [n005_152_zzRuneCount.f]
  have := rc_l0 s hs s.size (s.size + 12 + k) 0 0 (by omega) (by omega) (by omega) (by omega) (by omega)
  rw [show ((0 : Nat) : Int) = 0 from rfl] at this
  rw [this, Int.zero_add, FmtText.runeCount]
  congr 2
theorem sp_f (k n : Nat) (h1 : 1 ≤ n) (h8 : n ≤ 8) : n005_152_zzSpaces.f (k + 12) (n : Int) = some ⟨(List.replicate n (32 : UInt8)).toArray⟩ := by
  have w1 : wrap64 1 = 1 := w64_id (by omega) (by omega)
  have w2 : wrap64 2 = 2 := w64_id (by omega) (by omega)
  have w3 : wrap64 3 = 3 := w64_id (by omega) (by omega)
  have w4 : wrap64 4 = 4 := w64_id (by omega) (by omega)
  have w5 : wrap64 5 = 5 := w64_id (by omega) (by omega)
  have w6 : wrap64 6 = 6 := w64_id (by omega) (by omega)
  have w7 : wrap64 7 = 7 := w64_id (by omega) (by omega)
  have w8 : wrap64 8 = 8 := w64_id (by omega) (by omega)
  have : n = 1 ∨ n = 2 ∨ n = 3 ∨ n = 4 ∨ n = 5 ∨ n = 6 ∨ n = 7 ∨ n = 8 := by omega
  rcases this with rfl | rfl | rfl | rfl | rfl | rfl | rfl | rfl
  all_goals simp [n005_152_zzSpaces.f, n005_152_zzSpaces.l0, w1, w2, w3, w4, w5, w6, w7, w8, List.replicate_succ]
  all_goals rfl
open Go.Extern in
theorem padL_f (s : ByteArray) (hs : s.size ≤ 100000) : n005_152_zzPadLeft.f (s.size + 12 + 12) s 8 = some ⟨(FmtText.blanks false 8 s.data.toList).toArray⟩ := by
  rw [n005_152_zzPadLeft.f, rc_f s hs 12, Option.bind_some]
  generalize hr : FmtText.runeCount s.data.toList = r
  have hb : FmtText.blanks false 8 s.data.toList = List.replicate (8 - r) 32 ++ s.data.toList := by rw [FmtText.blanks, hr, if_neg (by decide)]
  rw [hb]
  split
  · rw [show 8 - r = 0 by omega]
    simp
  · rw [w64_id (x := 8 - (r : Int)) (by omega) (by omega), show (8 - (r : Int)) = ((8 - r : Nat) : Int) by omega, sp_f (s.size + 12) (8 - r) (by omega) (by omega), Option.bind_some]
    rw [if_pos (by
      have : (⟨(List.replicate (8 - r) (32 : UInt8)).toArray⟩ : ByteArray).size = 8 - r := by simp [ByteArray.size]
      omega)]
    congr 1
    first | done | (apply ByteArray.ext; simp)
open Go.Extern in
theorem padR_f (s : ByteArray) (hs : s.size ≤ 100000) : n005_152_zzPadRight.f (s.size + 12 + 12) s 8 = some ⟨(FmtText.blanks true 8 s.data.toList).toArray⟩ := by
  rw [n005_152_zzPadRight.f, rc_f s hs 12, Option.bind_some]
  generalize hr : FmtText.runeCount s.data.toList = r
  have hb : FmtText.blanks true 8 s.data.toList = s.data.toList ++ List.replicate (8 - r) 32 := by rw [FmtText.blanks, hr, if_pos rfl]
  rw [hb]
  split
  · rw [show 8 - r = 0 by omega]
    simp
  · rw [w64_id (x := 8 - (r : Int)) (by omega) (by omega), show (8 - (r : Int)) = ((8 - r : Nat) : Int) by omega, sp_f (s.size + 12) (8 - r) (by omega) (by omega), Option.bind_some]
    rw [if_pos (by
      have : (⟨(List.replicate (8 - r) (32 : UInt8)).toArray⟩ : ByteArray).size = 8 - r := by simp [ByteArray.size]
      omega)]
    congr 1
    first | done | (apply ByteArray.ext; simp)
end Go.Proofs.YtfkpbkjokapijaaGreatFmt.PQ
