/- What the left shift makes of the digits: its two loops. -/
import Derived.Test.YtfkpbkjokapijaaGreatFmtDecP
import GoSem.PinnedTables
import Derived.KernelRfl
/- What the left shift makes of the digits: the plain law. -/
namespace Go.Proofs.YtfkpbkjokapijaaGreatFmt.PQ
open Go.RowKit Go.Proofs.YtfkpbkjokapijaaGreatFmtW.PrintWords
set_option linter.unusedVariables false
set_option linter.unusedSimpArgs false

/-- The value of the first digits. -/
def vn (c : Nat → Int) : Nat → Int
  | 0 => 0
  | n + 1 => vn c n * 10 + (c n - 48)
theorem ten_pos (m : Nat) : (0 : Int) < 10 ^ m := Int.pow_pos (by decide)
theorem vn_lo (c : Nat → Int) (i : Nat) : ∀ m, (∀ j, i ≤ j → j < i + m → 48 ≤ c j ∧ c j ≤ 57) → vn c i * 10 ^ m ≤ vn c (i + m)
  | 0, _ => by simp
  | m + 1, h => by
    have ih := vn_lo c i m (fun j h1 h2 => h j h1 (by omega))
    have := h (i + m) (by omega) (by omega)
    rw [show i + (m + 1) = (i + m) + 1 from rfl, vn, Int.pow_succ, ← Int.mul_assoc]
    omega
theorem vn_hi (c : Nat → Int) (i : Nat) : ∀ m, (∀ j, i ≤ j → j < i + m → 48 ≤ c j ∧ c j ≤ 57) → vn c (i + m) < (vn c i + 1) * 10 ^ m
  | 0, _ => by simp; omega
  | m + 1, h => by
    have ih := vn_hi c i m (fun j h1 h2 => h j h1 (by omega))
    have := h (i + m) (by omega) (by omega)
    rw [show i + (m + 1) = (i + m) + 1 from rfl, vn, Int.pow_succ, ← Int.mul_assoc]
    omega
theorem vn_eq (c s : Nat → Int) : ∀ i, (∀ j, j < i → c j = s j) → vn c i = vn s i
  | 0, _ => rfl
  | i + 1, h => by rw [vn, vn, vn_eq c s i (fun j hj => h j (by omega)), h i (by omega)]

/-- The comparison tells whether the number lies below the cut-off. -/
theorem pl_iff (c : Nat → Int) (nd : Nat) (s : ByteArray) (hc : ∀ j, j < nd → 48 ≤ c j ∧ c j ≤ 57) (hs : ∀ j : Nat, j < s.size → 48 ≤ bt s j ∧ bt s j ≤ 57) (hl : 0 < s.size → 49 ≤ bt s (s.size - 1 : Nat)) :
    ∀ f i, i + f = s.size → i ≤ nd → (∀ j : Nat, j < i → c j = bt s j) →
      (pl c nd s f i = true ↔ vn c nd * 10 ^ s.size < vn (fun j => bt s j) s.size * 10 ^ nd)
  | 0, i, hf, hi, he => by
    have e1 : vn c i = vn (fun j => bt s j) i := vn_eq _ _ i he
    have hi' : i = s.size := by omega
    subst hi'
    obtain ⟨m, rfl⟩ : ∃ m, nd = s.size + m := ⟨nd - s.size, by omega⟩
    have lo := vn_lo c s.size m (fun j _ h2 => hc j (by omega))
    have p := ten_pos s.size
    simp only [pl, Bool.false_eq_true, false_iff, Int.not_lt]
    rw [← e1, Int.pow_add, Int.mul_comm (10 ^ s.size) (10 ^ m), ← Int.mul_assoc]
    exact Int.mul_le_mul_of_nonneg_right lo (by omega)
  | f + 1, i, hf, hi, he => by
    have e1 : vn c i = vn (fun j => bt s j) i := vn_eq _ _ i he
    rw [pl]
    split
    · next h =>
      have hi' : nd = i := by omega
      subst hi'
      simp only [true_iff]
      obtain ⟨m, hm⟩ : ∃ m, s.size = nd + (m + 1) := ⟨s.size - nd - 1, by omega⟩
      have lo := vn_lo (fun j => bt s j) nd m (fun j _ h2 => hs j (by omega))
      have hlast := hl (by omega)
      rw [hm] at hlast
      rw [show nd + (m + 1) - 1 = nd + m from by omega] at hlast
      rw [hm, e1]
      rw [show nd + (m + 1) = (nd + m) + 1 from rfl, vn]
      have p := ten_pos nd
      have e2 : vn (fun j => bt s j) nd * 10 ^ (nd + m + 1) = (vn (fun j => bt s j) nd * 10 ^ m * 10) * 10 ^ nd := by
        rw [Int.pow_succ, Int.pow_add]; simp only [Int.mul_assoc, Int.mul_comm, Int.mul_left_comm]
      rw [e2]
      refine Int.mul_lt_mul_of_pos_right ?_ p
      have : 49 ≤ (fun j : Nat => bt s j) (nd + m) := hlast
      omega
    · next h =>
      have hb := hs i (by omega)
      have hci := hc i (by omega)
      split
      · next h2 =>
        exact pl_iff c nd s hc hs hl f (i + 1) (by omega) (by omega) (fun j hj => by
          by_cases e : j = i
          · subst e; exact h2
          · exact he j (by omega))
      · next h2 =>
        obtain ⟨m, hm⟩ : ∃ m, s.size = (i + 1) + m := ⟨s.size - (i + 1), by omega⟩
        obtain ⟨n, rfl⟩ : ∃ n, nd = (i + 1) + n := ⟨nd - (i + 1), by omega⟩
        have slo := vn_lo (fun j => bt s j) (i + 1) m (fun j _ h2 => hs j (by omega))
        have shi := vn_hi (fun j => bt s j) (i + 1) m (fun j _ h2 => hs j (by omega))
        have clo := vn_lo c (i + 1) n (fun j _ h2 => hc j (by omega))
        have chi := vn_hi c (i + 1) n (fun j _ h2 => hc j (by omega))
        rw [hm]
        have pn := ten_pos n
        have pm := ten_pos m
        have pi := ten_pos (i + 1)
        have ev1 : vn c (i + 1) = vn c i * 10 + (c i - 48) := rfl
        have ev2 : vn (fun j => bt s j) (i + 1) = vn (fun j => bt s j) i * 10 + (bt s i - 48) := rfl
        generalize vn c (i + 1 + n) = C at *
        generalize vn (fun j => bt s j) (i + 1 + m) = S at *
        generalize vn c (i + 1) = c1 at *
        generalize vn (fun j => bt s j) (i + 1) = s1 at *
        have key : ∀ a b : Int, a + 1 ≤ b → ∀ A B : Int, A < (a + 1) * 10 ^ n → b * 10 ^ m ≤ B → A * 10 ^ (i + 1 + m) < B * 10 ^ (i + 1 + n) := by
          intro a b hab A B hA hB
          have h1 : A * 10 ^ m < b * 10 ^ n * 10 ^ m := by
            refine Int.mul_lt_mul_of_pos_right ?_ pm
            exact Int.lt_of_lt_of_le hA (Int.mul_le_mul_of_nonneg_right hab (by omega))
          have h2 : b * 10 ^ m * 10 ^ n ≤ B * 10 ^ n := Int.mul_le_mul_of_nonneg_right hB (by omega)
          have h3 : b * 10 ^ n * 10 ^ m = b * 10 ^ m * 10 ^ n := by simp only [Int.mul_assoc, Int.mul_comm, Int.mul_left_comm]
          have h4 : A * 10 ^ m < B * 10 ^ n := by omega
          have h5 := Int.mul_lt_mul_of_pos_right h4 pi
          rw [Int.pow_add 10 (i + 1) m, Int.pow_add 10 (i + 1) n]
          have e5 : A * (10 ^ (i + 1) * 10 ^ m) = A * 10 ^ m * 10 ^ (i + 1) := by rw [Int.mul_comm (10 ^ (i + 1)), Int.mul_assoc]
          have e6 : B * (10 ^ (i + 1) * 10 ^ n) = B * 10 ^ n * 10 ^ (i + 1) := by rw [Int.mul_comm (10 ^ (i + 1)), Int.mul_assoc]
          rw [e5, e6]; exact h5
        by_cases h3 : c i < bt s i
        · simp only [h3, decide_true, true_iff]
          exact key c1 s1 (by omega) C S chi slo
        · simp only [h3, decide_false, Bool.false_eq_true, false_iff, Int.not_lt]
          have key2 : ∀ a b : Int, a + 1 ≤ b → ∀ A B : Int, A < (a + 1) * 10 ^ m → b * 10 ^ n ≤ B → A * 10 ^ (i + 1 + n) < B * 10 ^ (i + 1 + m) := by
            intro a b hab A B hA hB
            have h1 : A * 10 ^ n < b * 10 ^ m * 10 ^ n := by
              refine Int.mul_lt_mul_of_pos_right ?_ pn
              exact Int.lt_of_lt_of_le hA (Int.mul_le_mul_of_nonneg_right hab (by omega))
            have h2 : b * 10 ^ n * 10 ^ m ≤ B * 10 ^ m := Int.mul_le_mul_of_nonneg_right hB (by omega)
            have h3 : b * 10 ^ m * 10 ^ n = b * 10 ^ n * 10 ^ m := by simp only [Int.mul_assoc, Int.mul_comm, Int.mul_left_comm]
            have h4 : A * 10 ^ n < B * 10 ^ m := by omega
            have h5 := Int.mul_lt_mul_of_pos_right h4 pi
            rw [Int.pow_add 10 (i + 1) m, Int.pow_add 10 (i + 1) n]
            have e5 : A * (10 ^ (i + 1) * 10 ^ n) = A * 10 ^ n * 10 ^ (i + 1) := by rw [Int.mul_comm (10 ^ (i + 1)), Int.mul_assoc]
            have e6 : B * (10 ^ (i + 1) * 10 ^ m) = B * 10 ^ m * 10 ^ (i + 1) := by rw [Int.mul_comm (10 ^ (i + 1)), Int.mul_assoc]
            rw [e5, e6]; exact h5
          have := key2 s1 c1 (by omega) S C shi clo
          omega

/-- The table's rows. -/
def lcD (k : Nat) : Nat := (Go.Pinned.cheatRows.getD k (0, [])).1
def lcS (k : Nat) : ByteArray := ⟨(Go.Pinned.cheatRows.getD k (0, [])).2.toArray⟩
def lcOk (k : Nat) : Bool :=
  decide (1 ≤ lcD k) && decide (lcD k ≤ 19) && decide ((lcS k).size + lcD k = k + 1) && decide ((10 : Int) ^ (lcD k - 1) ≤ 2 ^ k) && decide ((2 : Int) ^ k < 10 ^ (lcD k)) && decide (vn (fun j => bt (lcS k) j) (lcS k).size = 5 ^ k) &&
    (List.range (lcS k).size).all (fun j => decide (48 ≤ bt (lcS k) j) && decide (bt (lcS k) j ≤ 57)) && decide (49 ≤ bt (lcS k) ((lcS k).size - 1 : Nat))
theorem lc_all : (List.range 60).all (fun k => lcOk (k + 1)) = true := by kernel_rfl
structure LcOk (k : Nat) : Prop where
  d1 : 1 ≤ lcD k
  d19 : lcD k ≤ 19
  size : (lcS k).size + lcD k = k + 1
  lo : (10 : Int) ^ (lcD k - 1) ≤ 2 ^ k
  hi : (2 : Int) ^ k < 10 ^ (lcD k)
  val : vn (fun j => bt (lcS k) j) (lcS k).size = 5 ^ k
  dig : ∀ j : Nat, j < (lcS k).size → 48 ≤ bt (lcS k) j ∧ bt (lcS k) j ≤ 57
  last : 49 ≤ bt (lcS k) ((lcS k).size - 1 : Nat)
theorem lc_ok (k : Nat) (h1 : 1 ≤ k) (h2 : k ≤ 60) : LcOk k := by
  have h := List.all_eq_true.1 lc_all (k - 1) (List.mem_range.2 (by omega))
  rw [show k - 1 + 1 = k from by omega] at h
  simp only [lcOk, Bool.and_eq_true, decide_eq_true_eq, List.all_eq_true, List.mem_range] at h
  obtain ⟨⟨⟨⟨⟨⟨⟨a, b⟩, c⟩, d⟩, e⟩, f⟩, g⟩, i⟩ := h
  exact ⟨a, b, c, d, e, f, g, i⟩
end Go.Proofs.YtfkpbkjokapijaaGreatFmt.PQ
namespace Go.Proofs.YtfkpbkjokapijaaGreatFmt.PQ
open Go.RowKit Go.Proofs.YtfkpbkjokapijaaGreatFmtW.PrintWords
set_option linter.unusedVariables false
set_option linter.unusedSimpArgs false

structure L4 where
  n : Int
  c : Nat → Int
  tr : Bool
/-- One digit laid down. -/
def L4.put (s : L4) (t : Int) (wd : Nat) : L4 :=
  if wd < 800 then ⟨t / 10, upd s.c wd (t % 10 + 48), s.tr⟩ else ⟨t / 10, s.c, s.tr || decide (t % 10 ≠ 0)⟩
theorem put_n (s : L4) (t : Int) (wd : Nat) : (s.put t wd).n = t / 10 := by unfold L4.put; split <;> rfl
theorem put_c (s : L4) (t : Int) (wd j : Nat) (h : j ≠ wd) : (s.put t wd).c j = s.c j := by
  unfold L4.put
  split
  · dsimp only [upd]; rw [if_neg h]
  · rfl
theorem put_at (s : L4) (t : Int) (wd : Nat) (h : wd < 800) : (s.put t wd).c wd = t % 10 + 48 := by
  unfold L4.put
  rw [if_pos h]
  dsimp only [upd]; rw [if_pos rfl]
def l1 (P : Int) (nd dl : Nat) (s0 : L4) : Nat → L4
  | 0 => s0
  | m + 1 => (l1 P nd dl s0 m).put ((l1 P nd dl s0 m).n + ((l1 P nd dl s0 m).c (nd - 1 - m) - 48) * P) (nd + dl - m - 1)
def l2 (dl : Nat) (s0 : L4) : Nat → L4
  | 0 => s0
  | i + 1 => (l2 dl s0 i).put (l2 dl s0 i).n (dl - i - 1)

structure L1Inv (P : Int) (nd dl : Nat) (c0 : Nat → Int) (m : Nat) (s : L4) : Prop where
  n0 : 0 ≤ s.n
  n1 : s.n < P
  lo : s.n * 10 ^ m ≤ (vn c0 nd - vn c0 (nd - m) * 10 ^ m) * P
  hi : (vn c0 nd - vn c0 (nd - m) * 10 ^ m) * P < (s.n + 1) * 10 ^ m
  old : ∀ j, j < nd - m → s.c j = c0 j
  new : ∀ j, nd + dl - m ≤ j → j < nd + dl → j < 800 → 48 ≤ s.c j ∧ s.c j ≤ 57
  fst : 0 < m → m = nd → dl = 0 → s.n = 0 → 48 + 2 * (c0 0 - 48) ≤ s.c 0

theorem l1_inv (P : Int) (p0 : 2 ≤ P) (nd dl : Nat) (c0 : Nat → Int) (t0 : Bool) (hd : ∀ j, j < nd → 48 ≤ c0 j ∧ c0 j ≤ 57) : ∀ m, m ≤ nd → L1Inv P nd dl c0 m (l1 P nd dl ⟨0, c0, t0⟩ m)
  | 0, _ => ⟨Int.le_refl _, by show 0 < P; omega, by simp [l1], by simp [l1], fun j hj => rfl, fun j h1 h2 => by omega, fun h => absurd h (by omega)⟩
  | m + 1, hm => by
    have I := l1_inv P p0 nd dl c0 t0 hd m (by omega)
    rw [l1]
    generalize l1 P nd dl ⟨0, c0, t0⟩ m = s at I
    have hc := I.old (nd - 1 - m) (by omega)
    rw [hc]
    obtain ⟨d0, d1⟩ := hd (nd - 1 - m) (by omega)
    have n0 := I.n0
    have n1 := I.n1
    have lo := I.lo
    have hi := I.hi
    have hv : vn c0 (nd - m) = vn c0 (nd - (m + 1)) * 10 + (c0 (nd - 1 - m) - 48) := by
      rw [show nd - m = (nd - (m + 1)) + 1 from by omega, vn, show nd - (m + 1) = nd - 1 - m from by omega]
    rw [hv] at lo hi
    have p := ten_pos m
    have dP0 : 0 ≤ (c0 (nd - 1 - m) - 48) * P := Int.mul_nonneg (by omega) (by omega)
    have dP1 : (c0 (nd - 1 - m) - 48) * P ≤ 9 * P := Int.mul_le_mul_of_nonneg_right (by omega) (by omega)
    have hW : (vn c0 nd - vn c0 (nd - (m + 1)) * 10 ^ (m + 1)) * P = (vn c0 nd - (vn c0 (nd - (m + 1)) * 10 + (c0 (nd - 1 - m) - 48)) * 10 ^ m) * P + (c0 (nd - 1 - m) - 48) * P * 10 ^ m := by
      rw [Int.pow_succ]
      generalize vn c0 (nd - (m + 1)) = v
      generalize c0 (nd - 1 - m) - 48 = d
      rw [Int.mul_assoc d P, Int.mul_comm P, ← Int.mul_assoc d, ← Int.add_mul]
      congr 1
      rw [Int.add_mul, Int.mul_comm (10 ^ m) 10, ← Int.mul_assoc]
      omega
    have e0 : (10 : Int) ^ (m + 1) = 10 * 10 ^ m := by rw [Int.pow_succ, Int.mul_comm]
    generalize hd' : (c0 (nd - 1 - m) - 48) * P = dP at *
    refine ⟨?_, ?_, ?_, ?_, ?_, ?_, ?_⟩
    · rw [put_n]; omega
    · rw [put_n]; omega
    · rw [put_n, hW, e0, ← Int.mul_assoc]
      have h1 : (s.n + dP) / 10 * 10 * 10 ^ m ≤ (s.n + dP) * 10 ^ m := Int.mul_le_mul_of_nonneg_right (by omega) (by omega)
      rw [Int.add_mul] at h1
      omega
    · rw [put_n, hW, e0, ← Int.mul_assoc]
      have h1 : (s.n + 1 + dP) * 10 ^ m ≤ ((s.n + dP) / 10 + 1) * 10 * 10 ^ m := Int.mul_le_mul_of_nonneg_right (by omega) (by omega)
      rw [Int.add_mul] at h1
      omega
    · intro j hj
      rw [put_c _ _ _ _ (by omega)]
      exact I.old j (by omega)
    · intro j h1 h2 h3
      by_cases e : j = nd + dl - m - 1
      · rw [e, put_at _ _ _ (by omega)]
        omega
      · rw [put_c _ _ _ _ e]
        exact I.new j (by omega) h2 h3
    · intro _ h1 h2 h3
      rw [put_n] at h3
      have hz : nd - 1 - m = 0 := by omega
      have hz2 : nd + dl - m - 1 = 0 := by omega
      rw [hz2, put_at _ _ _ (by omega)]
      rw [hz] at hd' d0
      have : (c0 0 - 48) * 2 ≤ (c0 0 - 48) * P := Int.mul_le_mul_of_nonneg_left p0 (by omega)
      omega

structure L2Inv (nd dl i : Nat) (s : L4) : Prop where
  lo : i < dl → (10 : Int) ^ (dl - i - 1) ≤ s.n
  hi : s.n < 10 ^ (dl - i)
  n0 : 0 ≤ s.n
  new : ∀ j, dl - i ≤ j → j < nd + dl → j < 800 → 48 ≤ s.c j ∧ s.c j ≤ 57
  fst : 0 < i → i = dl → 49 ≤ s.c 0
theorem l2_inv (nd dl : Nat) (h19 : dl ≤ 19) (s0 : L4) (h0 : L2Inv nd dl 0 s0) : ∀ i, i ≤ dl → L2Inv nd dl i (l2 dl s0 i)
  | 0, _ => h0
  | i + 1, hi => by
    have I := l2_inv nd dl h19 s0 h0 i (by omega)
    rw [l2]
    generalize l2 dl s0 i = s at I
    have lo := I.lo (by omega)
    have hh := I.hi
    have n0 := I.n0
    refine ⟨fun h => ?_, ?_, ?_, ?_, ?_⟩
    · rw [put_n]
      rw [show dl - i - 1 = (dl - (i + 1) - 1) + 1 from by omega, Int.pow_succ] at lo
      omega
    · rw [put_n]
      rw [show dl - i = (dl - (i + 1)) + 1 from by omega, Int.pow_succ] at hh
      omega
    · rw [put_n]; omega
    · intro j h1 h2 h3
      by_cases e : j = dl - i - 1
      · rw [e, put_at _ _ _ (by omega)]; omega
      · rw [put_c _ _ _ _ e]
        exact I.new j (by omega) h2 h3
    · intro _ h1
      have hz : dl - i - 1 = 0 := by omega
      rw [hz, put_at _ _ _ (by omega)]
      rw [hz] at lo
      rw [show dl - i = 1 from by omega] at hh
      simp at lo hh
      omega
theorem l2_pos (nd dl : Nat) (h19 : dl ≤ 19) (s0 : L4) (h0 : L2Inv nd dl 0 s0) (i : Nat) (hi : i < dl) : 0 < (l2 dl s0 i).n := by
  have I := l2_inv nd dl h19 s0 h0 i (by omega)
  have := I.lo hi
  have := ten_pos (dl - i - 1)
  omega
theorem l2_end (nd dl : Nat) (h19 : dl ≤ 19) (s0 : L4) (h0 : L2Inv nd dl 0 s0) : (l2 dl s0 dl).n = 0 := by
  have I := l2_inv nd dl h19 s0 h0 dl (Nat.le_refl _)
  have h1 := I.hi
  have h2 := I.n0
  rw [Nat.sub_self] at h1
  simp at h1
  omega

theorem two_pow_pos' (k : Nat) : (0 : Int) < 2 ^ k := Int.pow_pos (by decide)
/-- The new digits' number: what lies above the old ones has just so many digits. -/
theorem left_count (k : Nat) (hk : LcOk k) (nd : Nat) (c : Nat → Int) (hnd : 0 < nd) (hd : ∀ j, j < nd → 48 ≤ c j ∧ c j ≤ 57) (hf : 49 ≤ c 0) (n : Int) (h0 : 0 ≤ n)
    (lo : n * 10 ^ nd ≤ vn c nd * 2 ^ k) (hi : vn c nd * 2 ^ k < (n + 1) * 10 ^ nd) (dl : Nat) (hdl : dl = if pl c nd (lcS k) (lcS k).size 0 then lcD k - 1 else lcD k) :
    (0 < dl → (10 : Int) ^ (dl - 1) ≤ n) ∧ n < 10 ^ dl := by
  have hp := pl_iff c nd (lcS k) hd hk.dig (fun _ => hk.last) (lcS k).size 0 (by omega) (by omega) (fun j hj => by omega)
  rw [hk.val] at hp
  obtain ⟨m, rfl⟩ : ∃ m, nd = m + 1 := ⟨nd - 1, by omega⟩
  have v1 : vn c 1 = c 0 - 48 := by simp [vn]
  have vlo := vn_lo c 1 m (fun j _ h2 => hd j (by omega))
  have vhi := vn_hi c 0 (m + 1) (fun j _ h2 => hd j (by omega))
  rw [Nat.zero_add, vn, Int.zero_add, Int.one_mul] at vhi
  rw [v1, Nat.add_comm 1 m] at vlo
  have pm := ten_pos m
  have pnd := ten_pos (m + 1)
  have vlo' : 10 ^ m ≤ vn c (m + 1) := by
    have : 1 * 10 ^ m ≤ (c 0 - 48) * 10 ^ m := Int.mul_le_mul_of_nonneg_right (by omega) (by omega)
    omega
  have hP := two_pow_pos' k
  have hL := ten_pos (lcS k).size
  generalize vn c (m + 1) = V at *
  have hsz := hk.size
  obtain ⟨e, he⟩ : ∃ e, lcD k = e + 1 := ⟨lcD k - 1, by have := hk.d1; omega⟩
  have klo := hk.lo
  have khi := hk.hi
  rw [he] at klo khi hsz hdl
  rw [Nat.add_sub_cancel] at klo hdl
  -- 5^k * 2^k = 10^(L + e)
  have h52 : (5 : Int) ^ k * 2 ^ k = 10 ^ (lcS k).size * 10 ^ e := by
    rw [← Int.mul_pow, ← Int.pow_add]
    show (10 : Int) ^ k = _
    congr 1; omega
  have fin : ∀ (a b : Int), a * 10 ^ (m + 1) < b * 10 ^ (m + 1) → a < b := fun a b h => Int.lt_of_mul_lt_mul_right h (by omega)
  by_cases hl : pl c (m + 1) (lcS k) (lcS k).size 0 = true
  · rw [if_pos hl] at hdl
    have hlt := hp.1 hl
    subst hdl
    refine ⟨fun h => ?_, ?_⟩
    · -- V * P >= 10^m * 10^e
      have h1 : 10 ^ m * 10 ^ dl ≤ V * 2 ^ k := Int.mul_le_mul vlo' klo (by have := ten_pos dl; omega) (by omega)
      have h2 : (10 : Int) ^ m * 10 ^ dl = 10 ^ (dl - 1) * 10 ^ (m + 1) := by rw [← Int.pow_add, ← Int.pow_add]; congr 1; omega
      have := fin (10 ^ (dl - 1)) (n + 1) (by omega)
      omega
    · have h1 : V * 10 ^ (lcS k).size * 2 ^ k < 5 ^ k * 10 ^ (m + 1) * 2 ^ k := Int.mul_lt_mul_of_pos_right hlt hP
      have e1 : V * 10 ^ (lcS k).size * 2 ^ k = V * 2 ^ k * 10 ^ (lcS k).size := by rw [Int.mul_assoc, Int.mul_comm (10 ^ _), ← Int.mul_assoc]
      have e2 : (5 : Int) ^ k * 10 ^ (m + 1) * 2 ^ k = 10 ^ dl * 10 ^ (m + 1) * 10 ^ (lcS k).size := by
        rw [Int.mul_assoc, Int.mul_comm (10 ^ (m + 1)) (2 ^ k), ← Int.mul_assoc, h52, Int.mul_assoc, Int.mul_comm (10 ^ (lcS k).size)]
      rw [e1, e2] at h1
      have h2 := Int.lt_of_mul_lt_mul_right h1 (by omega)
      exact fin _ _ (by omega)
  · rw [if_neg hl] at hdl
    have hge : 5 ^ k * 10 ^ (m + 1) ≤ V * 10 ^ (lcS k).size := by
      have := mt hp.2 hl
      omega
    subst hdl
    refine ⟨fun _ => ?_, ?_⟩
    · have h1 : 5 ^ k * 10 ^ (m + 1) * 2 ^ k ≤ V * 10 ^ (lcS k).size * 2 ^ k := Int.mul_le_mul_of_nonneg_right hge (by omega)
      have e1 : V * 10 ^ (lcS k).size * 2 ^ k = V * 2 ^ k * 10 ^ (lcS k).size := by rw [Int.mul_assoc, Int.mul_comm (10 ^ _), ← Int.mul_assoc]
      have e2 : (5 : Int) ^ k * 10 ^ (m + 1) * 2 ^ k = 10 ^ e * 10 ^ (m + 1) * 10 ^ (lcS k).size := by
        rw [Int.mul_assoc, Int.mul_comm (10 ^ (m + 1)) (2 ^ k), ← Int.mul_assoc, h52, Int.mul_assoc, Int.mul_comm (10 ^ (lcS k).size)]
      rw [e1, e2] at h1
      have h2 := Int.le_of_mul_le_mul_right h1 hL
      have := fin (10 ^ e) (n + 1) (by omega)
      rw [Nat.add_sub_cancel]
      omega
    · have h1 : V * 2 ^ k < 10 ^ (m + 1) * 2 ^ k := Int.mul_lt_mul_of_pos_right vhi hP
      have h2 : (10 : Int) ^ (m + 1) * 2 ^ k < 10 ^ (m + 1) * 10 ^ (e + 1) := Int.mul_lt_mul_of_pos_left khi pnd
      rw [Int.mul_comm (10 ^ (m + 1)) (10 ^ (e + 1))] at h2
      exact fin _ _ (by omega)
end Go.Proofs.YtfkpbkjokapijaaGreatFmt.PQ
