/- The slow road's number is read off the text: the plain law. -/
import Derived.Test.YtfkpbkjokapijaaGreatFmtDecR
import Derived.Test.YtfkpbkjokapijaaGreatFmtPQ1
import Derived.Laws.BitsAllLaws
namespace Go.Proofs.YtfkpbkjokapijaaGreatFmt.PQ
open Go.RowKit Go.Proofs.YtfkpbkjokapijaaGreatFmtW.PrintWords
set_option linter.unusedVariables false
set_option linter.unusedSimpArgs false

structure ST where
  i : Nat
  n : Nat
  c : Nat → Int
  dp : Int
  tr : Bool
  dot : Bool
  digs : Bool
def ST.D (t : ST) (neg : Bool) : D := ⟨t.c, t.n, t.dp, neg, t.tr⟩
inductive SR where
  | ret (t : ST) : SR
  | go (t : ST) : SR
/-- What a digit does. -/
def ST.dig (t : ST) (b : Int) : ST :=
  if b = 48 then
    if t.n = 0 then { t with i := t.i + 1, dp := t.dp - 1, digs := true }
    else if t.n < 800 then { t with i := t.i + 1, c := upd t.c t.n b, n := t.n + 1, digs := true }
    else { t with i := t.i + 1, digs := true }
  else if t.n < 800 then { t with i := t.i + 1, c := upd t.c t.n b, n := t.n + 1, digs := true }
  else { t with i := t.i + 1, digs := true, tr := true }
def sa (s : ByteArray) : Nat → ST → SR
  | 0, t => .go t
  | f + 1, t =>
    if bt s t.i = 95 then sa s f { t with i := t.i + 1 }
    else if bt s t.i = 46 then (if t.dot then .ret t else sa s f { t with i := t.i + 1, dot := true, dp := t.n })
    else if 48 ≤ bt s t.i then (if bt s t.i ≤ 57 then sa s f (t.dig (bt s t.i)) else .go t)
    else .go t
structure ST.Inv (t : ST) : Prop where
  n8 : t.n ≤ 800
  dig : ∀ j, j < t.n → 48 ≤ t.c j ∧ t.c j ≤ 57
  fst : 0 < t.n → 49 ≤ t.c 0
  d0 : -(t.i : Int) ≤ t.dp
  d1 : t.dp ≤ 800
theorem ST.Inv.skip {t : ST} (h : t.Inv) : ST.Inv { t with i := t.i + 1 } := ⟨h.n8, h.dig, h.fst, by have := h.d0; show -((t.i + 1 : Nat) : Int) ≤ t.dp; omega, h.d1⟩
theorem ST.Inv.point {t : ST} (h : t.Inv) : ST.Inv { t with i := t.i + 1, dot := true, dp := t.n } :=
  ⟨h.n8, h.dig, h.fst, by show -((t.i + 1 : Nat) : Int) ≤ t.n; omega, by have := h.n8; show (t.n : Int) ≤ 800; omega⟩
theorem ST.Inv.digit {t : ST} (h : t.Inv) (b : Int) (b0 : 48 ≤ b) (b1 : b ≤ 57) : (t.dig b).Inv := by
  have d0 := h.d0
  have d1 := h.d1
  have n8 := h.n8
  have put : ∀ tr, (t.n = 0 → 49 ≤ b) → t.n < 800 → ST.Inv { t with i := t.i + 1, c := upd t.c t.n b, n := t.n + 1, digs := true, tr := tr } := by
    intro tr hb hn
    refine ⟨by show t.n + 1 ≤ 800; omega, fun j hj => ?_, fun _ => ?_, by show -((t.i + 1 : Nat) : Int) ≤ t.dp; omega, d1⟩
    · show 48 ≤ upd t.c t.n b j ∧ _
      have hj' : j < t.n + 1 := hj
      show 48 ≤ upd t.c t.n b j ∧ upd t.c t.n b j ≤ 57
      unfold upd
      split
      · exact ⟨b0, b1⟩
      · exact h.dig j (by omega)
    · show 49 ≤ upd t.c t.n b 0
      unfold upd
      split
      · next e => exact hb e.symm
      · exact h.fst (by omega)
  unfold ST.dig
  split
  · split
    · exact ⟨n8, h.dig, h.fst, by show -((t.i + 1 : Nat) : Int) ≤ t.dp - 1; omega, by show t.dp - 1 ≤ 800; omega⟩
    · split
      · exact put _ (fun e => absurd e ‹_›) ‹_›
      · exact ⟨n8, h.dig, h.fst, by show -((t.i + 1 : Nat) : Int) ≤ t.dp; omega, d1⟩
  · split
    · exact put _ (fun e => by omega) ‹_›
    · exact ⟨n8, h.dig, h.fst, by show -((t.i + 1 : Nat) : Int) ≤ t.dp; omega, d1⟩
theorem dig_i (t : ST) (b : Int) : (t.dig b).i = t.i + 1 := by
  unfold ST.dig
  split
  · split
    · rfl
    · split <;> rfl
  · split <;> rfl
theorem sa_inv (s : ByteArray) : ∀ f t r, t.Inv → f + t.i = s.size → sa s f t = .go r → r.Inv ∧ r.i ≤ s.size
  | 0, t, r, h, hi, e => by
    simp only [sa, SR.go.injEq] at e
    subst e
    exact ⟨h, by omega⟩
  | f + 1, t, r, h, hi, e => by
    rw [sa] at e
    split at e
    · exact sa_inv s f _ r h.skip (by show f + (t.i + 1) = _; omega) e
    · split at e
      · split at e
        · cases e
        · exact sa_inv s f _ r h.point (by show f + (t.i + 1) = _; omega) e
      · split at e
        · split at e
          · exact sa_inv s f _ r (h.digit _ ‹_› ‹_›) (by rw [dig_i]; omega) e
          · simp only [SR.go.injEq] at e; subst e; exact ⟨h, by omega⟩
        · simp only [SR.go.injEq] at e; subst e; exact ⟨h, by omega⟩

/-- The exponent's digits. -/
def eb (s : ByteArray) : Nat → Nat → Int → Nat × Int
  | 0, i, e => (i, e)
  | f + 1, i, e =>
    if 48 ≤ bt s i then
      (if bt s i ≤ 57 then (if e < 10000 then eb s f (i + 1) (e * 10 + bt s i - 48) else eb s f (i + 1) e)
       else if bt s i = 95 then eb s f (i + 1) e else (i, e))
    else (i, e)
theorem eb_bd (s : ByteArray) : ∀ f i e, 0 ≤ e → e ≤ 100000 → 0 ≤ (eb s f i e).2 ∧ (eb s f i e).2 ≤ 100000
  | 0, i, e, h0, h1 => ⟨h0, h1⟩
  | f + 1, i, e, h0, h1 => by
    have hb := bt_range s i
    rw [eb]
    split
    · split
      · split
        · exact eb_bd s f _ _ (by omega) (by omega)
        · exact eb_bd s f _ _ h0 h1
      · split
        · exact eb_bd s f _ _ h0 h1
        · exact ⟨h0, h1⟩
    · exact ⟨h0, h1⟩
def ST.D1 (t : ST) (neg : Bool) : PQ.D := ⟨t.c, t.n, if t.dot then t.dp else t.n, neg, t.tr⟩
def st3 (s : ByteArray) (neg : Bool) (t : ST) (i : Nat) (sg : Int) : Bool × D :=
  if s.size ≤ i then (false, t.D1 neg)
  else if bt s i < 48 then (false, t.D1 neg)
  else if 57 < bt s i then (false, t.D1 neg)
  else (decide ((eb s (s.size - i) i 0).1 = s.size), ⟨t.c, t.n, (if t.dot then t.dp else t.n) + (eb s (s.size - i) i 0).2 * sg, neg, t.tr⟩)
/-- What stands behind the digits. -/
def st2 (s : ByteArray) (neg : Bool) (t : ST) : Bool × D :=
  if t.digs = false then (false, t.D neg)
  else if s.size ≤ t.i then (decide (t.i = s.size), t.D1 neg)
  else if Go.bits .or .u8 (bt s t.i) 32 = 101 then
    if s.size ≤ t.i + 1 then (false, t.D1 neg)
    else if bt s (t.i + 1 : Nat) = 43 then st3 s neg t (t.i + 2) 1
    else if bt s (t.i + 1 : Nat) = 45 then st3 s neg t (t.i + 2) (-1)
    else st3 s neg t (t.i + 1) 1
  else (false, t.D1 neg)
theorem st2_good (s : ByteArray) (neg : Bool) (t : ST) (h : t.Inv) : (st2 s neg t).2.nd = 0 ∨ (st2 s neg t).2.Good := by
  have key : ∀ dp neg tr, (⟨t.c, t.n, dp, neg, tr⟩ : D).nd = 0 ∨ (⟨t.c, t.n, dp, neg, tr⟩ : D).Good := by
    intro dp neg tr
    by_cases hn : t.n = 0
    · exact .inl (by show (t.n : Int) = 0; omega)
    · exact .inr ⟨⟨by show (0 : Int) ≤ t.n; omega, by have := h.n8; show (t.n : Int) ≤ 800; omega, fun j hj => h.dig j (by have : (j : Int) < t.n := hj; omega)⟩, by show (0 : Int) < t.n; omega, h.fst (by omega)⟩
  have k3 : ∀ i sg, (st3 s neg t i sg).2.nd = 0 ∨ (st3 s neg t i sg).2.Good := by
    intro i sg
    unfold st3
    split
    · exact key _ _ _
    · split
      · exact key _ _ _
      · split <;> exact key _ _ _
  unfold st2
  split
  · exact key _ _ _
  · split
    · exact key _ _ _
    · split
      · split
        · exact key _ _ _
        · split
          · exact k3 _ _
          · split <;> exact k3 _ _
      · exact key _ _ _
end Go.Proofs.YtfkpbkjokapijaaGreatFmt.PQ
