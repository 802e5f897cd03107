/- The right shift: its contract. -/
import Derived.Test.YtfkpbkjokapijaaGreatFmtDecR
/- The right shift: the walk. -/
namespace Go.Proofs.YtfkpbkjokapijaaGreatFmt.PQ
open Go.RowKit Go.Proofs.YtfkpbkjokapijaaGreatFmtW.PrintWords
set_option linter.unusedVariables false
set_option linter.unusedSimpArgs false

theorem u64_mask (n : Int) (k : Nat) (hk : k ≤ 60) (h0 : 0 ≤ n) (h1 : n < 18446744073709551616) : Go.bits .and .u64 n ((2 : Int) ^ k - 1) = n % 2 ^ k := by
  obtain ⟨m, rfl⟩ : ∃ m : Nat, n = (m : Int) := ⟨n.toNat, by omega⟩
  have hp : (2 : Nat) ^ k ≤ 2 ^ 60 := Nat.pow_le_pow_right (by decide) hk
  have hp1 : 0 < (2 : Nat) ^ k := Nat.two_pow_pos k
  have e1 : (2 : Int) ^ k - 1 = ((2 ^ k - 1 : Nat) : Int) := by
    rw [Int.natCast_sub hp1]; simp
  have e2 : (m : Int) % 2 ^ k = ((m % 2 ^ k : Nat) : Int) := by simp
  rw [e1, e2]
  show IntKind.u64.wrap ((BitVec.ofInt 64 m &&& BitVec.ofInt 64 ((2 ^ k - 1 : Nat) : Int)).toNat : Nat) = _
  have e3 : (BitVec.ofInt 64 ((2 ^ k - 1 : Nat) : Int)).toNat = 2 ^ k - 1 := by
    rw [BitVec.toNat_ofInt]; omega
  have e4 : (BitVec.ofInt 64 (m : Int)).toNat = m := by
    rw [BitVec.toNat_ofInt]; omega
  rw [BitVec.toNat_and, e3, e4, Nat.and_two_pow_sub_one_eq_mod, IntKind.wrap_u64]
  have : m % 2 ^ k ≤ m := Nat.mod_le _ _
  omega

set_option maxHeartbeats 4000000 in
set_option maxRecDepth 100000 in
theorem right_walk (c : Nat → Int) (nd : Nat) (dp : Int) (neg tr : Bool) (n8 : nd ≤ 800) (k : Nat) (k1 : 1 ≤ k) (k60 : k ≤ 60) (hd0 : 0 < nd) (hdig : ∀ j, j < nd → 48 ≤ c j ∧ c j ≤ 57) (hf : 49 ≤ c 0)
    (dp0 : -1000000 ≤ dp) (dp1 : dp ≤ 1000000)
    (r0 : Nat) (r1 : 1 ≤ r0) (r20 : r0 ≤ 20) (hP : (2 : Int) ^ k ≤ rn c nd r0) (hP10 : rn c nd r0 < 10 * 2 ^ k) (hl : ∀ j, j < r0 → rn c nd j < 2 ^ k)
    (M : Nat) (hM : M = nd - r0) (A : S4) (hA : A = ⟨(s3 (2 ^ k) r0 (rn c nd r0) c M).1, M, (s3 (2 ^ k) r0 (rn c nd r0) c M).2, tr⟩)
    (J : Nat) (hJ : (s4 (2 ^ k) A J).n = 0) (hJ' : ∀ i, i < J → (s4 (2 ^ k) A i).n ≠ 0)
    (B : S4) (hB : s4 (2 ^ k) A J = B) (hAI : A.Inv (2 ^ k)) (hBw : B.w ≤ 800) (Y : D) (hY : (⟨B.c, trimN B.c B.w, if trimN B.c B.w = 0 then 0 else dp - (r0 - 1), neg, B.tr⟩ : D) = Y) (g : Nat) (w : World) (hd : IsDec g ⟨c, nd, dp, neg, tr⟩ w) :
    Calls Tryz.prog 98 #[.pointer (some ⟨g, 0, none⟩), .int .u64 k] w fun en w' => en = .returned (.tuple #[]) ∧ IsDec g Y w' ∧ OnlyAt g w w' := by
  have p0 := two_pow_ge k k1
  have p1 := two_pow_le60 k k60
  obtain ⟨n0, hn0⟩ : ∃ n, rn c nd r0 = n := ⟨_, rfl⟩
  rw [hn0] at hP hP10 hA
  have hn0' := Aside0.mk hn0
  have e0 := hd.nd
  have e1 := hd.dp
  have fz := hd.frozen
  simp only at e0 e1
  replace hA := Aside0.mk hA
  replace hB := Aside0.mk hB
  replace hJ := Aside0.mk hJ
  replace hM := Aside0.mk hM
  replace hY := Aside0.mk hY
  clear hn0
  go_enter Tryz.func98, Tryz.ntmps98
  go_upto_block 0 with (fail)
  go_cut [4, 6] (fun a b wc => a = .int .i64 r0 ∧ b = .int .u64 n0 ∧ w = wc)
  case first => as_aux_lemma =>
    go_wp2
    go_loopg [4, 6] r0 (fun kk v4 v6 wr => ∃ r : Nat, v4 = .int .i64 r ∧ v6 = .int .u64 (rn c nd r) ∧ Aside0 (kk + r = r0) ∧ Aside0 (w = wr))
    case atStart => exact ⟨0, rfl, rfl, ⟨rfl⟩, ⟨rfl⟩⟩
    case round =>
      obtain ⟨r, rfl, rfl, hk, hw⟩ := hrel
      obtain rfl := hw.out
      clear hw
      rcases gk with _ | kk
      · have hr : r = r0 := by have := hk.out; omega
        subst hr
        rw [hn0'.out]
        have q1 : (n0 / 2 ^ k == 0) = false := by
          have := div_pos' p0 hP
          simp only [beq_eq_false_iff_ne]; omega
        go_wp2
        go_meet
        case rel => exact ⟨rfl, rfl, rfl⟩
      · have hr : r < r0 := by have := hk.out; omega
        have q0 := hl r hr
        have q2 := rn_nonneg c nd hdig r
        have hs : rn c nd (r + 1) = rn c nd r * 10 + (if r < nd then c r - 48 else 0) := rfl
        obtain ⟨n, hn⟩ : ∃ n, rn c nd r = n := ⟨_, rfl⟩
        rw [hn] at q0 q2 hs ⊢
        have q1 : n / 2 ^ k = 0 := Int.ediv_eq_zero_of_lt q2 q0
        by_cases hrn : r < nd
        · rw [if_pos hrn] at hs
          have hs := Aside0.mk hs
          have e2 := hd.d r (by omega)
          simp only at e2
          obtain ⟨d0, d1⟩ := hdig r hrn
          have hrn' : (r : Int) < nd := by omega
          replace hn := Aside0.mk hn
          go_wp2
          go_roundg kk
          case measure => omega
          case rel => exact ⟨r + 1, by simp, by rw [hs.out]; congr 1; omega, ⟨by have := hk.out; omega⟩, ⟨rfl⟩⟩
        · have q3 : (n == 0) = false := by
            have g1 := rn_grow c nd hd0 hdig hf (r - 1)
            rw [show r - 1 + 1 = r from by omega, hn] at g1
            have : (0 : Int) < 10 ^ (r - 1) := Int.pow_pos (by decide)
            simp only [beq_eq_false_iff_ne]; omega
          have hrn' : (nd : Int) ≤ r := by omega
          replace hn := Aside0.mk hn
          go_wp2
          go_loopg [4, 6] (r0 - r) (fun ki v4 v6 wr => ∃ i : Nat, v4 = .int .i64 i ∧ v6 = .int .u64 (rn c nd i) ∧ Aside0 (ki + i = r0) ∧ Aside0 (nd ≤ i) ∧ Aside0 (w = wr))
          case atStart => exact ⟨r, rfl, by rw [hn.out], ⟨by omega⟩, ⟨by omega⟩, ⟨rfl⟩⟩
          case round =>
            clear hn q0 q1 q2 q3 hs hrn hrn'
            obtain ⟨i, rfl, rfl, hki, hni, hw⟩ := hrel
            obtain rfl := hw.out
            clear hw
            rcases gk with _ | m
            · have hr' : i = r0 := by have := hki.out; omega
              rw [hr', hn0'.out]
              have q1 : (n0 / 2 ^ k == 0) = false := by
                have := div_pos' p0 hP
                simp only [beq_eq_false_iff_ne]; omega
              go_wp2
              go_meet
              case rel => exact ⟨rfl, rfl, rfl⟩
            · have hr' : i < r0 := by have := hki.out; omega
              have q0 := hl i hr'
              have q2 := rn_nonneg c nd hdig i
              have hs : rn c nd (i + 1) = rn c nd i * 10 + (if i < nd then c i - 48 else 0) := rfl
              rw [if_neg (by have := hni.out; omega)] at hs
              obtain ⟨n, hn⟩ : ∃ n, rn c nd i = n := ⟨_, rfl⟩
              rw [hn] at q0 q2 hs ⊢
              have q1 : n / 2 ^ k = 0 := Int.ediv_eq_zero_of_lt q2 q0
              have hs := Aside0.mk hs
              replace hn := Aside0.mk hn
              go_wp2
              go_roundg m
              case measure => omega
              case rel => exact ⟨i + 1, by simp, by rw [hs.out]; congr 1; omega, ⟨by have := hki.out; omega⟩, ⟨by have := hni.out; omega⟩, ⟨rfl⟩⟩
  case rest => as_aux_lemma =>
    obtain ⟨rfl, rfl, rfl⟩ := hcut
    go_upto_block 4 with (fail)
    go_cut [4, 5, 6] (fun a b e wc => a = .int .i64 (r0 + M : Nat) ∧ b = .int .i64 M ∧ e = .int .u64 (s3 (2 ^ k) r0 n0 c M).1 ∧ IsDec g ⟨(s3 (2 ^ k) r0 n0 c M).2, nd, dp - (r0 - 1), neg, tr⟩ wc ∧ OnlyAt g w wc)
    case first => as_aux_lemma =>
      go_wp2
      go_loopg [4, 5, 6] M (fun kk v4 v5 v6 wr => ∃ m : Nat, v4 = .int .i64 (r0 + m : Nat) ∧ v5 = .int .i64 m ∧ v6 = .int .u64 (s3 (2 ^ k) r0 n0 c m).1 ∧ Aside0 (kk + m = M) ∧ IsDec g ⟨(s3 (2 ^ k) r0 n0 c m).2, nd, dp - (r0 - 1), neg, tr⟩ wr ∧ OnlyAt g w wr)
      case atStart => exact ⟨0, rfl, rfl, rfl, ⟨rfl⟩, hd.set_dp _, (OnlyAt.refl g w).set _ _⟩
      case round =>
        clear fz e0 e1
        obtain ⟨m, rfl, rfl, rfl, hk, hdm, hom⟩ := hrel
        have e0 := hdm.nd
        have fz := hdm.frozen
        simp only at e0
        rcases gk with _ | kk
        · have hr : m = M := by have := hk.out; omega
          subst hr
          have hz : (nd : Int) ≤ (r0 + m : Nat) := by have := hM.out; omega
          go_wp2
          go_meet
          case rel => exact ⟨rfl, rfl, rfl, hdm, hom⟩
        · have hz : r0 + m < nd := by have := hk.out; have := hM.out; omega
          have hz' : ((r0 + m : Nat) : Int) < nd := by omega
          obtain ⟨i0, i1, i2, i3, i4⟩ := s3_inv (r0 := r0) p0 hP hP10 hdig m (by omega)
          have hs : s3 (2 ^ k) r0 n0 c (m + 1) = ((s3 (2 ^ k) r0 n0 c m).1 % 2 ^ k * 10 + ((s3 (2 ^ k) r0 n0 c m).2 (r0 + m) - 48), upd (s3 (2 ^ k) r0 n0 c m).2 m ((s3 (2 ^ k) r0 n0 c m).1 / 2 ^ k + 48)) := rfl
          generalize s3 (2 ^ k) r0 n0 c m = S at *
          obtain ⟨n, cc⟩ := S
          simp only at i0 i1 i2 i3 i4 hs hdm
          obtain ⟨q0, q1⟩ := div_bd p0 i0 i1
          obtain ⟨m0, m1⟩ := mod_bd n p0
          have hmask := u64_mask n k k60 i0 (by omega)
          have ed := hdm.d (r0 + m) (by omega)
          simp only at ed
          obtain ⟨d0, d1⟩ := i2 (r0 + m) hz
          obtain ⟨q, hq⟩ : ∃ q, n / 2 ^ k = q := ⟨_, rfl⟩
          obtain ⟨t, ht⟩ : ∃ t, n % 2 ^ k = t := ⟨_, rfl⟩
          rw [hq] at q0 q1 hs
          rw [ht] at m0 m1 hs hmask
          replace hs := Aside0.mk hs
          clear i2 i3 i4 ht
          have ew := hdm.d m (by omega)
          simp only at ew
          go_wp2
          go_roundg kk
          case measure => omega
          case rel =>
            refine ⟨m + 1, by congr 1, by simp, by rw [hs.out]; congr 1; omega, ⟨by have := hk.out; omega⟩, ?_, hom.set _ _⟩
            rw [hs.out]
            exact hdm.set_d m (by omega) _
    case rest => as_aux_lemma =>
      obtain ⟨rfl, rfl, rfl, hd1, ho1⟩ := hcut
      obtain ⟨n1, hn1⟩ : ∃ n, (s3 (2 ^ k) r0 n0 c M).1 = n := ⟨_, rfl⟩
      obtain ⟨c1, hc1⟩ : ∃ n, (s3 (2 ^ k) r0 n0 c M).2 = n := ⟨_, rfl⟩
      rw [hn1, hc1] at hA
      rw [hc1] at hd1
      rw [hn1]
      clear hd e0 e1 fz
      go_upto_block 6 with (fail)
      go_cut [5, 6] (fun a b wc => a = .int .i64 B.w ∧ b = .int .u64 0 ∧ IsDec g ⟨B.c, nd, dp - (r0 - 1), neg, B.tr⟩ wc ∧ OnlyAt g w wc)
      case first =>
        go_wp2
        go_loopg [5, 6] J (fun kk v5 v6 wr => ∃ j : Nat, v5 = .int .i64 (s4 (2 ^ k) A j).w ∧ v6 = .int .u64 (s4 (2 ^ k) A j).n ∧ Aside0 (kk + j = J) ∧ IsDec g ⟨(s4 (2 ^ k) A j).c, nd, dp - (r0 - 1), neg, (s4 (2 ^ k) A j).tr⟩ wr ∧ OnlyAt g w wr)
        case atStart =>
          refine ⟨0, ?_, ?_, ⟨rfl⟩, ?_, ho1⟩
          · show _ = Value.int .i64 A.w; rw [hA.out]
          · show _ = Value.int .u64 A.n; rw [hA.out]
          · show IsDec g ⟨A.c, nd, dp - (r0 - 1), neg, A.tr⟩ _; rw [hA.out]; exact hd1
        case round =>
          obtain ⟨j, rfl, rfl, hk, hdj, hoj⟩ := hrel
          have I := s4_inv p0 hAI j
          have fz := hdj.frozen
          rcases gk with _ | kk
          · have hr : j = J := by have := hk.out; omega
            rw [hr, hB.out] at hdj ⊢
            have hz := hJ.out
            rw [hB.out] at hz
            rw [hz]
            go_wp2
            go_meet
            case rel => exact ⟨rfl, rfl, hdj, hoj⟩
          · have hne := hJ' j (by have := hk.out; omega)
            have hs : s4 (2 ^ k) A (j + 1) = (s4 (2 ^ k) A j).step (2 ^ k) := rfl
            generalize s4 (2 ^ k) A j = S at *
            obtain ⟨n, wd, cc, t4⟩ := S
            obtain ⟨i0, i1, i2, i3, i4, i5⟩ := I
            simp only at i0 i1 i2 i3 i4 i5 hs hdj hne
            obtain ⟨q0, q1⟩ := div_bd p0 i0 i1
            obtain ⟨m0, m1⟩ := mod_bd n p0
            have hmask := u64_mask n k k60 i0 (by omega)
            have npos : 0 < n := by omega
            obtain ⟨q, hq⟩ : ∃ q, n / 2 ^ k = q := ⟨_, rfl⟩
            obtain ⟨t, ht⟩ : ∃ t, n % 2 ^ k = t := ⟨_, rfl⟩
            simp only [S4.step] at hs
            rw [hq] at q0 q1
            rw [ht] at m0 m1 hmask
            rw [hq, ht] at hs
            clear i3 i4 i5 ht hne
            have et := hdj.tr
            simp only at et
            by_cases h8 : wd < 800
            · rw [if_pos h8] at hs
              have h8' : (wd : Int) < 800 := by omega
              have ew := hdj.d wd h8
              simp only at ew
              replace hs := Aside0.mk hs
              go_wp2
              go_roundg kk
              case measure => omega
              case rel =>
                refine ⟨j + 1, by rw [hs.out]; simp, by rw [hs.out], ⟨by have := hk.out; omega⟩, ?_, hoj.set _ _⟩
                rw [hs.out]
                exact hdj.set_d wd h8 _
            · rw [if_neg h8] at hs
              have h8' : ¬ (wd : Int) < 800 := by omega
              by_cases hqp : 0 < q
              · rw [decide_eq_true hqp, Bool.or_true] at hs
                replace hs := Aside0.mk hs
                go_wp2
                go_roundg kk
                case measure => omega
                case rel =>
                  refine ⟨j + 1, by rw [hs.out], by rw [hs.out], ⟨by have := hk.out; omega⟩, ?_, hoj.set _ _⟩
                  rw [hs.out]
                  exact hdj.set_tr true
              · rw [decide_eq_false hqp, Bool.or_false] at hs
                replace hs := Aside0.mk hs
                go_wp2
                go_roundg kk
                case measure => omega
                case rel =>
                  refine ⟨j + 1, by rw [hs.out], by rw [hs.out], ⟨by have := hk.out; omega⟩, ?_, hoj⟩
                  rw [hs.out]
                  exact hdj
      case rest => as_aux_lemma =>
        obtain ⟨rfl, rfl, hd2, ho2⟩ := hcut
        have e0 := hd2.nd
        have fz := hd2.frozen
        simp only at e0
        have hd3 := hd2.set_nd B.w
        have ho3 := ho2.set 800 (.int .i64 B.w)
        have hT := trim_any g _ B.w rfl hBw _ hd3
        simp only at hT
        rw [hY.out] at hT
        go_wp2_with (first | (go_at_call 104; ((with_reducible refine hT.mono ?_); rintro e w' ⟨rfl, hd4, ho4⟩)))
        go_end0
        exact ⟨rfl, hd4, ho3.trans ho4⟩
end Go.Proofs.YtfkpbkjokapijaaGreatFmt.PQ
namespace Go.Proofs.YtfkpbkjokapijaaGreatFmt.PQ
open Go.RowKit Go.Proofs.YtfkpbkjokapijaaGreatFmtW.PrintWords
set_option linter.unusedVariables false
set_option linter.unusedSimpArgs false

theorem trimN_le (c : Nat → Int) : ∀ n, trimN c n ≤ n
  | 0 => Nat.le_refl _
  | n + 1 => by
    rw [trimN]
    split
    · have := trimN_le c n; omega
    · omega
theorem trimN_pos (c : Nat → Int) (h : c 0 ≠ 48) (n : Nat) : 0 < n → 0 < trimN c n := by
  induction n with
  | zero => intro h0; exact absurd h0 (by omega)
  | succ n ih =>
    intro _
    rw [trimN]
    split
    · next e =>
      rcases n with _ | n
      · exact absurd e h
      · exact ih (by omega)
    · omega
theorem s4_c0 (P : Int) (s : S4) (j : Nat) (h : 0 < (s4 P s j).w) : ∀ i, (s4 P s (j + i)).c 0 = (s4 P s j).c 0 ∧ 0 < (s4 P s (j + i)).w
  | 0 => ⟨rfl, h⟩
  | i + 1 => by
    obtain ⟨ih, iw⟩ := s4_c0 P s j h i
    rw [show j + (i + 1) = (j + i) + 1 from rfl, s4, S4.step]
    split
    · refine ⟨?_, by dsimp only; omega⟩
      dsimp only [upd]
      rw [if_neg (by omega)]
      exact ih
    · exact ⟨ih, iw⟩

theorem rightShift_any (x : D) (hx : x.Good) (k : Nat) (k1 : 1 ≤ k) (k60 : k ≤ 60) (dp0 : -1000000 ≤ x.dp) (dp1 : x.dp ≤ 1000000) :
    ∃ y : D, y.Good ∧ y.dp ≤ x.dp ∧ x.dp - 19 ≤ y.dp ∧ 10 * y.dp + y.c 0 < 10 * x.dp + x.c 0 ∧ ∀ (g : Nat) (w : World), IsDec g x w →
      Calls Tryz.prog 98 #[.pointer (some ⟨g, 0, none⟩), .int .u64 k] w fun en w' => en = .returned (.tuple #[]) ∧ IsDec g y w' ∧ OnlyAt g w w' := by
  obtain ⟨c, nd, dp, neg, tr⟩ := x
  obtain ⟨⟨h0, h8, hdig⟩, hp, hf⟩ := hx
  simp only at h0 h8 hdig hp hf dp0 dp1
  obtain ⟨nd, rfl⟩ : ∃ n : Nat, nd = (n : Int) := ⟨nd.toNat, by omega⟩
  have hdig' : ∀ j, j < nd → 48 ≤ c j ∧ c j ≤ 57 := fun j hj => hdig j (by omega)
  have p0 := two_pow_ge k k1
  have p1 := two_pow_le60 k k60
  obtain ⟨r0, r1, r20, hP, hP10, hl⟩ := rn_stop c nd (by omega) hdig' hf (2 ^ k) p0 p1
  obtain ⟨M, hM⟩ : ∃ M, M = nd - r0 := ⟨_, rfl⟩
  obtain ⟨A, hA⟩ : ∃ A : S4, A = ⟨(s3 (2 ^ k) r0 (rn c nd r0) c M).1, M, (s3 (2 ^ k) r0 (rn c nd r0) c M).2, tr⟩ := ⟨_, rfl⟩
  have hAI : A.Inv (2 ^ k) := by
    rw [hA]
    by_cases hM0 : M = 0
    · rw [hM0]
      exact ⟨by show 0 ≤ rn c nd r0; omega, hP10, by show 0 ≤ 800; omega, fun j hj => absurd hj (by show ¬ j < 0; omega), fun h => absurd h (by show ¬ 0 < 0; omega), fun _ => hP⟩
    · obtain ⟨i0, i1, i2, i3, i4⟩ := s3_inv (r0 := r0) p0 hP hP10 hdig' M (by omega)
      exact ⟨i0, i1, by show M ≤ 800; omega, fun j hj => i2 j (by have : j < M := hj; omega), fun _ => (i3 (by omega)).1, fun h => absurd h hM0⟩
  obtain ⟨J, hJ1, hJ, hJ'⟩ := s4_stop k A
  have hBI := s4_inv p0 hAI J
  -- what the first digit is
  have hc0 : (s4 (2 ^ k) A J).c 0 = rn c nd r0 / 2 ^ k + 48 ∧ 0 < (s4 (2 ^ k) A J).w := by
    by_cases hM0 : M = 0
    · have a0 : (s4 (2 ^ k) A 0).n = rn c nd r0 := by show A.n = _; rw [hA, hM0]; rfl
      have a1 : A.w = 0 := by rw [hA]; exact hM0
      have hJ0 : 0 < J := by
        rcases J with _ | J
        · rw [a0] at hJ; omega
        · omega
      have hstep : (s4 (2 ^ k) A 1).w = 1 ∧ (s4 (2 ^ k) A 1).c 0 = rn c nd r0 / 2 ^ k + 48 := by
        show (A.step (2 ^ k)).w = 1 ∧ (A.step (2 ^ k)).c 0 = _
        rw [S4.step, if_pos (by omega), a1]
        refine ⟨rfl, ?_⟩
        show upd A.c 0 (A.n / 2 ^ k + 48) 0 = _
        rw [upd, if_pos rfl]
        have : A.n = rn c nd r0 := a0
        rw [this]
      have := s4_c0 (2 ^ k) A 1 (by rw [hstep.1]; omega) (J - 1)
      rw [show 1 + (J - 1) = J from by omega] at this
      exact ⟨this.1.trans hstep.2, this.2⟩
    · obtain ⟨i0, i1, i2, i3, i4⟩ := s3_inv (r0 := r0) p0 hP hP10 hdig' M (by omega)
      have aw : 0 < (s4 (2 ^ k) A 0).w := by show 0 < A.w; rw [hA]; show 0 < M; omega
      have := s4_c0 (2 ^ k) A 0 aw J
      rw [Nat.zero_add] at this
      refine ⟨this.1.trans ?_, this.2⟩
      show A.c 0 = _
      rw [hA]
      exact (i3 (by omega)).2
  obtain ⟨B, hB⟩ : ∃ B, s4 (2 ^ k) A J = B := ⟨_, rfl⟩
  rw [hB] at hc0 hBI
  obtain ⟨hc0, hw0⟩ := hc0
  have hdiv := div_pos' p0 hP
  obtain ⟨q0, q1⟩ := div_bd p0 (by omega) hP10
  have ht := trimN_pos B.c (by omega) B.w hw0
  have htl := trimN_le B.c B.w
  have hw8 := hBI.w8
  refine ⟨⟨B.c, trimN B.c B.w, if trimN B.c B.w = 0 then 0 else dp - (r0 - 1), neg, B.tr⟩, ⟨⟨?_, ?_, ?_⟩, ?_, ?_⟩, ?_, ?_, ?_, fun g w hd =>
    right_walk c nd dp neg tr (by omega) k k1 k60 (by omega) hdig' hf dp0 dp1 r0 r1 r20 hP hP10 hl M hM A hA J hJ hJ' B hB hAI hBI.w8 _ rfl g w hd⟩
  · show (0 : Int) ≤ (trimN B.c B.w : Nat); omega
  · show ((trimN B.c B.w : Nat) : Int) ≤ 800; omega
  · intro j hj
    have : (j : Int) < (trimN B.c B.w : Nat) := hj
    exact hBI.dig j (by omega)
  · show (0 : Int) < (trimN B.c B.w : Nat); omega
  · show 49 ≤ B.c 0; omega
  · show (if trimN B.c B.w = 0 then 0 else dp - (r0 - 1)) ≤ dp
    rw [if_neg (by omega)]; omega
  · show dp - 19 ≤ (if trimN B.c B.w = 0 then 0 else dp - (r0 - 1))
    rw [if_neg (by omega)]; omega
  · show 10 * (if trimN B.c B.w = 0 then 0 else dp - (r0 - 1)) + B.c 0 < 10 * dp + c 0
    rw [if_neg (by omega)]
    by_cases hr1 : r0 = 1
    · subst hr1
      have e1 : rn c nd 1 = c 0 - 48 := by
        have hn : 0 < nd := by omega
        simp only [rn, if_pos hn]; omega
      rw [e1] at hc0
      rw [e1] at hdiv
      have hq : (c 0 - 48) / 2 ^ k * 2 ^ k ≤ c 0 - 48 := Int.ediv_mul_le _ (by omega)
      have h2 : (c 0 - 48) / 2 ^ k * 2 ≤ (c 0 - 48) / 2 ^ k * 2 ^ k := Int.mul_le_mul_of_nonneg_left p0 (by omega)
      omega
    · omega
end Go.Proofs.YtfkpbkjokapijaaGreatFmt.PQ
