/- The left shift: its contract. -/
import Derived.Test.YtfkpbkjokapijaaGreatFmtDecL2
/- The left shift: the walk. -/
namespace Go.Proofs.YtfkpbkjokapijaaGreatFmt.PQ
open Go.RowKit Go.Proofs.YtfkpbkjokapijaaGreatFmtW.PrintWords
set_option linter.unusedVariables false
set_option linter.unusedSimpArgs false

/-- Where the table of the left shift lies, apart from the number. -/
structure LCT (g : Nat) (w : World) : Prop where
  g13 : 13 ≠ g
  tab : ∃ b bo, b ≠ g ∧ w.cell? ⟨13, 0, none⟩ = some (.slice (some ⟨b, bo, none⟩) 61 61) ∧ ∀ k, k < 61 → w.cell? ⟨b, bo + k * 2, none⟩ = some (.int .i64 (lcD k)) ∧ w.cell? ⟨b, bo + k * 2 + 1, none⟩ = some (.string (lcS k))
theorem LCT.only {g : Nat} {w w1 : World} (h : LCT g w) (o : OnlyAt g w w1) : LCT g w1 := by
  obtain ⟨b, bo, hb, h1, h2⟩ := h.tab
  exact ⟨h.g13, b, bo, hb, o.cell h.g13 h1, fun k hk => ⟨o.cell hb (h2 k hk).1, o.cell hb (h2 k hk).2⟩⟩

set_option maxHeartbeats 1000000 in
set_option maxRecDepth 100000 in
theorem left_walk (c : Nat → Int) (nd : Nat) (dp : Int) (neg tr : Bool) (n8 : nd ≤ 800) (k : Nat) (k1 : 1 ≤ k) (k60 : k ≤ 60) (hd0 : 0 < nd) (hdig : ∀ j, j < nd → 48 ≤ c j ∧ c j ≤ 57) (hf : 49 ≤ c 0)
    (dp0 : -1000000 ≤ dp) (dp1 : dp ≤ 1000000)
    (dl : Nat) (hdl : dl = if pl c nd (lcS k) (lcS k).size 0 then lcD k - 1 else lcD k) (dl19 : dl ≤ 19)
    (A : L4) (hA : l1 (2 ^ k) nd dl ⟨0, c, tr⟩ nd = A) (hAI : L2Inv nd dl 0 A)
    (B : L4) (hB : l2 dl A dl = B)
    (N : Nat) (hN : N = min (nd + dl) 800)
    (Y : D) (hY : (⟨B.c, trimN B.c N, if trimN B.c N = 0 then 0 else dp + dl, neg, B.tr⟩ : D) = Y) (g : Nat) (w : World) (hT : LCT g w) (hd : IsDec g ⟨c, nd, dp, neg, tr⟩ w) :
    Calls Tryz.prog 97 #[.pointer (some ⟨g, 0, none⟩), .int .u64 k] w fun en w' => en = .returned (.tuple #[]) ∧ IsDec g Y w' ∧ OnlyAt g w w' := by
  have p0 := two_pow_ge k k1
  have p1 := two_pow_le60 k k60
  have hk := lc_ok k k1 k60
  have e0 := hd.nd
  have e1 := hd.dp
  have fz := hd.frozen
  simp only at e0 e1
  replace hA := Aside0.mk hA
  replace hB := Aside0.mk hB
  replace hN := Aside0.mk hN
  replace hY := Aside0.mk hY
  obtain ⟨b, bo, hbg, t0, t1⟩ := hT.tab
  obtain ⟨t2, t3⟩ := t1 k (by omega)
  have hk1 := hk.d1
  have hk19 := hk.d19
  obtain ⟨dk, hdk⟩ : ∃ dk : Nat, lcD k = dk := ⟨_, rfl⟩
  rw [hdk] at t2 hk1 hk19 hdl
  obtain ⟨sk, hsk⟩ : ∃ s, lcS k = s := ⟨_, rfl⟩
  have hs60 : sk.size ≤ 60 := by rw [← hsk]; have := hk.size; have := hk.d1; omega
  rw [hsk] at t3 hdl
  have hpre := fun (w1 : World) (hw : ∀ j, j < nd → w1.cell? ⟨g, j, none⟩ = some (.int .u8 (c j))) => prefix_any c nd sk n8 hs60 g 800 w1 hw
  obtain ⟨pb, hpb⟩ : ∃ pb, pl c nd sk sk.size 0 = pb := ⟨_, rfl⟩
  rw [hpb] at hpre hdl
  replace hpre := Aside0.mk hpre
  clear hT t1 hpb hdk hsk hk
  have hcells : ∀ j, j < nd → w.cell? ⟨g, j, none⟩ = some (.int .u8 (c j)) := fun j hj => hd.d j (by omega)
  replace hcells := Aside0.mk hcells
  have hal : Tryz.prog.arrayLen 122 = 800 := by kernel_rfl
  have hel : Tryz.prog.elem 122 = 5 := by kernel_rfl
  have n8' : (nd : Int) ≤ 800 := by omega
  cases pb
  · simp only [Bool.false_eq_true, if_false] at hdl
    subst hdl
    go_enter Tryz.func97, Tryz.ntmps97
    go_wp2
    go_quiet ((go_at_call 103; exact Calls.quiet_of (hpre.out _ hcells.out)))
    go_upto_block 0 with (fail)
    go_cut [5, 6, 7] (fun a b e wc => a = .int .i64 (-1) ∧ b = .int .i64 dl ∧ e = .int .u64 A.n ∧ IsDec g ⟨A.c, nd, dp, neg, A.tr⟩ wc ∧ OnlyAt g w wc)
    case first => as_aux_lemma =>
      go_wp2
      go_loopg [5, 6, 7] nd (fun kk v5 v6 v7 wr => ∃ m : Nat, v5 = .int .i64 ((kk : Int) - 1) ∧ v6 = .int .i64 (kk + dl : Nat) ∧ v7 = .int .u64 (l1 (2 ^ k) nd dl ⟨0, c, tr⟩ m).n ∧ Aside0 (kk + m = nd) ∧ IsDec g ⟨(l1 (2 ^ k) nd dl ⟨0, c, tr⟩ m).c, nd, dp, neg, (l1 (2 ^ k) nd dl ⟨0, c, tr⟩ m).tr⟩ wr ∧ OnlyAt g w wr)
      case atStart => exact ⟨0, rfl, by simp, rfl, ⟨rfl⟩, hd.drewN nq, (OnlyAt.refl g w).drewN nq⟩
      case round =>
        clear fz e0 e1 hcells hpre hd
        obtain ⟨m, rfl, rfl, rfl, hk, hdm, hom⟩ := hrel
        have fz := hdm.frozen
        rcases gk with _ | kk
        · have hr : m = nd := by have := hk.out; omega
          rw [hr, hA.out] at hdm ⊢
          go_wp2
          go_meet
          case rel => exact ⟨rfl, by simp, rfl, hdm, hom⟩
        · have I := l1_inv (2 ^ k) p0 nd dl c tr hdig m (by have := hk.out; omega)
          have hs : l1 (2 ^ k) nd dl ⟨0, c, tr⟩ (m + 1) = (l1 (2 ^ k) nd dl ⟨0, c, tr⟩ m).put ((l1 (2 ^ k) nd dl ⟨0, c, tr⟩ m).n + ((l1 (2 ^ k) nd dl ⟨0, c, tr⟩ m).c (nd - 1 - m) - 48) * 2 ^ k) (nd + dl - m - 1) := rfl
          have hkk : nd - 1 - m = kk := by have := hk.out; omega
          rw [show nd + dl - m - 1 = kk + dl from by have := hk.out; omega, hkk] at hs
          generalize l1 (2 ^ k) nd dl ⟨0, c, tr⟩ m = S at *
          obtain ⟨n, cc, t4⟩ := S
          obtain ⟨i0, i1, i2, i3, i4, i5, i6⟩ := I
          simp only at i0 i1 i2 i3 i4 i5 i6 hs hdm
          have hci := i4 kk (by have := hk.out; omega)
          obtain ⟨d0, d1⟩ := hdig kk (by have := hk.out; omega)
          rw [← hci] at d0 d1
          have hkk8 : (kk : Int) < 800 := by have := hk.out; omega
          have ed := hdm.d kk (by have := hk.out; omega)
          simp only at ed
          have et := hdm.tr
          simp only at et
          rw [show ((kk + 1 : Nat) : Int) - 1 = (kk : Int) from by omega]
          rw [show kk + 1 + dl = (kk + dl) + 1 from by omega]
          have dP0 : 0 ≤ (cc kk - 48) * 2 ^ k := Int.mul_nonneg (by omega) (by omega)
          have dP1 : (cc kk - 48) * 2 ^ k ≤ 9 * 2 ^ k := Int.mul_le_mul_of_nonneg_right (by omega) (by omega)
          obtain ⟨dP, hdP⟩ : ∃ z, (cc kk - 48) * 2 ^ k = z := ⟨_, rfl⟩
          rw [hdP] at dP0 dP1 hs
          obtain ⟨z, hz⟩ : ∃ z, n + dP = z := ⟨_, rfl⟩
          have z0 : 0 ≤ z := by omega
          have z1 : z < 11529215046068469760 := by omega
          rw [hz] at hs
          obtain ⟨q, hq⟩ : ∃ q, z / 10 = q := ⟨_, rfl⟩
          obtain ⟨t, ht⟩ : ∃ t, z % 10 = t := ⟨_, rfl⟩
          have hqt : z - 10 * q = t := by omega
          have q0 : 0 ≤ q := by omega
          have q1 : q < 2 ^ k := by omega
          have m0 : 0 ≤ t := by omega
          have m1 : t ≤ 9 := by omega
          simp only [L4.put] at hs
          rw [hq, ht] at hs
          clear i2 i3 i4 i5 i6 ht hci hkk
          by_cases h8 : kk + dl < 800
          · rw [if_pos h8] at hs
            have h8' : (kk : Int) + dl < 800 := by omega
            have ew := hdm.d (kk + dl) h8
            simp only at ew
            replace hs := Aside0.mk hs
            go_wp2
            go_roundg kk
            case measure => omega
            case rel =>
              refine ⟨m + 1, rfl, by simp, by rw [hs.out]; exact congrArg (Value.int .u64) hq, ⟨by have := hk.out; omega⟩, ?_, hom.set _ _⟩
              rw [hs.out]
              exact hdm.set_d _ h8 _
          · rw [if_neg h8] at hs
            have h8' : 800 ≤ (kk : Int) + dl := by omega
            clear h8
            by_cases hqp : t = 0
            · rw [decide_eq_false (by simpa using hqp), Bool.or_false] at hs
              have hb : (t != 0) = false := by simpa using hqp
              have hb2 : (t == 0) = true := by simpa using hqp
              clear hqp
              replace hs := Aside0.mk hs
              go_wp2
              go_roundg kk
              case measure => omega
              case rel =>
                refine ⟨m + 1, rfl, by simp, by rw [hs.out]; exact congrArg (Value.int .u64) hq, ⟨by have := hk.out; omega⟩, ?_, hom⟩
                rw [hs.out]
                exact hdm
            · rw [decide_eq_true hqp, Bool.or_true] at hs
              have hb : (t != 0) = true := by simpa using hqp
              have hb2 : (t == 0) = false := by simpa using hqp
              clear hqp
              replace hs := Aside0.mk hs
              go_wp2
              go_roundg kk
              case measure => omega
              case rel =>
                refine ⟨m + 1, rfl, by simp, by rw [hs.out]; exact congrArg (Value.int .u64) hq, ⟨by have := hk.out; omega⟩, ?_, hom.set _ _⟩
                rw [hs.out]
                exact hdm.set_tr true
    case rest => as_aux_lemma =>
      obtain ⟨rfl, rfl, rfl, hd1, ho1⟩ := hcut
      clear fz e0 e1 hd
      go_upto_block 2 with (fail)
      go_cut [6, 7] (fun a b wc => a = .int .i64 0 ∧ b = .int .u64 0 ∧ IsDec g ⟨B.c, nd, dp, neg, B.tr⟩ wc ∧ OnlyAt g w wc)
      case first => as_aux_lemma =>
        go_wp2
        go_loopg [6, 7] dl (fun kk v6 v7 wr => ∃ i : Nat, v6 = .int .i64 kk ∧ v7 = .int .u64 (l2 dl A i).n ∧ Aside0 (kk + i = dl) ∧ IsDec g ⟨(l2 dl A i).c, nd, dp, neg, (l2 dl A i).tr⟩ wr ∧ OnlyAt g w wr)
        case atStart => exact ⟨0, rfl, rfl, ⟨rfl⟩, hd1, ho1⟩
        case round =>
          clear hd1 ho1
          obtain ⟨i, rfl, rfl, hk, hdj, hoj⟩ := hrel
          have fz := hdj.frozen
          rcases gk with _ | kk
          · have hr : i = dl := by have := hk.out; omega
            have hz := l2_end nd dl dl19 A hAI
            rw [hr] at hdj ⊢
            rw [hz]
            rw [hB.out] at hdj
            go_wp2
            go_meet
            case rel => exact ⟨rfl, rfl, hdj, hoj⟩
          · have npos := l2_pos nd dl dl19 A hAI i (by have := hk.out; omega)
            have I := l2_inv nd dl dl19 A hAI i (by have := hk.out; omega)
            have nhi : (l2 dl A i).n < 10000000000000000000 := by
              have h1 := I.hi
              have h2 : (10 : Nat) ^ (dl - i) ≤ 10 ^ 19 := Nat.pow_le_pow_right (by decide) (by omega)
              have h3 : (10 : Int) ^ (dl - i) = ((10 ^ (dl - i) : Nat) : Int) := by simp
              omega
            clear I
            have hs : l2 dl A (i + 1) = (l2 dl A i).put (l2 dl A i).n (dl - i - 1) := rfl
            rw [show dl - i - 1 = kk from by have := hk.out; omega] at hs
            have hk8 : kk < 800 := by have := hk.out; omega
            simp only [L4.put] at hs
            rw [if_pos hk8] at hs
            generalize l2 dl A i = S at *
            obtain ⟨n, cc, t4⟩ := S
            simp only at npos nhi hs hdj
            obtain ⟨q, hq⟩ : ∃ q, n / 10 = q := ⟨_, rfl⟩
            obtain ⟨t, ht⟩ : ∃ t, n % 10 = t := ⟨_, rfl⟩
            have hqt : n - 10 * q = t := by omega
            have q0 : 0 ≤ q := by omega
            have q1 : q < 1000000000000000000 := by omega
            have m0 : 0 ≤ t := by omega
            have m1 : t ≤ 9 := by omega
            rw [hq, ht] at hs
            clear ht
            have h8' : (kk : Int) < 800 := by omega
            have ew := hdj.d kk hk8
            simp only at ew
            replace hs := Aside0.mk hs
            go_wp2
            go_roundg kk
            case measure => omega
            case rel =>
              refine ⟨i + 1, rfl, by rw [hs.out]; exact congrArg (Value.int .u64) hq, ⟨by have := hk.out; omega⟩, ?_, hoj.set _ _⟩
              rw [hs.out]
              exact hdj.set_d kk hk8 _
      case rest => as_aux_lemma =>
        clear hd1 ho1
        obtain ⟨rfl, rfl, hd2, ho2⟩ := hcut
        have e0 := hd2.nd
        have e1 := hd2.dp
        have fz := hd2.frozen
        simp only at e0 e1
        by_cases hN8 : (800 : Int) ≤ nd + dl
        · have hN' : N = 800 := by have := hN.out; omega
          subst hN'
          have hd3 := ((hd2.set_nd ((nd : Int) + dl)).set_nd 800).set_dp (dp + dl)
          have ho3 := ((ho2.set 800 (.int .i64 ((nd : Int) + dl))).set 800 (.int .i64 800)).set 801 (.int .i64 (dp + dl))
          have hTr := trim_any g _ 800 rfl (by omega) _ hd3
          simp only at hTr
          rw [hY.out] at hTr
          replace hTr := Aside0.mk hTr
          clear hd3
          go_wp2_with (first | (go_at_call 104; ((with_reducible refine hTr.out.mono ?_); rintro e w' ⟨rfl, hd4, ho4⟩)))
          go_end0
          exact ⟨rfl, hd4, ho3.trans ho4⟩
        · have hN' : N = nd + dl := by have := hN.out; omega
          subst hN'
          have hd3 := (hd2.set_nd ((nd : Int) + dl)).set_dp (dp + dl)
          have ho3 := (ho2.set 800 (.int .i64 ((nd : Int) + dl))).set 801 (.int .i64 (dp + dl))
          have hTr := trim_any g _ (nd + dl) (by simp) (by omega) _ hd3
          simp only at hTr
          rw [hY.out] at hTr
          replace hTr := Aside0.mk hTr
          clear hd3
          go_wp2_with (first | (go_at_call 104; ((with_reducible refine hTr.out.mono ?_); rintro e w' ⟨rfl, hd4, ho4⟩)))
          go_end0
          exact ⟨rfl, hd4, ho3.trans ho4⟩
  · simp only [if_true] at hdl
    obtain ⟨rfl⟩ : dk = dl + 1 := by omega
    clear hdl
    go_enter Tryz.func97, Tryz.ntmps97
    go_wp2
    go_quiet ((go_at_call 103; exact Calls.quiet_of (hpre.out _ hcells.out)))
    go_upto_block 0 with (fail)
    go_cut [5, 6, 7] (fun a b e wc => a = .int .i64 (-1) ∧ b = .int .i64 dl ∧ e = .int .u64 A.n ∧ IsDec g ⟨A.c, nd, dp, neg, A.tr⟩ wc ∧ OnlyAt g w wc)
    case first => as_aux_lemma =>
      go_wp2
      go_loopg [5, 6, 7] nd (fun kk v5 v6 v7 wr => ∃ m : Nat, v5 = .int .i64 ((kk : Int) - 1) ∧ v6 = .int .i64 (kk + dl : Nat) ∧ v7 = .int .u64 (l1 (2 ^ k) nd dl ⟨0, c, tr⟩ m).n ∧ Aside0 (kk + m = nd) ∧ IsDec g ⟨(l1 (2 ^ k) nd dl ⟨0, c, tr⟩ m).c, nd, dp, neg, (l1 (2 ^ k) nd dl ⟨0, c, tr⟩ m).tr⟩ wr ∧ OnlyAt g w wr)
      case atStart => exact ⟨0, rfl, by simp, rfl, ⟨rfl⟩, hd.drewN nq, (OnlyAt.refl g w).drewN nq⟩
      case round =>
        clear fz e0 e1 hcells hpre hd
        obtain ⟨m, rfl, rfl, rfl, hk, hdm, hom⟩ := hrel
        have fz := hdm.frozen
        rcases gk with _ | kk
        · have hr : m = nd := by have := hk.out; omega
          rw [hr, hA.out] at hdm ⊢
          go_wp2
          go_meet
          case rel => exact ⟨rfl, by simp, rfl, hdm, hom⟩
        · have I := l1_inv (2 ^ k) p0 nd dl c tr hdig m (by have := hk.out; omega)
          have hs : l1 (2 ^ k) nd dl ⟨0, c, tr⟩ (m + 1) = (l1 (2 ^ k) nd dl ⟨0, c, tr⟩ m).put ((l1 (2 ^ k) nd dl ⟨0, c, tr⟩ m).n + ((l1 (2 ^ k) nd dl ⟨0, c, tr⟩ m).c (nd - 1 - m) - 48) * 2 ^ k) (nd + dl - m - 1) := rfl
          have hkk : nd - 1 - m = kk := by have := hk.out; omega
          rw [show nd + dl - m - 1 = kk + dl from by have := hk.out; omega, hkk] at hs
          generalize l1 (2 ^ k) nd dl ⟨0, c, tr⟩ m = S at *
          obtain ⟨n, cc, t4⟩ := S
          obtain ⟨i0, i1, i2, i3, i4, i5, i6⟩ := I
          simp only at i0 i1 i2 i3 i4 i5 i6 hs hdm
          have hci := i4 kk (by have := hk.out; omega)
          obtain ⟨d0, d1⟩ := hdig kk (by have := hk.out; omega)
          rw [← hci] at d0 d1
          have hkk8 : (kk : Int) < 800 := by have := hk.out; omega
          have ed := hdm.d kk (by have := hk.out; omega)
          simp only at ed
          have et := hdm.tr
          simp only at et
          rw [show ((kk + 1 : Nat) : Int) - 1 = (kk : Int) from by omega]
          rw [show kk + 1 + dl = (kk + dl) + 1 from by omega]
          have dP0 : 0 ≤ (cc kk - 48) * 2 ^ k := Int.mul_nonneg (by omega) (by omega)
          have dP1 : (cc kk - 48) * 2 ^ k ≤ 9 * 2 ^ k := Int.mul_le_mul_of_nonneg_right (by omega) (by omega)
          obtain ⟨dP, hdP⟩ : ∃ z, (cc kk - 48) * 2 ^ k = z := ⟨_, rfl⟩
          rw [hdP] at dP0 dP1 hs
          obtain ⟨z, hz⟩ : ∃ z, n + dP = z := ⟨_, rfl⟩
          have z0 : 0 ≤ z := by omega
          have z1 : z < 11529215046068469760 := by omega
          rw [hz] at hs
          obtain ⟨q, hq⟩ : ∃ q, z / 10 = q := ⟨_, rfl⟩
          obtain ⟨t, ht⟩ : ∃ t, z % 10 = t := ⟨_, rfl⟩
          have hqt : z - 10 * q = t := by omega
          have q0 : 0 ≤ q := by omega
          have q1 : q < 2 ^ k := by omega
          have m0 : 0 ≤ t := by omega
          have m1 : t ≤ 9 := by omega
          simp only [L4.put] at hs
          rw [hq, ht] at hs
          clear i2 i3 i4 i5 i6 ht hci hkk
          by_cases h8 : kk + dl < 800
          · rw [if_pos h8] at hs
            have h8' : (kk : Int) + dl < 800 := by omega
            have ew := hdm.d (kk + dl) h8
            simp only at ew
            replace hs := Aside0.mk hs
            go_wp2
            go_roundg kk
            case measure => omega
            case rel =>
              refine ⟨m + 1, rfl, by simp, by rw [hs.out]; exact congrArg (Value.int .u64) hq, ⟨by have := hk.out; omega⟩, ?_, hom.set _ _⟩
              rw [hs.out]
              exact hdm.set_d _ h8 _
          · rw [if_neg h8] at hs
            have h8' : 800 ≤ (kk : Int) + dl := by omega
            clear h8
            by_cases hqp : t = 0
            · rw [decide_eq_false (by simpa using hqp), Bool.or_false] at hs
              have hb : (t != 0) = false := by simpa using hqp
              have hb2 : (t == 0) = true := by simpa using hqp
              clear hqp
              replace hs := Aside0.mk hs
              go_wp2
              go_roundg kk
              case measure => omega
              case rel =>
                refine ⟨m + 1, rfl, by simp, by rw [hs.out]; exact congrArg (Value.int .u64) hq, ⟨by have := hk.out; omega⟩, ?_, hom⟩
                rw [hs.out]
                exact hdm
            · rw [decide_eq_true hqp, Bool.or_true] at hs
              have hb : (t != 0) = true := by simpa using hqp
              have hb2 : (t == 0) = false := by simpa using hqp
              clear hqp
              replace hs := Aside0.mk hs
              go_wp2
              go_roundg kk
              case measure => omega
              case rel =>
                refine ⟨m + 1, rfl, by simp, by rw [hs.out]; exact congrArg (Value.int .u64) hq, ⟨by have := hk.out; omega⟩, ?_, hom.set _ _⟩
                rw [hs.out]
                exact hdm.set_tr true
    case rest => as_aux_lemma =>
      obtain ⟨rfl, rfl, rfl, hd1, ho1⟩ := hcut
      clear fz e0 e1 hd
      go_upto_block 2 with (fail)
      go_cut [6, 7] (fun a b wc => a = .int .i64 0 ∧ b = .int .u64 0 ∧ IsDec g ⟨B.c, nd, dp, neg, B.tr⟩ wc ∧ OnlyAt g w wc)
      case first => as_aux_lemma =>
        go_wp2
        go_loopg [6, 7] dl (fun kk v6 v7 wr => ∃ i : Nat, v6 = .int .i64 kk ∧ v7 = .int .u64 (l2 dl A i).n ∧ Aside0 (kk + i = dl) ∧ IsDec g ⟨(l2 dl A i).c, nd, dp, neg, (l2 dl A i).tr⟩ wr ∧ OnlyAt g w wr)
        case atStart => exact ⟨0, rfl, rfl, ⟨rfl⟩, hd1, ho1⟩
        case round =>
          clear hd1 ho1
          obtain ⟨i, rfl, rfl, hk, hdj, hoj⟩ := hrel
          have fz := hdj.frozen
          rcases gk with _ | kk
          · have hr : i = dl := by have := hk.out; omega
            have hz := l2_end nd dl dl19 A hAI
            rw [hr] at hdj ⊢
            rw [hz]
            rw [hB.out] at hdj
            go_wp2
            go_meet
            case rel => exact ⟨rfl, rfl, hdj, hoj⟩
          · have npos := l2_pos nd dl dl19 A hAI i (by have := hk.out; omega)
            have I := l2_inv nd dl dl19 A hAI i (by have := hk.out; omega)
            have nhi : (l2 dl A i).n < 10000000000000000000 := by
              have h1 := I.hi
              have h2 : (10 : Nat) ^ (dl - i) ≤ 10 ^ 19 := Nat.pow_le_pow_right (by decide) (by omega)
              have h3 : (10 : Int) ^ (dl - i) = ((10 ^ (dl - i) : Nat) : Int) := by simp
              omega
            clear I
            have hs : l2 dl A (i + 1) = (l2 dl A i).put (l2 dl A i).n (dl - i - 1) := rfl
            rw [show dl - i - 1 = kk from by have := hk.out; omega] at hs
            have hk8 : kk < 800 := by have := hk.out; omega
            simp only [L4.put] at hs
            rw [if_pos hk8] at hs
            generalize l2 dl A i = S at *
            obtain ⟨n, cc, t4⟩ := S
            simp only at npos nhi hs hdj
            obtain ⟨q, hq⟩ : ∃ q, n / 10 = q := ⟨_, rfl⟩
            obtain ⟨t, ht⟩ : ∃ t, n % 10 = t := ⟨_, rfl⟩
            have hqt : n - 10 * q = t := by omega
            have q0 : 0 ≤ q := by omega
            have q1 : q < 1000000000000000000 := by omega
            have m0 : 0 ≤ t := by omega
            have m1 : t ≤ 9 := by omega
            rw [hq, ht] at hs
            clear ht
            have h8' : (kk : Int) < 800 := by omega
            have ew := hdj.d kk hk8
            simp only at ew
            replace hs := Aside0.mk hs
            go_wp2
            go_roundg kk
            case measure => omega
            case rel =>
              refine ⟨i + 1, rfl, by rw [hs.out]; exact congrArg (Value.int .u64) hq, ⟨by have := hk.out; omega⟩, ?_, hoj.set _ _⟩
              rw [hs.out]
              exact hdj.set_d kk hk8 _
      case rest => as_aux_lemma =>
        clear hd1 ho1
        obtain ⟨rfl, rfl, hd2, ho2⟩ := hcut
        have e0 := hd2.nd
        have e1 := hd2.dp
        have fz := hd2.frozen
        simp only at e0 e1
        by_cases hN8 : (800 : Int) ≤ nd + dl
        · have hN' : N = 800 := by have := hN.out; omega
          subst hN'
          have hd3 := ((hd2.set_nd ((nd : Int) + dl)).set_nd 800).set_dp (dp + dl)
          have ho3 := ((ho2.set 800 (.int .i64 ((nd : Int) + dl))).set 800 (.int .i64 800)).set 801 (.int .i64 (dp + dl))
          have hTr := trim_any g _ 800 rfl (by omega) _ hd3
          simp only at hTr
          rw [hY.out] at hTr
          replace hTr := Aside0.mk hTr
          clear hd3
          go_wp2_with (first | (go_at_call 104; ((with_reducible refine hTr.out.mono ?_); rintro e w' ⟨rfl, hd4, ho4⟩)))
          go_end0
          exact ⟨rfl, hd4, ho3.trans ho4⟩
        · have hN' : N = nd + dl := by have := hN.out; omega
          subst hN'
          have hd3 := (hd2.set_nd ((nd : Int) + dl)).set_dp (dp + dl)
          have ho3 := (ho2.set 800 (.int .i64 ((nd : Int) + dl))).set 801 (.int .i64 (dp + dl))
          have hTr := trim_any g _ (nd + dl) (by simp) (by omega) _ hd3
          simp only at hTr
          rw [hY.out] at hTr
          replace hTr := Aside0.mk hTr
          clear hd3
          go_wp2_with (first | (go_at_call 104; ((with_reducible refine hTr.out.mono ?_); rintro e w' ⟨rfl, hd4, ho4⟩)))
          go_end0
          exact ⟨rfl, hd4, ho3.trans ho4⟩
end Go.Proofs.YtfkpbkjokapijaaGreatFmt.PQ
namespace Go.Proofs.YtfkpbkjokapijaaGreatFmt.PQ
open Go.RowKit Go.Proofs.YtfkpbkjokapijaaGreatFmtW.PrintWords
set_option linter.unusedVariables false
set_option linter.unusedSimpArgs false

theorem leftShift_any (x : D) (hx : x.Good) (k : Nat) (k1 : 1 ≤ k) (k60 : k ≤ 60) (dp0 : -1000000 ≤ x.dp) (dp1 : x.dp ≤ 1000000) :
    ∃ y : D, y.Good ∧ x.dp ≤ y.dp ∧ y.dp ≤ x.dp + 19 ∧ 10 * x.dp + x.c 0 < 10 * y.dp + y.c 0 ∧ ∀ (g : Nat) (w : World), LCT g w → IsDec g x w →
      Calls Tryz.prog 97 #[.pointer (some ⟨g, 0, none⟩), .int .u64 k] w fun en w' => en = .returned (.tuple #[]) ∧ IsDec g y w' ∧ OnlyAt g w w' := by
  obtain ⟨c, nd, dp, neg, tr⟩ := x
  obtain ⟨⟨h0, h8, hdig⟩, hp, hf⟩ := hx
  simp only at h0 h8 hdig hp hf dp0 dp1
  obtain ⟨nd, rfl⟩ : ∃ n : Nat, nd = (n : Int) := ⟨nd.toNat, by omega⟩
  have hdig' : ∀ j, j < nd → 48 ≤ c j ∧ c j ≤ 57 := fun j hj => hdig j (by omega)
  have p0 := two_pow_ge k k1
  have p1 := two_pow_le60 k k60
  have hk := lc_ok k k1 k60
  obtain ⟨dl, hdl⟩ : ∃ dl, dl = if pl c nd (lcS k) (lcS k).size 0 then lcD k - 1 else lcD k := ⟨_, rfl⟩
  have dl19 : dl ≤ 19 := by rw [hdl]; have := hk.d19; split <;> omega
  have I := l1_inv (2 ^ k) p0 nd dl c tr hdig' nd (Nat.le_refl _)
  obtain ⟨A, hA⟩ : ∃ A, l1 (2 ^ k) nd dl ⟨0, c, tr⟩ nd = A := ⟨_, rfl⟩
  rw [hA] at I
  have lo := I.lo
  have hi := I.hi
  rw [Nat.sub_self, vn, Int.zero_mul, Int.sub_zero] at lo hi
  obtain ⟨cl, ch⟩ := left_count k hk nd c (by omega) hdig' hf A.n I.n0 lo hi dl hdl
  have hAI : L2Inv nd dl 0 A := ⟨fun h => cl (by omega), by rw [Nat.sub_zero]; exact ch, I.n0, fun j h1 h2 h3 => I.new j (by omega) h2 h3, fun h => absurd h (by omega)⟩
  obtain ⟨B, hB⟩ : ∃ B, l2 dl A dl = B := ⟨_, rfl⟩
  have J := l2_inv nd dl dl19 A hAI dl (Nat.le_refl _)
  rw [hB] at J
  obtain ⟨N, hN⟩ : ∃ N, N = min (nd + dl) 800 := ⟨_, rfl⟩
  have hdigB : ∀ j, j < N → 48 ≤ B.c j ∧ B.c j ≤ 57 := fun j hj => J.new j (by omega) (by omega) (by omega)
  have hfst : 49 ≤ B.c 0 ∧ (dl = 0 → c 0 < B.c 0) := by
    by_cases hz : dl = 0
    · have hBA : B = A := by rw [← hB, hz]; rfl
      have hn : A.n = 0 := by
        have h1 := I.n0
        rw [hz] at ch
        simp at ch
        omega
      have h2 := I.fst (by omega) rfl hz hn
      rw [hBA]
      exact ⟨by omega, fun _ => by omega⟩
    · exact ⟨J.fst (by omega) rfl, fun h => absurd h hz⟩
  obtain ⟨hf1, hf2⟩ := hfst
  have ht := trimN_pos B.c (by omega) N (by omega)
  have htl := trimN_le B.c N
  have h57 : B.c 0 ≤ 57 := (hdigB 0 (by omega)).2
  have hc57 : c 0 ≤ 57 := (hdig' 0 (by omega)).2
  refine ⟨⟨B.c, trimN B.c N, if trimN B.c N = 0 then 0 else dp + dl, neg, B.tr⟩, ⟨⟨?_, ?_, ?_⟩, ?_, ?_⟩, ?_, ?_, ?_, fun g w hT hd =>
    left_walk c nd dp neg tr (by omega) k k1 k60 (by omega) hdig' hf dp0 dp1 dl hdl dl19 A hA hAI B hB N hN _ rfl g w hT hd⟩
  · show (0 : Int) ≤ (trimN B.c N : Nat); omega
  · show ((trimN B.c N : Nat) : Int) ≤ 800; omega
  · intro j hj
    have : (j : Int) < (trimN B.c N : Nat) := hj
    exact hdigB j (by omega)
  · show (0 : Int) < (trimN B.c N : Nat); omega
  · exact hf1
  · show dp ≤ (if trimN B.c N = 0 then 0 else dp + dl)
    rw [if_neg (by omega)]; omega
  · show (if trimN B.c N = 0 then 0 else dp + dl) ≤ dp + 19
    rw [if_neg (by omega)]; omega
  · show 10 * dp + c 0 < 10 * (if trimN B.c N = 0 then 0 else dp + dl) + B.c 0
    rw [if_neg (by omega)]
    by_cases hz : dl = 0
    · have := hf2 hz; omega
    · omega

/-- Shift to the left by at most 60. -/
theorem shiftL_any (x : D) (hx : x.Good) (k : Nat) (k1 : 1 ≤ k) (k60 : k ≤ 60) (dp0 : -1000000 ≤ x.dp) (dp1 : x.dp ≤ 1000000) :
    ∃ y : D, y.Good ∧ x.dp ≤ y.dp ∧ y.dp ≤ x.dp + 19 ∧ 10 * x.dp + x.c 0 < 10 * y.dp + y.c 0 ∧ ∀ (g : Nat) (w : World), LCT g w → IsDec g x w →
      Calls Tryz.prog 87 #[.pointer (some ⟨g, 0, none⟩), .int .i64 k] w fun en w' => en = .returned (.tuple #[]) ∧ IsDec g y w' ∧ OnlyAt g w w' := by
  obtain ⟨y, hy, a, b, c, H⟩ := leftShift_any x hx k k1 k60 dp0 dp1
  refine ⟨y, hy, a, b, c, fun g w hT hd => ?_⟩
  have e0 := hd.nd
  have hpos := hx.pos
  have hb : (x.nd == 0) = false := by simp only [beq_eq_false_iff_ne]; omega
  go_enter Tryz.func87, Tryz.ntmps87
  go_wp2
  go_loopg [1] 0 (fun kk v1 wr => v1 = .int .i64 k ∧ Aside0 (w = wr))
  case atStart => exact ⟨rfl, ⟨rfl⟩⟩
  case round =>
    obtain ⟨rfl, hw⟩ := hrel
    obtain rfl := hw.out
    go_wp2_with (first | (go_at_call 97; ((with_reducible refine (H g _ hT hd).mono ?_); rintro e w' ⟨rfl, hd1, ho1⟩)))
    go_end0
    exact ⟨rfl, hd1, ho1⟩

/-- Shift to the right by at most 60. -/
theorem shiftR_any (x : D) (hx : x.Good) (k : Nat) (k1 : 1 ≤ k) (k60 : k ≤ 60) (dp0 : -1000000 ≤ x.dp) (dp1 : x.dp ≤ 1000000) :
    ∃ y : D, y.Good ∧ y.dp ≤ x.dp ∧ x.dp - 19 ≤ y.dp ∧ 10 * y.dp + y.c 0 < 10 * x.dp + x.c 0 ∧ ∀ (g : Nat) (w : World), IsDec g x w →
      Calls Tryz.prog 87 #[.pointer (some ⟨g, 0, none⟩), .int .i64 (-(k : Int))] w fun en w' => en = .returned (.tuple #[]) ∧ IsDec g y w' ∧ OnlyAt g w w' := by
  obtain ⟨y, hy, a, b, c, H⟩ := rightShift_any x hx k k1 k60 dp0 dp1
  refine ⟨y, hy, a, b, c, fun g w hd => ?_⟩
  have e0 := hd.nd
  have hpos := hx.pos
  have hb : (x.nd == 0) = false := by simp only [beq_eq_false_iff_ne]; omega
  go_enter Tryz.func87, Tryz.ntmps87
  go_wp2
  go_loopg [1] 0 (fun kk v1 wr => v1 = .int .i64 (-(k : Int)) ∧ Aside0 (w = wr))
  case atStart => exact ⟨rfl, ⟨rfl⟩⟩
  case round =>
    obtain ⟨rfl, hw⟩ := hrel
    obtain rfl := hw.out
    go_wp2_with (first | (go_at_call 98; ((with_reducible refine (H g _ hd).mono ?_); rintro e w' ⟨rfl, hd1, ho1⟩)))
    go_end0
    exact ⟨rfl, hd1, ho1⟩

theorem seq_of {α : Type} (P : Nat → α → Prop) (R : Nat → α → α → Prop) (a0 : α) (h0 : P 0 a0) (hs : ∀ j a, P j a → ∃ b, R j a b ∧ P (j + 1) b) : ∃ X : Nat → α, X 0 = a0 ∧ ∀ j, P j (X j) ∧ R j (X j) (X (j + 1)) := by
  let Y : (j : Nat) → { a // P j a } := fun j => Nat.rec (motive := fun j => { a // P j a }) ⟨a0, h0⟩ (fun j a => ⟨Classical.choose (hs j a.1 a.2), (Classical.choose_spec (hs j a.1 a.2)).2⟩) j
  exact ⟨fun j => (Y j).1, rfl, fun j => ⟨(Y j).2, (Classical.choose_spec (hs j (Y j).1 (Y j).2)).1⟩⟩

/-- Shift to the right by many. -/
theorem shiftR_many (x : D) (hx : x.Good) (n : Nat) (n1 : 1 ≤ n) (n2 : n ≤ 300000) (dp0 : -100000 ≤ x.dp) (dp1 : x.dp ≤ 1000000) :
    ∃ y : D, y.Good ∧ y.dp ≤ x.dp ∧ -200000 ≤ y.dp ∧ ∀ (g : Nat) (w : World), IsDec g x w →
      Calls Tryz.prog 87 #[.pointer (some ⟨g, 0, none⟩), .int .i64 (-(n : Int))] w fun en w' => en = .returned (.tuple #[]) ∧ IsDec g y w' ∧ OnlyAt g w w' := by
  obtain ⟨J, r, hJ, r1, r60⟩ : ∃ J r, n = 60 * J + r ∧ 1 ≤ r ∧ r ≤ 60 := ⟨(n - 1) / 60, (n - 1) % 60 + 1, by omega, by omega, by omega⟩
  obtain ⟨X, hX0, hX⟩ := seq_of (fun j (a : D) => j ≤ J → a.Good ∧ a.dp ≤ x.dp ∧ -100000 - 19 * j ≤ a.dp)
    (fun j a b => j < J → ∀ (g : Nat) (w : World), IsDec g a w → Calls Tryz.prog 98 #[.pointer (some ⟨g, 0, none⟩), .int .u64 60] w fun en w' => en = .returned (.tuple #[]) ∧ IsDec g b w' ∧ OnlyAt g w w') x
    (fun _ => ⟨hx, by omega, by omega⟩) (fun j a ha => by
      by_cases hj : j < J
      · obtain ⟨g1, g2, g3⟩ := ha (by omega)
        obtain ⟨y, hy, a1, a2, _, H⟩ := rightShift_any a g1 60 (by omega) (by omega) (by omega) (by omega)
        exact ⟨y, fun _ => H, fun _ => ⟨hy, by omega, by omega⟩⟩
      · exact ⟨a, fun h => absurd h hj, fun h => absurd h (by omega)⟩)
  obtain ⟨g1, g2, g3⟩ := (hX J).1 (Nat.le_refl _)
  obtain ⟨y, hy, a1, a2, _, H⟩ := rightShift_any (X J) g1 r r1 r60 (by omega) (by omega)
  refine ⟨y, hy, by omega, by omega, fun g w hd => ?_⟩
  have e0 := hd.nd
  have hpos := hx.pos
  have hb : (x.nd == 0) = false := by simp only [beq_eq_false_iff_ne]; omega
  have hn1 : (0 < n) = True := eq_true (by omega)
  have hn0 : ((n : Int) < 0) = False := by simp only [eq_iff_iff, iff_false]; omega
  replace hJ := Aside0.mk hJ
  go_enter Tryz.func87, Tryz.ntmps87
  go_wp2
  go_loopg [1] J (fun kk v1 wr => ∃ j : Nat, v1 = .int .i64 (-((60 * kk + r : Nat) : Int)) ∧ Aside0 (kk + j = J) ∧ IsDec g (X j) wr ∧ OnlyAt g w wr)
  case atStart => exact ⟨0, by rw [hJ.out], ⟨rfl⟩, by rw [hX0]; exact hd, OnlyAt.refl _ _⟩
  case round =>
    clear e0 hb hd
    obtain ⟨j, rfl, hk, hdj, hoj⟩ := hrel
    rcases gk with _ | kk
    · have hj : j = J := by have := hk.out; omega
      subst hj
      rw [show -((60 * 0 + r : Nat) : Int) = -(r : Int) from by omega]
      go_wp2_with (first | (go_at_call 98; ((with_reducible refine (H g _ hdj).mono ?_); rintro e w' ⟨rfl, hd1, ho1⟩)))
      go_end0
      exact ⟨rfl, hd1, hoj.trans ho1⟩
    · have HR := (hX j).2 (by have := hk.out; omega) g _ hdj
      have hj1 := hk.out
      have hbd : 60 * kk + r ≤ 300000 := by have := hJ.out; omega
      obtain ⟨q, hq⟩ : ∃ q : Nat, 60 * kk + r = q := ⟨_, rfl⟩
      rw [show -((60 * (kk + 1) + r : Nat) : Int) = -((q : Int) + 60) from by omega]
      have q1 : 1 ≤ q := by omega
      rw [hq] at hbd
      replace hj1 := Aside0.mk hj1
      go_wp2_with (first | (go_at_call 98; ((with_reducible refine HR.mono ?_); rintro e w' ⟨rfl, hd1, ho1⟩)))
      go_roundg kk
      case measure => omega
      case rel => exact ⟨j + 1, by congr 1; omega, ⟨by have := hk.out; omega⟩, hd1, hoj.trans ho1⟩
end Go.Proofs.YtfkpbkjokapijaaGreatFmt.PQ
