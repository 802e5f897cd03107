/- atof64 ends; where it stops and whether it errs are the same in every memory. -/
import Derived.Test.YtfkpbkjokapijaaGreatFmtAtof0
namespace Go.Proofs.YtfkpbkjokapijaaGreatFmt.PQ
open Go.RowKit Go.Proofs.YtfkpbkjokapijaaGreatFmtW.PrintWords
set_option linter.unusedVariables false
set_option linter.unusedSimpArgs false

def zc : Nat → Int := fun _ => 0
theorem below_alloc2 {w W : World} (h : Below w.heap.size w W) (o : Obj) : Below w.heap.size w (W.alloc o) := below_alloc h o
theorem digs_zero : digs zc = List.replicate 800 (.int .u8 0) := by
  refine List.ext_getElem? fun j => ?_
  by_cases hj : j < 800
  · rw [digs_at _ _ hj, List.getElem?_replicate, if_pos hj]; rfl
  · rw [List.getElem?_eq_none (by rw [digs_length]; omega), List.getElem?_replicate, if_neg hj]
theorem zero124 : Tryz.zeroCells124 = (List.replicate 800 (Value.int .u8 0) ++ [Value.int .i64 0, Value.int .i64 0, Value.bool false, Value.bool false]).toArray := by kernel_rfl
theorem dec_new (W : World) : IsDec W.heap.size ⟨zc, 0, 0, false, false⟩ (W.alloc (.cells Tryz.zeroCells124 124)) := by
  refine ⟨?_⟩
  rw [heap_alloc_new, zero124, D.cells, digs_zero]
  rfl

set_option maxHeartbeats 8000000 in
set_option maxRecDepth 100000 in
theorem atof64_any (T : Nat → Int) (s : ByteArray) (hs : s.size ≤ 1000000) : ∃ (n : Int) (er : Option Int), (er = none ∨ er = some 1 ∨ er = some 2) ∧ ∀ w : World, Tabs T w → Calls Tryz.prog 55 #[.string s] w fun en w' => (∃ x, en = .returned (.tuple #[.float .f64 x, .int .i64 n, errW er])) ∧ Below w.heap.size w w' := by
  obtain ⟨sx, sn, sok, hsp⟩ := special_safe s hs
  have hsp := fun w => strconv_special.calls _ s sx sn sok w hsp
  replace hsp := Aside0.mk hsp
  cases sok
  case true =>
    refine ⟨sn, none, .inl rfl, fun w hT => ?_⟩
    rw [errW_none]
    go_enter Tryz.func55, Tryz.ntmps55
    go_wp2_with (first | (go_at_call 60; ((with_reducible refine (hsp.out _).mono ?_); rintro e w1 ⟨rfl, hB1⟩; have hT1 := hT.below hB1)))
    go_ret3
    exact ⟨⟨_, rfl⟩, hB1⟩
  case false =>
  obtain ⟨m, e, neg, tr, hex, i, ok, hrf, m0, m1, i0, i1⟩ := rf_safe s hs
  have hrf := fun w => strconv_readFloat.calls _ s m e neg tr hex i ok w hrf
  replace hrf := Aside0.mk hrf
  cases ok
  case false =>
    refine ⟨i, some 2, .inr (.inr rfl), fun w hT => ?_⟩
    rw [errW_some]
    go_enter Tryz.func55, Tryz.ntmps55
    go_wp2_with (first | (go_at_call 60; ((with_reducible refine (hsp.out _).mono ?_); rintro e w1 ⟨rfl, hB1⟩; have hT1 := hT.below hB1)) | (go_at_call 61; ((with_reducible refine (hrf.out _).mono ?_); rintro e w2 ⟨rfl, ⟨n1, rfl⟩⟩; have o1 := hT1.opt)))
    go_ret3
    exact ⟨⟨_, rfl⟩, pw_below_drewN hB1 _⟩
  case true =>
  cases hex
  case true =>
    obtain ⟨er, her, hhx⟩ := atofHex_two (s.extract 0 i.toNat) m e neg tr m0 m1
    replace hhx := Aside0.mk hhx
    replace her := Aside0.mk her
    refine ⟨i, er, by rcases her.out with h | h <;> simp [h], fun w hT => ?_⟩
    go_enter Tryz.func55, Tryz.ntmps55
    go_wp2_with (first | (go_at_call 60; ((with_reducible refine (hsp.out _).mono ?_); rintro e w1 ⟨rfl, hB1⟩; have hT1 := hT.below hB1)) | (go_at_call 61; ((with_reducible refine (hrf.out _).mono ?_); rintro e w2 ⟨rfl, ⟨n1, rfl⟩⟩; have o1 := hT1.opt)) | (go_at_call 62; ((with_reducible refine (hhx.out _ (hT.below (pw_below_drewN hB1 n1)).flt).mono ?_); rintro e w3 ⟨x3, n3, rfl, rfl⟩)))
    go_ret3
    exact ⟨⟨_, rfl⟩, pw_below_drewN hB1 _⟩
  case false =>
  obtain ⟨sg, hsg⟩ : ∃ sg : Int, (sg = 0 ∨ sg = 1) ∧ ∀ w : World, Calls Tryz.prog 69 #[.bool neg] w fun en w' => en = .returned (.int .u64 sg) ∧ w' = w :=
    ⟨b2i neg, by cases neg <;> simp [b2i], fun w => bool2_u64 neg w⟩
  obtain ⟨hsg01, hsg⟩ := hsg
  replace hsg := Aside0.mk hsg
  have sg0 : 0 ≤ sg := by omega
  have sg1 : sg ≤ 1 := by omega
  clear hsg01
  by_cases hm : m = 0
  · subst hm
    refine ⟨i, none, .inl rfl, fun w hT => ?_⟩
    rw [errW_none]
    go_enter Tryz.func55, Tryz.ntmps55
    go_wp2_with (first | (go_at_call 60; ((with_reducible refine (hsp.out _).mono ?_); rintro e w1 ⟨rfl, hB1⟩; have hT1 := hT.below hB1)) | (go_at_call 61; ((with_reducible refine (hrf.out _).mono ?_); rintro e w2 ⟨rfl, ⟨n1, rfl⟩⟩; have o1 := hT1.opt)) | (go_at_call 69; ((with_reducible refine (hsg.out _).mono ?_); rintro e w3 ⟨rfl, rfl⟩)))
    go_ret3
    exact ⟨⟨_, rfl⟩, pw_below_drewN hB1 _⟩
  have hmb : (m == 0) = false := beq_eq_false_iff_ne.mpr hm
  clear hm
  by_cases he1 : 310 < e
  · refine ⟨i, some 1, .inr (.inl rfl), fun w hT => ?_⟩
    rw [errW_some]
    go_enter Tryz.func55, Tryz.ntmps55
    go_wp2_with (first | (go_at_call 60; ((with_reducible refine (hsp.out _).mono ?_); rintro e w1 ⟨rfl, hB1⟩; have hT1 := hT.below hB1)) | (go_at_call 61; ((with_reducible refine (hrf.out _).mono ?_); rintro e w2 ⟨rfl, ⟨n1, rfl⟩⟩; have o1 := hT1.opt)) | (go_at_call 69; ((with_reducible refine (hsg.out _).mono ?_); rintro e w3 ⟨rfl, rfl⟩)))
    go_ret3
    exact ⟨⟨_, rfl⟩, pw_below_drewN hB1 _⟩
  have he1' : e ≤ 310 := by omega
  clear he1
  by_cases he2 : e < -345
  · refine ⟨i, none, .inl rfl, fun w hT => ?_⟩
    rw [errW_none]
    go_enter Tryz.func55, Tryz.ntmps55
    go_wp2_with (first | (go_at_call 60; ((with_reducible refine (hsp.out _).mono ?_); rintro e w1 ⟨rfl, hB1⟩; have hT1 := hT.below hB1)) | (go_at_call 61; ((with_reducible refine (hrf.out _).mono ?_); rintro e w2 ⟨rfl, ⟨n1, rfl⟩⟩; have o1 := hT1.opt)) | (go_at_call 69; ((with_reducible refine (hsg.out _).mono ?_); rintro e w3 ⟨rfl, rfl⟩)))
    go_ret3
    exact ⟨⟨_, rfl⟩, pw_below_drewN hB1 _⟩
  have he2' : -345 ≤ e := by omega
  clear he2
  obtain ⟨k, hk, hke⟩ : ∃ k : Nat, k < 696 ∧ Aside0 (e = (k : Int) - 348) := ⟨(e + 348).toNat, by omega, ⟨by omega⟩⟩
  obtain ⟨x1, er, her, hp1⟩ := parseFloat64_any T m e (sg * 9223372036854775808) m0 m1 k hk hke.out
  replace hp1 := Aside0.mk hp1
  cases tr
  case false =>
    obtain ⟨okx, hex⟩ := exact_any m e neg m0
    replace hex := Aside0.mk hex
    cases okx
    case true =>
      refine ⟨i, none, .inl rfl, fun w hT => ?_⟩
      rw [errW_none]
      go_enter Tryz.func55, Tryz.ntmps55
      go_wp2_with (first | (go_at_call 60; ((with_reducible refine (hsp.out _).mono ?_); rintro e w1 ⟨rfl, hB1⟩; have hT1 := hT.below hB1)) | (go_at_call 61; ((with_reducible refine (hrf.out _).mono ?_); rintro e w2 ⟨rfl, ⟨n1, rfl⟩⟩; have o1 := hT1.opt)) | (go_at_call 69; ((with_reducible refine (hsg.out _).mono ?_); rintro e w3 ⟨rfl, rfl⟩)) | (go_at_call 71; ((with_reducible refine (hex.out _ (hT.below (pw_below_drewN hB1 n1)).f10).mono ?_); rintro e w3 ⟨⟨x3, rfl⟩, n3, rfl⟩)))
      go_ret3
      exact ⟨⟨_, rfl⟩, pw_below_drewN hB1 _⟩
    case false =>
      replace her := Aside0.mk her
      refine ⟨i, er, by rcases her.out with h | h <;> simp [h], fun w hT => ?_⟩
      go_enter Tryz.func55, Tryz.ntmps55
      go_wp2_with (first | (go_at_call 60; ((with_reducible refine (hsp.out _).mono ?_); rintro e w1 ⟨rfl, hB1⟩; have hT1 := hT.below hB1)) | (go_at_call 61; ((with_reducible refine (hrf.out _).mono ?_); rintro e w2 ⟨rfl, ⟨n1, rfl⟩⟩; have o1 := hT1.opt)) | (go_at_call 69; ((with_reducible refine (hsg.out _).mono ?_); rintro e w3 ⟨rfl, rfl⟩)) | (go_at_call 71; ((with_reducible refine (hex.out _ (hT.below (pw_below_drewN hB1 n1)).f10).mono ?_); rintro e w3 ⟨⟨x3, rfl⟩, n3, rfl⟩)) | (go_at_call 72; ((with_reducible refine (hp1.out _ (hT.below (pw_below_drewN hB1 (n1 + n3))).powt (by have := (hT.below (pw_below_drewN hB1 (n1 + n3))).size; omega)).mono ?_); rintro e w5 ⟨rfl, hB5⟩; replace hB5 := below_then (pw_below_drewN hB1 (n1 + n3)) (pw_below_drewN hB1 (n1 + n3)).size hB5; have hT5 := hT.below hB5)))
      go_ret3
      exact ⟨⟨_, rfl⟩, hB5⟩
  case true =>
  obtain ⟨x2, er2, her2, hp2⟩ := parseFloat64_any T (IntKind.u64.wrap (m + 1)) e (sg * 9223372036854775808) (u64w_bd _).1 (u64w_bd _).2 k hk hke.out
  replace hp2 := Aside0.mk hp2
  by_cases hxx : FloatKind.f64.format.order x1 x2 = some Ordering.eq
  · have hxb : (FloatKind.f64.format.order x1 x2 == some Ordering.eq) = true := beq_iff_eq.mpr hxx
    clear hxx
    replace her := Aside0.mk her
    refine ⟨i, er, by rcases her.out with h | h <;> simp [h], fun w hT => ?_⟩
    go_enter Tryz.func55, Tryz.ntmps55
    go_wp2_with (first | (go_at_call 60; ((with_reducible refine (hsp.out _).mono ?_); rintro e w1 ⟨rfl, hB1⟩; have hT1 := hT.below hB1)) | (go_at_call 61; ((with_reducible refine (hrf.out _).mono ?_); rintro e w2 ⟨rfl, ⟨n1, rfl⟩⟩; have o1 := hT1.opt)) | (go_at_call 69; ((with_reducible refine (hsg.out _).mono ?_); rintro e w3 ⟨rfl, rfl⟩)) | (go_at_call 72; ((with_reducible refine (hp1.out _ (hT.below (pw_below_drewN hB1 n1)).powt (by have := (hT.below (pw_below_drewN hB1 n1)).size; omega)).mono ?_); rintro e w5 ⟨rfl, hB5⟩; replace hB5 := below_then (pw_below_drewN hB1 n1) (pw_below_drewN hB1 n1).size hB5; have hT5 := hT.below hB5)) | (go_at_call 72; ((with_reducible refine (hp2.out _ hT5.powt (by have := hT5.size; omega)).mono ?_); rintro e w6 ⟨rfl, hB6⟩; replace hB6 := below_then hB5 hB5.size hB6; have hT6 := hT.below hB6)))
    go_ret3
    exact ⟨⟨_, rfl⟩, hB6⟩
  · have hxb : (FloatKind.f64.format.order x1 x2 == some Ordering.eq) = false := beq_eq_false_iff_ne.mpr hxx
    clear hxx
    obtain ⟨okS, y, hy, hset⟩ := set_any (s.extract 0 i.toNat) (by rw [ByteArray.size_extract]; omega) zc
    replace hset := Aside0.mk hset
    cases okS
    case false =>
      refine ⟨i, some 2, .inr (.inr rfl), fun w hT => ?_⟩
      rw [errW_some]
      go_enter Tryz.func55, Tryz.ntmps55
      go_wp2_with (first | (go_at_call 60; ((with_reducible refine (hsp.out _).mono ?_); rintro e w1 ⟨rfl, hB1⟩; have hT1 := hT.below hB1)) | (go_at_call 61; ((with_reducible refine (hrf.out _).mono ?_); rintro e w2 ⟨rfl, ⟨n1, rfl⟩⟩; have o1 := hT1.opt)) | (go_at_call 69; ((with_reducible refine (hsg.out _).mono ?_); rintro e w3 ⟨rfl, rfl⟩)) | (go_at_call 72; ((with_reducible refine (hp1.out _ (hT.below (pw_below_drewN hB1 n1)).powt (by have := (hT.below (pw_below_drewN hB1 n1)).size; omega)).mono ?_); rintro e w5 ⟨rfl, hB5⟩; replace hB5 := below_then (pw_below_drewN hB1 n1) (pw_below_drewN hB1 n1).size hB5; have hT5 := hT.below hB5)) | (go_at_call 72; ((with_reducible refine (hp2.out _ hT5.powt (by have := hT5.size; omega)).mono ?_); rintro e w6 ⟨rfl, hB6⟩; replace hB6 := below_then hB5 hB5.size hB6; have hT6 := hT.below hB6)) | (go_at_call 67; ((with_reducible refine (hset.out _ _ (dec_new _)).mono ?_); rintro e w7 ⟨rfl, hd7, ho7⟩; have hB7 := ho7.below (below_alloc2 hB6 _) hB6.size)))
      go_ret3
      exact ⟨⟨_, rfl⟩, hB7⟩
    case true =>
    have hyG : y.nd = 0 ∨ y.Good := by
      rcases hy with h | h | h
      · exact .inl h
      · exact .inr h
      · cases h
    obtain ⟨o, hfb⟩ := floatBits_any y hyG
    replace hfb := Aside0.mk hfb
    clear hy hyG
    cases o
    case false =>
      refine ⟨i, none, .inl rfl, fun w hT => ?_⟩
      rw [errW_none]
      go_enter Tryz.func55, Tryz.ntmps55
      go_wp2_with (first | (go_at_call 60; ((with_reducible refine (hsp.out _).mono ?_); rintro e w1 ⟨rfl, hB1⟩; have hT1 := hT.below hB1)) | (go_at_call 61; ((with_reducible refine (hrf.out _).mono ?_); rintro e w2 ⟨rfl, ⟨n1, rfl⟩⟩; have o1 := hT1.opt)) | (go_at_call 69; ((with_reducible refine (hsg.out _).mono ?_); rintro e w3 ⟨rfl, rfl⟩)) | (go_at_call 72; ((with_reducible refine (hp1.out _ (hT.below (pw_below_drewN hB1 n1)).powt (by have := (hT.below (pw_below_drewN hB1 n1)).size; omega)).mono ?_); rintro e w5 ⟨rfl, hB5⟩; replace hB5 := below_then (pw_below_drewN hB1 n1) (pw_below_drewN hB1 n1).size hB5; have hT5 := hT.below hB5)) | (go_at_call 72; ((with_reducible refine (hp2.out _ hT5.powt (by have := hT5.size; omega)).mono ?_); rintro e w6 ⟨rfl, hB6⟩; replace hB6 := below_then hB5 hB5.size hB6; have hT6 := hT.below hB6)) | (go_at_call 67; ((with_reducible refine (hset.out _ _ (dec_new _)).mono ?_); rintro e w7 ⟨rfl, hd7, ho7⟩; have hB7 := ho7.below (below_alloc2 hB6 _) hB6.size)) | (go_at_call 68; ((with_reducible refine (hfb.out _ _ (hT.fb hB7 _ hB6.size) hd7).mono ?_); rintro e w8 ⟨⟨b8, rfl⟩, ho8⟩; have hB8 := ho8.below hB7 hB6.size)))
      go_ret3
      exact ⟨⟨_, rfl⟩, hB8⟩
    case true =>
      refine ⟨i, some 1, .inr (.inl rfl), fun w hT => ?_⟩
      rw [errW_some]
      go_enter Tryz.func55, Tryz.ntmps55
      go_wp2_with (first | (go_at_call 60; ((with_reducible refine (hsp.out _).mono ?_); rintro e w1 ⟨rfl, hB1⟩; have hT1 := hT.below hB1)) | (go_at_call 61; ((with_reducible refine (hrf.out _).mono ?_); rintro e w2 ⟨rfl, ⟨n1, rfl⟩⟩; have o1 := hT1.opt)) | (go_at_call 69; ((with_reducible refine (hsg.out _).mono ?_); rintro e w3 ⟨rfl, rfl⟩)) | (go_at_call 72; ((with_reducible refine (hp1.out _ (hT.below (pw_below_drewN hB1 n1)).powt (by have := (hT.below (pw_below_drewN hB1 n1)).size; omega)).mono ?_); rintro e w5 ⟨rfl, hB5⟩; replace hB5 := below_then (pw_below_drewN hB1 n1) (pw_below_drewN hB1 n1).size hB5; have hT5 := hT.below hB5)) | (go_at_call 72; ((with_reducible refine (hp2.out _ hT5.powt (by have := hT5.size; omega)).mono ?_); rintro e w6 ⟨rfl, hB6⟩; replace hB6 := below_then hB5 hB5.size hB6; have hT6 := hT.below hB6)) | (go_at_call 67; ((with_reducible refine (hset.out _ _ (dec_new _)).mono ?_); rintro e w7 ⟨rfl, hd7, ho7⟩; have hB7 := ho7.below (below_alloc2 hB6 _) hB6.size)) | (go_at_call 68; ((with_reducible refine (hfb.out _ _ (hT.fb hB7 _ hB6.size) hd7).mono ?_); rintro e w8 ⟨⟨b8, rfl⟩, ho8⟩; have hB8 := ho8.below hB7 hB6.size)))
      go_ret3
      exact ⟨⟨_, rfl⟩, hB8⟩

end Go.Proofs.YtfkpbkjokapijaaGreatFmt.PQ
