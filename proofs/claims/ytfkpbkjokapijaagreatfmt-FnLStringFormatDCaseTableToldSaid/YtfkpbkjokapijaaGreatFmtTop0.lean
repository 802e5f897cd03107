/- The laid variables together. -/
import Derived.Test.YtfkpbkjokapijaaGreatFmtPQ0
import Derived.Test.YtfkpbkjokapijaaGreatFmtRows
import Derived.Lib.LaidU8
import Derived.ChangeArms
import Derived.OpenShut
import Derived.Test.YtfkpbkjokapijaaGreatFmtDecF2
import Derived.Test.YtfkpbkjokapijaaGreatFmtFloat
import Derived.Test.YtfkpbkjokapijaaGreatFmtScale
import Derived.Test.YtfkpbkjokapijaaGreatFmtPF
/- What the laid variables hold, cell for cell. -/
namespace Go.Proofs.YtfkpbkjokapijaaGreatFmt.PQ
open Go.RowKit Go.Lib
set_option linter.unusedVariables false
set_option linter.unusedSimpArgs false
variable {W : World} {fuel : Nat} {t : TypeId} {cs : List Value} {p : List MemPlace}

noncomputable abbrev trd (W : World) (fuel : Nat) (t : TypeId) (cs : List Value) : Option (DataW Unit × List MemPlace) := DataW.trod (fun _ => ()) Tryz.prog W 0 (fun _ => true) false fuel t cs

theorem part_at {xs : List (DataW Unit × List MemPlace)} {L : List (DataW Unit)} (hx : xs.map (·.1) = L) (i : Nat) (d : DataW Unit) (hL : L[i]? = some d) : ∃ p, xs[i]? = some (d, p) := by
  have : (xs.map (·.1))[i]? = some d := by rw [hx]; exact hL
  rw [List.getElem?_map] at this
  cases h : xs[i]? with
  | none => rw [h] at this; cases this
  | some y => rw [h] at this; obtain ⟨y1, y2⟩ := y; cases this; exact ⟨y2, rfl⟩
theorem int_at {k : IntKind} {n : Int} (ht : Tryz.prog.underlying t = some (.int k)) (h : trd W fuel t cs = some (.lit (.int k n), p)) : cs = [.int k n] := by
  obtain ⟨m, e, hx, _⟩ := DataW.trod_int ht h
  cases hx; exact e
theorem bool_at {b : Bool} (ht : Tryz.prog.underlying t = some .bool) (h : trd W fuel t cs = some (.lit (.bool b), p)) : cs = [.bool b] := by
  obtain ⟨m, e, hx⟩ := DataW.trod_bool ht h
  cases hx; exact e
theorem str_at {l : List UInt8} (ht : Tryz.prog.underlying t = some .string) (h : trd W fuel t cs = some (.lit (.string l), p)) : cs = [.string ⟨l.toArray⟩] := by
  obtain ⟨m, e, hx, _⟩ := DataW.trod_string ht h
  cases hx; exact e
theorem float_at {k : FloatKind} {n : Nat} (ht : Tryz.prog.underlying t = some (.float k)) (h : trd W fuel t cs = some (.lit (.float k n), p)) : cs = [.float k n] := by
  cases fuel with
  | zero => simp [DataW.trod] at h
  | succ m =>
    unfold trd DataW.trod at h
    rw [ht] at h
    split at h <;> simp_all
theorem iface_at {ms} {d} (ht : Tryz.prog.underlying t = some (.interface ms)) (h : trd W fuel t cs = some (d, p)) : cs = [.nilIface] ∨ ∃ u v, cs = [.iface u v] := by
  cases fuel with
  | zero => simp [DataW.trod] at h
  | succ m =>
    unfold trd DataW.trod at h
    rw [ht] at h
    split at h <;> simp_all
theorem one_cell {o : Nat} {v : Value} (h : (cs.drop o).take 1 = [v]) : cs[o]? = some v := by
  have h0 : ((cs.drop o).take 1)[0]? = some v := by rw [h]; rfl
  simpa using h0
theorem two_cell {o : Nat} {u v : Value} (h : (cs.drop o).take 2 = [u, v]) : cs[o]? = some u ∧ cs[o + 1]? = some v := by
  have h0 : ((cs.drop o).take 2)[0]? = some u := by rw [h]; rfl
  have h1 : ((cs.drop o).take 2)[1]? = some v := by rw [h]; rfl
  exact ⟨by simpa using h0, by simpa using h1⟩
/-- The cells of a listed variable. -/
theorem var_reads {name : String} {d : DataW Unit} (h : VarReads Tryz.prog W name d) (g t : Nat) (hg : Tryz.prog.globalNamed name = some g) (ht : (Tryz.prog.globals[g]?).map (·.type) = some t) :
    ∃ cs fuel p, trd W fuel t cs = some (d, p) ∧ ∀ j v, cs[j]? = some v → W.cell? ⟨g, j, none⟩ = some v := by
  obtain ⟨g', t', cs, fuel, p, hg', hty, hvar, hd⟩ := h
  obtain rfl := Option.some.inj (hg.symm.trans hg')
  obtain rfl := Option.some.inj (ht.symm.trans hty)
  refine ⟨cs.toList, fuel, p, hd, fun j v hj => ?_⟩
  rw [World.var?_cell hg hvar j]
  simpa using hj
/-- A slice that reads as these parts. -/
theorem slice_reads {e : TypeId} {L : List (DataW Unit)} (ht : Tryz.prog.underlying t = some (.slice e)) (n : Nat) (hn : Tryz.prog.cellsOf e = n) (hn0 : 0 < n) (hL : 0 < L.length) (h : trd W fuel t cs = some (.slice L [], p)) :
    ∃ b o m, cs = [.slice (some ⟨b, o, none⟩) L.length L.length] ∧ ∀ i d, L[i]? = some d → ∃ ce q, trd W m e ce = some (d, q) ∧ ce.length = n ∧ ∀ j v, ce[j]? = some v → W.cell? ⟨b, o + i * n + j, none⟩ = some v := by
  rcases DataW.trod_slice ht h with ⟨_, hx⟩ | ⟨a, len, cap, el, rs, m, rfl, hcs, hx, _, hlc, _, hel, helem, hsp, _⟩
  · cases hx
  have e0 := congrArg Prod.fst hx
  simp only [DataW.slice.injEq] at e0
  obtain ⟨eE, eR⟩ := e0
  have hlen : len = L.length := by
    have := congrArg List.length eE
    simp at this
    omega
  have hcap : cap = len := by
    have h1 := (hsp rfl).1
    have : rs = [] := List.map_eq_nil_iff.1 eR.symm
    rw [this] at h1
    simp at h1
    omega
  have key : ∀ i d, L[i]? = some d → ∃ ce q, trd W m e ce = some (d, q) ∧ ce.length = n ∧ ∀ j v, ce[j]? = some v → W.cell? ((a.add (i * n)).add j) = some v := by
    intro i d hd
    have hi : i < len := by rw [hlen]; exact (List.getElem?_eq_some_iff.1 hd).1
    obtain ⟨q, hq⟩ := part_at eE.symm i d hd
    have h1 := helem i hi
    rw [hn, hq] at h1
    obtain ⟨ce, hce, hte⟩ := Option.bind_eq_some_iff.1 h1
    obtain ⟨_, hl, hcc⟩ := World.cells?_some hce
    exact ⟨ce, q, hte, hl, fun j v hj => (hcc j (by rw [← hl]; exact (List.getElem?_eq_some_iff.1 hj).1)).trans hj⟩
  obtain ⟨b, o, sp⟩ := a
  have hs : sp = none := by
    obtain ⟨d0, hd0⟩ : ∃ d, L[0]? = some d := ⟨L[0]'hL, List.getElem?_eq_getElem hL⟩
    obtain ⟨ce, q, _, hl, hcc⟩ := key 0 d0 hd0
    obtain ⟨v0, hv0⟩ : ∃ v, ce[0]? = some v := ⟨ce[0]'(by omega), List.getElem?_eq_getElem (by omega)⟩
    have := hcc 0 v0 hv0
    rw [Nat.zero_mul] at this
    simp only [Addr.add_zero'] at this
    exact Go.Proofs.cell_spot this
  subst hs
  subst hcap
  refine ⟨b, o, m, by rw [hcs, hlen], fun i d hd => ?_⟩
  obtain ⟨ce, q, h1, h2, h3⟩ := key i d hd
  refine ⟨ce, q, h1, h2, fun j v hj => ?_⟩
  have := h3 j v hj
  rwa [Addr.add_lit, Addr.add_lit] at this
end Go.Proofs.YtfkpbkjokapijaaGreatFmt.PQ
/- From the laid variables to what the walks ask of them. -/
namespace Go.Proofs.YtfkpbkjokapijaaGreatFmt.PQ
open Go.RowKit Go.Lib
set_option linter.unusedVariables false
set_option linter.unusedSimpArgs false
variable {W : World}

/-- The powers of ten, flat. -/
def P10 (j : Nat) : Int := if j % 2 = 0 then ((Go.Pinned.pow10Rows.getD (j / 2) (0, 0)).1 : Int) else ((Go.Pinned.pow10Rows.getD (j / 2) (0, 0)).2 : Int)

theorem opt_of (h : VarReads Tryz.prog W "internal/strconv.optimize" Rows.laid_internal_strconv_optimize) : W.cell? ⟨5, 0, none⟩ = some (.bool true) := by
  obtain ⟨cs, fuel, p, hd, hc⟩ := var_reads h 5 4 (by kernel_rfl) (by kernel_rfl)
  have := bool_at (by kernel_rfl) hd
  exact hc 0 _ (by rw [this]; rfl)
theorem err_of {name : String} {d : DataW Unit} (g : Nat) (hg : Tryz.prog.globalNamed name = some g) (ht : (Tryz.prog.globals[g]?).map (·.type) = some 31) (h : VarReads Tryz.prog W name d) :
    ∃ ev, W.cell? ⟨g, 0, none⟩ = some ev ∧ (ev = .nilIface ∨ ∃ te pe, ev = .iface te pe) := by
  obtain ⟨cs, fuel, p, hd, hc⟩ := var_reads h g 31 hg ht
  rcases iface_at Tryz.underlying31 hd with e | ⟨u, v, e⟩
  · exact ⟨_, hc 0 _ (by rw [e]; rfl), .inl rfl⟩
  · exact ⟨_, hc 0 _ (by rw [e]; rfl), .inr ⟨_, _, rfl⟩⟩
theorem info_of (h : VarReads Tryz.prog W "internal/strconv.float64info" Rows.laid_internal_strconv_float64info) :
    W.cell? ⟨6, 0, none⟩ = some (.int .u64 52) ∧ W.cell? ⟨6, 0 + 1, none⟩ = some (.int .u64 11) ∧ W.cell? ⟨6, 0 + 2, none⟩ = some (.int .i64 (-1023)) := by
  obtain ⟨cs, fuel, p, hd, hc⟩ := var_reads h 6 114 (by kernel_rfl) (by kernel_rfl)
  obtain ⟨xs, n, _, hx, hl, hxl, hf⟩ := DataW.trod_struct Tryz.underlying114 hd
  have hm : xs.map (·.1) = [.lit (.int .u64 52), .lit (.int .u64 11), .lit (.int .i64 (-1023))] := (DataW.agg.inj (Prod.mk.inj hx).1).symm
  obtain ⟨p0, e0⟩ := part_at hm 0 _ rfl
  obtain ⟨p1, e1⟩ := part_at hm 1 _ rfl
  obtain ⟨p2, e2⟩ := part_at hm 2 _ rfl
  have f0 := (hf 0 _ rfl).trans e0
  have f1 := (hf 1 _ rfl).trans e1
  have f2 := (hf 2 _ rfl).trans e2
  have c75 : Tryz.prog.cellsOf 65 = 1 := by kernel_rfl
  have c3 : Tryz.prog.cellsOf 3 = 1 := by kernel_rfl
  have g0 : (cs.drop 0).take (Tryz.prog.cellsOf 65) = [.int .u64 52] := int_at Tryz.underlying65 f0
  have g1 : (cs.drop 1).take (Tryz.prog.cellsOf 65) = [.int .u64 11] := int_at Tryz.underlying65 f1
  have g2 : (cs.drop 2).take (Tryz.prog.cellsOf 3) = [.int .i64 (-1023)] := int_at Tryz.underlying3 f2
  rw [c75] at g0 g1
  rw [c3] at g2
  exact ⟨hc 0 _ (one_cell g0), hc 1 _ (one_cell g1), hc 2 _ (one_cell g2)⟩
theorem pt_of (h : VarReads Tryz.prog W "internal/strconv.powtab" Rows.laid_internal_strconv_powtab) :
    ∃ b bo, W.cell? ⟨8, 0, none⟩ = some (.slice (some ⟨b, bo, none⟩) 9 9) ∧ ∀ j, j < 9 → W.cell? ⟨b, bo + j, none⟩ = some (.int .i64 (ptN j)) := by
  obtain ⟨cs, fuel, p, hd, hc⟩ := var_reads h 8 149 (by kernel_rfl) (by kernel_rfl)
  obtain ⟨b, o, m, e, hk⟩ := slice_reads Tryz.underlying149 1 (by kernel_rfl) (by decide) (by decide) hd
  refine ⟨b, o, hc 0 _ (by rw [e]; rfl), fun j hj => ?_⟩
  have hd : ∃ d, d = DataW.lit (H := Unit) (.int .i64 (ptN j)) := ⟨_, rfl⟩
  obtain ⟨ce, q, h1, h2, h3⟩ := hk j (.lit (.int .i64 (ptN j))) (by
    have : ∀ j : Fin 9, ([1, 3, 6, 9, 13, 16, 19, 23, 26] : List Int)[j.val]? = some (ptN j.val) := by decide
    have h := congrArg (Option.map fun z => (DataW.lit (.int .i64 z) : DataW Unit)) (this ⟨j, hj⟩)
    rw [← List.getElem?_map] at h
    exact h)
  have := int_at Tryz.underlying3 h1
  have := h3 0 _ (by rw [this]; rfl)
  simpa using this
theorem f10_of (h : VarReads Tryz.prog W "internal/strconv.float64pow10" Rows.laid_internal_strconv_float64pow10) :
    ∃ b bo, W.cell? ⟨9, 0, none⟩ = some (.slice (some ⟨b, bo, none⟩) 23 23) ∧ ∀ j, j < 23 → W.cell? ⟨b, bo + j, none⟩ = some (.float .f64 (FT j)) := by
  obtain ⟨cs, fuel, p, hd, hc⟩ := var_reads h 9 150 (by kernel_rfl) (by kernel_rfl)
  obtain ⟨b, o, m, e, hk⟩ := slice_reads Tryz.underlying150 1 (by kernel_rfl) (by decide) (by decide) hd
  refine ⟨b, o, hc 0 _ (by rw [e]; rfl), fun j hj => ?_⟩
  obtain ⟨ce, q, h1, h2, h3⟩ := hk j (.lit (.float .f64 (FT j))) (by
    have hl : ((List.range 23).map fun j => (DataW.lit (.float .f64 (FT j)) : DataW Unit))[j]? = some (.lit (.float .f64 (FT j))) := by simp [hj]
    exact hl)
  have := float_at Tryz.underlying28 h1
  have := h3 0 _ (by rw [this]; rfl)
  simpa using this
theorem lc_of (h : VarReads Tryz.prog W "internal/strconv.leftcheats" Rows.laid_internal_strconv_leftcheats) :
    ∃ b bo, W.cell? ⟨13, 0, none⟩ = some (.slice (some ⟨b, bo, none⟩) 61 61) ∧ ∀ k, k < 61 → W.cell? ⟨b, bo + k * 2, none⟩ = some (.int .i64 (lcD k)) ∧ W.cell? ⟨b, bo + k * 2 + 1, none⟩ = some (.string (lcS k)) := by
  obtain ⟨cs, fuel, p, hd, hc⟩ := var_reads h 13 171 (by kernel_rfl) (by kernel_rfl)
  have hlen : Go.Pinned.cheatRows.length = 61 := by kernel_rfl
  have hl0 : (Go.Pinned.cheatRows.map fun x => (DataW.agg [.lit (.int .i64 x.1), .lit (.string x.2)] : DataW Unit)).length = 61 := by rw [List.length_map, hlen]
  obtain ⟨b, o, m, e, hk⟩ := slice_reads Tryz.underlying171 2 (by kernel_rfl) (by decide) (by rw [hl0]; decide) hd
  rw [hl0] at e
  refine ⟨b, o, hc 0 _ (by rw [e]; rfl), fun k hk1 => ?_⟩
  obtain ⟨x, hx⟩ : ∃ x, Go.Pinned.cheatRows[k]? = some x := ⟨_, List.getElem?_eq_getElem (by rw [hlen]; exact hk1)⟩
  obtain ⟨ce, q, h1, h2, h3⟩ := hk k (.agg [.lit (.int .i64 x.1), .lit (.string x.2)]) (by rw [List.getElem?_map, hx]; rfl)
  obtain ⟨xs, n, _, hx2, hl, hxl, hf⟩ := DataW.trod_struct Tryz.underlying170 h1
  have hm : xs.map (·.1) = [.lit (.int .i64 x.1), .lit (.string x.2)] := (DataW.agg.inj (Prod.mk.inj hx2).1).symm
  obtain ⟨p0, e0⟩ := part_at hm 0 _ rfl
  obtain ⟨p1, e1⟩ := part_at hm 1 _ rfl
  have f0 := (hf 0 _ rfl).trans e0
  have f1 := (hf 1 _ rfl).trans e1
  have c3 : Tryz.prog.cellsOf 3 = 1 := by kernel_rfl
  have c9 : Tryz.prog.cellsOf 9 = 1 := by kernel_rfl
  have g0 : (ce.drop 0).take (Tryz.prog.cellsOf 3) = [.int .i64 x.1] := int_at Tryz.underlying3 f0
  have g1 : (ce.drop 1).take (Tryz.prog.cellsOf 9) = [.string ⟨x.2.toArray⟩] := str_at Tryz.underlying9 f1
  rw [c3] at g0
  rw [c9] at g1
  have hD : (lcD k : Int) = x.1 := by rw [lcD, List.getD_eq_getElem?_getD, hx]; rfl
  have hS : lcS k = ⟨x.2.toArray⟩ := by rw [lcS, List.getD_eq_getElem?_getD, hx]; rfl
  rw [hD, hS]
  exact ⟨h3 0 _ (one_cell g0), h3 1 _ (one_cell g1)⟩
theorem p10_of (h : VarReads Tryz.prog W "internal/strconv.pow10Tab" Rows.laid_internal_strconv_pow10Tab) : PowT P10 W := by
  refine ⟨fun j hj => ?_⟩
  obtain ⟨cs, fuel, p, hd, hc⟩ := var_reads h 10 161 (by kernel_rfl) (by kernel_rfl)
  have hlen : Go.Pinned.pow10Rows.length = 696 := by kernel_rfl
  obtain ⟨xs, m, _, ex, _, hl, hel⟩ := DataW.trod_array Tryz.underlying161 hd
  have hm : xs.map (·.1) = Go.Pinned.pow10Rows.map fun x => (DataW.agg [.lit (.int .u64 x.1), .lit (.int .u64 x.2)] : DataW Unit) := (DataW.agg.inj (Prod.mk.inj ex).1).symm
  have hq : j / 2 < 696 := by omega
  obtain ⟨x, hx⟩ : ∃ x, Go.Pinned.pow10Rows[j / 2]? = some x := ⟨_, List.getElem?_eq_getElem (by rw [hlen]; exact hq)⟩
  obtain ⟨pp, e⟩ := part_at hm (j / 2) (.agg [.lit (.int .u64 x.1), .lit (.int .u64 x.2)]) (by rw [List.getElem?_map, hx]; rfl)
  have c160 : Tryz.prog.cellsOf 160 = 2 := by kernel_rfl
  have h1 := (hel (j / 2) hq).trans e
  rw [c160] at h1
  obtain ⟨ys, n, _, hy, hyl, _, hf⟩ := DataW.trod_struct Tryz.underlying160 h1
  have hm2 : ys.map (·.1) = [.lit (.int .u64 x.1), .lit (.int .u64 x.2)] := (DataW.agg.inj (Prod.mk.inj hy).1).symm
  obtain ⟨p0, e0⟩ := part_at hm2 0 _ rfl
  obtain ⟨p1, e1⟩ := part_at hm2 1 _ rfl
  have f0 := (hf 0 _ rfl).trans e0
  have f1 := (hf 1 _ rfl).trans e1
  have c75 : Tryz.prog.cellsOf 75 = 1 := by kernel_rfl
  have q0 : (((cs.drop (j / 2 * 2)).take 2).drop 0).take (Tryz.prog.cellsOf 75) = [.int .u64 x.1] := int_at Tryz.underlying75 f0
  have q1 : (((cs.drop (j / 2 * 2)).take 2).drop 1).take (Tryz.prog.cellsOf 75) = [.int .u64 x.2] := int_at Tryz.underlying75 f1
  rw [c75] at q0 q1
  have g0 := one_cell q0
  have g1 := one_cell q1
  have hP : P10 j = if j % 2 = 0 then (x.1 : Int) else x.2 := by rw [P10, List.getD_eq_getElem?_getD, hx]; rfl
  rw [hP]
  split
  · have : cs[j]? = some (.int .u64 x.1) := by
      have := g0
      simp only [List.getElem?_take, List.getElem?_drop] at this
      rw [if_pos (by decide)] at this
      rw [show j / 2 * 2 + 0 = j by omega] at this
      exact this
    exact hc j _ this
  · have : cs[j]? = some (.int .u64 x.2) := by
      have := g1
      simp only [List.getElem?_take, List.getElem?_drop] at this
      rw [if_pos (by decide)] at this
      rw [show j / 2 * 2 + 1 = j by omega] at this
      exact this
    exact hc j _ this
end Go.Proofs.YtfkpbkjokapijaaGreatFmt.PQ
namespace Go.Proofs.YtfkpbkjokapijaaGreatFmt.PQ
open Go.RowKit Go.Lib
set_option linter.unusedVariables false
set_option linter.unusedSimpArgs false

theorem row_of (W : World) (h : laidMet Tryz.prog Rows.fnLStringFormatDCaseTableRow.laid W) (g : Nat) (name : String) (d : DataW Unit) (hm : (name, d) ∈ Rows.fnLStringFormatDCaseTableRow.laid) (hg : Tryz.prog.globalNamed name = some g) (hu : (Tryz.prog.globals[g]?).map (·.type) = some 114) : ∃ c t, W.heap[g]? = some (.cells c t (0, 0)) := by
  obtain ⟨ps, hv, _, hc⟩ := h
  have : ∀ {l : List (String × DataW Unit)} {ps : List MemPlace}, DataW.LaidVars Tryz.prog W l ps → (name, d) ∈ l → MemPlace.cell g 0 ∈ ps := by
    intro l
    induction l with
    | nil => intro ps _ hm; cases hm
    | cons x r ih =>
      intro ps hv hm
      obtain ⟨n', d'⟩ := x
      obtain ⟨g', t, cs, fuel, p, q, h1, h2, h3, h4, h5, rfl⟩ := hv
      rcases List.mem_cons.1 hm with e | e
      · cases e
        obtain rfl := Option.some.inj (hg.symm.trans h1)
        obtain rfl := Option.some.inj (hu.symm.trans h2)
        have hl : 0 < cs.size := by
          obtain ⟨xs, n, _, hx, hl, _⟩ := DataW.trod_struct Tryz.underlying114 h4
          have c114 : Tryz.prog.cellsOf 114 = 3 := by kernel_rfl
          rw [c114] at hl
          simp at hl
          omega
        exact List.mem_append_left _ (List.mem_append_left _ (MemPlace.mem_row.2 ⟨0, hl, rfl⟩))
      · exact List.mem_append_right _ (ih h5 e)
  exact (hc g 0 (this hv hm)).1
theorem tabs_of (W : World) (h : laidMet Tryz.prog Rows.fnLStringFormatDCaseTableRow.laid W) : Tabs P10 W ∧ Errs W := by
  have R := fun n d (hm : (n, d) ∈ Rows.fnLStringFormatDCaseTableRow.laid) => laidMet.reads h hm
  obtain ⟨i0, i1, i2⟩ := info_of (R "internal/strconv.float64info" Rows.laid_internal_strconv_float64info (by simp [Rows.fnLStringFormatDCaseTableRow]))
  have h6 := row_of W h 6 "internal/strconv.float64info" Rows.laid_internal_strconv_float64info (by simp [Rows.fnLStringFormatDCaseTableRow]) (by kernel_rfl) (by kernel_rfl)
  have h4 := row_of W h 4 "internal/strconv.float32info" Rows.laid_internal_strconv_float32info (by simp [Rows.fnLStringFormatDCaseTableRow]) (by kernel_rfl) (by kernel_rfl)
  refine ⟨⟨⟨i0, i1, i2, h6, h4⟩, ⟨i0, f10_of (R "internal/strconv.float64pow10" Rows.laid_internal_strconv_float64pow10 (by simp [Rows.fnLStringFormatDCaseTableRow]))⟩, p10_of (R "internal/strconv.pow10Tab" Rows.laid_internal_strconv_pow10Tab (by simp [Rows.fnLStringFormatDCaseTableRow])), opt_of (R "internal/strconv.optimize" Rows.laid_internal_strconv_optimize (by simp [Rows.fnLStringFormatDCaseTableRow])),
    pt_of (R "internal/strconv.powtab" Rows.laid_internal_strconv_powtab (by simp [Rows.fnLStringFormatDCaseTableRow])), lc_of (R "internal/strconv.leftcheats" Rows.laid_internal_strconv_leftcheats (by simp [Rows.fnLStringFormatDCaseTableRow]))⟩, ⟨?_, ?_⟩⟩
  · exact err_of 2 (by kernel_rfl) (by kernel_rfl) (R "strconv.ErrSyntax" Rows.laid_strconv_ErrSyntax (by simp [Rows.fnLStringFormatDCaseTableRow]))
  · exact err_of 3 (by kernel_rfl) (by kernel_rfl) (R "strconv.ErrRange" Rows.laid_strconv_ErrRange (by simp [Rows.fnLStringFormatDCaseTableRow]))
end Go.Proofs.YtfkpbkjokapijaaGreatFmt.PQ
