/- prefixIsLessThan: the digits against the cut-off. -/
import Derived.Test.YtfkpbkjokapijaaGreatFmtDecRS
namespace Go.Proofs.YtfkpbkjokapijaaGreatFmt.PQ
open Go.RowKit Go.Proofs.YtfkpbkjokapijaaGreatFmtW.PrintWords
set_option linter.unusedVariables false
set_option linter.unusedSimpArgs false

def pl (c : Nat → Int) (nd : Nat) (s : ByteArray) : Nat → Nat → Bool
  | 0, _ => false
  | f + 1, i => if nd ≤ i then true else if c i = bt s i then pl c nd s f (i + 1) else decide (c i < bt s i)

set_option maxHeartbeats 4000000 in
set_option maxRecDepth 100000 in
theorem prefix_any (c : Nat → Int) (nd : Nat) (s : ByteArray) (n8 : nd ≤ 800) (hs : s.size ≤ 60) (g cap : Nat) (w : World) (hc : ∀ j, j < nd → w.cell? ⟨g, j, none⟩ = some (.int .u8 (c j))) :
    Calls Tryz.prog 103 #[.slice (some ⟨g, 0, none⟩) nd cap, .string s] w fun en w' => en = .returned (.bool (pl c nd s s.size 0)) ∧ ∃ m, w' = w.drewN m := by
  obtain ⟨b, hb⟩ : ∃ b, pl c nd s s.size 0 = b := ⟨_, rfl⟩
  rw [hb]
  replace hb := Aside0.mk hb
  go_enter Tryz.func103, Tryz.ntmps103
  go_wp2
  go_loopg [5] s.size (fun kk v5 wr => ∃ (i : Nat) (m : Nat), v5 = .int .i64 i ∧ Aside0 (kk + i = s.size) ∧ Aside0 (pl c nd s kk i = b) ∧ Aside0 (w.drewN m = wr))
  case atStart => exact ⟨0, 0, rfl, ⟨rfl⟩, hb, ⟨rfl⟩⟩
  case round =>
    obtain ⟨i, m, rfl, hk, hp, hw⟩ := hrel
    obtain rfl := hw.out
    clear hw hb
    rcases gk with _ | kk
    · have hi : i = s.size := by have := hk.out; omega
      have hb : false = b := hp.out
      subst hb
      subst hi
      go_wp2
      go_ret
      exact ⟨rfl, m, rfl⟩
    · have hi : i < s.size := by have := hk.out; omega
      have hi' : (i : Int) < s.size := by omega
      have H := hp.out
      rw [pl] at H
      by_cases h1 : nd ≤ i
      · rw [if_pos h1] at H
        subst H
        have h1' : (nd : Int) ≤ i := by omega
        go_wp2
        go_ret
        exact ⟨rfl, m, rfl⟩
      · rw [if_neg h1] at H
        have h1' : ¬ (nd : Int) ≤ i := by omega
        have h2' : (i : Int) < nd := by omega
        have ec := hc i (by omega)
        have hx : ∀ h : i < s.size, ((s[i]'h).toNat : Int) = bt s i := fun h => bt_at s (i : Int) h
        by_cases h2 : c i = bt s i
        · rw [if_pos h2] at H
          have H' := Aside0.mk H
          clear H
          have h3 : (c i == bt s i) = true := beq_iff_eq.mpr h2
          have h4 : (c i != bt s i) = false := bne_eq_false_iff_eq.mpr h2
          clear h2
          go_wp2
          go_quiet (fail)
          go_wp2
          go_roundg kk
          case measure => omega
          case rel => exact ⟨i + 1, m + nq, by simp, ⟨by have := hk.out; omega⟩, H', ⟨rfl⟩⟩
        · rw [if_neg h2] at H
          subst H
          have h3 : (c i == bt s i) = false := beq_eq_false_iff_ne.mpr h2
          have h4 : (c i != bt s i) = true := bne_iff_ne.mpr h2
          clear h2
          go_wp2
          go_quiet (fail)
          go_wp2
          go_quiet (fail)
          go_wp2
          go_ret
          exact ⟨rfl, _, by rw [World.drewN_drewN, World.drewN_drewN]⟩
end Go.Proofs.YtfkpbkjokapijaaGreatFmt.PQ
