/- formatted at the format of the bytes 37 105. -/
import Derived.Test.YtfkpbkjokapijaaGreatFmtLow
namespace Go.Proofs.YtfkpbkjokapijaaGreatFmt.PQ
open Go.RowKit Go.Proofs.YtfkpbkjokapijaaGreatFmtW.PrintWords
set_option linter.unusedVariables false
set_option linter.unusedSimpArgs false

set_option maxHeartbeats 40000000 in
set_option maxRecDepth 100000 in
theorem fmt_i (s R : ByteArray) (hz : R.size ≤ 1000000) (w : World) (hV : ∀ w1, Below w.heap.size w w1 → Calls Tryz.prog 17 #[.agg #[.bool false, .bool false, .bool false, .bool false, .bool false, .int .i64 0, .int .i64 0, .bool false, .bool false], .iface 26 (.string s), .int .i32 105] w1 fun e w' => e = .returned (.string R) ∧ Below w1.heap.size w1 w')
    (blk : Nat) (harg : w.cell? ⟨blk, 0, none⟩ = some (.iface 26 (.string s))) :
    Calls Tryz.prog 9 #[.string ⟨#[37, 105]⟩, .slice (some ⟨blk, 0, none⟩) 1 1] w fun e w' => e = .returned (.string R) ∧ Below w.heap.size w w' := by
  replace hV := Aside0.mk hV
  replace hz := Aside0.mk hz
  have hblk : blk < w.heap.size := World.block_lt_of_cell? _ _ harg
  have hblk' : (blk = w.heap.size) = False := eq_false (by omega)
  go_enter Tryz.func9, Tryz.ntmps9
  go_wp2
  go_loopg [7, 8, 9] 1 (fun kk v7 v8 v9 wr => (kk = 1 ∧ v7 = .int .i64 0 ∧ v8 = .bool false ∧ v9 = .int .i64 0 ∧ wr = w.alloc (.cells #[.slice none 0 0, .bool false, .bool false, .bool false, .bool false, .bool false, .int .i64 0, .int .i64 0, .bool false, .bool false, .bool false, .bool false] 41)) ∨ (kk = 0 ∧ v7 = .int .i64 1 ∧ v8 = .bool false ∧ v9 = .int .i64 2 ∧ After w wr R))
  case atStart => exact .inl ⟨rfl, rfl, rfl, rfl, rfl⟩
  case round =>
    rcases hrel with ⟨rfl, rfl, rfl, rfl, rfl⟩ | ⟨rfl, rfl, rfl, rfl, hA⟩
    · go_wp2
      refine wp_scope_straight ?_
      go_wp2
      go_loopg [9] 0 (fun kk v9 wr => v9 = .int .i64 0 ∧ wr = w.alloc (.cells #[.slice none 0 0, .bool false, .bool false, .bool false, .bool false, .bool false, .int .i64 0, .int .i64 0, .bool false, .bool false, .bool false, .bool true] 41))
      case atStart => exact ⟨rfl, rfl⟩
      case round =>
        as_aux_lemma =>
        obtain ⟨rfl, rfl⟩ := hrel
        go_wp2
        go_step3
        go_wp2
        go_loopg [9] 0 (fun kk v9 wr => v9 = .int .i64 1 ∧ wr = w.alloc (.cells #[.slice none 0 0, .bool false, .bool false, .bool false, .bool false, .bool false, .int .i64 0, .int .i64 0, .bool false, .bool false, .bool false, .bool true] 41))
        case atStart => exact ⟨rfl, rfl⟩
        case round =>
          as_aux_lemma =>
          obtain ⟨rfl, rfl⟩ := hrel
          go_wp2_with (first | (go_at_call 13; ((with_reducible refine (an_d1 _ 105 (.inr rfl) _ _ _).mono ?_); rintro e w1 ⟨rfl, rfl⟩)) | (go_at_call 13; ((with_reducible refine (an_d1 _ 105 (.inr rfl) _ _ _).mono ?_); rintro e w1 ⟨rfl, rfl⟩)) | (go_at_call 15; ((with_reducible refine (fn_d 105 (.inr rfl) _).mono ?_); rintro e w1 ⟨rfl, rfl⟩)) | (go_at_call 16; ((with_reducible refine (Tryz.utf8_DecodeRuneInString_ascii _ 105 _ rfl (by decide)).mono ?_); rintro e w1 ⟨rfl, rfl⟩)))
          go_cut [] (fun wc => After w wc R)
          case first =>
            as_aux_lemma =>
            refine wp_mono (reg67 false false 0 105 s R hz.out w (fun w1 h => hV.out w1 h) blk harg _ ?_ ?_ ?_ ?_ ?_ _ ?_) ?_
            · rfl
            · rfl
            · rfl
            · rfl
            · rfl
            · rfl
            · rintro e a' w' h
              cases e with
              | normal =>
                obtain ⟨hL, hA⟩ := h
                obtain ⟨u363, u362, u361, u360, u359, u358, u357, u356, u355, u354, u353, u352, u351, u350, u349, u348, u347, u346, rfl⟩ := hL.out
                simp only [List.setIfInBounds_toArray, List.set_cons_zero, List.set_cons_succ]
                go_wp2_with fail
                go_meet
                exact hA
              | _ => exact h.elim
          case rest =>
            as_aux_lemma =>
            go_wp2
            rw [Exit.noGoto_normal]
            (try go_wp2)
            go_roundg 0
            case measure => omega
            case rel => exact .inr ⟨rfl, rfl, rfl, rfl, hcut⟩
    · obtain ⟨hB, vb, c0, c10, hH⟩ := hA
      as_aux_lemma =>
      have hcv := hasB_conv hH
      go_wp2
      go_ret
      exact ⟨rfl, hB⟩
end Go.Proofs.YtfkpbkjokapijaaGreatFmt.PQ
