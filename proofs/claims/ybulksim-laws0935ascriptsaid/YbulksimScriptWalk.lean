/- The walk of lock.LawS0935AScript. By an AI agent. -/
import Derived.Test.YbulksimScriptSt
import Derived.Deep.DeepCutAuto
import Derived.Deep.CutBlock
namespace Go.Proofs.Ybulksim.lawS0935AScript
open Go.RowKit Go.Shelf Go.Proofs.Ybulksim.Hold Go.Proofs.Ybulksim.Keep

set_option maxRecDepth 100000 in
set_option maxHeartbeats 4000000 in
theorem walk (a0 : Option Addr) (len cap : Nat) (w : World)
    (hops : 0 < len → ∃ b off, a0 = some ⟨b, off, none⟩ ∧ b < w.heap.size ∧ ∀ j, j < len → ∃ o t m : Int, (0 ≤ o ∧ o ≤ 255) ∧ (0 ≤ t ∧ t ≤ 255) ∧ (0 ≤ m ∧ m ≤ 255) ∧
      w.cell? ⟨b, off + j * 3, none⟩ = some (.int .u8 o) ∧ w.cell? ⟨b, off + j * 3 + 1, none⟩ = some (.int .u8 t) ∧ w.cell? ⟨b, off + j * 3 + 2, none⟩ = some (.int .u8 m)) :
    Calls Yba.prog 4 #[.slice a0 len cap] w fun e w' => e = .returned (.bool true) ∧ Below w.heap.size w w' := by
  by_cases hbig : (1024 : Int) < (len : Int)
  · go_enter Yba.func4, Yba.ntmps4
    go_wp2
    go_ret
    exact ⟨rfl, Below.refl _ _⟩
  obtain ⟨i0, hi, hz0, hz1, hz2⟩ := info_parts info3
  have hneq := fun (w : World) (a : Option Addr) (n c : Nat) => run_neq_slice_nil_any (P := Yba.prog) w 22 3 a n c 0 0 Yba.underlying22
  go_enter Yba.func4, Yba.ntmps4
  go_wp2
  go_loopw [4, 5, 6] (fun mv mo i wr => ∃ (k : Nat) (M : List Int) (m : Int), k ≤ len ∧ M.length ≤ k ∧ i = .int .i64 k ∧ mo = .int .u8 m ∧ St w wr M M m mv)
    (fun _ _ i _ => len - (intOf i).toNat)
  case atStart => exact ⟨0, [], 0, Nat.zero_le _, Nat.le_refl _, rfl, rfl, St.start w⟩
  case round =>
    obtain ⟨k, M, mo, hk, hMk, rfl, rfl, hst⟩ := hrel
    by_cases hlt : k < len
    · obtain ⟨b, off, rfl, hbl, hcs⟩ := hops (by omega)
      obtain ⟨o, t, m, ho, ht, hm, g0, g1, g2⟩ := hcs k hlt
      have q0 := (hst.below.cell (p := ⟨b, off + k * 3, none⟩) hbl).trans g0
      have q1 := (hst.below.cell (p := ⟨b, off + k * 3 + 1, none⟩) hbl).trans g1
      have q2 := (hst.below.cell (p := ⟨b, off + k * 3 + 2, none⟩) hbl).trans g2
      clear g0 g1 g2 hcs hops
      obtain ⟨ma, mc, rfl⟩ := row_slice hst.row
      have hM : M.length ≤ 1024 := by omega
      go_upto_block 2 with fail
      go_cut [9] (fun s wx => s = .int .i64 (idx M (t % 8)) ∧ wr = wx)
      case first =>
        have hints := ints_row hst.row
        have hc1 : 0 < M.length → ∃ b off, ma = some ⟨b, off, none⟩ ∧ ∀ j, j < M.length → wr.cell? ⟨b, off + j, none⟩ = some (.int .i64 (M[j]?.getD 0)) := by
          intro h0
          rcases hints with ⟨e, rfl⟩ | ⟨b, off, cap, e, _, hc⟩
          · simp at h0
          · simp at e
            exact ⟨b, off, e.1, hc⟩
        clear hints hst q0 q1 q2
        go_wp2_with fail
        go_loop [9, 10] (fun s i => ∃ j : Nat, j ≤ M.length ∧ s = .int .i64 (-1) ∧ i = .int .i64 j ∧ t % 8 ∉ M.take j) (fun _ i => M.length - (intOf i).toNat)
        case atStart => exact ⟨0, Nat.zero_le _, rfl, rfl, by simp⟩
        case round =>
          obtain ⟨j, hj, rfl, rfl, hno⟩ := hrel
          have HN : Hid (t % 8 ∉ M.take j) := hno
          clear hno
          by_cases hjl : j < M.length
          · obtain ⟨b1, o1, rfl, h1⟩ := hc1 (by omega)
            have g1 := h1 j hjl
            obtain ⟨y, hy⟩ : ∃ y, M[j]?.getD 0 = y := ⟨_, rfl⟩
            rw [hy] at g1
            have HY : Hid (M[j]?.getD 0 = y) := hy
            clear hy h1 hc1
            by_cases hty : t % 8 = y
            · have hb : (y == t % 8) = true := by simp [hty]
              have HI : Hid (idx M (t % 8) = (j : Int)) := (idx_hit HN.out (HY.out.trans hty.symm) hjl).1
              clear hty
              go_wp2
              go_meet
              case rel => exact ⟨by rw [HI.out], rfl⟩
            · have hb : (y == t % 8) = false := by simp; omega
              have HT : Hid (t % 8 ∉ M.take (j + 1)) := not_mem_take_succ HN.out HY.out hjl hty
              clear hty
              go_wp2
              go_round
              case rel => exact ⟨j + 1, by omega, rfl, by go_num, HT.out⟩
              case measure => simp [intOf]; omega
          · have HI : Hid (idx M (t % 8) = -1) := idx_miss (by have := HN.out; rwa [List.take_of_length_le (by omega)] at this)
            go_wp2
            go_meet
            case rel => exact ⟨by rw [HI.out], rfl⟩
      case rest =>
        obtain ⟨rfl, rfl⟩ := hcut
        go_upto_if 58 with fail
        go_cut [4, 5] (fun mv' mo' wx => ∃ (M' : List Int) (m' : Int), M'.length ≤ k + 1 ∧ mo' = .int .u8 m' ∧ St w wx M' M' m' mv')
        case first =>
          clear q0 q1 q2
          by_cases hop : o % 2 = 0
          · have hb : (o % 2 == 0) = true := by simp [hop]
            clear hop
            by_cases hin : t % 8 ∈ M
            · have hge : 0 ≤ idx M (t % 8) := by simp [idx, hin]
              clear hin
              go_wp2
              go_meet
              case rel => exact ⟨M, mo, by omega, rfl, hst⟩
            · have hneg : idx M (t % 8) < 0 := by rw [idx_miss hin]; omega
              clear hin
              cases M with
              | nil =>
                have hG := hst.grant_free (t % 8) (m % 2)
                go_wp2_with (first
                  | (go_at_call 10; refine hG.mono ?_; rintro e w2 ⟨rfl, hst2⟩; clear hG hst)
                  | (at_builtin; (refine wpList_append_own_at _ rfl _ _ 22 rfl (w.heap.size + 1) 3 i0 (.int .i64 0) 1 8 Yba.underlying22 hi hz0 hz1 hz2 rfl (by decide) (.slice ma 0 mc) _ _ rfl (hst2.row.alloc _) ⟨w2.heap.size, 0, none⟩ 1 1 [.int .i64 (t % 8)] rfl rfl (cell_one_new _ _ _) (by simp [Value.oneCell']) (by unfold maxLen; simp) (by simp) (by have := hst2.size; simp; omega) ?_); intro v1 w3 hown hgrow _ hat
                     have hst3 := hst2.appended hgrow hown (by simpa using hat)
                     clear hown hgrow hat hst2)
                  | go_in)
                go_meet
                case rel => exact ⟨[t % 8], m % 2, by simp, rfl, hst3⟩
              | cons x zs =>
                have hG := hst.grant_held (by simp at hM; omega) (t % 8) (m % 2)
                go_wp2_with (first
                  | (go_at_call 10; refine hG.mono ?_; rintro e w2 ⟨rfl, hst2⟩; clear hG hst)
                  | (at_builtin; (refine wpList_append_own_at _ rfl _ _ 22 rfl (w.heap.size + 1) 3 i0 (.int .i64 0) 1 8 Yba.underlying22 hi hz0 hz1 hz2 rfl (by decide) (.slice ma (zs.length + 1) mc) _ _ rfl (hst2.row.alloc _) ⟨w2.heap.size, 0, none⟩ 1 1 [.int .i64 (t % 8)] rfl rfl (cell_one_new _ _ _) (by simp [Value.oneCell']) (by unfold maxLen; simp at hM ⊢; omega) (by simp at hM ⊢; omega) (by have := hst2.size; simp; omega) ?_); intro v1 w3 hown hgrow _ hat
                     have hst3 := hst2.appended hgrow hown (by simpa using hat)
                     clear hown hgrow hat hst2)
                  | go_in)
                go_meet
                case rel => exact ⟨x :: zs ++ [t % 8], mo, by simp at hMk ⊢; omega, rfl, hst3⟩
          · have hb : (o % 2 == 0) = false := by simp [hop]
            clear hop
            have hU := hst.ungrant (by omega) (t % 8)
            by_cases hin : t % 8 ∈ M
            · have hge : 0 ≤ idx M (t % 8) := by simp [idx, hin]
              have hidx : idx M (t % 8) = (M.idxOf (t % 8) : Int) := by simp [idx, hin]
              have her : M.eraseIdx (M.idxOf (t % 8)) = M.erase (t % 8) := erase_idx
              generalize M.idxOf (t % 8) = I at hidx her
              have HI : Hid (idx M (t % 8) = (I : Int)) := hidx
              have HR : Hid (M.eraseIdx I = M.erase (t % 8)) := her
              have HL : Hid ((M.erase (t % 8)).length ≤ M.length) := erase_len M (t % 8)
              clear hidx her hin
              go_wp2_with (first
                | (go_at_call 11; refine hU.mono ?_; rintro e wu ⟨rfl, hst2⟩; clear hU hst)
                | (at_make; refine wpList_make_own _ rfl (.const (.int .i64 0)) (.tmp 79) 22 rfl wu.heap.size 3 i0 (.int .i64 0) 1 Yba.underlying22 hi hz0 hz1 _ _ _ M.length rfl rfl rfl (by rw [hz2]; omega) (by unfold maxLen; omega) (Nat.le_refl _) ?_; intro wm hownm hgrowm
                   have hbm : Below wu.heap.size wu wm := (Below.refl _ _).grown hgrowm (Nat.le_refl _) (fun k e => by cases e)
                   clear hgrowm)
                | go_in)
              have hc1 : 0 < M.length → ∃ b off, ma = some ⟨b, off, none⟩ ∧ b < wu.heap.size ∧ ∀ j, j < M.length → wu.cell? ⟨b, off + j, none⟩ = some (.int .i64 (M[j]?.getD 0)) := by
                intro h0
                rcases ints_row hst2.row with ⟨e, rfl⟩ | ⟨b, off, cap, e, hb', hc⟩
                · simp at h0
                · simp at e
                  exact ⟨b, off, e.1, hb', hc⟩
              go_loopw [11, 12] (fun nm i wx => ∃ j : Nat, j ≤ M.length ∧ i = .int .i64 j ∧ nm = .slice (some ⟨wu.heap.size, 0, none⟩) ((M.take j).eraseIdx I).length M.length ∧
                  wx.ownsRow wu.heap.size 3 1 (.slice (some ⟨wu.heap.size, 0, none⟩) ((M.take j).eraseIdx I).length M.length) ((M.take j).eraseIdx I).length (((M.take j).eraseIdx I).map (Value.int .i64)) ∧ Below wu.heap.size wu wx)
                (fun _ i _ => M.length - (intOf i).toNat)
              case atStart => exact ⟨0, Nat.zero_le _, rfl, by simp, by simpa using hownm, hbm⟩
              case round =>
                obtain ⟨j, hj, rfl, rfl, hok, hbk⟩ := hrel
                clear hownm hbm
                by_cases hjl : j < M.length
                · obtain ⟨b1, o1, rfl, hb1, h1⟩ := hc1 (by omega)
                  have g1 := (hbk.cell (p := ⟨b1, o1 + j, none⟩) hb1).trans (h1 j hjl)
                  have hstep := skip_step (i := I) hjl
                  have hPl : ((M.take j).eraseIdx I).length ≤ j := by
                    have := List.length_eraseIdx_le (M.take j) I
                    simp at this ⊢
                    omega
                  generalize M[j]?.getD 0 = y at g1 hstep
                  generalize (M.take j).eraseIdx I = P at hok hstep hPl
                  have HI2 := HI.out
                  by_cases hji : j = I
                  · have hb2 : ((j : Int) != idx M (t % 8)) = false := by rw [HI2]; simp [hji]
                    rw [if_pos hji] at hstep
                    have HS : Hid ((M.take (j + 1)).eraseIdx I = P) := hstep
                    clear hstep hji HI2 h1 hc1 g1
                    go_wp2
                    go_roundw
                    case rel => exact ⟨j + 1, by omega, by go_num, by rw [HS.out], by rw [HS.out]; exact hok, hbk⟩
                    case measure => simp [intOf]; omega
                  · have hb2 : ((j : Int) != idx M (t % 8)) = true := by rw [HI2]; simp; omega
                    rw [if_neg hji] at hstep
                    have HS : Hid ((M.take (j + 1)).eraseIdx I = P ++ [y]) := hstep
                    clear hstep hji HI2 h1 hc1
                    go_wp2_with (first
                      | (at_builtin; refine wpList_append_fits _ rfl _ _ 22 rfl wu.heap.size 3 i0 1 Yba.underlying22 hi hz1 _ _ _ _ rfl (hok.alloc _) ⟨wr.heap.size, 0, none⟩ 1 1 [.int .i64 y] rfl rfl (cell_one_new _ _ _) (by simp [Value.oneCell']) (by omega) ?_; intro wa2 howna2 hgrowa2
                         have hba2 : Below wu.heap.size wu wa2 := (hbk.alloc hbk.size _).grown hgrowa2 (by have := hbk.size; simp; omega) (fun k e => by cases e; exact Nat.le_refl _)
                         clear hgrowa2 hok hbk)
                      | go_in)
                    go_roundw
                    case rel => exact ⟨j + 1, by omega, by go_num, by rw [HS.out]; simp, by rw [HS.out]; simpa using howna2, hba2⟩
                    case measure => simp [intOf]; omega
                · obtain rfl : j = M.length := by omega
                  rw [List.take_length] at hok
                  clear hc1
                  go_wp2
                  go_meet
                  case rel => exact ⟨M.eraseIdx I, mo, by rw [HR.out]; have := HL.out; omega, rfl, by have h2 := hst2; rw [← HR.out] at h2; exact h2.fresh hbk (by rw [List.take_length]; exact hok)⟩
            · have hneg : idx M (t % 8) < 0 := by rw [idx_miss hin]; omega
              rw [List.erase_of_not_mem hin] at hU
              clear hin
              go_wp2_with (go_at_call 11; refine hU.mono ?_; rintro e wu ⟨rfl, hst2⟩; clear hU hst)
              go_meet
              case rel => exact ⟨M, mo, by omega, rfl, hst2⟩
        case rest =>
          obtain ⟨M', m', hM', rfl, hst'⟩ := hcut
          obtain ⟨na, nc, rfl⟩ := row_slice hst'.row
          clear hst q0 q1 q2
          cases M' with
          | nil =>
            have hH := hst'.holders_no
            go_wp2_with (go_at_call 8; refine hH.mono ?_; rintro e w2 ⟨rfl, rfl⟩; clear hH)
            go_roundw
            case rel => exact ⟨k + 1, [], m', by omega, by simp, by go_num, rfl, hst'⟩
            case measure => simp [intOf]; omega
          | cons x zs =>
            have hH := hst'.holders_yes (by simp at hM'; omega)
            go_wp2_with (first
              | (go_at_call 8; refine hH.mono ?_; rintro e w2 ⟨g, gc, rfl, hI, hst2⟩
                 have hE := eq_any w2.heap.size _ _ (x :: zs) w2 (by simp at hM' ⊢; omega) hI (ints_row hst2.row)
                 clear hH hst' hI)
              | (go_at_call 9; refine hE.mono ?_; rintro e w3 ⟨rfl, nn, rfl⟩; clear hE)
              | go_in)
            go_roundw
            case rel => exact ⟨k + 1, x :: zs, m', by omega, hM', by go_num, rfl, hst2.drewN nn⟩
            case measure => simp [intOf]; omega
    · go_wp2
      go_ret
      exact ⟨rfl, hst.below⟩

end Go.Proofs.Ybulksim.lawS0935AScript
