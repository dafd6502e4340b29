/- The walk of decisioncombiner.LawS0946BSplit. By an AI agent. -/
import Derived.Test.YbulksokPolicies
import Derived.Deep.QuietTactic
import Derived.BigQuiet
import Derived.Lib.SliceRun
namespace Go.Proofs.Ybulksok.Split
open Go.RowKit Go.Proofs.Ybulksok.Keep

theorem info35 : (Yba.prog.info? 35).map (fun i => (i.zero, i.size, i.bytes)) = some (some (.agg #[.bool false, .string ⟨#[]⟩, .string ⟨#[]⟩]), 3, 40) := by kernel_rfl

theorem row_slice {W : World} {B n : Nat} {e : TypeId} {size : Nat} {sv : Value} {xs : List Value} (h : W.ownsRow B e size sv n xs) : ∃ a c, sv = .slice a n c := by
  rcases h.2 with ⟨rfl, rfl⟩ | ⟨g, cap, cur, rfl, _⟩
  · exact ⟨_, _, rfl⟩
  · exact ⟨_, _, rfl⟩

theorem add_lit' (g j : Nat) : (⟨g, 0, none⟩ : Addr).add j = ⟨g, j, none⟩ := by unfold Addr.add; split <;> simp_all

/-- the gathered identifiers, as newPoliciesJSON is told of them -/
theorem lies_row {W : World} {B c : Nat} {a : Option Addr} {its : List It} (h : W.ownsRow B 35 3 (.slice a its.length c) its.length (trips its)) : Lies W a its := by
  intro h0
  rcases h.2 with ⟨e, h1⟩ | ⟨g, cap, cur, e, _, hg, _⟩
  · omega
  · simp only [Value.slice.injEq, true_and] at e
    obtain ⟨rfl, rfl⟩ := e
    refine ⟨g, 0, rfl, (Array.getElem?_eq_some_iff.1 hg).1, fun j x hx => ?_⟩
    obtain ⟨t0, t1, t2⟩ := trips_get its j x hx
    have k := h.cells (g := g) rfl
    have e0 := k _ _ t0
    have e1 := k _ _ t1
    have e2 := k _ _ t2
    rw [add_lit'] at e0 e1 e2
    rw [Nat.zero_add]
    exact ⟨e0, e1, e2⟩

/-- the cells of a reference in a row of references -/
theorem ref_cells {W : World} {B n c : Nat} {a : Option Addr} {l : List It} {j : Nat} {x : It} (h : W.ownsRow B 43 2 (.slice a n c) n (refs l)) (hx : l[j]? = some x) :
    ∃ g, a = some ⟨g, 0, none⟩ ∧ g < W.heap.size ∧ W.cell? ⟨g, j * 2, none⟩ = some (.string x.2.1) ∧ W.cell? ⟨g, j * 2 + 1, none⟩ = some (.string x.2.2) := by
  obtain ⟨t0, t1⟩ := refs_get l j x hx
  rcases h.2 with ⟨e, h1⟩ | ⟨g, cap, cur, e, _, hg, _⟩
  · have hl := h.1
    rw [h1] at hl
    have := (List.getElem?_eq_some_iff.1 t0).1
    omega
  · simp only [Value.slice.injEq, true_and] at e
    obtain ⟨rfl, rfl⟩ := e
    have k := h.cells (g := g) rfl
    have e0 := k _ _ t0
    have e1 := k _ _ t1
    rw [add_lit'] at e0 e1
    exact ⟨g, rfl, (Array.getElem?_eq_some_iff.1 hg).1, e0, e1⟩

set_option maxRecDepth 100000 in
set_option maxHeartbeats 4000000 in
theorem walk (a0 : Bool) (a1 : Option Addr) (cap1 : Nat) (its : List It) (w : World) (hL : Lies w a1 its) :
    Calls Yba.prog 4 #[.bool a0, .slice a1 its.length cap1] w fun e w' => e = .returned (.bool true) ∧ Below w.heap.size w w' := by
  by_cases hbig : (1024 : Int) < (its.length : Int)
  · go_enter Yba.func4, Yba.ntmps4
    go_wp2
    go_ret
    exact ⟨rfl, Below.refl _ _⟩
  cases a0
  case true =>
    go_enter Yba.func4, Yba.ntmps4
    go_wp2_with (go_at_call 6; refine (policies_nil _).mono ?_; rintro e w' ⟨rfl, rfl⟩)
    go_ret
    exact ⟨rfl, Below.refl _ _⟩
  obtain ⟨i0, hi, hz0, hz1, hz2⟩ := info_parts info35
  go_enter Yba.func4, Yba.ntmps4
  go_wp2_with (first
    | (at_make; refine wpList_make_own _ rfl (.const (.int .i64 0)) (.tmp 21) 32 rfl w.heap.size 35 i0 _ 3 Yba.underlying32 hi hz0 hz1 _ _ _ its.length rfl rfl rfl (by rw [hz2]; omega) (by unfold maxLen; omega) (Nat.le_refl _) ?_; intro wm hownm hgrowm
       have hbm : Below w.heap.size w wm := (Below.refl _ _).grown hgrowm (Nat.le_refl _) (fun k e => by cases e)
       clear hgrowm)
    | go_in)
  go_loopw [5, 6] (fun v i wr => ∃ k : Nat, k ≤ its.length ∧ i = .int .i64 k ∧ wr.ownsRow w.heap.size 35 3 v k (trips (its.take k)) ∧ Below w.heap.size w wr)
    (fun _ i _ => its.length - (intOf i).toNat)
  case atStart => exact ⟨0, Nat.zero_le _, rfl, hownm, hbm⟩
  case round =>
    obtain ⟨k, hk, rfl, hok, hbk⟩ := hrel
    clear hownm hbm
    obtain ⟨va, vc, rfl⟩ := row_slice hok
    by_cases hlt : k < its.length
    · obtain ⟨g, o, rfl, hg, hcs⟩ := hL (by omega)
      obtain ⟨x, hx⟩ : ∃ x, its[k]? = some x := ⟨_, List.getElem?_eq_getElem hlt⟩
      obtain ⟨c0, c1, c2⟩ := hcs k x hx
      have q0 := (hbk.cell (p := ⟨g, o + k * 3, none⟩) hg).trans c0
      have q1 := (hbk.cell (p := ⟨g, o + k * 3 + 1, none⟩) hg).trans c1
      have q2 := (hbk.cell (p := ⟨g, o + k * 3 + 2, none⟩) hg).trans c2
      have HT : Hid (its.take (k + 1) = its.take k ++ [x]) := take_snoc hx
      have hsz := hbk.size
      have ag : (Value.slice va k vc).ownBlock ≠ some g := fun e => by have := (hok.lt _ e).1; omega
      have lg : g < wr.heap.size := by omega
      have hi0 : (0 : Int) ≤ (k : Int) := Int.natCast_nonneg _
      have hi1 : (k : Int) < (its.length : Int) := by omega
      obtain ⟨bx, id, ver⟩ := x
      simp only at q0 q1 q2
      clear c0 c1 c2 hcs hL hx
      go_wp2_with fail
      go_region_held3 (fun w' => w'.cell? ⟨g, o + k * 3, none⟩ = some (.bool bx) ∧ w'.cell? ⟨g, o + k * 3 + 1, none⟩ = some (.string id) ∧ w'.cell? ⟨g, o + k * 3 + 2, none⟩ = some (.string ver))
        (first
          | go_keep
          | (go_split_ands
             refine ⟨?_, ?_, ?_⟩
             · (rw [hgrow.cell_far _ (by simp; omega) (Ne.symm ag)]; assumption)
             · (rw [hgrow.cell_far _ (by simp; omega) (Ne.symm ag)]; assumption)
             · (rw [hgrow.cell_far _ (by simp; omega) (Ne.symm ag)]; assumption)))
        ((refine step_append_lies _ (by rfl) _ _ _ (by rfl) w.heap.size 35 i0 _ 3 40 Yba.underlying32 hi hz0 hz1 hz2 rfl (by omega) (.slice va k vc) k (trips (its.take k)) (by rfl) ((hok.alloc _).drew) ⟨wr.heap.size, 0, none⟩ 1 1 [.bool bx, .string id, .string ver] (by rfl) (by rfl) (World.news_of_block (cs := #[.bool bx, .string id, .string ver]) (t := 35) (fr := (0, 0)) (heap_alloc_new wr _)) (by simp [Value.oneCell']) (by omega) (by unfold maxLen; omega) (by omega) (by simp; omega) (wr.heap.size + 1) (by simp) ?_; intro gg cap w1 hown1 hgrow hat hlt1))
      have hb3 : Below w.heap.size w w1 := ((hbk.alloc hbk.size _).drew).grown hgrow (by simp; omega) (fun j e => (hok.lt j e).1)
      clear hgrow hat hok hbk q0 q1 q2
      go_wp2
      go_roundw
      case rel => exact ⟨k + 1, by omega, by go_num, by rw [HT.out, trips_append]; exact hown1, hb3⟩
      case measure => simp [intOf]; omega
    · obtain rfl : k = its.length := by omega
      rw [List.take_length] at hok
      have hP := policies_any its wr.heap.size va vc (wr.alloc (.cells #[.slice va its.length vc] 38)) (by omega) (by rw [cell_blk (heap_alloc_new wr _) 0]; rfl) (lies_row (hok.alloc _))
      have hbw : Below w.heap.size w (wr.alloc (.cells #[.slice va its.length vc] 38)) := hbk.alloc hbk.size _
      have hbs := hbk.size
      have hsum := pols_sets its
      have hneq := fun (w : World) (a : Option Addr) (n c : Nat) => run_neq_slice_nil_any (P := Yba.prog) w 39 43 a n c 0 0 Yba.underlying39
      rw [World.size_alloc] at hP
      have HSum : Hid ((pols its).length + (sets its).length = its.length) := hsum
      have hplen : (pols its).length ≤ 1024 := by omega
      have hslen : (sets its).length ≤ 1024 := by omega
      have hne : (((pols its).length : Int) + ((sets its).length : Int) != (its.length : Int)) = false := by simp; omega
      clear hsum hok hbk
      go_wp2_with (go_at_call 6; refine hP.mono ?_; rintro e wd ⟨rfl, ⟨pv, sv, hd⟩, hbd⟩
                   obtain ⟨ppa, ppc, rfl⟩ := row_slice hd.rp
                   obtain ⟨spa, spc, rfl⟩ := row_slice hd.rs
                   have d0 := cell_blk hd.blk 0
                   have d1 := cell_blk hd.blk 1
                   simp at d0 d1
                   have hbd2 := hbw.trans (hbd.mono (by omega))
                   clear hP hbw hbd)
      go_quiet (fail)
      go_wp2
      have hDlt := Nat.lt_of_lt_of_le hd.db hd.size
      have HD : Hid (Doc (wr.heap.size + 1) (wr.heap.size + 1 + 1) wd (pols its) (sets its) (.slice ppa (pols its).length ppc) (.slice spa (sets its).length spc)) := hd
      clear hd
      go_loopw [8, 9, 10] (fun i j kk wx => ∃ k : Nat, k ≤ its.length ∧ i = .int .i64 (pols (its.take k)).length ∧ j = .int .i64 (sets (its.take k)).length ∧ kk = .int .i64 k ∧ Below wd.heap.size wd wx)
        (fun _ _ kk _ => its.length - (intOf kk).toNat)
      case atStart => exact ⟨0, Nat.zero_le _, rfl, rfl, rfl, below_drewN (Below.refl _ _) _⟩
      case round =>
        obtain ⟨k, hk, rfl, rfl, rfl, hw⟩ := hrel
        have d0' := (hw.cell (p := ⟨_, 0, none⟩) hDlt).trans d0
        have d1' := (hw.cell (p := ⟨_, 1, none⟩) hDlt).trans d1
        have hDw := Nat.lt_of_lt_of_le hDlt hw.size
        clear d0 d1
        by_cases hlt : k < its.length
        · obtain ⟨g, o, rfl, hg, hcs⟩ := hL (by omega)
          obtain ⟨x, hx⟩ : ∃ x, its[k]? = some x := ⟨_, List.getElem?_eq_getElem hlt⟩
          obtain ⟨c0, c1, c2⟩ := hcs k x hx
          have hgd : g < wd.heap.size := Nat.lt_of_lt_of_le hg hbd2.size
          have q0 := (hw.cell (p := ⟨g, o + k * 3, none⟩) hgd).trans ((hbd2.cell (p := ⟨g, o + k * 3, none⟩) hg).trans c0)
          have q1 := (hw.cell (p := ⟨g, o + k * 3 + 1, none⟩) hgd).trans ((hbd2.cell (p := ⟨g, o + k * 3 + 1, none⟩) hg).trans c1)
          have q2 := (hw.cell (p := ⟨g, o + k * 3 + 2, none⟩) hgd).trans ((hbd2.cell (p := ⟨g, o + k * 3 + 2, none⟩) hg).trans c2)
          have hpk := pols_le (its.take k)
          have hsk := sets_le (its.take k)
          simp only [List.length_take] at hpk hsk
          have hd := HD.out
          obtain ⟨bx, id, ver⟩ := x
          simp only at q0 q1 q2
          clear c0 c1 c2 hcs hL hneq
          cases bx
          · have hx2 := pols_at hx rfl
            obtain ⟨gp, rfl, hgp, r0, r1⟩ := ref_cells hd.rp hx2
            have hil : (pols (its.take k)).length < (pols its).length := (List.getElem?_eq_some_iff.1 hx2).1
            have s0 := (hw.cell (p := ⟨gp, (pols (its.take k)).length * 2, none⟩) hgp).trans r0
            have s1 := (hw.cell (p := ⟨gp, (pols (its.take k)).length * 2 + 1, none⟩) hgp).trans r1
            have hps : (pols (its.take (k + 1))).length = (pols (its.take k)).length + 1 := by rw [pols_step hx]; simp
            have hss : (sets (its.take (k + 1))).length = (sets (its.take k)).length := by rw [sets_step hx]; simp
            have hgw := Nat.lt_of_lt_of_le hgp hw.size
            simp only at s0 s1
            generalize (pols (its.take k)).length = i at *
            generalize (sets (its.take k)).length = j at *
            have HP : Hid ((pols (its.take (k + 1))).length = i + 1) := hps
            have HS : Hid ((sets (its.take (k + 1))).length = j) := hss
            clear hps hss r0 r1 hx2 hx
            go_wp2
            go_roundw
            case rel => exact ⟨k + 1, by omega, by rw [HP.out]; go_num, by rw [HS.out], by go_num, (hw.alloc hw.size _).alloc (by simp; have := hw.size; omega) _⟩
            case measure => simp [intOf]; omega
          · have hx2 := sets_at hx rfl
            obtain ⟨gp, rfl, hgp, r0, r1⟩ := ref_cells hd.rs hx2
            have hil : (sets (its.take k)).length < (sets its).length := (List.getElem?_eq_some_iff.1 hx2).1
            have s0 := (hw.cell (p := ⟨gp, (sets (its.take k)).length * 2, none⟩) hgp).trans r0
            have s1 := (hw.cell (p := ⟨gp, (sets (its.take k)).length * 2 + 1, none⟩) hgp).trans r1
            have hps : (pols (its.take (k + 1))).length = (pols (its.take k)).length := by rw [pols_step hx]; simp
            have hss : (sets (its.take (k + 1))).length = (sets (its.take k)).length + 1 := by rw [sets_step hx]; simp
            have hgw := Nat.lt_of_lt_of_le hgp hw.size
            simp only at s0 s1
            generalize (pols (its.take k)).length = i at *
            generalize (sets (its.take k)).length = j at *
            have HP : Hid ((pols (its.take (k + 1))).length = i) := hps
            have HS : Hid ((sets (its.take (k + 1))).length = j + 1) := hss
            clear hps hss r0 r1 hx2 hx
            go_wp2
            go_roundw
            case rel => exact ⟨k + 1, by omega, by rw [HP.out], by rw [HS.out]; go_num, by go_num, (hw.alloc hw.size _).alloc (by simp; have := hw.size; omega) _⟩
            case measure => simp [intOf]; omega
        · obtain rfl : k = its.length := by omega
          have hfin := hbd2.trans (hw.mono hbd2.size)
          have hnp := HD.out.np
          have hns := HD.out.ns
          have hsp : ∀ (l : List It) (a : Option Addr) (n c : Nat), (Value.slice a n c = .slice none 0 0 ↔ l = []) → l = [] → a = none := by
            intro l a n c h e
            have := h.2 e
            simp at this
            exact this.1
          clear hw hL hbd2 hDw
          by_cases hP0 : pols its = []
          · obtain rfl : ppa = none := hsp _ _ _ _ hnp hP0
            by_cases hS0 : sets its = []
            · obtain rfl : spa = none := hsp _ _ _ _ hns hS0
              clear hnp hns hsp
              go_wp2
              go_ret
              exact ⟨rfl, hfin⟩
            · have hs1 : (((sets its).length : Int) == 0) = false := by
                have : (sets its).length ≠ 0 := fun e => hS0 (List.eq_nil_of_length_eq_zero e)
                simp; omega
              clear hnp hns hsp hS0
              go_wp2
              go_ret
              exact ⟨rfl, hfin⟩
          · have hp1 : (((pols its).length : Int) == 0) = false := by
              have : (pols its).length ≠ 0 := fun e => hP0 (List.eq_nil_of_length_eq_zero e)
              simp; omega
            by_cases hS0 : sets its = []
            · obtain rfl : spa = none := hsp _ _ _ _ hns hS0
              clear hnp hns hsp hP0
              go_wp2
              go_ret
              exact ⟨rfl, hfin⟩
            · have hs1 : (((sets its).length : Int) == 0) = false := by
                have : (sets its).length ≠ 0 := fun e => hS0 (List.eq_nil_of_length_eq_zero e)
                simp; omega
              clear hnp hns hsp hP0 hS0
              go_wp2
              go_ret
              exact ⟨rfl, hfin⟩

end Go.Proofs.Ybulksok.Split
