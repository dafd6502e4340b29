/- decisioncombiner.newPoliciesJSON: its contract. By an AI agent. -/
import Derived.Test.YbulksokProg
import Derived.Test.YbulksokDoc
import Derived.WalkSpells
import Derived.WalkLawsBesides
import Derived.WalkSmall
import Derived.Deep.RegionHeld3
import Derived.Deep.AppendLies
import Derived.Deep.RegionLaw
namespace Go.Proofs.Ybulksok.Split
open Go.RowKit Go.Proofs.Ybulksok.Keep

theorem info43 : (Yba.prog.info? 43).map (fun i => (i.zero, i.size, i.bytes)) = some (some (.agg #[.string ⟨#[]⟩, .string ⟨#[]⟩]), 2, 32) := by kernel_rfl

theorem policies_nil (w : World) : Calls Yba.prog 6 #[.pointer none] w fun e w' => e = .returned (.pointer none) ∧ w = w' := by
  go_enter Yba.func6, Yba.ntmps6
  go_wp2
  go_ret
  exact ⟨rfl, rfl⟩

theorem cell_blk {W : World} {E : Nat} {cs : Array Value} {t : TypeId} (h : W.heap[E]? = some (.cells cs t (0, 0))) (k : Nat) : W.cell? ⟨E, k, none⟩ = cs[k]? := by simp [World.cell?, h]
theorem free_blk {W : World} {E : Nat} {cs : Array Value} {t : TypeId} (h : W.heap[E]? = some (.cells cs t (0, 0))) (k : Nat) : W.frozen? ⟨E, k, none⟩ = false := by simp [World.frozen?, h]

theorem far_free {W w1 : World} {tmp : Obj} {row : Option Nat} {E : Nat} {cs : Array Value} {t : TypeId} (hgrow : (W.alloc tmp).drew.grownBy w1 row) (hb : W.heap[E]? = some (.cells cs t (0, 0))) (hne : row ≠ some E) (k : Nat) : w1.frozen? ⟨E, k, none⟩ = false := by
  have hk : Keeps (fun k => row = some k) W w1 := (((Keeps.refl _ W).alloc tmp).drew).grown hgrow (fun k e => .inl e)
  exact free_blk ((hk.block E (Array.getElem?_eq_some_iff.1 hb).1 hne).trans hb) k

theorem far_cell {W w1 : World} {tmp : Obj} {row : Option Nat} {E : Nat} {cs : Array Value} {t : TypeId} {v : Value} (hgrow : (W.alloc tmp).drew.grownBy w1 row) (hb : W.heap[E]? = some (.cells cs t (0, 0))) (hne : row ≠ some E) (k : Nat) (hv : cs[k]? = some v) : w1.cell? ⟨E, k, none⟩ = some v := by
  have hk : Keeps (fun k => row = some k) W w1 := (((Keeps.refl _ W).alloc tmp).drew).grown hgrow (fun k e => .inl e)
  rw [cell_blk ((hk.block E (Array.getElem?_eq_some_iff.1 hb).1 hne).trans hb) k]
  exact hv

/-- WHERE THE LIST OF IDENTIFIERS LIES: the slice (pa, n, pc) holds the items, three cells each. -/
def Lies (w : World) (pa : Option Addr) (its : List It) : Prop :=
  0 < its.length → ∃ g o, pa = some ⟨g, o, none⟩ ∧ g < w.heap.size ∧ ∀ j x, its[j]? = some x →
    w.cell? ⟨g, o + j * 3, none⟩ = some (.bool x.1) ∧ w.cell? ⟨g, o + j * 3 + 1, none⟩ = some (.string x.2.1) ∧ w.cell? ⟨g, o + j * 3 + 2, none⟩ = some (.string x.2.2)

set_option maxRecDepth 100000 in
set_option maxHeartbeats 4000000 in
theorem policies_any (its : List It) (Bp : Nat) (pa : Option Addr) (pc : Nat) (w : World) (hlen : its.length ≤ 1024) (hB : w.cell? ⟨Bp, 0, none⟩ = some (.slice pa its.length pc)) (hL : Lies w pa its) :
    Calls Yba.prog 6 #[.pointer (some ⟨Bp, 0, none⟩)] w fun e W' => e = .returned (.pointer (some ⟨w.heap.size, 0, none⟩)) ∧
      (∃ pv sv, Doc w.heap.size (w.heap.size + 1) W' (pols its) (sets its) pv sv) ∧ Below w.heap.size w W' := by
  obtain ⟨i0, hi, hz0, hz1, hz2⟩ := info_parts info43
  have hBlt : Bp < w.heap.size := block_lt_of_cell hB
  have hB1 : (w.alloc (.cells #[.slice none 0 0, .slice none 0 0] 41)).cell? ⟨Bp, 0, none⟩ = some (.slice pa its.length pc) := by
    rw [World.cell?_alloc_past _ _ _ hBlt]; exact hB
  go_enter Yba.func6, Yba.ntmps6
  go_wp2
  go_loopw [16] (fun i wr => ∃ (k : Nat) (pv sv : Value), k ≤ its.length ∧ i = .int .i64 k ∧ Doc w.heap.size (w.heap.size + 1) wr (pols (its.take k)) (sets (its.take k)) pv sv ∧ Below w.heap.size w wr)
    (fun i _ => its.length - (intOf i).toNat)
  case atStart => exact ⟨0, _, _, Nat.zero_le _, rfl, Doc.start w, (Below.refl _ w).alloc (Nat.le_refl _) _⟩
  case round =>
    obtain ⟨k, pv, sv, hk, rfl, hd, hb⟩ := hrel
    clear hB hB1
    by_cases hlt : k < its.length
    · obtain ⟨g, o, rfl, hg, hcs⟩ := hL (by omega)
      obtain ⟨x, hx⟩ : ∃ x, its[k]? = some x := ⟨_, List.getElem?_eq_getElem hlt⟩
      obtain ⟨c0, c1, c2⟩ := hcs k x hx
      have q0 := (hb.cell (p := ⟨g, o + k * 3, none⟩) hg).trans c0
      have q1 := (hb.cell (p := ⟨g, o + k * 3 + 1, none⟩) hg).trans c1
      have q2 := (hb.cell (p := ⟨g, o + k * 3 + 2, none⟩) hg).trans c2
      have hps := pols_step hx
      have hss := sets_step hx
      obtain ⟨bx, id, ver⟩ := x
      simp only at q0 q1 q2
      clear c0 c1 c2 hcs hL
      cases bx
      · go_wp2
        have hb2 := ((Below.refl wr.heap.size wr).alloc (Nat.le_refl _) (.cells #[.bool false, .string id, .string ver] 35)).alloc (by simp) (.cells #[.string id, .string ver] 43)
        have hd2 := hd.later hb2
        have hB2 := hb.trans (hb2.mono hb.size)
        have hs2 : ((wr.alloc (.cells #[.bool false, .string id, .string ver] 35)).alloc (.cells #[.string id, .string ver] 43)).heap.size = wr.heap.size + 2 := by simp
        have hR : ((wr.alloc (.cells #[.bool false, .string id, .string ver] 35)).alloc (.cells #[.string id, .string ver] 43)).heap[wr.heap.size + 1]? = some (.cells #[.string id, .string ver] 43 (0, 0)) := by
          have := heap_alloc_new (wr.alloc (.cells #[.bool false, .string id, .string ver] 35)) (.cells #[.string id, .string ver] 43)
          simpa using this
        generalize (wr.alloc (.cells #[.bool false, .string id, .string ver] 35)).alloc (.cells #[.string id, .string ver] 43) = W2 at *
        have r0 := cell_blk hR 0
        have r1 := cell_blk hR 1
        have d0 := cell_blk hd2.blk 0
        have f0 := free_blk hd2.blk 0
        simp at r0 r1 d0
        have lD : w.heap.size < W2.heap.size := Nat.lt_of_lt_of_le hd2.db hd2.size
        have ag : pv.ownBlock ≠ some w.heap.size := fun e => by have := (hd2.rp.lt _ e).1; omega
        have ar : pv.ownBlock ≠ some (wr.heap.size + 1) := fun e => by have := (hd.rp.lt _ e).2; omega
        have hPl : (pols (its.take k)).length ≤ 1024 := by have := pols_le (its.take k); simp at this; omega
        have hbase := hd2.size
        have lR : wr.heap.size + 1 < W2.heap.size := by omega
        clear q0 q1 q2 hR hb hb2 hd hs2
        have HD : Hid (Doc w.heap.size (w.heap.size + 1) W2 (pols (its.take k)) (sets (its.take k)) pv sv) := hd2
        have HP : Hid (pols (its.take (k + 1)) = _) := hps
        have HS : Hid (sets (its.take (k + 1)) = _) := hss
        have HX := hx
        clear hd2 hps hss hx HX
        go_region_law (refine step_append_lies _ (by rfl) _ _ _ (by rfl) (w.heap.size + 1) 43 i0 _ 2 32 Yba.underlying39 hi hz0 hz1 hz2 rfl (by omega) pv (pols (its.take k)).length (refs (pols (its.take k))) (by rfl) ((HD.out.rp.alloc _).drew) ⟨W2.heap.size, 0, none⟩ 1 1 [.string id, .string ver] (by rfl) (by rfl) (World.news_of_block (cs := #[.string id, .string ver]) (t := 43) (fr := (0, 0)) (heap_alloc_new W2 _)) (by simp [Value.oneCell']) (by omega) (by unfold maxLen; omega) (by omega) (by simp; omega) (W2.heap.size + 1) (by simp) ?_; intro gg cap w1 hown1 hgrow hat hlt1; have hfr := far_free hgrow HD.out.blk ag 0; have hcr := far_cell hgrow HD.out.blk ag 0 rfl)
        all_goals
          obtain ⟨hd3, hk3⟩ := HD.out.addP (x := (false, id, ver)) hgrow hown1 hat
          have hb3 : Below w.heap.size w (w1.setCell ⟨w.heap.size, 0, none⟩ (.slice (some ⟨gg, 0, none⟩) ((pols (its.take k)).length + 1) cap)) := hB2.trans (hk3.below (Nat.le_of_lt lD) (fun k hk hs => by rcases hs with h | h <;> omega))
          have hd4 : Doc w.heap.size (w.heap.size + 1) (w1.setCell ⟨w.heap.size, 0, none⟩ (.slice (some ⟨gg, 0, none⟩) ((pols (its.take k)).length + 1) cap)) (pols (its.take (k + 1))) (sets (its.take (k + 1))) (.slice (some ⟨gg, 0, none⟩) ((pols (its.take k)).length + 1) cap) sv := by
            rw [HP.out, HS.out]
            exact hd3
          have HD4 : Hid (Doc w.heap.size (w.heap.size + 1) (w1.setCell ⟨w.heap.size, 0, none⟩ (.slice (some ⟨gg, 0, none⟩) ((pols (its.take k)).length + 1) cap)) (pols (its.take (k + 1))) (sets (its.take (k + 1))) (.slice (some ⟨gg, 0, none⟩) ((pols (its.take k)).length + 1) cap) sv) := hd4
          clear hd3 hk3 hd4 hgrow hown1 hat
          go_wp2
          go_roundw
          case rel => exact ⟨k + 1, _, _, by omega, by go_num, HD4.out, hb3⟩
          case measure => simp [intOf]; omega
      · go_wp2
        have hb2 := ((Below.refl wr.heap.size wr).alloc (Nat.le_refl _) (.cells #[.bool true, .string id, .string ver] 35)).alloc (by simp) (.cells #[.string id, .string ver] 43)
        have hd2 := hd.later hb2
        have hB2 := hb.trans (hb2.mono hb.size)
        have hs2 : ((wr.alloc (.cells #[.bool true, .string id, .string ver] 35)).alloc (.cells #[.string id, .string ver] 43)).heap.size = wr.heap.size + 2 := by simp
        have hR : ((wr.alloc (.cells #[.bool true, .string id, .string ver] 35)).alloc (.cells #[.string id, .string ver] 43)).heap[wr.heap.size + 1]? = some (.cells #[.string id, .string ver] 43 (0, 0)) := by
          have := heap_alloc_new (wr.alloc (.cells #[.bool true, .string id, .string ver] 35)) (.cells #[.string id, .string ver] 43)
          simpa using this
        generalize (wr.alloc (.cells #[.bool true, .string id, .string ver] 35)).alloc (.cells #[.string id, .string ver] 43) = W2 at *
        have r0 := cell_blk hR 0
        have r1 := cell_blk hR 1
        have d0 := cell_blk hd2.blk 1
        have f0 := free_blk hd2.blk 1
        simp at r0 r1 d0
        have lD : w.heap.size < W2.heap.size := Nat.lt_of_lt_of_le hd2.db hd2.size
        have ag : sv.ownBlock ≠ some w.heap.size := fun e => by have := (hd2.rs.lt _ e).1; omega
        have ar : sv.ownBlock ≠ some (wr.heap.size + 1) := fun e => by have := (hd.rs.lt _ e).2; omega
        have hPl : (sets (its.take k)).length ≤ 1024 := by have := sets_le (its.take k); simp at this; omega
        have hbase := hd2.size
        have lR : wr.heap.size + 1 < W2.heap.size := by omega
        clear q0 q1 q2 hR hb hb2 hd hs2
        have HD : Hid (Doc w.heap.size (w.heap.size + 1) W2 (pols (its.take k)) (sets (its.take k)) pv sv) := hd2
        have HP : Hid (pols (its.take (k + 1)) = _) := hps
        have HS : Hid (sets (its.take (k + 1)) = _) := hss
        have HX := hx
        clear hd2 hps hss hx HX
        go_region_law (refine step_append_lies _ (by rfl) _ _ _ (by rfl) (w.heap.size + 1) 43 i0 _ 2 32 Yba.underlying39 hi hz0 hz1 hz2 rfl (by omega) sv (sets (its.take k)).length (refs (sets (its.take k))) (by rfl) ((HD.out.rs.alloc _).drew) ⟨W2.heap.size, 0, none⟩ 1 1 [.string id, .string ver] (by rfl) (by rfl) (World.news_of_block (cs := #[.string id, .string ver]) (t := 43) (fr := (0, 0)) (heap_alloc_new W2 _)) (by simp [Value.oneCell']) (by omega) (by unfold maxLen; omega) (by omega) (by simp; omega) (W2.heap.size + 1) (by simp) ?_; intro gg cap w1 hown1 hgrow hat hlt1; have hfr := far_free hgrow HD.out.blk ag 1; have hcr := far_cell hgrow HD.out.blk ag 1 rfl)
        all_goals
          obtain ⟨hd3, hk3⟩ := HD.out.addS (x := (true, id, ver)) hgrow hown1 hat
          have hb3 : Below w.heap.size w (w1.setCell ⟨w.heap.size, 1, none⟩ (.slice (some ⟨gg, 0, none⟩) ((sets (its.take k)).length + 1) cap)) := hB2.trans (hk3.below (Nat.le_of_lt lD) (fun k hk hs => by rcases hs with h | h <;> omega))
          have hd4 : Doc w.heap.size (w.heap.size + 1) (w1.setCell ⟨w.heap.size, 1, none⟩ (.slice (some ⟨gg, 0, none⟩) ((sets (its.take k)).length + 1) cap)) (pols (its.take (k + 1))) (sets (its.take (k + 1))) pv (.slice (some ⟨gg, 0, none⟩) ((sets (its.take k)).length + 1) cap) := by
            rw [HP.out, HS.out]
            exact hd3
          have HD4 : Hid (Doc w.heap.size (w.heap.size + 1) (w1.setCell ⟨w.heap.size, 1, none⟩ (.slice (some ⟨gg, 0, none⟩) ((sets (its.take k)).length + 1) cap)) (pols (its.take (k + 1))) (sets (its.take (k + 1))) pv (.slice (some ⟨gg, 0, none⟩) ((sets (its.take k)).length + 1) cap)) := hd4
          clear hd3 hk3 hd4 hgrow hown1 hat
          go_wp2
          go_roundw
          case rel => exact ⟨k + 1, _, _, by omega, by go_num, HD4.out, hb3⟩
          case measure => simp [intOf]; omega
    · obtain rfl : k = its.length := by omega
      rw [List.take_length] at hd
      go_wp2
      go_ret
      exact ⟨rfl, ⟨pv, sv, hd⟩, hb⟩

end Go.Proofs.Ybulksok.Split
