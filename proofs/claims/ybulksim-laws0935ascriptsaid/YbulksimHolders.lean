/- lock.Entry[int]: holders, slices.Collect, Holders, and the law's own comparison: their contracts. After the kit's worked texts on ranges over functions, turned to this program by an AI agent. -/
import Derived.Test.YbulksimProg
import Derived.RangeFuncBox
import Derived.RangeFuncLeaves
import Derived.Shelf.Abstract
import Derived.WalkKit
import Derived.OwnWalkIn
import Derived.TacticsInMore
import Derived.LoopNIn
import Derived.LoopIn
import Derived.Maps.AppendAt
namespace Go.Proofs.Ybulksim.Hold
open Go.RowKit Go.Shelf

attribute [local go_sem] Oper.semAt_some

/-- THE SLICE VALUE sv HOLDS THE ints zs, in a block below n₀; or it is nil and there are none. -/
def Ints (n₀ : Nat) (W : World) (sv : Value) (zs : List Int) : Prop :=
  (sv = .slice none 0 0 ∧ zs = []) ∨ ∃ b off cap, sv = .slice (some ⟨b, off, none⟩) zs.length cap ∧ b < n₀ ∧ ∀ j, j < zs.length → W.cell? ⟨b, off + j, none⟩ = some (.int .i64 (zs[j]?.getD 0))
theorem Ints.below {n₀ : Nat} {A B : World} (h : Below n₀ A B) {sv : Value} {zs : List Int} : Ints n₀ A sv zs → Ints n₀ B sv zs
  | .inl e => .inl e
  | .inr ⟨b, off, cap, e, hb, hc⟩ => .inr ⟨b, off, cap, e, hb, fun j hj => (h.cell (p := ⟨b, off + j, none⟩) hb).trans (hc j hj)⟩

/-- The entry in block E, below n₀: held, with first holder x and the others' slice sv, which holds zs. -/
structure Held (n₀ : Nat) (W : World) (E : Nat) (m x : Int) (sv : Value) (zs : List Int) : Prop where
  lt : E < n₀
  mode : W.cell? ⟨E, 0, none⟩ = some (.int .u8 m)
  held : W.cell? ⟨E, 1, none⟩ = some (.bool true)
  first : W.cell? ⟨E, 2, none⟩ = some (.int .i64 x)
  others : W.cell? ⟨E, 3, none⟩ = some sv
  ints : Ints n₀ W sv zs
theorem Held.below {n₀ : Nat} {A B : World} {E : Nat} {m x : Int} {sv : Value} {zs : List Int} (h : Below n₀ A B) (k : Held n₀ A E m x sv zs) : Held n₀ B E m x sv zs :=
  ⟨k.lt, (h.cell (p := ⟨E, 0, none⟩) k.lt).trans k.mode, (h.cell (p := ⟨E, 1, none⟩) k.lt).trans k.held, (h.cell (p := ⟨E, 2, none⟩) k.lt).trans k.first, (h.cell (p := ⟨E, 3, none⟩) k.lt).trans k.others, k.ints.below h⟩

theorem take_next (zs : List Int) (k : Nat) (h : k < zs.length) : zs.take (k + 1) = zs.take k ++ [zs[k]?.getD 0] := by
  rw [List.take_succ_eq_append_getElem h, List.getElem?_eq_getElem h]; rfl

set_option maxRecDepth 100000 in
set_option maxHeartbeats 2000000 in
/-- holders' closure, at an entry that is held. -/
theorem holders1_in (F : Fence) (n : Nat) (h20 : F.fn 20) (hro : F.round = none) (hn : 1 ≤ n) (l Bn n₀ E : Nat) (m x : Int) (sv : Value) (zs : List Int) (hreach : zs.length * 8 ≤ 140737488351232) (J Jx : List Int → World → Prop)
    (hY : ∀ pre y W, J pre W → pre.length < zs.length + 1 → YieldAt F (n - 1) Yba.prog l #[.int .i64 y] W fun e W' =>
      (e = .returned (.bool true) ∧ J (pre ++ [y]) W' ∧ Below n₀ W W') ∨ (e = .returned (.bool false) ∧ Jx (pre ++ [y]) W'))
    (W : World) (hBlt : Bn < n₀) (hBn : W.cell? ⟨Bn, 0, none⟩ = some (.pointer (some ⟨E, 0, none⟩))) (hE : Held n₀ W E m x sv zs) (h0 : J [] W) :
    CallsIn F n Yba.prog 20 #[.func (.yield l) #[] #[], .pointer (some ⟨Bn, 0, none⟩)] W fun e W' => (∃ v, e = .returned v) ∧
      ((∃ ys, ys = x :: zs ∧ J ys W') ∨ (∃ pre, pre <+: x :: zs ∧ Jx pre W')) := by
  have c1 := hE.held
  have c2 := hE.first
  obtain ⟨fn, tmps, assign, body, hy, hR⟩ := hY [] x W h0 (by simp)
  refine callsIn_of_wp Yba.func20 rfl h20 ?_ hro
  simp only [Yba.ntmps20, List.size_toArray, List.length_cons, List.length_nil, Nat.reduceAdd, Nat.reduceSub, Array.replicate_succ, Array.replicate_zero, List.push_toArray, List.append_toArray, List.nil_append, List.cons_append]
  gi_wp2
  refine hR.mono ?_
  clear hR hy
  rintro e W3 (⟨rfl, hJ3, hk3⟩ | ⟨rfl, hJx3⟩)
  · have hE3 := hE.below hk3
    have cB : W3.cell? ⟨Bn, 0, none⟩ = some (.pointer (some ⟨E, 0, none⟩)) := (hk3.cell (p := ⟨Bn, 0, none⟩) hBlt).trans hBn
    have c3 := hE3.others
    clear c1 c2 hBn
    rcases hE3.ints with ⟨rfl, rfl⟩ | ⟨b, off, cap, rfl, hb, hcs⟩
    · gi_wp2
      gi_loopw [24] (fun i wr => i = .int .i64 0 ∧ J [x] wr) (fun _ _ => 0)
      case atStart => exact ⟨rfl, hJ3⟩
      case round =>
        obtain ⟨rfl, hJs⟩ := hrel
        gi_wp2
        go_end0
        exact ⟨⟨_, rfl⟩, .inl ⟨_, rfl, hJs⟩⟩
    · gi_wp2
      gi_loopw [24] (fun i wr => ∃ k : Nat, k ≤ zs.length ∧ i = .int .i64 k ∧ J (x :: zs.take k) wr ∧ Below n₀ W3 wr)
        (fun i _ => zs.length - (intOf i).toNat)
      case atStart => exact ⟨0, Nat.zero_le _, rfl, by simpa using hJ3, Below.refl _ _⟩
      case round =>
        obtain ⟨k, hk, rfl, hJs, hnx⟩ := hrel
        by_cases hlt : k < zs.length
        · have hcx : wr.cell? ⟨b, off + k, none⟩ = some (.int .i64 (zs[k]?.getD 0)) := (hnx.cell (p := ⟨b, off + k, none⟩) hb).trans (hcs k hlt)
          have hte := take_next zs k hlt
          generalize zs[k]?.getD 0 = y at hcx hte
          obtain ⟨fn, tmps, assign, body, hy, hR⟩ := hY _ y wr hJs (by simp; omega)
          have HT : Hid (zs.take (k + 1) = zs.take k ++ [y]) := hte
          clear hte hcs hY
          gi_wp2
          refine hR.mono ?_
          rintro e W4 (⟨rfl, hJ4, hk4⟩ | ⟨rfl, hJx4⟩)
          · gi_wp2
            go_roundw
            case rel => exact ⟨k + 1, by omega, by go_num, by rw [HT.out]; exact hJ4, hnx.trans hk4⟩
            case measure => simp [intOf]; omega
          · gi_wp2
            refine bodyPost_ret (results_none rfl _ _ _) rfl ?_
            exact ⟨⟨_, rfl⟩, .inr ⟨x :: zs.take (k + 1), by simpa using List.take_prefix _ _, by rw [HT.out]; exact hJx4⟩⟩
        · obtain rfl : k = zs.length := by omega
          gi_wp2
          go_end0
          exact ⟨⟨_, rfl⟩, .inl ⟨_, by simp, hJs⟩⟩
  · gi_wp2
    refine bodyPost_ret (results_none rfl _ _ _) rfl ?_
    exact ⟨⟨_, rfl⟩, .inr ⟨[x], by simp, by simpa using hJx3⟩⟩

/-- holders() of a held entry hands back a value that goes through the holders, in their order. -/
theorem holders_stops (F : Fence) (n : Nat) (h20 : F.fn 20) (hro : F.round = none) (hn : 1 ≤ n) (Bn n₀ E : Nat) (m x : Int) (sv : Value) (zs : List Int) (hreach : zs.length * 8 ≤ 140737488351232) (w : World) (hBlt : Bn < n₀) (hn₀ : n₀ ≤ w.heap.size)
    (hc : w.cell? ⟨Bn, 0, none⟩ = some (.pointer (some ⟨E, 0, none⟩))) (hE : Held n₀ w E m x sv zs) :
    SeqStopsK F n Yba.prog 20 #[.pointer (some ⟨Bn, 0, none⟩)] (fun y : Int => #[Value.int .i64 y]) (Below n₀) (fun ys => ys = x :: zs) (fun pre => pre <+: x :: zs) (zs.length + 1) w := fun l J Jx W hW _ _ hY h0 =>
  holders1_in F n h20 hro hn l Bn n₀ E m x sv zs hreach J Jx hY W hBlt (((hW.mono hn₀).cell (p := ⟨Bn, 0, none⟩) hBlt).trans hc) (hE.below (hW.mono hn₀)) h0

theorem info3 : (Yba.prog.info? 3).map (fun i => (i.zero, i.size, i.bytes)) = some (some (.int .i64 0), 1, 8) := by kernel_rfl

set_option maxRecDepth 100000 in
set_option maxHeartbeats 2000000 in
/-- slices.AppendSeq(nil, e.holders()): a new slice of the holders, in their order. -/
theorem appendSeq_in (F : Fence) (n : Nat) (h19 : F.fn 19) (h20 : F.fn 20) (hro : F.round = none) (hn : 3 ≤ n) (Bn E : Nat) (m x : Int) (sv : Value) (zs : List Int) (hlen : zs.length + 1 ≤ maxLen) (hbytes : (zs.length + 1) * 8 ≤ 140737488351232)
    (w : World) (hBlt : Bn < w.heap.size) (hc : w.cell? ⟨Bn, 0, none⟩ = some (.pointer (some ⟨E, 0, none⟩))) (hE : Held w.heap.size w E m x sv zs) :
    CallsIn F n Yba.prog 19 #[.slice none 0 0, .func (.func 20) #[] #[.pointer (some ⟨Bn, 0, none⟩)]] w fun e W' =>
      ∃ v, e = .returned v ∧ W'.ownsRow w.heap.size 3 1 v (zs.length + 1) ((x :: zs).map (Value.int .i64)) ∧ Below w.heap.size w W' := by
  have h1 : 1 ≤ n := by omega
  obtain ⟨i0, hi, hz0, hz1, hz2⟩ := info_parts info3
  refine callsIn_of_wp_marks Yba.func19 rfl h19 ?_ hro
  simp only [Yba.ntmps19, List.size_toArray, List.length_cons, List.length_nil, Nat.reduceAdd, Nat.reduceSub, Array.replicate_succ, Array.replicate_zero, List.push_toArray, List.append_toArray, List.nil_append, List.cons_append]
  gi_wp2
  have bO := Boxed.new w 22 (.slice none 0 0)
  have hB0 : Below w.heap.size w (w.alloc (.cells #[.slice none 0 0] 22)) := (Below.refl _ w).alloc (Nat.le_refl _) _
  refine wpIn_rangeFunc_ownG hro h1 (gf := 20) (lb := #[.pointer (some ⟨Bn, 0, none⟩)]) rfl h20 (enters_of Yba.func20 (by kernel_rfl) rfl)
    (holders_stops F (n - 1) h20 hro (by omega) Bn w.heap.size E m x sv zs (by omega) _ hBlt (by simp) ((hB0.cell (p := ⟨Bn, 0, none⟩) hBlt).trans hc) (hE.below hB0)) belowK_t (belowK_b (by simp)) (Below.refl _ _) (fun _ => rfl)
    (fun pre W => (∃ v, Boxed W w.heap.size 22 v ∧ W.ownsRow w.heap.size 3 1 v pre.length (pre.map (Value.int .i64)) ∧ True) ∧ Below w.heap.size w W)
    (fun _ _ _ => False)
    (OwnFrom.and (Own.from (holdsRow_own w.heap.size w.heap.size 22 3 1 (fun pre : List Int => pre.length) (fun pre => pre.map (Value.int .i64)) (fun _ _ => True)) _) (ownFrom_below (Nat.le_refl _) (by simp)))
    (fun _ _ _ _ _ hs _ _ => hs)
    ⟨⟨_, bO, World.ownsRow_nil _ _ _ _, trivial⟩, hB0⟩
    (fun y => { tmps := #[.slice none 0 0, .func (.func 20) #[] #[.pointer (some ⟨Bn, 0, none⟩)], .pointer (some ⟨w.heap.size, 0, none⟩), undef, .slice none 0 0, .int .i64 y, .func (.func 20) #[] #[.pointer (some ⟨Bn, 0, none⟩)], .int .i64 y, undef, undef, undef, undef, undef], defers := [] }) ?assign ?body ?done ?stop
  case assign =>
    intro l y W K hK
    gi_wp2
    exact hK
  case body =>
    rintro l pre y W ⟨⟨v, hv, hrow, _⟩, hB⟩ hlt
    have hcv := hv.cell
    gi_wp2_with (gi_at_builtin; refine wpListIn_append_own _ rfl _ _ 22 rfl w.heap.size 3 i0 (.int .i64 0) 1 8 Yba.underlying22 hi hz0 hz1 hz2 rfl (by decide) _ _ _ rfl (hrow.alloc _) ⟨W.heap.size, 0, none⟩ 1 1 [.int .i64 y] rfl rfl (cell_one_new _ _ _) (by simp [Value.oneCell']) (by omega) (by omega) (by have := hB.size; simp; omega) ?_; intro v' w1 hown' hgrow _; obtain ⟨g', cap', rfl⟩ := ownsRow_succ hown'; obtain ⟨hv1, hv2, hr2, hk2, hb2⟩ := hv.appended (by decide) hrow hB.size (Nat.le_refl _) hown' hgrow; have hc1 := hv1.cell; have hf1 := hv1.frozen)
    exact ⟨hk2.from _, hb2, ⟨_, hv2, by simpa using hr2, trivial⟩, hB.trans hb2⟩
  case done =>
    rintro D ys W hD rfl ⟨⟨v, hv, hrow, _⟩, hB⟩ hK
    have hcv := hv.cell
    gi_wp2
    refine ⟨by simp, .inl ⟨_, _, rfl, run_takeDeferred hK, ?_⟩⟩
    exact ⟨_, results_tmp rfl _ _ _, v, rfl, ownsRow_putObj (by simpa using hrow) _ hK rfl, hB.trans (belowK_b (w := w) (Nat.le_refl _) W D _ _ (by simp at hD; omega) hK rfl rfl)⟩
  case stop =>
    rintro D c pre W _ _ h _
    exact h.elim

end Go.Proofs.Ybulksim.Hold
