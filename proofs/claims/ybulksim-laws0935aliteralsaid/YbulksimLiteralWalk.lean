/- The walk of lock.LawS0935ALiteral. By an AI agent. -/
import Derived.Test.YbulksimHolders2
import Derived.OpenShut
import Derived.Laws.CopyOwn
import Derived.Deep.DeepCutAuto
import Derived.Lib.SliceRun
namespace Go.Proofs.Ybulksim.lawS0935ALiteral
open Go.RowKit Go.Shelf Go.Proofs.Ybulksim.Hold
set_option linter.unusedVariables false

/-- WHAT THE WALK IS TOLD OF A SLICE OF INTEGERS THAT CAME IN: it is nil; or it leads to a row of 'cap' cells, the numbers 'zs' (the first 'len' are its elements, the rest its spare room), each fitting its kind. -/
def IsRow (k : IntKind) (w : World) (a : Option Addr) (len cap : Nat) (zs : List Int) : Prop :=
  (a = none ∧ len = 0 ∧ cap = 0 ∧ zs = []) ∨
  ∃ x, a = some x ∧ len ≤ cap ∧ cap ≤ maxLen ∧ zs.length = cap ∧ (∀ i, i < zs.length → w.cell? (x.add i) = some (.int k (zs.getD i 0))) ∧ ∀ n ∈ zs, (Lit.int k n).wf = true

theorem size3 : (Yba.prog.info? 3).map (·.size) = some 1 := by kernel_rfl

/-- the elements, and where they lie -/
theorem rows {w : World} {a : Option Addr} {len cap : Nat} {z : List Int} (h : IsRow .i64 w a len cap z) :
    ∃ zs : List Int, zs.length = len ∧ (a = none → len = 0) ∧ (0 < len → ∃ b off, a = some ⟨b, off, none⟩ ∧ b < w.heap.size ∧ ∀ j, j < len → w.cell? ⟨b, off + j, none⟩ = some (.int .i64 (zs[j]?.getD 0))) := by
  rcases h with ⟨rfl, rfl, rfl, rfl⟩ | ⟨x, rfl, hl, hm, hz, hc, hw⟩
  · exact ⟨[], rfl, fun _ => rfl, fun h => by omega⟩
  · refine ⟨z.take len, by simp; omega, fun h => (by cases h), fun h0 => ?_⟩
    obtain ⟨b, off, rfl, hc'⟩ := ints_at hc (by omega)
    refine ⟨b, off, rfl, ?_, fun j hj => ?_⟩
    · have := hc' 0 (by omega)
      exact block_lt_of_cell this
    · rw [hc' j (by omega)]
      simp [List.getD, hj]

theorem add_plain' (b off j : Nat) : (⟨b, off, none⟩ : Addr).add j = ⟨b, off + j, none⟩ := by unfold Addr.add; split <;> simp_all

theorem new_cell (w : World) (cs : Array Value) (t : TypeId) (k : Nat) (v : Value) (h : cs[k]? = some v) : (w.alloc (.cells cs t)).cell? ⟨w.heap.size, k, none⟩ = some v := by
  have := World.alloc_heap_new w (.cells cs t)
  unfold World.cell?
  simp only [this]
  exact h

/-- the entry that the law builds -/
theorem built (wc : World) (a1 a2 : Int) (sa : Option Addr) (sn sc : Nat) (zs : List Int) (hints : Ints wc.heap.size wc (.slice sa sn sc) zs) :
    Held (wc.alloc (.cells #[.int .u8 a1, .bool true, .int .i64 a2, .slice sa sn sc, .slice none 0 0] 27)).heap.size (wc.alloc (.cells #[.int .u8 a1, .bool true, .int .i64 a2, .slice sa sn sc, .slice none 0 0] 27)) wc.heap.size a1 a2 (.slice sa sn sc) zs := by
  refine ⟨by simp, new_cell _ _ _ _ _ rfl, new_cell _ _ _ _ _ rfl, new_cell _ _ _ _ _ rfl, new_cell _ _ _ _ _ rfl, ?_⟩
  have h := hints.below ((Below.refl wc.heap.size wc).alloc (Nat.le_refl _) (.cells #[.int .u8 a1, .bool true, .int .i64 a2, .slice sa sn sc, .slice none 0 0] 27))
  rcases h with h | ⟨b, off, cap, e, hb', hc'⟩
  · exact .inl h
  · exact .inr ⟨b, off, cap, e, by simp; omega, hc'⟩

theorem row_of {wm : World} {base g n : Nat} {xs : List Value} (h : wm.ownsRow base 3 1 (.slice (some ⟨g, 0, none⟩) n n) n xs) : ∃ cur : List Value, wm.heap[g]? = some (.cells cur.toArray 3 (0, 0)) ∧ cur.length = n := by
  rcases h.2 with ⟨h0, _⟩ | ⟨g', cap, cur, hv, hb, hg, _, _, hs, _⟩
  · simp at h0
  · simp at hv
    obtain ⟨rfl, rfl⟩ := hv
    exact ⟨cur.toList, by simpa using hg, by simpa using hs⟩

/-- what copy reads, behind the make -/
theorem copy_src {w wm : World} {x : Addr} {zs : List Int} {len g : Nat} (hzs : zs.length = len) (hb : Below w.heap.size w wm)
    (hcells : 0 < len → ∃ b off, some x = some (⟨b, off, none⟩ : Addr) ∧ b < w.heap.size ∧ ∀ j, j < len → w.cell? ⟨b, off + j, none⟩ = some (.int .i64 (zs[j]?.getD 0))) :
    0 < (zs.map (Value.int .i64)).length → some (⟨g, 0, none⟩ : Addr) = some ⟨g, 0, none⟩ ∧ ∃ ad, some x = some ad ∧ ∀ j v, (zs.map (Value.int .i64))[j]? = some v → wm.cell? (ad.add j) = some v := by
  intro h0
  obtain ⟨b, off, hx, hlt, hc⟩ := hcells (by simpa [hzs] using h0)
  refine ⟨rfl, _, hx, fun j v hj => ?_⟩
  have hjl : j < zs.length := by
    rcases Nat.lt_or_ge j zs.length with h | h
    · exact h
    · simp [List.getElem?_eq_none (show (zs.map (Value.int .i64)).length ≤ j by simpa using h)] at hj
  rw [add_plain', hb.cell (p := ⟨b, off + j, none⟩) hlt, hc j (by omega)]
  simp [List.getElem?_eq_getElem hjl] at hj
  subst hj
  simp [List.getElem?_eq_getElem hjl]

/-- the row behind the copy -/
theorem copied {wr : World} {zs : List Int} {cur : List Value} {g len : Nat} (hzs : zs.length = len) (hcur : cur.length = len)
    (h : wr.heap[g]? = some (.cells (splice cur 0 (zs.map (Value.int .i64))).toArray 3 (0, 0))) : Ints wr.heap.size wr (.slice (some ⟨g, 0, none⟩) len len) zs := by
  refine .inr ⟨g, 0, len, by rw [hzs], (Array.getElem?_eq_some_iff.1 h).1, fun j hj => ?_⟩
  have e : splice cur 0 (zs.map (Value.int .i64)) = zs.map (Value.int .i64) := by
    unfold splice
    rw [List.drop_eq_nil_of_le (by simp; omega)]
    simp
  rw [e] at h
  simp [World.cell?, h, List.getElem?_eq_getElem hj]

set_option maxRecDepth 100000 in
set_option maxHeartbeats 2000000 in
theorem walk (a0 : Bool) (a1 : Int) (a2 : Int) (a3 : Option Addr) (len3 cap3 : Nat) (z3 : List Int) (w : World) (w1 : (Lit.int .u8 a1).wf = true) (w2 : (Lit.int .i64 a2).wf = true) (w3 : IsRow .i64 w a3 len3 cap3 z3) :
    Calls Yba.prog 3 #[.bool a0, .int .u8 a1, .int .i64 a2, .slice a3 len3 cap3] w fun e w' => e = .returned (.bool true) ∧ Below w.heap.size w w' := by
  by_cases hbig : (1024 : Int) < (len3 : Int)
  · go_enter Yba.func3, Yba.ntmps3
    go_wp2
    go_ret
    exact ⟨rfl, Below.refl _ _⟩
  obtain ⟨zs, hzs, hnil, hcells⟩ := rows w3
  obtain ⟨i0, hi, hz0, hz1, hz2⟩ := info_parts info3
  clear w1 w2 w3
  have hneq := fun (w : World) (a : Option Addr) (n c : Nat) => run_neq_slice_nil_any (P := Yba.prog) w 22 3 a n c 0 0 Yba.underlying22
  have heql := fun (w : World) (a : Option Addr) (n c : Nat) => Lib.run_eql_slice_nil (P := Yba.prog) w 22 3 a n c 0 0 Yba.underlying22
  go_enter Yba.func3, Yba.ntmps3
  go_upto_if 19 with fail
  go_cut [9] (fun s wr => Ints wr.heap.size wr s zs ∧ Below w.heap.size w wr)
  case first =>
    cases a3 with
    | none =>
      obtain rfl : len3 = 0 := hnil rfl
      go_wp2
      go_meet
      case rel => exact ⟨.inl ⟨rfl, List.eq_nil_of_length_eq_zero hzs⟩, Below.refl _ _⟩
    | some x =>
      go_wp2_with (first
        | (at_make; refine wpList_make_full _ rfl (.tmp 21) (.tmp 21) 22 rfl w.heap.size 3 i0 (.int .i64 0) 1 Yba.underlying22 hi hz0 hz1 _ _ _ _ len3 rfl rfl rfl rfl (by rw [hz2]; omega) (by unfold maxLen; omega) (Nat.le_refl _) ?_; intro wm hown hgrow
           have hbm : Below w.heap.size w wm := (Below.refl _ _).grown hgrow (Nat.le_refl _) (fun k e => by cases e)
           obtain ⟨cur, hgb, hcs⟩ := row_of hown
           clear hown hgrow)
        | (refine wpList_copy_splice rfl (.tmp 23) (.tmp 24) 22 22 rfl 3 Yba.underlying22 size3 _ _ _ _ _ _ rfl rfl w.heap.size 0 cur 3 hgb (zs.map (Value.int .i64)) (by simp [hzs]) (copy_src hzs hbm hcells) (by simp; omega) (ints_oneCell _ _) w.heap.size w hbm (Nat.le_refl _) ?_; intro w2 HG hb2)
        | go_in)
      go_meet
      case rel => exact ⟨copied hzs hcs HG.out, hb2⟩
  case rest =>
    obtain ⟨hints, hbc⟩ := hcut
    obtain ⟨sa, sn, sc, rfl⟩ : ∃ a n c, u9 = .slice a n c := by
      rcases hints with ⟨rfl, _⟩ | ⟨b, off, cap, rfl, _⟩
      · exact ⟨_, _, _, rfl⟩
      · exact ⟨_, _, _, rfl⟩
    have hbe := fun x : Bool => hbc.alloc hbc.size (.cells #[.int .u8 a1, .bool x, .int .i64 a2, .slice sa sn sc, .slice none 0 0] 27)
    cases a0
    · have hH := Holders_no wc.heap.size (wc.alloc (.cells #[.int .u8 a1, .bool false, .int .i64 a2, .slice sa sn sc, .slice none 0 0] 27)) (new_cell _ _ _ _ _ rfl)
      have hb1 := hbe false
      clear hints hbe hcells hbc hneq
      go_wp2_with (go_at_call 8; refine hH.mono ?_; rintro e w' ⟨rfl, rfl⟩)
      go_ret
      exact ⟨rfl, hb1⟩
    · have hH := Holders_yes wc.heap.size a1 a2 (.slice sa sn sc) zs (by omega) _ (built wc a1 a2 sa sn sc zs hints)
      have hb1 := hbe true
      clear hints hbe hneq
      go_wp2_with (first
        | (go_at_call 8; refine hH.mono ?_; rintro e wh ⟨g, gc, rfl, hown, hbh⟩
           have hb2 := hb1.trans (hbh.mono (by have := hbc.size; simp; omega))
           clear hH hb1 hbh hbc)
        | (at_make; refine wpList_make_own _ rfl (.const (.int .i64 0)) (.tmp 54) 22 rfl wh.heap.size 3 i0 (.int .i64 0) 1 Yba.underlying22 hi hz0 hz1 _ _ _ (len3 + 1) rfl rfl (by omega) (by rw [hz2]; omega) (by unfold maxLen; omega) (Nat.le_refl _) ?_; intro wm hownm hgrowm
           have hbm : Below wh.heap.size wh wm := (Below.refl _ _).grown hgrowm (Nat.le_refl _) (fun k e => by cases e)
           clear hgrowm)
        | (at_builtin; refine wpList_append_fits _ rfl _ _ 22 rfl wh.heap.size 3 i0 1 Yba.underlying22 hi hz1 _ _ _ _ rfl (hownm.alloc _) ⟨wm.heap.size, 0, none⟩ 1 1 [.int .i64 a2] rfl rfl (cell_one_new _ _ _) (by simp [Value.oneCell']) (by omega) ?_; intro wa howna hgrowa
           have hba : Below wh.heap.size wh wa := (hbm.alloc hbm.size _).grown hgrowa (by have := hbm.size; simp; omega) (fun k e => by cases e; exact Nat.le_refl _)
           clear hgrowa hownm hbm)
        | go_in)
      obtain ⟨-, hg1, -, hgc⟩ := ints_of_own hown
      have howna' : wa.ownsRow wh.heap.size 3 1 (.slice (some ⟨wh.heap.size, 0, none⟩) 1 (len3 + 1)) 1 ([a2].map (Value.int .i64)) := by simpa using howna
      clear hown howna heql
      go_loopw [13, 14] (fun s i wr => ∃ k : Nat, k ≤ len3 ∧ i = .int .i64 k ∧ s = .slice (some ⟨wh.heap.size, 0, none⟩) (k + 1) (len3 + 1) ∧
          wr.ownsRow wh.heap.size 3 1 (.slice (some ⟨wh.heap.size, 0, none⟩) (k + 1) (len3 + 1)) (k + 1) ((a2 :: zs.take k).map (Value.int .i64)) ∧ Below wh.heap.size wh wr)
        (fun _ i _ => len3 - (intOf i).toNat)
      case atStart => exact ⟨0, Nat.zero_le _, rfl, rfl, by simpa using howna', hba⟩
      case round =>
        obtain ⟨k, hk, rfl, rfl, hok, hbk⟩ := hrel
        clear hba howna'
        by_cases hlt : k < len3
        · obtain ⟨b, off, rfl, hbl, hc⟩ := hcells (by omega)
          have hsz := hb2.size
          have hck : wr.cell? ⟨b, off + k, none⟩ = some (.int .i64 (zs[k]?.getD 0)) := (hbk.cell (p := ⟨b, off + k, none⟩) (by show b < _; omega)).trans ((hb2.cell (p := ⟨b, off + k, none⟩) hbl).trans (hc k hlt))
          have hte := take_next zs k (by omega)
          generalize zs[k]?.getD 0 = y at hck hte
          have HT : Hid (zs.take (k + 1) = zs.take k ++ [y]) := hte
          clear hte hc hcells hsz hgc
          go_wp2_with (first
            | (at_builtin; refine wpList_append_fits _ rfl _ _ 22 rfl wh.heap.size 3 i0 1 Yba.underlying22 hi hz1 _ _ _ _ rfl (hok.alloc _) ⟨wr.heap.size, 0, none⟩ 1 1 [.int .i64 y] rfl rfl (cell_one_new _ _ _) (by simp [Value.oneCell']) (by omega) ?_; intro wa2 howna2 hgrowa2
               have hba2 : Below wh.heap.size wh wa2 := (hbk.alloc hbk.size _).grown hgrowa2 (by have := hbk.size; simp; omega) (fun k e => by cases e; exact Nat.le_refl _)
               clear hgrowa2 hok hbk)
            | go_in)
          go_roundw
          case rel => exact ⟨k + 1, by omega, by go_num, rfl, by rw [HT.out]; simpa using howna2, hba2⟩
          case measure => simp [intOf]; omega
        · obtain rfl : k = len3 := by omega
          have h1 : Ints wr.heap.size wr (.slice (some ⟨g, 0, none⟩) (k + 1) gc) (a2 :: zs) := .inr ⟨g, 0, gc, by simp [hzs], by have := hbk.size; omega, fun j hj => (hbk.cell (p := ⟨g, 0 + j, none⟩) hg1).trans (hgc j hj)⟩
          have hok' : wr.ownsRow wh.heap.size 3 1 (.slice (some ⟨wh.heap.size, 0, none⟩) (k + 1) (k + 1)) (k + 1) ((a2 :: zs).map (Value.int .i64)) := by
            rw [List.take_of_length_le (by omega)] at hok; exact hok
          obtain ⟨-, hq1, -, hqc⟩ := ints_of_own hok'
          have h2 : Ints wr.heap.size wr (.slice (some ⟨wh.heap.size, 0, none⟩) (k + 1) (k + 1)) (a2 :: zs) := .inr ⟨wh.heap.size, 0, k + 1, by simp [hzs], hq1, hqc⟩
          have hE := eq_any wr.heap.size _ _ (a2 :: zs) wr (by simp; omega) h1 h2
          have hbf : Below w.heap.size w wr := hb2.trans (hbk.mono hb2.size)
          clear h1 h2 hok hok' hqc hgc hcells hbk hb2
          go_wp2_with (go_at_call 9; refine hE.mono ?_; rintro e w' ⟨rfl, nn, rfl⟩)
          go_ret
          exact ⟨rfl, below_drewN hbf _⟩

end Go.Proofs.Ybulksim.lawS0935ALiteral
