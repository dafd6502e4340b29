/- The walk of swim.LawS0950BHoldGone. By an AI agent. -/
import Derived.Test.YbulksqoAfter
import Derived.LaidEqlPtr
namespace Go.Proofs.Ybulksqo.Hold
open Go.RowKit Go.Proofs.Ybulksqo.Keep

theorem info65 : (Yba.prog.info? 65).map (fun i => (i.zero, i.size, i.bytes)) = some (some (.pointer none), 1, 8) := by kernel_rfl

theorem parts (a : Int) (h : -2147483648 ≤ a ∧ a ≤ 2147483647) : ∃ n s : Int, 0 ≤ n ∧ n < 1000000000 ∧ (-20 < s ∧ s < 20) ∧ s * 1000000000 + n = 0 * 1000000000 + 0 + a :=
  ⟨a % 1000000000, a / 1000000000, by omega, by omega, by omega, by omega⟩

/-- '!=' of a pointer to a member with itself -/
theorem ptr_ne_self (a : Addr) (w : World) : (binOp .neq 65 (.pointer (some a)) (.pointer (some a))).run Yba.prog w = .ok (.bool false) w := by
  have hs : (Yba.prog.info? 73).isSome = true := by kernel_rfl
  obtain ⟨j, hj⟩ := Option.isSome_iff_exists.1 hs
  have h : ∀ d : Nat, (Op.equalIn (d + 1) 65 (.pointer (some a)) (.pointer (some a))).run Yba.prog w = .ok true w := fun d => by
    simp [Op.equalIn, run_underlying Yba.underlying65, sizeOf, typeInfo, hj, run_sameAddr_same]
  simp only [binOp]
  simp [Op.equal, Op.maxDepth, h 9999]

set_option maxRecDepth 100000 in
set_option maxHeartbeats 20000000 in
theorem walk (a0 a1 a2 a3 : Int) (a4 : ByteArray) (w : World) (w0 : -2147483648 ≤ a0 ∧ a0 ≤ 2147483647) (w1 : -2147483648 ≤ a1 ∧ a1 ≤ 2147483647) (w3 : 0 ≤ a3 ∧ a3 ≤ 255) :
    Calls Yba.prog 3 #[.int .i32 a0, .int .i32 a1, .int .i64 a2, .int .u8 a3, .string a4] w fun e w' => e = .returned (.bool true) ∧ Below w.heap.size w w' := by
  obtain ⟨na, sa, hna0, hna1, hsa, hea⟩ := parts a0 w0
  obtain ⟨nb, sb, hnb0, hnb1, hsb, heb⟩ := parts a1 w1
  obtain ⟨K, hK⟩ : ∃ K : Nat, a3 % 8 = (K : Int) := ⟨(a3 % 8).toNat, by omega⟩
  have hK8 : K < 8 := by omega
  obtain ⟨i0, hi, hz0, hz1, hz2⟩ := info_parts info65
  have hadd1 := fun W => add_any 0 0 a0 na sa none W (by omega) (by omega) (by omega) (by omega) hna0 hna1 hea
  have hadd2 := fun W => add_any 0 0 a1 nb sb none W (by omega) (by omega) (by omega) (by omega) hnb0 hnb1 heb
  have HEA : Hid (sa * 1000000000 + na = 0 * 1000000000 + 0 + a0) := hea
  have HEB : Hid (sb * 1000000000 + nb = 0 * 1000000000 + 0 + a1) := heb
  clear hea heb
  obtain ⟨i1, hi1, hy0, hy1, hy2⟩ := info_parts info75
  go_enter Yba.func3, Yba.ntmps3
  go_wp2_with (first
    | (go_at_call 4; refine (hadd1 _).mono ?_; clear hadd1; rintro e wa ⟨rfl, hba⟩)
    | (go_at_call 4; refine (hadd2 _).mono ?_; clear hadd2; rintro e wb ⟨rfl, hbb⟩
       have hA0 := (hbb.cell (p := ⟨wa.heap.size, 0, none⟩) (by simp)).trans (cell_new1 _ _ _ _ _ rfl)
       have hA1 := (hbb.cell (p := ⟨wa.heap.size, 1, none⟩) (by simp)).trans (cell_new1 _ _ _ _ _ rfl)
       have hA2 := (hbb.cell (p := ⟨wa.heap.size, 2, none⟩) (by simp)).trans (cell_new1 _ _ _ _ _ rfl)
       have hzb : wa.heap.size < wb.heap.size := by have := hbb.size; simp at this; omega)
    | (at_make; refine wpList_make_full _ rfl (.tmp 38) (.tmp 38) 48 rfl w.heap.size 65 i0 (.pointer none) 1 Yba.underlying48 hi hz0 hz1 _ _ _ _ K rfl rfl rfl rfl (by rw [hz2]; omega) (by unfold maxLen; omega) (by have := hba.size; simp; omega) ?_; intro wm hown hgrow
       have hbw : Below w.heap.size w wb := (hba.alloc hba.size _).trans (hbb.mono (by have := hba.size; simp; omega))
       have hI := Inv.start (na := na) (sa := sa) (ft := a2) hbw hbw.size _ rfl rfl rfl rfl rfl hown hgrow
       clear hown hgrow hba hbb hA0 hA1 hA2 hbw))
  have hI' : Inv w (wb.heap.size + 1) wb.heap.size (wb.heap.size + 1 + 1) wm.heap.size K a2 na sa nb sb [] (.slice none 0 0) wm := hI
  clear hI
  clear hzb
  generalize wb.heap.size + 1 + 1 = O at *
  generalize wb.heap.size + 1 = N at *
  generalize wb.heap.size = Q at *
  generalize wa.heap.size = Qa at *
  obtain ⟨B, hB⟩ : ∃ B, B = wm.heap.size := ⟨_, rfl⟩
  rw [← hB] at hI'
  clear hB
  go_loopw [16] (fun i wr => ∃ (ms : List Nat) (gv : Value), ms.length ≤ K ∧ i = .int .i64 ms.length ∧ Inv w N Q O B K a2 na sa nb sb ms gv wr) (fun i _ => K - (intOf i).toNat)
  case atStart => exact ⟨[], _, Nat.zero_le _, rfl, hI'⟩
  case round =>
    obtain ⟨ms, gv, hms, rfl, hI⟩ := hrel
    clear hI'
    by_cases hlt : ms.length < K
    · have lO : O < wr.heap.size := Nat.lt_of_lt_of_le hI.lO hI.base
      have lN : N < wr.heap.size := Nat.lt_of_lt_of_le hI.lN hI.base
      have cO : ∃ u, wr.cell? ⟨O, ms.length, none⟩ = some u := by
        rw [hI.olds.cellAt ms.length (by omega)]
        exact ⟨_, List.getElem?_eq_getElem (by simp; omega)⟩
      obtain ⟨u, cO⟩ := cO
      have fO := hI.olds.frozenAt ms.length
      have hi0' : (0 : Int) ≤ (ms.length : Int) := Int.natCast_nonneg _
      have hi1' : (ms.length : Int) < (K : Int) := by omega
      have hadd := fun W => add_any 0 0 (ms.length : Int) (ms.length : Int) 0 none W (by omega) (by omega) (by omega) (by omega) (by omega) (by omega) (by omega)
      have hst := fun o => hI.stored hlt o
      have HI : Hid (Inv w N Q O B K a2 na sa nb sb ms gv wr) := hI
      clear hI
      go_wp2
      obtain ⟨hK2, hol2⟩ := hst (.cells #[.int .u8 0, .string ⟨#[]⟩, .int .u64 0, .int .u64 0, .pointer none, .int .u16 0, .int .u64 0, .string ⟨#[]⟩, .string ⟨#[]⟩, .pointer none, .int .i64 0] 73)
      have cO2 : ((wr.setCell ⟨O, ms.length, none⟩ (ptr wr.heap.size)).alloc (.cells #[.int .u8 0, .string ⟨#[]⟩, .int .u64 0, .int .u64 0, .pointer none, .int .u16 0, .int .u64 0, .string ⟨#[]⟩, .string ⟨#[]⟩, .pointer none, .int .i64 0] 73)).cell? ⟨O, ms.length, none⟩ = some (ptr wr.heap.size) := by
        rw [hol2.cellAt ms.length (by omega)]
        simp
      generalize hW2 : (wr.setCell ⟨O, ms.length, none⟩ (.pointer (some ⟨wr.heap.size, 0, none⟩))).alloc (.cells #[.int .u8 0, .string ⟨#[]⟩, .int .u64 0, .int .u64 0, .pointer none, .int .u16 0, .int .u64 0, .string ⟨#[]⟩, .string ⟨#[]⟩, .pointer none, .int .i64 0] 73) = W2 at *
      have cN2 := (hK2.cell (o := 43) lN HI.out.nNO).trans HI.out.gone
      have fN2 := (hK2.frozen (o := 43) lN HI.out.nNO).trans HI.out.fN
      have hr2 := hK2.owns HI.out.row (fun g hg e => HI.out.free O HI.out.lO (by rw [hg, e]))
      have lz2 : wr.heap.size ≤ W2.heap.size := hK2.size
      have hfree := HI.out.free N HI.out.lN
      have hbase2 : B ≤ wr.heap.size := HI.out.base
      clear hW2 hst cO fO
      go_region_law (first
        | (go_simp; go_at_call 4; refine (hadd _).mono ?_; rintro e wA ⟨rfl, hbA⟩
           have cNA := (hbA.cell (p := ⟨N, 43, none⟩) (by simp; omega)).trans cN2
           have cOA := (hbA.cell (p := ⟨O, ms.length, none⟩) (by simp; omega)).trans cO2
           have hKA : Keeps (fun _ => False) W2 wA := ((Keeps.refl (fun _ => False) W2).drew).trans (Keeps.of_below hbA)
           have hrA := hKA.owns hr2 (fun _ _ e => e)
           have lzA : W2.heap.size ≤ wA.heap.size := hbA.size
           have lNA : N < wA.heap.size := by omega
           have lOA : O < wA.heap.size := by omega
           have fNA := (hbA.frozen (p := ⟨N, 43, none⟩) (by simp; omega)).trans fN2)
        | (refine step_append_lies _ (by rfl) _ _ _ (by rfl) B 75 i1 _ 4 32 Yba.underlying53 hi1 hy0 hy1 hy2 rfl (by omega) gv ms.length (deps 0 ms) (by rfl) (hrA.alloc _) ⟨wA.heap.size, 0, none⟩ 1 1 [ptr wr.heap.size, .int .u64 (ms.length : Int), .int .i64 0, .pointer none] (by rfl) (by rfl) (World.news_of_block (cs := #[ptr wr.heap.size, .int .u64 (ms.length : Int), .int .i64 0, .pointer none]) (t := 75) (fr := (0, 0)) (heap_alloc_new wA _)) (by simp [Value.oneCell']) (by omega) (by unfold maxLen; omega) (by omega) (by simp; omega) (wA.heap.size + 1) (by simp) ?_; intro gg cap w4 hown hgrow hat hlt4
           have hK4 : Keeps (fun i => gv.ownBlock = some i) wA w4 := ((Keeps.refl _ wA).alloc _).grown hgrow (fun k e => .inl e)
           have cN4 := (hK4.cell (o := 43) (by omega) hfree).trans cNA
           have fN4 := (hK4.frozen (o := 43) (by omega) hfree).trans fNA))
      all_goals
        have HS : Hid (Inv w N Q O B K a2 na sa nb sb (ms ++ [wr.heap.size]) (.slice (some ⟨gg, 0, none⟩) (ms.length + 1) cap) (w4.setCell ⟨N, 43, none⟩ (.slice (some ⟨gg, 0, none⟩) (ms.length + 1) cap))) := HI.out.step (m := wr.heap.size) hK2 hol2 hbA hgrow hown
        clear hK2 hol2 hbA hgrow hown hat hK4 hKA hrA hr2 cNA cOA fNA cN2 fN2 cO2 cN4 fN4 hadd
        go_wp2
        go_roundw
        case rel => exact ⟨ms ++ [wr.heap.size], _, by simp; omega, by simp, HS.out⟩
        case measure => simp [intOf]; omega
    · have hmK : ms.length = K := by omega
      have q0 := hI.q0
      have q1 := hI.q1
      have q2 := hI.q2
      have lQ : Q < wr.heap.size := Nat.lt_of_lt_of_le hI.lQ hI.base
      have hG := gone_any B N wr.heap.size a2 nb sb na sa (a1 - a0) none none gv ms.length (deps 0 ms) _ (hI.ready #[.int .u8 0, .string a4, .int .u64 0, .int .u64 0, .pointer none, .int .u16 0, .int .u64 0, .string ⟨#[]⟩, .string ⟨#[]⟩, .pointer none, .int .i64 0] 0 rfl) (by omega) hnb0 hnb1 hna0 hna1 hsb hsa (by have h1 := HEA.out; have h2 := HEB.out; omega)
      have HI : Hid (Inv w N Q O B K a2 na sa nb sb ms gv wr) := hI
      have HMK : Hid (ms.length = K) := hmK
      rw [hmK] at hG
      clear hI hlt hms
      by_cases hft : 0 < a2
      · go_wp2_with (go_at_call 5; refine hG.mono ?_; rintro e w5 ⟨rfl, hl⟩
                     obtain ⟨g, gc, cG, rG⟩ := hl.yes hft
                     have m10 := hl.at'
                     have m1 := (hl.other 1 (by omega)).trans (cell_new1 _ _ _ 1 (.string a4) rfl)
                     have hbeh := HI.out.behind HMK.out _ (by rw [HMK.out]; exact hl)
                     have lN5 : N < w5.heap.size := Nat.lt_of_lt_of_le (Nat.lt_of_lt_of_le HI.out.lN HI.out.base) (Nat.le_trans (by simp) hl.keeps.size)
                     clear hG hl)
        clear q0 q1 q2 m10 m1 HI HEA HEB lQ
        generalize wr.heap.size = Mb at *
        go_loopw [19] (fun i wx => ∃ j : Nat, j ≤ K ∧ i = .int .i64 j ∧ Below w5.heap.size w5 wx) (fun i _ => K - (intOf i).toNat)
        case atStart => exact ⟨0, Nat.zero_le _, rfl, Below.refl _ _⟩
        case round =>
          obtain ⟨j, hj, rfl, hwx⟩ := hrel
          have hBx := hbeh.below.trans (hwx.mono hbeh.below.size)
          by_cases hjl : j < K
          · obtain ⟨m, hm⟩ : ∃ m, ms[j]? = some m := ⟨_, List.getElem?_eq_getElem (by have := HMK.out; omega)⟩
            obtain ⟨g', hg', hgl, e0, e1, e2, e3⟩ := dep_cells rG hm
            obtain rfl : g = g' := by simpa using hg' 
            have cGx := (hwx.cell (p := ⟨N, 43, none⟩) lN5).trans cG
            have r0 := (hwx.cell (p := ⟨g, j * 4, none⟩) hgl).trans e0
            have r1 := (hwx.cell (p := ⟨g, j * 4 + 1, none⟩) hgl).trans e1
            have r2 := (hwx.cell (p := ⟨g, j * 4 + 2, none⟩) hgl).trans e2
            have r3 := (hwx.cell (p := ⟨g, j * 4 + 3, none⟩) hgl).trans e3
            have rO := (hwx.cell (p := ⟨O, j, none⟩) hbeh.lO).trans (hbeh.olds j m hm)
            have lNx := Nat.lt_of_lt_of_le lN5 hwx.size
            have lOx := Nat.lt_of_lt_of_le hbeh.lO hwx.size
            have lgx := Nat.lt_of_lt_of_le hgl hwx.size
            have hps := ptr_ne_self
            have hj0 : (0 : Int) ≤ (j : Int) := Int.natCast_nonneg _
            have hj1 : (j : Int) < (K : Int) := by omega
            have hj2 : (j : Int) < (K : Int) + 1 := by omega
            have hadd := fun W => add_any 0 0 (j : Int) (j : Int) 0 none W (by omega) (by omega) (by omega) (by omega) (by omega) (by omega) (by omega)
            have hequ := fun W => equal_same (j : Int) 0 none none W (by omega) (by omega)
            have HW : Hid (Below w5.heap.size w5 wr) := hwx
            clear hwx rG cG e0 e1 e2 e3 hm hBx
            go_wp2_with fail
            go_region_held3 (fun w' => w'.cell? ⟨N, 43, none⟩ = some (.slice (some ⟨g, 0, none⟩) (K + 1) gc) ∧ w'.cell? ⟨g, j * 4, none⟩ = some (ptr m) ∧ w'.cell? ⟨g, j * 4 + 1, none⟩ = some (.int .u64 (j : Int)) ∧ w'.cell? ⟨g, j * 4 + 2, none⟩ = some (.int .i64 0) ∧ w'.cell? ⟨g, j * 4 + 3, none⟩ = some (.pointer none) ∧ w'.cell? ⟨O, j, none⟩ = some (ptr m))
              (first
                | go_keep
                | (go_split_ands
                   refine ⟨?_, ?_, ?_, ?_, ?_, ?_⟩ <;> (first | (rw [hbE.cell (by simp; omega)]; assumption) | (rw [hbA.cell (by simp; omega)]; assumption))))
              (first
                | (go_at_call 4; refine (hadd _).mono ?_; rintro e wA ⟨rfl, hbA⟩; have lzA : wr.heap.size ≤ wA.heap.size := hbA.size)
                | (go_at_call 6; refine (hequ _).mono ?_; rintro e wE ⟨rfl, hbE⟩))
            have hW5 : Below w5.heap.size w5 wE := ((HW.out.drew).trans (hbA.mono (by have := HW.out.size; simp; omega))).trans (hbE.mono (by have := HW.out.size; omega))
            clear hbA hbE hadd hequ cGx r0 r1 r2 r3 rO
            go_wp2
            go_roundw
            case rel => exact ⟨j + 1, by omega, by go_num, hW5⟩
            case measure => simp [intOf]; omega
          · obtain rfl : K = j := by omega
            have hl4 := last_cells rG
            obtain ⟨g', hg', hgl, e0, e1, e2, e3⟩ := hl4
            obtain rfl : g = g' := by simpa using hg'
            rw [HMK.out] at e0 e1 e2 e3
            have r0 := (hwx.cell (p := ⟨g, K * 4, none⟩) hgl).trans e0
            have r1 := (hwx.cell (p := ⟨g, K * 4 + 1, none⟩) hgl).trans e1
            have r2 := (hwx.cell (p := ⟨g, K * 4 + 2, none⟩) hgl).trans e2
            have r3 := (hwx.cell (p := ⟨g, K * 4 + 3, none⟩) hgl).trans e3
            have cGx := (hwx.cell (p := ⟨N, 43, none⟩) lN5).trans cG
            have v0 := (hwx.cell (p := ⟨Q, 0, none⟩) hbeh.lQ).trans hbeh.q0
            have v1 := (hwx.cell (p := ⟨Q, 1, none⟩) hbeh.lQ).trans hbeh.q1
            have v2 := (hwx.cell (p := ⟨Q, 2, none⟩) hbeh.lQ).trans hbeh.q2
            have lQx := Nat.lt_of_lt_of_le hbeh.lQ hwx.size
            have lgx := Nat.lt_of_lt_of_le hgl hwx.size
            have hps := ptr_ne_self
            have hequ := fun W => equal_same nb sb none none W hnb0 hnb1
            clear hwx rG cG e0 e1 e2 e3
            go_wp2_with (go_at_call 6; refine (hequ _).mono ?_; rintro e wE ⟨rfl, hbE⟩)
            have hBE := (hBx.alloc hBx.size _).trans (hbE.mono (by have := hBx.size; simp; omega))
            go_ret
            exact ⟨rfl, hBE⟩
      · go_wp2_with (go_at_call 5; refine hG.mono ?_; rintro e w5 ⟨rfl, hl⟩
                     obtain ⟨cG, rG0⟩ := hl.no hft
                     have rG : w5.ownsRow B 75 4 gv K (deps 0 ms ++ []) := by rw [List.append_nil]; exact rG0
                     have m10 := hl.at'
                     have m1 := (hl.other 1 (by omega)).trans (cell_new1 _ _ _ 1 (.string a4) rfl)
                     have hbeh := HI.out.behind HMK.out _ (by rw [HMK.out]; exact hl)
                     have lN5 : N < w5.heap.size := Nat.lt_of_lt_of_le (Nat.lt_of_lt_of_le HI.out.lN HI.out.base) (Nat.le_trans (by simp) hl.keeps.size)
                     obtain ⟨gva, gvc, rfl⟩ := row_slice rG
                     clear hG hl)
        clear q0 q1 q2 m10 m1 HI HEA HEB lQ
        generalize wr.heap.size = Mb at *
        go_loopw [19] (fun i wx => ∃ j : Nat, j ≤ K ∧ i = .int .i64 j ∧ Below w5.heap.size w5 wx) (fun i _ => K - (intOf i).toNat)
        case atStart => exact ⟨0, Nat.zero_le _, rfl, Below.refl _ _⟩
        case round =>
          obtain ⟨j, hj, rfl, hwx⟩ := hrel
          have hBx := hbeh.below.trans (hwx.mono hbeh.below.size)
          by_cases hjl : j < K
          · obtain ⟨m, hm⟩ : ∃ m, ms[j]? = some m := ⟨_, List.getElem?_eq_getElem (by have := HMK.out; omega)⟩
            obtain ⟨g, rfl, hgl, e0, e1, e2, e3⟩ := dep_cells rG hm
            have cGx := (hwx.cell (p := ⟨N, 43, none⟩) lN5).trans cG
            have r0 := (hwx.cell (p := ⟨g, j * 4, none⟩) hgl).trans e0
            have r1 := (hwx.cell (p := ⟨g, j * 4 + 1, none⟩) hgl).trans e1
            have r2 := (hwx.cell (p := ⟨g, j * 4 + 2, none⟩) hgl).trans e2
            have r3 := (hwx.cell (p := ⟨g, j * 4 + 3, none⟩) hgl).trans e3
            have rO := (hwx.cell (p := ⟨O, j, none⟩) hbeh.lO).trans (hbeh.olds j m hm)
            have lNx := Nat.lt_of_lt_of_le lN5 hwx.size
            have lOx := Nat.lt_of_lt_of_le hbeh.lO hwx.size
            have lgx := Nat.lt_of_lt_of_le hgl hwx.size
            have hps := ptr_ne_self
            have hj0 : (0 : Int) ≤ (j : Int) := Int.natCast_nonneg _
            have hj1 : (j : Int) < (K : Int) := by omega
            have hj2 : (j : Int) < ((K : Nat) : Int) := by omega
            have hadd := fun W => add_any 0 0 (j : Int) (j : Int) 0 none W (by omega) (by omega) (by omega) (by omega) (by omega) (by omega) (by omega)
            have hequ := fun W => equal_same (j : Int) 0 none none W (by omega) (by omega)
            have HW : Hid (Below w5.heap.size w5 wr) := hwx
            clear hwx rG cG e0 e1 e2 e3 hm hBx
            go_wp2_with fail
            go_region_held3 (fun w' => w'.cell? ⟨N, 43, none⟩ = some (.slice (some ⟨g, 0, none⟩) K gvc) ∧ w'.cell? ⟨g, j * 4, none⟩ = some (ptr m) ∧ w'.cell? ⟨g, j * 4 + 1, none⟩ = some (.int .u64 (j : Int)) ∧ w'.cell? ⟨g, j * 4 + 2, none⟩ = some (.int .i64 0) ∧ w'.cell? ⟨g, j * 4 + 3, none⟩ = some (.pointer none) ∧ w'.cell? ⟨O, j, none⟩ = some (ptr m))
              (first
                | go_keep
                | (go_split_ands
                   refine ⟨?_, ?_, ?_, ?_, ?_, ?_⟩ <;> (first | (rw [hbE.cell (by simp; omega)]; assumption) | (rw [hbA.cell (by simp; omega)]; assumption))))
              (first
                | (go_at_call 4; refine (hadd _).mono ?_; rintro e wA ⟨rfl, hbA⟩; have lzA : wr.heap.size ≤ wA.heap.size := hbA.size)
                | (go_at_call 6; refine (hequ _).mono ?_; rintro e wE ⟨rfl, hbE⟩))
            have hW5 : Below w5.heap.size w5 wE := ((HW.out.drew).trans (hbA.mono (by have := HW.out.size; simp; omega))).trans (hbE.mono (by have := HW.out.size; omega))
            clear hbA hbE hadd hequ cGx r0 r1 r2 r3 rO
            go_wp2
            go_roundw
            case rel => exact ⟨j + 1, by omega, by go_num, hW5⟩
            case measure => simp [intOf]; omega
          · obtain rfl : K = j := by omega
            go_wp2
            go_ret
            exact ⟨rfl, hBx⟩

end Go.Proofs.Ybulksqo.Hold
