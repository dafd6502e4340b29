/- (*swim.Node).holdGone: its contract. By an AI agent. -/
import Derived.Test.YbulksqoSub
import Derived.Test.YbulksqoKeep
import Derived.Deep.AppendLies
import Derived.Deep.RegionLaw
namespace Go.Proofs.Ybulksqo.Hold
open Go.RowKit Go.Proofs.Ybulksqo.Keep

theorem info75 : (Yba.prog.info? 75).map (fun i => (i.zero, i.size, i.bytes)) = some (some (.agg #[.pointer none, .int .u64 0, .int .i64 0, .pointer none]), 4, 32) := by kernel_rfl

/-- What is known of a node (block N), of a member (block M) and of the row of departures, ahead of holdGone. -/
structure Ready (B N M : Nat) (ft n2 s2 : Int) (p2 : Option Addr) (gv : Value) (k : Nat) (xs : List Value) (w : World) : Prop where
  ne : N ≠ M
  ft : w.cell? ⟨N, 13, none⟩ = some (.int .i64 ft)
  s0 : w.cell? ⟨N, 18, none⟩ = some (.int .u64 n2)
  s1 : w.cell? ⟨N, 19, none⟩ = some (.int .i64 s2)
  s2 : w.cell? ⟨N, 20, none⟩ = some (.pointer p2)
  gone : w.cell? ⟨N, 43, none⟩ = some gv
  fN : w.frozen? ⟨N, 43, none⟩ = false
  at' : ∃ g0, w.cell? ⟨M, 10, none⟩ = some (.int .i64 g0)
  fM : w.frozen? ⟨M, 10, none⟩ = false
  row : w.ownsRow B 75 4 gv k xs
  base : B ≤ w.heap.size
  rN : gv.ownBlock ≠ some N
  rM : gv.ownBlock ≠ some M

theorem Ready.ltN {B N M : Nat} {ft n2 s2 : Int} {p2 : Option Addr} {gv : Value} {k : Nat} {xs : List Value} {w : World} (h : Ready B N M ft n2 s2 p2 gv k xs w) : N < w.heap.size := block_lt_of_cell h.ft
theorem Ready.ltM {B N M : Nat} {ft n2 s2 : Int} {p2 : Option Addr} {gv : Value} {k : Nat} {xs : List Value} {w : World} (h : Ready B N M ft n2 s2 p2 gv k xs w) : M < w.heap.size := by
  obtain ⟨g0, hg⟩ := h.at'; exact block_lt_of_cell hg

theorem cell_new1 (w : World) (A : Array Value) (tA : TypeId) (k : Nat) (v : Value) (h : A[k]? = some v) : (w.alloc (.cells A tA)).cell? ⟨w.heap.size, k, none⟩ = some v := by
  have h1 := heap_alloc_new w (.cells A tA)
  unfold World.cell?
  simp only [h1]
  exact h

theorem far_set {w : World} {M j N o : Nat} {u v : Value} (hne : N ≠ M) (h : w.cell? ⟨N, o, none⟩ = some v) : (w.setCell ⟨M, j, none⟩ u).cell? ⟨N, o, none⟩ = some v := by
  rw [World.cell?_of_block (w := w) (a := ⟨N, o, none⟩) (Below.heap_setCell _ _ _ _ hne)]
  exact h

/-- What holdGone leaves. -/
structure Left (B N M : Nat) (ft n1 s1 d : Int) (p1 : Option Addr) (gv : Value) (k : Nat) (xs : List Value) (w W' : World) : Prop where
  keeps : Keeps (fun i => i = N ∨ i = M ∨ gv.ownBlock = some i) w W'
  at' : W'.cell? ⟨M, 10, none⟩ = some (.int .i64 d)
  other : ∀ j, j ≠ 10 → W'.cell? ⟨M, j, none⟩ = w.cell? ⟨M, j, none⟩
  yes : 0 < ft → ∃ g cap, W'.cell? ⟨N, 43, none⟩ = some (.slice (some ⟨g, 0, none⟩) (k + 1) cap) ∧ W'.ownsRow B 75 4 (.slice (some ⟨g, 0, none⟩) (k + 1) cap) (k + 1) (xs ++ [.pointer (some ⟨M, 0, none⟩), .int .u64 n1, .int .i64 s1, .pointer p1])
  no : ¬ 0 < ft → W'.cell? ⟨N, 43, none⟩ = some gv ∧ W'.ownsRow B 75 4 gv k xs


set_option maxRecDepth 100000 in
set_option maxHeartbeats 2000000 in
theorem gone_any (B N M : Nat) (ft n1 s1 n2 s2 d : Int) (p1 p2 : Option Addr) (gv : Value) (k : Nat) (xs : List Value) (w : World) (hR : Ready B N M ft n2 s2 p2 gv k xs w) (hk : k ≤ 1024)
    (h0 : 0 ≤ n1) (h1 : n1 < 1000000000) (h2 : 0 ≤ n2) (h3 : n2 < 1000000000) (hs1 : -20 < s1 ∧ s1 < 20) (hs2 : -20 < s2 ∧ s2 < 20) (heq : s1 * 1000000000 + n1 = s2 * 1000000000 + n2 + d) :
    Calls Yba.prog 5 #[.pointer (some ⟨N, 0, none⟩), tv n1 s1 (.pointer p1), .pointer (some ⟨M, 0, none⟩)] w fun e W' => e = .returned (.tuple #[]) ∧ Left B N M ft n1 s1 d p1 gv k xs w W' := by
  have lN := hR.ltN
  have lM := hR.ltM
  have hne := hR.ne
  obtain ⟨i0, hi, hz0, hz1, hz2⟩ := info_parts info75
  obtain ⟨g0, cM⟩ := hR.at'
  have hsub := fun W => sub_any n1 s1 n2 s2 d p1 p2 W h0 h1 h2 h3 hs1 hs2 heq
  have hK1 : Keeps (fun _ => False) w (w.alloc (.cells #[.int .u64 n1, .int .i64 s1, .pointer p1] 25)) := (Keeps.refl _ w).alloc _
  have x0 : (w.alloc (.cells #[.int .u64 n1, .int .i64 s1, .pointer p1] 25)).cell? ⟨w.heap.size, 0, none⟩ = some (.int .u64 n1) := cell_new1 _ _ _ _ _ rfl
  have x1 : (w.alloc (.cells #[.int .u64 n1, .int .i64 s1, .pointer p1] 25)).cell? ⟨w.heap.size, 1, none⟩ = some (.int .i64 s1) := cell_new1 _ _ _ _ _ rfl
  have x2 : (w.alloc (.cells #[.int .u64 n1, .int .i64 s1, .pointer p1] 25)).cell? ⟨w.heap.size, 2, none⟩ = some (.pointer p1) := cell_new1 _ _ _ _ _ rfl
  have hz : (w.alloc (.cells #[.int .u64 n1, .int .i64 s1, .pointer p1] 25)).heap.size = w.heap.size + 1 := by simp
  have HR : Hid (Ready B N M ft n2 s2 p2 gv k xs w) := hR
  clear hR heq
  go_enter Yba.func5, Yba.ntmps5
  go_wp2
  generalize (w.alloc (.cells #[.int .u64 n1, .int .i64 s1, .pointer p1] 25)) = W1 at *
  have c0 := (hK1.cell (o := 18) lN (fun e => e)).trans HR.out.s0
  have c1 := (hK1.cell (o := 19) lN (fun e => e)).trans HR.out.s1
  have c2 := (hK1.cell (o := 20) lN (fun e => e)).trans HR.out.s2
  have cm := (hK1.cell (o := 10) lM (fun e => e)).trans cM
  have lz : w.heap.size < W1.heap.size := by omega
  have hXM : w.heap.size ≠ M := by omega
  have HZ : Hid (W1.heap.size = w.heap.size + 1) := hz
  clear hz cM
  go_region_held3 (fun w' => w'.cell? ⟨w.heap.size, 0, none⟩ = some (.int .u64 n1) ∧ w'.cell? ⟨w.heap.size, 1, none⟩ = some (.int .i64 s1) ∧ w'.cell? ⟨w.heap.size, 2, none⟩ = some (.pointer p1) ∧ w'.cell? ⟨N, 18, none⟩ = some (.int .u64 n2) ∧ w'.cell? ⟨N, 19, none⟩ = some (.int .i64 s2) ∧ w'.cell? ⟨N, 20, none⟩ = some (.pointer p2))
    (first
      | go_keep
      | (go_split_ands
         refine ⟨?_, ?_, ?_, ?_, ?_, ?_⟩ <;> (first | exact far_set (by omega) (by assumption) | (rw [hb1.cell (by simp; omega)]; assumption))))
    (first
      | (go_at_call 11; refine (hsub _).mono ?_; rintro e w2 ⟨rfl, hb1⟩
         have cm2 := (hb1.cell (p := ⟨M, 10, none⟩) (by simp; omega)).trans cm
         have fm2 := (hb1.frozen (p := ⟨M, 10, none⟩) (by simp; omega)).trans ((hK1.frozen (o := 10) lM (fun e => e)).trans HR.out.fM)))
  have hK2 : Keeps (· = M) w w2 := ((hK1.mono (T := (· = M)) (fun _ _ h => h.elim)).drew).trans (Keeps.of_below hb1)
  have hK3 : Keeps (· = M) w (w2.setCell ⟨M, 10, none⟩ (.int .i64 d)) := hK2.setCell (p := ⟨M, 10, none⟩) rfl _
  have y0 : (w2.setCell ⟨M, 10, none⟩ (.int .i64 d)).cell? ⟨w.heap.size, 0, none⟩ = some (.int .u64 n1) := far_set hXM ((hb1.cell (p := ⟨w.heap.size, 0, none⟩) lz).trans x0)
  have y1 : (w2.setCell ⟨M, 10, none⟩ (.int .i64 d)).cell? ⟨w.heap.size, 1, none⟩ = some (.int .i64 s1) := far_set hXM ((hb1.cell (p := ⟨w.heap.size, 1, none⟩) lz).trans x1)
  have y2 : (w2.setCell ⟨M, 10, none⟩ (.int .i64 d)).cell? ⟨w.heap.size, 2, none⟩ = some (.pointer p1) := far_set hXM ((hb1.cell (p := ⟨w.heap.size, 2, none⟩) lz).trans x2)
  have m0 : (w2.setCell ⟨M, 10, none⟩ (.int .i64 d)).cell? ⟨M, 10, none⟩ = some (.int .i64 d) := World.cell?_setCell_same' _ _ _ (by rw [cm2]; rfl)
  have m1 : ∀ j, j ≠ 10 → (w2.setCell ⟨M, 10, none⟩ (.int .i64 d)).cell? ⟨M, j, none⟩ = w.cell? ⟨M, j, none⟩ := by
    intro j hj
    rw [World.cell?_setCell_other _ _ _ _ (by simp only [ne_eq, Addr.mk.injEq]; omega)]
    exact (hb1.cell (p := ⟨M, j, none⟩) (by simp; omega)).trans (hK1.cell lM (fun e => e))
  clear c0 c1 c2 cm cm2 fm2 hsub x0 x1 x2
  have lz3 : w.heap.size < (w2.setCell ⟨M, 10, none⟩ (.int .i64 d)).heap.size := by
    have := hb1.size
    have h3 : (w2.setCell ⟨M, 10, none⟩ (.int .i64 d)).heap.size = w2.heap.size := by simp [World.setCell]
    rw [h3]
    simp at this
    omega
  generalize w2.setCell ⟨M, 10, none⟩ (.int .i64 d) = W3 at *
  have cF := (hK3.cell (o := 13) lN hne).trans HR.out.ft
  have cG := (hK3.cell (o := 43) lN hne).trans HR.out.gone
  have fG := (hK3.frozen (o := 43) lN hne).trans HR.out.fN
  have hrow := hK3.owns HR.out.row (fun g hg e => HR.out.rM (by rw [hg, e]))
  have hbase : B ≤ W3.heap.size := Nat.le_trans HR.out.base hK3.size
  clear hK1 hK2 hb1
  by_cases hft : 0 < ft
  · have rN := HR.out.rN
    have lN3 : N < W3.heap.size := by omega
    go_wp2
    go_region_law (refine step_append_lies _ (by rfl) _ _ _ (by rfl) B 75 i0 _ 4 32 Yba.underlying53 hi hz0 hz1 hz2 rfl (by omega) gv k xs (by rfl) ((hrow.alloc _).drew) ⟨W3.heap.size, 0, none⟩ 1 1 [.pointer (some ⟨M, 0, none⟩), .int .u64 n1, .int .i64 s1, .pointer p1] (by rfl) (by rfl) (World.news_of_block (cs := #[.pointer (some ⟨M, 0, none⟩), .int .u64 n1, .int .i64 s1, .pointer p1]) (t := 75) (fr := (0, 0)) (heap_alloc_new W3 _)) (by simp [Value.oneCell']) (by omega) (by unfold maxLen; omega) (by omega) (by simp; omega) (W3.heap.size + 1) (by simp) ?_; intro gg cap w4 hown hgrow hat hlt4; have hK4 : Keeps (fun i => gv.ownBlock = some i) W3 w4 := (((Keeps.refl _ W3).alloc _).drew).grown hgrow (fun k e => .inl e); have cG4 := (hK4.cell (o := 43) lN3 rN).trans cG; have fG4 := (hK4.frozen (o := 43) lN3 rN).trans fG)
    all_goals
      have hm4 : ∀ j, w4.cell? ⟨M, j, none⟩ = W3.cell? ⟨M, j, none⟩ := fun j => hK4.cell (by omega) HR.out.rM
      have hK5 : Keeps (fun i => i = N ∨ i = M ∨ gv.ownBlock = some i) w (w4.setCell ⟨N, 43, none⟩ (.slice (some ⟨gg, 0, none⟩) (k + 1) cap)) :=
        ((hK3.mono (fun i _ h => .inr (.inl h))).trans (hK4.mono (fun i _ h => .inr (.inr h)))).setCell (p := ⟨N, 43, none⟩) (.inl rfl) _
      have hfin : Left B N M ft n1 s1 d p1 gv k xs w (w4.setCell ⟨N, 43, none⟩ (.slice (some ⟨gg, 0, none⟩) (k + 1) cap)) := by
        refine ⟨hK5, far_set (Ne.symm hne) ((hm4 10).trans m0), fun j hj => ?_, fun _ => ⟨gg, cap, World.cell?_setCell_same' _ _ _ (by rw [cG4]; rfl), ?_⟩, fun h => absurd hft h⟩
        · rw [World.cell?_of_block (w := w4) (a := ⟨M, j, none⟩) (Below.heap_setCell _ _ _ _ (Ne.symm hne))]
          exact (hm4 j).trans (m1 j hj)
        · refine ((Keeps.refl (· = N) w4).setCell (p := ⟨N, 43, none⟩) rfl _).owns hown (fun g hg e => ?_)
          have hgg : gg = g := by simpa [Value.ownBlock] using hg
          subst e
          rcases hat with h | h
          · exact rN (by rw [h, hgg])
          · omega
      clear hK4 hgrow hown hat hm4 hK5 m1 hrow
      go_wp2
      refine bodyPost_end (results_none rfl _ _ _) rfl ?_
      exact ⟨rfl, hfin⟩
  · go_wp2
    refine bodyPost_end (results_none rfl _ _ _) rfl ?_
    exact ⟨rfl, ⟨hK3.mono (fun i _ h => .inr (.inl h)), m0, m1, fun h => absurd h (by omega), fun _ => ⟨cG, hrow⟩⟩⟩

end Go.Proofs.Ybulksqo.Hold
