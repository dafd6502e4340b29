/- What stands in memory while LawS0950BHoldGone fills the node's list of departures: no walk in sight. By an AI agent. -/
import Derived.Test.YbulksqoGone
namespace Go.Proofs.Ybulksqo.Hold
open Go.RowKit Go.Proofs.Ybulksqo.Keep

abbrev ptr (m : Nat) : Value := .pointer (some ⟨m, 0, none⟩)

/-- the cells of the departures: the members ms, at the times i, i + 1, .. nanoseconds -/
def deps : Nat → List Nat → List Value
  | _, [] => []
  | i, m :: l => ptr m :: .int .u64 i :: .int .i64 0 :: .pointer none :: deps (i + 1) l

theorem deps_snoc : ∀ (l : List Nat) (i m : Nat), deps i (l ++ [m]) = deps i l ++ [ptr m, .int .u64 ((i + l.length : Nat) : Int), .int .i64 0, .pointer none]
  | [], i, m => by simp [deps]
  | x :: l, i, m => by
    have := deps_snoc l (i + 1) m
    simp only [List.cons_append, deps, this]
    rw [show i + 1 + l.length = i + (x :: l).length by simp; omega]
theorem deps_get : ∀ (l : List Nat) (i j m : Nat), l[j]? = some m → (deps i l)[j * 4]? = some (ptr m) ∧ (deps i l)[j * 4 + 1]? = some (.int .u64 ((i + j : Nat) : Int)) ∧ (deps i l)[j * 4 + 2]? = some (.int .i64 0) ∧ (deps i l)[j * 4 + 3]? = some (.pointer none)
  | [], i, j, m, h => by simp at h
  | x :: l, i, 0, m, h => by
    simp at h
    subst h
    exact ⟨rfl, rfl, rfl, rfl⟩
  | x :: l, i, j + 1, m, h => by
    have := deps_get l (i + 1) j m (by simpa using h)
    rw [show i + 1 + j = i + (j + 1) by omega] at this
    rw [show (j + 1) * 4 = j * 4 + 1 + 1 + 1 + 1 by omega]
    exact this
theorem deps_length : ∀ (l : List Nat) (i : Nat), (deps i l).length = l.length * 4
  | [], _ => rfl
  | x :: l, i => by simp [deps, deps_length l (i + 1)]; omega

/-- The node in block N, its time of departure 'now' in block Q, the olds' row in block O, the members ms so far. -/
structure Inv (w : World) (N Q O B K : Nat) (ft na sa nb sb : Int) (ms : List Nat) (gv : Value) (W : World) : Prop where
  below : Below w.heap.size w W
  base : B ≤ W.heap.size
  lN : N < B
  lQ : Q < B
  lO : O < B
  bN : w.heap.size ≤ N
  bO : w.heap.size ≤ O
  nNO : N ≠ O
  nQN : Q ≠ N
  nQO : Q ≠ O
  ftc : W.cell? ⟨N, 13, none⟩ = some (.int .i64 ft)
  s0 : W.cell? ⟨N, 18, none⟩ = some (.int .u64 na)
  s1 : W.cell? ⟨N, 19, none⟩ = some (.int .i64 sa)
  s2 : W.cell? ⟨N, 20, none⟩ = some (.pointer none)
  gone : W.cell? ⟨N, 43, none⟩ = some gv
  fN : W.frozen? ⟨N, 43, none⟩ = false
  q0 : W.cell? ⟨Q, 0, none⟩ = some (.int .u64 nb)
  q1 : W.cell? ⟨Q, 1, none⟩ = some (.int .i64 sb)
  q2 : W.cell? ⟨Q, 2, none⟩ = some (.pointer none)
  olds : W.ownsRow w.heap.size 65 1 (.slice (some ⟨O, 0, none⟩) K K) K (ms.map ptr ++ List.replicate (K - ms.length) (.pointer none))
  row : W.ownsRow B 75 4 gv ms.length (deps 0 ms)

theorem Inv.free {w : World} {N Q O B K : Nat} {ft na sa nb sb : Int} {ms : List Nat} {gv : Value} {W : World} (h : Inv w N Q O B K ft na sa nb sb ms gv W) : ∀ g, g < B → gv.ownBlock ≠ some g := fun g hg e => by
  have := (h.row.lt g e).1; omega

theorem set_olds (ms : List Nat) (K m : Nat) (h : ms.length < K) :
    (ms.map ptr ++ List.replicate (K - ms.length) (Value.pointer none)).set ms.length (ptr m) = (ms ++ [m]).map ptr ++ List.replicate (K - (ms ++ [m]).length) (.pointer none) := by
  rw [List.set_append, if_neg (by simp)]
  rw [show K - ms.length = (K - (ms ++ [m]).length) + 1 by simp; omega, List.replicate_succ, List.length_map, Nat.sub_self]
  simp only [List.set_cons_zero, List.map_append, List.map_cons, List.map_nil, List.append_assoc, List.cons_append, List.nil_append]

/-- the olds' store: 'olds[i] = &member{}' -/
theorem Inv.stored {w : World} {N Q O B K : Nat} {ft na sa nb sb : Int} {ms : List Nat} {gv : Value} {W : World} (h : Inv w N Q O B K ft na sa nb sb ms gv W) (hlt : ms.length < K) (o : Obj) :
    Keeps (· = O) W ((W.setCell ⟨O, ms.length, none⟩ (ptr W.heap.size)).alloc o) ∧
    ((W.setCell ⟨O, ms.length, none⟩ (ptr W.heap.size)).alloc o).ownsRow w.heap.size 65 1 (.slice (some ⟨O, 0, none⟩) K K) K ((ms ++ [W.heap.size]).map ptr ++ List.replicate (K - (ms ++ [W.heap.size]).length) (.pointer none)) := by
  refine ⟨((Keeps.refl (· = O) W).setCell (p := ⟨O, ms.length, none⟩) rfl _).alloc o, ?_⟩
  have := (h.olds.stored ms.length (ptr W.heap.size)).1
  rw [set_olds _ _ _ hlt] at this
  exact this.alloc o

/-- the step: the departure is appended, and stored in the node -/
theorem Inv.step {w : World} {N Q O B K : Nat} {ft na sa nb sb : Int} {ms : List Nat} {gv : Value} {W W2 wA w4 : World} {dep : Obj} {g cap m : Nat} (h : Inv w N Q O B K ft na sa nb sb ms gv W)
    (hK2 : Keeps (· = O) W W2) (holds : W2.ownsRow w.heap.size 65 1 (.slice (some ⟨O, 0, none⟩) K K) K ((ms ++ [m]).map ptr ++ List.replicate (K - (ms ++ [m]).length) (.pointer none)))
    (hbA : Below W2.heap.size W2.drew wA) (hgrow : (wA.alloc dep).grownBy w4 gv.ownBlock)
    (hown : w4.ownsRow B 75 4 (.slice (some ⟨g, 0, none⟩) (ms.length + 1) cap) (ms.length + 1) (deps 0 ms ++ [ptr m, .int .u64 (ms.length : Int), .int .i64 0, .pointer none])) :
    Inv w N Q O B K ft na sa nb sb (ms ++ [m]) (.slice (some ⟨g, 0, none⟩) (ms.length + 1) cap) (w4.setCell ⟨N, 43, none⟩ (.slice (some ⟨g, 0, none⟩) (ms.length + 1) cap)) := by
  have hKA : Keeps (fun _ => False) W2 wA := ((Keeps.refl (fun _ => False) W2).drew).trans (Keeps.of_below hbA)
  have hK4 : Keeps (fun i => gv.ownBlock = some i) wA w4 := ((Keeps.refl _ wA).alloc dep).grown hgrow (fun k e => .inl e)
  have hKW : Keeps (fun i => i = O ∨ gv.ownBlock = some i) W w4 := ((hK2.mono (fun i _ e => .inl e)).trans (hKA.mono (fun i _ e => e.elim))).trans (hK4.mono (fun i _ e => .inr e))
  have hK5 : Keeps (· = N) w4 (w4.setCell ⟨N, 43, none⟩ (.slice (some ⟨g, 0, none⟩) (ms.length + 1) cap)) := (Keeps.refl (· = N) w4).setCell (p := ⟨N, 43, none⟩) rfl _
  have hK7 : Keeps (fun i => i = N ∨ i = O ∨ gv.ownBlock = some i) W (w4.setCell ⟨N, 43, none⟩ (.slice (some ⟨g, 0, none⟩) (ms.length + 1) cap)) := (hKW.mono (fun i _ e => .inr e)).trans (hK5.mono (fun i _ e => .inl e))
  have hlN := h.lN
  have hlQ := h.lQ
  have hlO := h.lO
  have hbs := h.base
  have hNW : N < W.heap.size := by omega
  have hN4 : ∀ j, w4.cell? ⟨N, j, none⟩ = W.cell? ⟨N, j, none⟩ := fun j => hKW.cell hNW (fun e => by rcases e with e | e; exact h.nNO e; exact h.free N hlN e)
  have hN5 : ∀ j, j ≠ 43 → (w4.setCell ⟨N, 43, none⟩ (.slice (some ⟨g, 0, none⟩) (ms.length + 1) cap)).cell? ⟨N, j, none⟩ = W.cell? ⟨N, j, none⟩ := fun j hj => by
    rw [World.cell?_setCell_other _ _ _ _ (by simp only [ne_eq, Addr.mk.injEq]; omega)]; exact hN4 j
  have hQ5 : ∀ j, (w4.setCell ⟨N, 43, none⟩ (.slice (some ⟨g, 0, none⟩) (ms.length + 1) cap)).cell? ⟨Q, j, none⟩ = W.cell? ⟨Q, j, none⟩ := fun j =>
    hK7.cell (by omega) (fun e => by rcases e with e | e | e; exact h.nQN e; exact h.nQO e; exact h.free Q hlQ e)
  have hf4 : w4.frozen? ⟨N, 43, none⟩ = false := (hKW.frozen hNW (fun e => by rcases e with e | e; exact h.nNO e; exact h.free N hlN e)).trans h.fN
  refine ⟨h.below.trans (hK7.below h.below.size (fun k hk e => ?_)), Nat.le_trans h.base hK7.size, h.lN, h.lQ, h.lO, h.bN, h.bO, h.nNO, h.nQN, h.nQO, (hN5 13 (by omega)).trans h.ftc, (hN5 18 (by omega)).trans h.s0, (hN5 19 (by omega)).trans h.s1, (hN5 20 (by omega)).trans h.s2,
    World.cell?_setCell_same' _ _ _ (by rw [hN4, h.gone]; rfl), ?_, (hQ5 0).trans h.q0, (hQ5 1).trans h.q1, (hQ5 2).trans h.q2, ?_, ?_⟩
  · have hbN := h.bN
    have hbO := h.bO
    rcases e with e | e | e
    · omega
    · omega
    · have := h.free k (by omega); exact this e
  · rw [World.frozen?_setCell]; exact hf4
  · refine hK5.owns (hK4.owns (hKA.owns holds (fun _ _ e => e)) (fun i hi e => ?_)) (fun i hi e => ?_)
    · have : O = i := by simpa [Value.ownBlock] using hi
      exact h.free O hlO (by rw [this]; exact e)
    · have : O = i := by simpa [Value.ownBlock] using hi
      exact h.nNO (by omega)
  · have hd : deps 0 (ms ++ [m]) = deps 0 ms ++ [ptr m, .int .u64 (ms.length : Int), .int .i64 0, .pointer none] := by rw [deps_snoc, Nat.zero_add]
    rw [hd, List.length_append]
    refine hK5.owns hown (fun i hi e => ?_)
    have h1 : g = i := by simpa [Value.ownBlock] using hi
    have := (hown.lt g rfl).1
    omega

theorem free2b (w : World) (A R : Array Value) (tA tR : TypeId) (k : Nat) : ((w.alloc (.cells A tA)).alloc (.cells R tR)).frozen? ⟨w.heap.size + 1, k, none⟩ = false := by
  have h1 : ((w.alloc (.cells A tA)).alloc (.cells R tR)).heap[w.heap.size + 1]? = some (.cells R tR) := by
    have := heap_alloc_new (w.alloc (.cells A tA)) (.cells R tR)
    simpa using this
  unfold World.frozen?
  simp only [h1]
  simp

theorem made_list (z : Value) (n : Nat) : (madeCells #[z] n).toList = List.replicate n z := by
  apply List.ext_getElem
  · simp [madeCells]
  · intro i h1 h2
    simp [madeCells, Nat.mod_one]

/-- behind the make: no member yet -/
theorem Inv.start {w wb wm : World} {K : Nat} {ft na sa nb sb : Int} (hbw : Below w.heap.size w wb) (hsz : w.heap.size ≤ wb.heap.size) (R : Array Value) (r13 : R[13]? = some (.int .i64 ft)) (r18 : R[18]? = some (.int .u64 na)) (r19 : R[19]? = some (.int .i64 sa)) (r20 : R[20]? = some (.pointer none)) (r43 : R[43]? = some (.slice none 0 0))
    (hown : wm.ownsRow w.heap.size 65 1 (.slice (some ⟨((wb.alloc (.cells #[.int .u64 nb, .int .i64 sb, .pointer none] 25)).alloc (.cells R 64)).heap.size, 0, none⟩) K K) K (madeCells (Value.pointer none).cells (K * 1)).toList)
    (hgrow : ((wb.alloc (.cells #[.int .u64 nb, .int .i64 sb, .pointer none] 25)).alloc (.cells R 64)).grownBy wm none) :
    Inv w (wb.heap.size + 1) wb.heap.size (wb.heap.size + 2) wm.heap.size K ft na sa nb sb [] (.slice none 0 0) wm := by
  have e : (madeCells (Value.pointer none).cells (K * 1)).toList = List.replicate K (.pointer none) := by rw [Nat.mul_one]; exact made_list _ _
  have hs : ((wb.alloc (.cells #[.int .u64 nb, .int .i64 sb, .pointer none] 25)).alloc (.cells R 64)).heap.size = wb.heap.size + 2 := by simp
  rw [e, hs] at hown
  have hO := (hown.lt (wb.heap.size + 2) rfl).2
  have hfz : wm.frozen? ⟨wb.heap.size + 1, 43, none⟩ = false := by
    rw [World.frozen?_of_block (a := ⟨wb.heap.size + 1, 43, none⟩) (hgrow.block (wb.heap.size + 1) (by omega) (by simp))]
    exact free2b _ _ _ _ _ _
  have hb2 : Below w.heap.size w ((wb.alloc (.cells #[.int .u64 nb, .int .i64 sb, .pointer none] 25)).alloc (.cells R 64)) := (hbw.alloc hsz _).alloc (by simp; omega) _
  exact ⟨hb2.grown hgrow (by omega) (fun k e => by cases e), Nat.le_refl _, by omega, by omega, hO, by omega, by omega, by omega, by omega, by omega,
    hgrow.cell (cell2b wb _ _ _ _ 13 _ r13) (by simp), hgrow.cell (cell2b wb _ _ _ _ 18 _ r18) (by simp), hgrow.cell (cell2b wb _ _ _ _ 19 _ r19) (by simp), hgrow.cell (cell2b wb _ _ _ _ 20 _ r20) (by simp), hgrow.cell (cell2b wb _ _ _ _ 43 _ r43) (by simp), hfz,
    hgrow.cell (cell2 wb _ _ _ _ 0 _ rfl) (by simp), hgrow.cell (cell2 wb _ _ _ _ 1 _ rfl) (by simp), hgrow.cell (cell2 wb _ _ _ _ 2 _ rfl) (by simp), by simpa using hown, World.ownsRow_nil _ _ _ _⟩

end Go.Proofs.Ybulksqo.Hold
