/- What stands in memory behind holdGone in LawS0950BHoldGone: no walk in sight. By an AI agent. -/
import Derived.Test.YbulksqoInv
namespace Go.Proofs.Ybulksqo.Hold
open Go.RowKit Go.Proofs.Ybulksqo.Keep

theorem row_slice {W : World} {B n : Nat} {e : TypeId} {size : Nat} {sv : Value} {xs : List Value} (h : W.ownsRow B e size sv n xs) : ∃ a c, sv = .slice a n c := by
  rcases h.2 with ⟨rfl, rfl⟩ | ⟨g, cap, cur, rfl, _⟩
  · exact ⟨_, _, rfl⟩
  · exact ⟨_, _, rfl⟩

theorem add_lit' (g j : Nat) : (⟨g, 0, none⟩ : Addr).add j = ⟨g, j, none⟩ := by unfold Addr.add; split <;> simp_all

/-- the cells of a departure in the node's row -/
theorem dep_cells {W : World} {B n c : Nat} {a : Option Addr} {ms : List Nat} {ex : List Value} {j m : Nat} (h : W.ownsRow B 75 4 (.slice a n c) n (deps 0 ms ++ ex)) (hm : ms[j]? = some m) :
    ∃ g, a = some ⟨g, 0, none⟩ ∧ g < W.heap.size ∧ W.cell? ⟨g, j * 4, none⟩ = some (ptr m) ∧ W.cell? ⟨g, j * 4 + 1, none⟩ = some (.int .u64 (j : Int)) ∧ W.cell? ⟨g, j * 4 + 2, none⟩ = some (.int .i64 0) ∧ W.cell? ⟨g, j * 4 + 3, none⟩ = some (.pointer none) := by
  obtain ⟨t0, t1, t2, t3⟩ := deps_get ms 0 j m hm
  rw [Nat.zero_add] at t1
  have up : ∀ i v, (deps 0 ms)[i]? = some v → (deps 0 ms ++ ex)[i]? = some v := fun i v hv => by
    rw [List.getElem?_append_left (List.getElem?_eq_some_iff.1 hv).1]; exact hv
  rcases h.2 with ⟨e, h1⟩ | ⟨g, cap, cur, e, _, hg, _⟩
  · have hl := h.1
    rw [h1] at hl
    have := (List.getElem?_eq_some_iff.1 (up _ _ t0)).1
    omega
  · simp only [Value.slice.injEq, true_and] at e
    obtain ⟨rfl, rfl⟩ := e
    have k := h.cells (g := g) rfl
    have e0 := k _ _ (up _ _ t0)
    have e1 := k _ _ (up _ _ t1)
    have e2 := k _ _ (up _ _ t2)
    have e3 := k _ _ (up _ _ t3)
    rw [add_lit'] at e0 e1 e2 e3
    exact ⟨g, rfl, (Array.getElem?_eq_some_iff.1 hg).1, e0, e1, e2, e3⟩

/-- the cells of the last departure -/
theorem last_cells {W : World} {B n c : Nat} {a : Option Addr} {ms : List Nat} {v0 v1 v2 v3 : Value} (h : W.ownsRow B 75 4 (.slice a n c) n (deps 0 ms ++ [v0, v1, v2, v3])) :
    ∃ g, a = some ⟨g, 0, none⟩ ∧ g < W.heap.size ∧ W.cell? ⟨g, ms.length * 4, none⟩ = some v0 ∧ W.cell? ⟨g, ms.length * 4 + 1, none⟩ = some v1 ∧ W.cell? ⟨g, ms.length * 4 + 2, none⟩ = some v2 ∧ W.cell? ⟨g, ms.length * 4 + 3, none⟩ = some v3 := by
  have hd := deps_length ms 0
  have up : ∀ i, (deps 0 ms ++ [v0, v1, v2, v3])[ms.length * 4 + i]? = [v0, v1, v2, v3][i]? := fun i => by
    rw [List.getElem?_append_right (by omega), hd, Nat.add_sub_cancel_left]
  rcases h.2 with ⟨e, h1⟩ | ⟨g, cap, cur, e, _, hg, _⟩
  · have hl := h.1
    rw [h1] at hl
    simp at hl
  · simp only [Value.slice.injEq, true_and] at e
    obtain ⟨rfl, rfl⟩ := e
    have k := h.cells (g := g) rfl
    have e0 := k (ms.length * 4 + 0) v0 ((up 0).trans rfl)
    have e1 := k (ms.length * 4 + 1) v1 ((up 1).trans rfl)
    have e2 := k (ms.length * 4 + 2) v2 ((up 2).trans rfl)
    have e3 := k (ms.length * 4 + 3) v3 ((up 3).trans rfl)
    rw [add_lit'] at e0 e1 e2 e3
    exact ⟨g, rfl, (Array.getElem?_eq_some_iff.1 hg).1, e0, e1, e2, e3⟩

/-- ahead of holdGone: the new member lies in the newest block -/
theorem Inv.ready {w : World} {N Q O B K : Nat} {ft na sa nb sb : Int} {ms : List Nat} {gv : Value} {W : World} (h : Inv w N Q O B K ft na sa nb sb ms gv W) (A : Array Value) (g0 : Int) (h10 : A[10]? = some (.int .i64 g0)) :
    Ready B N W.heap.size ft na sa none gv ms.length (deps 0 ms) (W.alloc (.cells A 73)) := by
  have hK : Keeps (fun _ => False) W (W.alloc (.cells A 73)) := (Keeps.refl _ W).alloc _
  have hlN := h.lN
  have hbs := h.base
  have lN : N < W.heap.size := by omega
  have c := fun j => hK.cell (o := j) lN (fun e => e)
  exact ⟨by omega, (c 13).trans h.ftc, (c 18).trans h.s0, (c 19).trans h.s1, (c 20).trans h.s2, (c 43).trans h.gone, (hK.frozen lN (fun e => e)).trans h.fN, ⟨g0, cell_new1 _ _ _ _ _ h10⟩, by
      have h1 := heap_alloc_new W (.cells A 73)
      unfold World.frozen?
      simp only [h1]
      simp, h.row.alloc _, by simp; omega, h.free N hlN, fun e => by have := (h.row.lt _ e).2; omega⟩

/-- behind holdGone: what the law still reads -/
structure Behind (w : World) (Q O K : Nat) (nb sb : Int) (ms : List Nat) (W : World) : Prop where
  below : Below w.heap.size w W
  lQ : Q < W.heap.size
  lO : O < W.heap.size
  q0 : W.cell? ⟨Q, 0, none⟩ = some (.int .u64 nb)
  q1 : W.cell? ⟨Q, 1, none⟩ = some (.int .i64 sb)
  q2 : W.cell? ⟨Q, 2, none⟩ = some (.pointer none)
  olds : ∀ j m, ms[j]? = some m → W.cell? ⟨O, j, none⟩ = some (ptr m)

theorem Inv.behind {w : World} {N Q O B K : Nat} {ft na sa nb sb d : Int} {ms : List Nat} {gv : Value} {W w5 : World} (h : Inv w N Q O B K ft na sa nb sb ms gv W) (hK : ms.length = K) (A : Array Value)
    (hl : Left B N W.heap.size ft nb sb d none gv ms.length (deps 0 ms) (W.alloc (.cells A 73)) w5) : Behind w Q O K nb sb ms w5 := by
  have hk := hl.keeps
  have hlQ := h.lQ
  have hlO := h.lO
  have hlN := h.lN
  have hbN := h.bN
  have hbs := h.base
  have hsz : (W.alloc (.cells A 73)).heap.size = W.heap.size + 1 := by simp
  have hb1 : Below w.heap.size w (W.alloc (.cells A 73)) := h.below.alloc h.below.size _
  have nQ : ¬ (Q = N ∨ Q = W.heap.size ∨ gv.ownBlock = some Q) := fun e => by
    rcases e with e | e | e
    · exact h.nQN e
    · omega
    · exact h.free Q hlQ e
  have nO : ¬ (O = N ∨ O = W.heap.size ∨ gv.ownBlock = some O) := fun e => by
    rcases e with e | e | e
    · exact h.nNO e.symm
    · omega
    · exact h.free O hlO e
  have hq := fun j => (hk.cell (o := j) (show Q < _ by omega) nQ).trans (((Keeps.refl (fun _ => False) W).alloc (.cells A 73)).cell (show Q < W.heap.size by omega) (fun e => e))
  have ho : w5.ownsRow w.heap.size 65 1 (.slice (some ⟨O, 0, none⟩) K K) K (ms.map ptr ++ List.replicate (K - ms.length) (.pointer none)) := hk.owns (h.olds.alloc _) (fun g hg e => by
    have hgO : O = g := by simpa [Value.ownBlock] using hg
    subst hgO
    exact nO e)
  have hw := h.below.size
  have hs5 := hk.size
  refine ⟨hb1.trans (hk.below (by omega) (fun k hk' e => ?_)), by omega, by omega, (hq 0).trans h.q0, (hq 1).trans h.q1, (hq 2).trans h.q2, fun j m hm => ?_⟩
  · rcases e with e | e | e
    · omega
    · omega
    · exact h.free k (by omega) e
  · have hj := (List.getElem?_eq_some_iff.1 hm).1
    rw [ho.cellAt j (by omega), List.getElem?_append_left (by simpa using hj), List.getElem?_map, hm]
    rfl

end Go.Proofs.Ybulksqo.Hold
