/- Plain lemmas on worlds and lists for the script's proof: no Go function in sight. By an AI agent. -/
import Derived.WalkKit
import Derived.Laws.IdiomCopy
import Derived.Below
import Derived.Deep.Draws
namespace Go.Proofs.Ybulksim.Keep
open Go.RowKit

/-- w' is w with new blocks, and with writes to the blocks of S alone. -/
structure Keeps (S : Nat → Prop) (w w' : World) : Prop where
  os : w'.os = w.os
  tape : w'.tape = w.tape
  output : w'.output = w.output
  size : w.heap.size ≤ w'.heap.size
  block : ∀ k, k < w.heap.size → ¬ S k → w'.heap[k]? = w.heap[k]?

theorem Keeps.refl (S : Nat → Prop) (w : World) : Keeps S w w := ⟨rfl, rfl, rfl, Nat.le_refl _, fun _ _ _ => rfl⟩
theorem Keeps.trans {S : Nat → Prop} {a b c : World} (h : Keeps S a b) (k : Keeps S b c) : Keeps S a c :=
  ⟨k.os.trans h.os, k.tape.trans h.tape, k.output.trans h.output, Nat.le_trans h.size k.size, fun i hi hs => (k.block i (Nat.lt_of_lt_of_le hi h.size) hs).trans (h.block i hi hs)⟩
theorem Keeps.mono {S T : Nat → Prop} {a b : World} (h : Keeps S a b) (k : ∀ i, i < a.heap.size → S i → T i) : Keeps T a b := ⟨h.os, h.tape, h.output, h.size, fun i hi ht => h.block i hi (fun hs => ht (k i hi hs))⟩
theorem Keeps.drewN {S : Nat → Prop} {a b : World} (h : Keeps S a b) (n : Nat) : Keeps S a (b.drewN n) := ⟨h.os, h.tape, h.output, h.size, h.block⟩
theorem Keeps.drew {S : Nat → Prop} {a b : World} (h : Keeps S a b) : Keeps S a b.drew := ⟨h.os, h.tape, h.output, h.size, h.block⟩
theorem Keeps.alloc {S : Nat → Prop} {a b : World} (h : Keeps S a b) (o : Obj) : Keeps S a (b.alloc o) :=
  h.trans ⟨rfl, rfl, rfl, by simp, fun k hk _ => Below.heap_alloc _ _ _ hk⟩
theorem Keeps.setCell {S : Nat → Prop} {a b : World} (h : Keeps S a b) {p : Addr} (hp : S p.block) (u : Value) : Keeps S a (b.setCell p u) :=
  h.trans ⟨rfl, rfl, rfl, by simp [World.setCell], fun k _ hs => Below.heap_setCell _ _ _ _ (fun e => hs (e ▸ hp))⟩
theorem Keeps.grown {S : Nat → Prop} {a b c : World} {row : Option Nat} (h : Keeps S a b) (hg : b.grownBy c row) (hr : ∀ k, row = some k → S k ∨ a.heap.size ≤ k) : Keeps S a c :=
  ⟨hg.os.trans h.os, hg.tape.trans h.tape, hg.output.trans h.output, Nat.le_trans h.size hg.size, fun k hk hs => (hg.block k (Nat.lt_of_lt_of_le hk h.size) (fun e => by rcases hr k e.symm with h' | h'; exact hs h'; omega)).trans (h.block k hk hs)⟩
theorem Keeps.below {S : Nat → Prop} {a b : World} (h : Keeps S a b) {B : Nat} (hB : B ≤ a.heap.size) (hs : ∀ k, k < B → ¬ S k) : Below B a b := ⟨h.os, h.tape, h.output, h.size, fun k hk => h.block k (by omega) (hs k hk)⟩
theorem Keeps.of_below {a b : World} {S : Nat → Prop} (h : Below a.heap.size a b) : Keeps S a b := ⟨h.os, h.tape, h.output, h.size, fun k hk _ => h.block k hk⟩

theorem Keeps.owns {S : Nat → Prop} {a b : World} (h : Keeps S a b) {base : Nat} {e : TypeId} {size : Nat} {v : Value} {n : Nat} {xs : List Value} (ho : a.ownsRow base e size v n xs) (hs : ∀ g, v.ownBlock = some g → ¬ S g) : b.ownsRow base e size v n xs := by
  obtain ⟨h1, h2⟩ := ho
  refine ⟨h1, ?_⟩
  rcases h2 with h2 | ⟨g, cap, cur, rfl, hb, hg, r⟩
  · exact .inl h2
  · exact .inr ⟨g, cap, cur, rfl, hb, by rw [h.block g (Array.getElem?_eq_some_iff.1 hg).1 (hs g rfl)]; exact hg, r⟩

/-- A store into a block that is known whole. -/
theorem heap_set {w : World} {g j : Nat} {cur : Array Value} {e : TypeId} {fz : Nat × Nat} (u : Value) (h : w.heap[g]? = some (.cells cur e fz)) : (w.setCell ⟨g, j, none⟩ u).heap[g]? = some (.cells (cur.setIfInBounds j u) e fz) := by
  obtain ⟨hlt, hk⟩ := Array.getElem?_eq_some_iff.1 h
  show (w.heap.modify g _)[g]? = _
  rw [Array.getElem?_eq_getElem (by rw [Array.size_modify]; exact hlt), Array.getElem_modify_self, hk]
  rfl

/-- Several stores, in a row, into a block that is known whole. -/
theorem heap_sets {e : TypeId} {fz : Nat × Nat} {g : Nat} : ∀ (vs : List Value) (o : Nat) (w : World) (cur : Array Value), w.heap[g]? = some (.cells cur e fz) →
    ∃ cur' : Array Value, (w.setCells g o vs).heap[g]? = some (.cells cur' e fz) ∧ cur'.size = cur.size ∧ ∀ j, cur'[j]? = if o ≤ j ∧ j < o + vs.length ∧ j < cur.size then vs[j - o]? else cur[j]?
  | [], o, w, cur, h => ⟨cur, h, rfl, fun j => by rw [if_neg]; simp; omega⟩
  | v :: r, o, w, cur, h => by
    obtain ⟨cur', h1, h2, h3⟩ := heap_sets r (o + 1) (w.setCell ⟨g, o, none⟩ v) _ (heap_set v h)
    refine ⟨cur', h1, by simpa using h2, fun j => ?_⟩
    rw [h3 j]
    simp only [Array.size_setIfInBounds, List.length_cons]
    by_cases hj : j = o
    · subst hj
      rw [if_neg (by omega)]
      by_cases hs : j < cur.size
      · rw [if_pos (by omega)]; simp [hs]
      · rw [if_neg (by omega)]; simp [hs]
    · by_cases hin : o + 1 ≤ j ∧ j < o + 1 + r.length ∧ j < cur.size
      · rw [if_pos hin, if_pos (by omega)]
        rw [show j - o = (j - (o + 1)) + 1 by omega, List.getElem?_cons_succ]
      · rw [if_neg hin, if_neg (by omega)]
        rw [Array.getElem?_setIfInBounds_ne (by omega)]

theorem keeps_sets {S : Nat → Prop} {a : World} {g : Nat} (hg : S g) : ∀ (vs : List Value) (o : Nat) (b : World), Keeps S a b → Keeps S a (b.setCells g o vs)
  | [], _, _, h => h
  | v :: r, o, _, h => keeps_sets hg r (o + 1) _ (h.setCell (p := ⟨g, o, none⟩) hg v)

/-- 'append(s[:i], s[i+1:]...)', then the last cell cleared: the row owns the list without its i-th. -/
theorem owns_delete {w : World} {base g n cap i : Nat} {zs : List Int} (hown : w.ownsRow base 3 1 (.slice (some ⟨g, 0, none⟩) n cap) n (zs.map (Value.int .i64))) (hn : zs.length = n) (hi : i < n) (u : Value) :
    (((w.setCells g i ((zs.drop (i + 1)).map (Value.int .i64))).setCells g (n - 1) [u])).ownsRow base 3 1 (.slice (some ⟨g, 0, none⟩) (n - 1) cap) (n - 1) ((zs.eraseIdx i).map (Value.int .i64)) := by
  subst hn
  rcases hown.2 with ⟨h', _⟩ | ⟨g', cap', cur, h', hb, hg, hnc, hcm, hcs, htake⟩
  · simp at h'
  simp only [Value.slice.injEq, Option.some.injEq, Addr.mk.injEq, and_true, true_and] at h'
  obtain ⟨rfl, rfl⟩ := h'
  obtain ⟨c1, h1, s1, g1⟩ := heap_sets ((zs.drop (i + 1)).map (Value.int .i64)) i w cur hg
  obtain ⟨c2, h2, s2, g2⟩ := heap_sets [u] (zs.length - 1) _ c1 h1
  have hlen : (zs.eraseIdx i).length = zs.length - 1 := by rw [List.length_eraseIdx]; simp [hi]
  refine ⟨by simp [hlen], .inr ⟨g, cap, c2, rfl, hb, h2, by omega, hcm, by omega, ?_⟩⟩
  apply List.ext_getElem?
  intro j
  have hcur : ∀ j, j < zs.length → cur[j]? = some (.int .i64 (zs[j]?.getD 0)) := by
    intro j hj
    have := congrArg (fun l => l[j]?) htake
    simp only [Nat.mul_one, List.getElem?_take, hj, if_true, Array.getElem?_toList, List.getElem?_map] at this
    rw [this, List.getElem?_eq_getElem hj]
    rfl
  by_cases hj : j < zs.length - 1
  · rw [List.getElem?_take]
    simp only [Nat.mul_one, hj, if_true, Array.getElem?_toList]
    rw [g2 j, if_neg (by omega), g1 j, List.getElem?_map (l := zs.eraseIdx i), List.getElem?_eraseIdx]
    by_cases hji : j < i
    · rw [if_neg (by omega), hcur j (by omega), if_pos hji, List.getElem?_eq_getElem (by omega)]
      rfl
    · rw [if_pos ⟨by omega, by simp; omega, by omega⟩, if_neg hji, List.getElem?_map, List.getElem?_drop, show i + 1 + (j - i) = j + 1 by omega]
  · rw [List.getElem?_eq_none (by simp; omega), List.getElem?_eq_none (by simp; omega)]

/-- the first place of t in zs, -1 where there is none -/
def idx (zs : List Int) (t : Int) : Int := if t ∈ zs then (zs.idxOf t : Int) else -1

theorem not_mem_take_succ {zs : List Int} {k : Nat} {t y : Int} (h : t ∉ zs.take k) (hy : zs[k]?.getD 0 = y) (hk : k < zs.length) (hne : t ≠ y) : t ∉ zs.take (k + 1) := by
  rw [List.take_succ_eq_append_getElem hk]
  have : zs[k] = y := by rw [← hy, List.getElem?_eq_getElem hk]; rfl
  simp [h, this, hne]

theorem idx_hit {zs : List Int} {k : Nat} {t : Int} (h : t ∉ zs.take k) (hy : zs[k]?.getD 0 = t) (hk : k < zs.length) : idx zs t = k ∧ t ∈ zs ∧ zs.idxOf t = k := by
  have e : zs[k] = t := by rw [← hy, List.getElem?_eq_getElem hk]; rfl
  have hm : t ∈ zs := e ▸ List.getElem_mem hk
  have hd : zs = zs.take k ++ (t :: zs.drop (k + 1)) := by
    rw [← e, List.getElem_cons_drop, List.take_append_drop]
  have hi : zs.idxOf t = k := by
    rw [hd, List.idxOf_append, if_neg h]
    simp
    omega
  exact ⟨by simp [idx, hm, hi], hm, hi⟩

theorem idx_miss {zs : List Int} {t : Int} (h : t ∉ zs) : idx zs t = -1 := by simp [idx, h]

theorem erase_idx {zs : List Int} {t : Int} : zs.eraseIdx (zs.idxOf t) = zs.erase t := (List.erase_eq_eraseIdx_of_idxOf rfl).symm

/-- one round of the copy that leaves out the i-th -/
theorem skip_step {M : List Int} {k i : Nat} (hk : k < M.length) : (M.take (k + 1)).eraseIdx i = if k = i then (M.take k).eraseIdx i else (M.take k).eraseIdx i ++ [M[k]?.getD 0] := by
  rw [List.take_succ_eq_append_getElem hk, List.getElem?_eq_getElem hk]
  by_cases h : k = i
  · subst h
    have hm : (M.take k).length = k := by simp; omega
    rw [if_pos rfl, List.eraseIdx_append_of_length_le (by omega), hm, Nat.sub_self, List.eraseIdx_of_length_le (l := M.take k) (by omega)]
    simp
  · rw [if_neg h]
    by_cases hlt : i < k
    · rw [List.eraseIdx_append_of_lt_length (by simp; omega)]
      rfl
    · rw [List.eraseIdx_append_of_length_le (by simp; omega)]
      rw [List.eraseIdx_of_length_le (l := M.take k) (by simp; omega)]
      rw [List.eraseIdx_of_length_le (by simp; omega)]
      rfl

end Go.Proofs.Ybulksim.Keep
