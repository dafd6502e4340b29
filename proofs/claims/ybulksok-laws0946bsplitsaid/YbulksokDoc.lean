/- Lists of policy identifiers, as cells; the document that newPoliciesJSON builds: no walk in sight. By an AI agent. -/
import Derived.Test.YbulksokKeep
namespace Go.Proofs.Ybulksok.Split
open Go.RowKit Go.Proofs.Ybulksok.Keep

/-- an item: is it a policy set; its id; its version -/
abbrev It := Bool × ByteArray × ByteArray

def refs : List It → List Value
  | [] => []
  | x :: l => .string x.2.1 :: .string x.2.2 :: refs l
def trips : List It → List Value
  | [] => []
  | x :: l => .bool x.1 :: .string x.2.1 :: .string x.2.2 :: trips l

theorem refs_append (a b : List It) : refs (a ++ b) = refs a ++ refs b := by
  induction a with
  | nil => rfl
  | cons x l ih => simp [refs, ih]
theorem trips_append (a b : List It) : trips (a ++ b) = trips a ++ trips b := by
  induction a with
  | nil => rfl
  | cons x l ih => simp [trips, ih]
theorem refs_length (a : List It) : (refs a).length = a.length * 2 := by
  induction a with
  | nil => rfl
  | cons x l ih => simp [refs, ih]; omega
theorem trips_length (a : List It) : (trips a).length = a.length * 3 := by
  induction a with
  | nil => rfl
  | cons x l ih => simp [trips, ih]; omega
theorem refs_get : ∀ (l : List It) (i : Nat) (x : It), l[i]? = some x → (refs l)[i * 2]? = some (.string x.2.1) ∧ (refs l)[i * 2 + 1]? = some (.string x.2.2)
  | [], i, x, h => by simp at h
  | y :: l, 0, x, h => by
    simp at h
    subst h
    exact ⟨rfl, rfl⟩
  | y :: l, i + 1, x, h => by
    have := refs_get l i x (by simpa using h)
    rw [show (i + 1) * 2 = i * 2 + 1 + 1 by omega]
    exact this
theorem trips_get : ∀ (l : List It) (i : Nat) (x : It), l[i]? = some x → (trips l)[i * 3]? = some (.bool x.1) ∧ (trips l)[i * 3 + 1]? = some (.string x.2.1) ∧ (trips l)[i * 3 + 2]? = some (.string x.2.2)
  | [], i, x, h => by simp at h
  | y :: l, 0, x, h => by
    simp at h
    subst h
    exact ⟨rfl, rfl, rfl⟩
  | y :: l, i + 1, x, h => by
    have := trips_get l i x (by simpa using h)
    rw [show (i + 1) * 3 = i * 3 + 1 + 1 + 1 by omega]
    exact this

/-- the policies, and the policy sets, among the items, in their order -/
def pols (l : List It) : List It := l.filter fun x => !x.1
def sets (l : List It) : List It := l.filter fun x => x.1

theorem take_snoc {l : List It} {k : Nat} {x : It} (h : l[k]? = some x) : l.take (k + 1) = l.take k ++ [x] := by
  obtain ⟨hk, rfl⟩ := List.getElem?_eq_some_iff.1 h
  rw [List.take_succ_eq_append_getElem hk]
theorem pols_step {l : List It} {k : Nat} {x : It} (h : l[k]? = some x) : pols (l.take (k + 1)) = if x.1 then pols (l.take k) else pols (l.take k) ++ [x] := by
  rw [take_snoc h]
  unfold pols
  cases hx : x.1 <;> simp [List.filter_append, hx]
theorem sets_step {l : List It} {k : Nat} {x : It} (h : l[k]? = some x) : sets (l.take (k + 1)) = if x.1 then sets (l.take k) ++ [x] else sets (l.take k) := by
  rw [take_snoc h]
  unfold sets
  cases hx : x.1 <;> simp [List.filter_append, hx]
theorem filter_at {l : List It} {k : Nat} {x : It} (p : It → Bool) (h : l[k]? = some x) (hp : p x = true) : (l.filter p)[((l.take k).filter p).length]? = some x := by
  obtain ⟨hk, rfl⟩ := List.getElem?_eq_some_iff.1 h
  have hd : l = l.take k ++ (l[k] :: l.drop (k + 1)) := by rw [List.getElem_cons_drop, List.take_append_drop]
  have hf : l.filter p = (l.take k).filter p ++ (l[k] :: (l.drop (k + 1)).filter p) := by
    have := congrArg (List.filter p) hd
    rwa [List.filter_append, List.filter_cons, if_pos hp] at this
  rw [hf]
  simp
theorem pols_at {l : List It} {k : Nat} {x : It} (h : l[k]? = some x) (hp : x.1 = false) : (pols l)[(pols (l.take k)).length]? = some x := filter_at _ h (by simp [hp])
theorem sets_at {l : List It} {k : Nat} {x : It} (h : l[k]? = some x) (hp : x.1 = true) : (sets l)[(sets (l.take k)).length]? = some x := filter_at _ h hp
theorem pols_sets (l : List It) : (pols l).length + (sets l).length = l.length := by
  induction l with
  | nil => rfl
  | cons x l ih =>
    unfold pols sets at *
    cases hx : x.1 <;> simp [hx] <;> omega
theorem pols_le (l : List It) : (pols l).length ≤ l.length := by have := pols_sets l; omega
theorem sets_le (l : List It) : (sets l).length ≤ l.length := by have := pols_sets l; omega

/-- The document in block D: the policies' slice pv holds P, the sets' slice sv holds S, each in a row of its own (nil where there is none), from block B on. -/
structure Doc (D B : Nat) (W : World) (P S : List It) (pv sv : Value) : Prop where
  db : D < B
  size : B ≤ W.heap.size
  blk : W.heap[D]? = some (.cells #[pv, sv] 41 (0, 0))
  rp : W.ownsRow B 43 2 pv P.length (refs P)
  rs : W.ownsRow B 43 2 sv S.length (refs S)
  np : pv = .slice none 0 0 ↔ P = []
  ns : sv = .slice none 0 0 ↔ S = []
  dis : ∀ g, pv.ownBlock = some g → sv.ownBlock ≠ some g

theorem Doc.later {D B : Nat} {W W' : World} {P S : List It} {pv sv : Value} (h : Doc D B W P S pv sv) (hb : Below W.heap.size W W') : Doc D B W' P S pv sv := by
  have hk : Keeps (fun _ => False) W W' := Keeps.of_below hb
  exact ⟨h.db, Nat.le_trans h.size hb.size, (hb.block D (Nat.lt_of_lt_of_le h.db h.size)).trans h.blk, hk.owns h.rp (fun _ _ e => e), hk.owns h.rs (fun _ _ e => e), h.np, h.ns, h.dis⟩

theorem Doc.start (w : World) : Doc w.heap.size (w.heap.size + 1) (w.alloc (.cells #[.slice none 0 0, .slice none 0 0] 41)) [] [] (.slice none 0 0) (.slice none 0 0) :=
  ⟨by omega, by simp, heap_alloc_new w _, World.ownsRow_nil _ _ _ _, World.ownsRow_nil _ _ _ _, by simp, by simp, fun g hg => by cases hg⟩

/-- a policy set is appended -/
theorem Doc.addS {D B : Nat} {W w1 : World} {P S : List It} {pv sv : Value} {x : It} {tmp : Obj} {g cap : Nat} (h : Doc D B W P S pv sv) (hgrow : (W.alloc tmp).drew.grownBy w1 sv.ownBlock)
    (hown : w1.ownsRow B 43 2 (.slice (some ⟨g, 0, none⟩) (S.length + 1) cap) (S.length + 1) (refs S ++ [.string x.2.1, .string x.2.2])) (hat : sv.ownBlock = some g ∨ g = W.heap.size + 1) :
    Doc D B (w1.setCell ⟨D, 1, none⟩ (.slice (some ⟨g, 0, none⟩) (S.length + 1) cap)) P (S ++ [x]) pv (.slice (some ⟨g, 0, none⟩) (S.length + 1) cap) ∧ Keeps (fun k => B ≤ k ∨ k = D) W (w1.setCell ⟨D, 1, none⟩ (.slice (some ⟨g, 0, none⟩) (S.length + 1) cap)) := by
  have hk1 : Keeps (fun k => sv.ownBlock = some k) W w1 := (((Keeps.refl _ W).alloc tmp).drew).grown hgrow (fun k e => .inl e)
  have hdb := h.db
  have hsz := h.size
  have hD1 : w1.heap[D]? = W.heap[D]? := hk1.block D (by omega) (fun e => by have := (h.rs.lt D e).1; omega)
  have hrp1 : w1.ownsRow B 43 2 pv P.length (refs P) := hk1.owns h.rp h.dis
  have hset : Keeps (· = D) w1 (w1.setCell ⟨D, 1, none⟩ (.slice (some ⟨g, 0, none⟩) (S.length + 1) cap)) := (Keeps.refl (· = D) w1).setCell (p := ⟨D, 1, none⟩) rfl _
  have hgB := (hown.lt g rfl).1
  refine ⟨⟨h.db, Nat.le_trans h.size (Nat.le_trans hk1.size hset.size), ?_, hset.owns hrp1 (fun k hk e => by have := (hrp1.lt k hk).1; omega), hset.owns (by simpa [refs_append, refs] using hown) (fun k hk e => ?_), h.np, by simp, fun k hk he => ?_⟩, ?_⟩
  · rw [heap_set _ (hD1.trans h.blk)]
    rfl
  · have : g = k := by simpa [Value.ownBlock] using hk
    omega
  · have hkg : g = k := by simpa [Value.ownBlock] using he
    subst hkg
    rcases hat with e | e
    · exact h.dis g hk e
    · have := (h.rp.lt g hk).2; omega
  · exact (hk1.mono (fun i _ hi => .inl (h.rs.lt i hi).1)).trans (hset.mono (fun i _ hi => .inr hi))

/-- a policy is appended -/
theorem Doc.addP {D B : Nat} {W w1 : World} {P S : List It} {pv sv : Value} {x : It} {tmp : Obj} {g cap : Nat} (h : Doc D B W P S pv sv) (hgrow : (W.alloc tmp).drew.grownBy w1 pv.ownBlock)
    (hown : w1.ownsRow B 43 2 (.slice (some ⟨g, 0, none⟩) (P.length + 1) cap) (P.length + 1) (refs P ++ [.string x.2.1, .string x.2.2])) (hat : pv.ownBlock = some g ∨ g = W.heap.size + 1) :
    Doc D B (w1.setCell ⟨D, 0, none⟩ (.slice (some ⟨g, 0, none⟩) (P.length + 1) cap)) (P ++ [x]) S (.slice (some ⟨g, 0, none⟩) (P.length + 1) cap) sv ∧ Keeps (fun k => B ≤ k ∨ k = D) W (w1.setCell ⟨D, 0, none⟩ (.slice (some ⟨g, 0, none⟩) (P.length + 1) cap)) := by
  have hk1 : Keeps (fun k => pv.ownBlock = some k) W w1 := (((Keeps.refl _ W).alloc tmp).drew).grown hgrow (fun k e => .inl e)
  have hdb := h.db
  have hsz := h.size
  have hD1 : w1.heap[D]? = W.heap[D]? := hk1.block D (by omega) (fun e => by have := (h.rp.lt D e).1; omega)
  have hrs1 : w1.ownsRow B 43 2 sv S.length (refs S) := hk1.owns h.rs (fun g hg e => h.dis g e hg)
  have hset : Keeps (· = D) w1 (w1.setCell ⟨D, 0, none⟩ (.slice (some ⟨g, 0, none⟩) (P.length + 1) cap)) := (Keeps.refl (· = D) w1).setCell (p := ⟨D, 0, none⟩) rfl _
  have hgB := (hown.lt g rfl).1
  refine ⟨⟨h.db, Nat.le_trans h.size (Nat.le_trans hk1.size hset.size), ?_, hset.owns (by simpa [refs_append, refs] using hown) (fun k hk e => ?_), hset.owns hrs1 (fun k hk e => by have := (hrs1.lt k hk).1; omega), by simp, h.ns, fun k hk he => ?_⟩, ?_⟩
  · rw [heap_set _ (hD1.trans h.blk)]
    rfl
  · have : g = k := by simpa [Value.ownBlock] using hk
    omega
  · have hkg : g = k := by simpa [Value.ownBlock] using hk
    subst hkg
    rcases hat with e | e
    · exact h.dis g e he
    · have := (h.rs.lt g he).2; omega
  · exact (hk1.mono (fun i _ hi => .inl (h.rp.lt i hi).1)).trans (hset.mono (fun i _ hi => .inr hi))

end Go.Proofs.Ybulksok.Split
