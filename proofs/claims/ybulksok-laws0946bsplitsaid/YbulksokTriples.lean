/- A slice of structs of three one-cell fields, opened at every index. After the kit's law on pairs, by an AI agent. -/
import Derived.Deep.Slices
import Derived.ChangeSame
namespace Go.Proofs.Ybulksok
open Go.Deep

theorem open_triples {H : Type} {enc : TypeId × Value → H} {P : Program} {w : World} {base : Nat} {spare : Nat → Bool} {held : Bool} {t e : TypeId} {f0 f1 f2 : Field} {fuel : Nat} {cs : List Value} {x : DataW H × List MemPlace}
    (ht : P.underlying t = some (.slice e)) (he : P.underlying e = some (.struct #[f0, f1, f2])) (ce : P.cellsOf e = 3) (o0 : f0.offset = 0) (o1 : f1.offset = 1) (o2 : f2.offset = 2)
    (c0 : P.cellsOf f0.type = 1) (c1 : P.cellsOf f1.type = 1) (c2 : P.cellsOf f2.type = 1) (h : DataW.trod enc P w base spare held fuel t cs = some x) :
    cs = [.slice none 0 0] ∨ ∃ (a : Addr) (len cap : Nat), cs = [.slice (some a) len cap] ∧ len ≤ cap ∧ cap ≤ maxLen ∧
      ∀ i, i < len → ∃ (n : Nat) (v0 v1 v2 : Value) (x0 x1 x2 : DataW H × List MemPlace), w.cell? (a.add (i * 3)) = some v0 ∧ w.cell? (a.add (i * 3 + 1)) = some v1 ∧ w.cell? (a.add (i * 3 + 2)) = some v2 ∧
        DataW.trod enc P w base spare held n f0.type [v0] = some x0 ∧ DataW.trod enc P w base spare held n f1.type [v1] = some x1 ∧ DataW.trod enc P w base spare held n f2.type [v2] = some x2 := by
  rcases open_slice ht h with h0 | ⟨a, len, cap, m, n, D, Pl, rfl, hb, hl, hm, hmm, rfl, hx⟩
  · exact Or.inl h0.1
  right
  have hlm : len ≤ m := by rw [hmm]; split <;> omega
  refine ⟨a, len, cap, rfl, hl, hm, fun i hi => ?_⟩
  obtain ⟨cs', h1, h2⟩ := hx i (by omega)
  rw [ce] at h1
  obtain ⟨_, hlen, hcell⟩ := World.cells?_some h1
  obtain ⟨xs, k, hk, hxy, _, hxl, hf⟩ := DataW.trod_struct he h2
  match xs, hxl, cs', hlen with
  | [y0, y1, y2], _, [v0, v1, v2], _ =>
    have g0 := hf 0 f0 rfl
    have g1 := hf 1 f1 rfl
    have g2 := hf 2 f2 rfl
    simp [o0, o1, o2, c0, c1, c2] at g0 g1 g2
    have e0 := hcell 0 (by omega)
    have e1 := hcell 1 (by omega)
    have e2 := hcell 2 (by omega)
    rw [add_add] at e0 e1 e2
    exact ⟨k, v0, v1, v2, y0, y1, y2, by simpa using e0, by simpa using e1, by simpa using e2, g0, g1, g2⟩

end Go.Proofs.Ybulksok
