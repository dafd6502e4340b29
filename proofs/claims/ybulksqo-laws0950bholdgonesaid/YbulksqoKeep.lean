/- Plain lemmas on worlds and lists for the proof on departures: no Go function in sight. By an AI agent. -/
import Derived.WalkKit
import Derived.Laws.IdiomCopy
import Derived.Below
import Derived.Deep.Draws
namespace Go.Proofs.Ybulksqo.Keep
open Go.RowKit

/-- w' is w with new blocks, and with writes to the blocks of S alone. -/
structure Keeps (S : Nat → Prop) (w w' : World) : Prop where
  os : w'.os = w.os
  tape : w'.tape = w.tape
  output : w'.output = w.output
  size : w.heap.size ≤ w'.heap.size
  block : ∀ k, k < w.heap.size → ¬ S k → w'.heap[k]? = w.heap[k]?

theorem Keeps.refl (S : Nat → Prop) (w : World) : Keeps S w w := ⟨rfl, rfl, rfl, Nat.le_refl _, fun _ _ _ => rfl⟩
theorem Keeps.trans {S : Nat → Prop} {a b c : World} (h : Keeps S a b) (k : Keeps S b c) : Keeps S a c :=
  ⟨k.os.trans h.os, k.tape.trans h.tape, k.output.trans h.output, Nat.le_trans h.size k.size, fun i hi hs => (k.block i (Nat.lt_of_lt_of_le hi h.size) hs).trans (h.block i hi hs)⟩
theorem Keeps.mono {S T : Nat → Prop} {a b : World} (h : Keeps S a b) (k : ∀ i, i < a.heap.size → S i → T i) : Keeps T a b := ⟨h.os, h.tape, h.output, h.size, fun i hi ht => h.block i hi (fun hs => ht (k i hi hs))⟩
theorem Keeps.drewN {S : Nat → Prop} {a b : World} (h : Keeps S a b) (n : Nat) : Keeps S a (b.drewN n) := ⟨h.os, h.tape, h.output, h.size, h.block⟩
theorem Keeps.drew {S : Nat → Prop} {a b : World} (h : Keeps S a b) : Keeps S a b.drew := ⟨h.os, h.tape, h.output, h.size, h.block⟩
theorem Keeps.alloc {S : Nat → Prop} {a b : World} (h : Keeps S a b) (o : Obj) : Keeps S a (b.alloc o) :=
  h.trans ⟨rfl, rfl, rfl, by simp, fun k hk _ => Below.heap_alloc _ _ _ hk⟩
theorem Keeps.setCell {S : Nat → Prop} {a b : World} (h : Keeps S a b) {p : Addr} (hp : S p.block) (u : Value) : Keeps S a (b.setCell p u) :=
  h.trans ⟨rfl, rfl, rfl, by simp [World.setCell], fun k _ hs => Below.heap_setCell _ _ _ _ (fun e => hs (e ▸ hp))⟩
theorem Keeps.grown {S : Nat → Prop} {a b c : World} {row : Option Nat} (h : Keeps S a b) (hg : b.grownBy c row) (hr : ∀ k, row = some k → S k ∨ a.heap.size ≤ k) : Keeps S a c :=
  ⟨hg.os.trans h.os, hg.tape.trans h.tape, hg.output.trans h.output, Nat.le_trans h.size hg.size, fun k hk hs => (hg.block k (Nat.lt_of_lt_of_le hk h.size) (fun e => by rcases hr k e.symm with h' | h'; exact hs h'; omega)).trans (h.block k hk hs)⟩
theorem Keeps.below {S : Nat → Prop} {a b : World} (h : Keeps S a b) {B : Nat} (hB : B ≤ a.heap.size) (hs : ∀ k, k < B → ¬ S k) : Below B a b := ⟨h.os, h.tape, h.output, h.size, fun k hk => h.block k (by omega) (hs k hk)⟩
theorem Keeps.of_below {a b : World} {S : Nat → Prop} (h : Below a.heap.size a b) : Keeps S a b := ⟨h.os, h.tape, h.output, h.size, fun k hk _ => h.block k hk⟩

theorem Keeps.owns {S : Nat → Prop} {a b : World} (h : Keeps S a b) {base : Nat} {e : TypeId} {size : Nat} {v : Value} {n : Nat} {xs : List Value} (ho : a.ownsRow base e size v n xs) (hs : ∀ g, v.ownBlock = some g → ¬ S g) : b.ownsRow base e size v n xs := by
  obtain ⟨h1, h2⟩ := ho
  refine ⟨h1, ?_⟩
  rcases h2 with h2 | ⟨g, cap, cur, rfl, hb, hg, r⟩
  · exact .inl h2
  · exact .inr ⟨g, cap, cur, rfl, hb, by rw [h.block g (Array.getElem?_eq_some_iff.1 hg).1 (hs g rfl)]; exact hg, r⟩

theorem Keeps.cell {S : Nat → Prop} {a b : World} (h : Keeps S a b) {g o : Nat} (hg : g < a.heap.size) (hs : ¬ S g) : b.cell? ⟨g, o, none⟩ = a.cell? ⟨g, o, none⟩ := World.cell?_of_block (w := a) (h.block g hg hs)
theorem Keeps.frozen {S : Nat → Prop} {a b : World} (h : Keeps S a b) {g o : Nat} (hg : g < a.heap.size) (hs : ¬ S g) : b.frozen? ⟨g, o, none⟩ = a.frozen? ⟨g, o, none⟩ := World.frozen?_of_block (w := a) (h.block g hg hs)

end Go.Proofs.Ybulksqo.Keep
