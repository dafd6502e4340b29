/- A proof of Rows.LawS0946BSplitSaid (decisioncombiner.LawS0946BSplit). The frame is after the kit's shell for laws over slices, turned to a slice of structs; the walk lies in YbulksokSplitWalk. By an AI agent. -/
import Derived.Test.YbulksokRows
import Derived.WalkKit
import Derived.ProofKit
import Derived.OpenShut
import Derived.ShutString
import Derived.ChangeOld
import Derived.Below
import Derived.Test.YbulksokTriples
import Derived.Test.YbulksokSplitWalk
namespace Go.Proofs.Ybulksok.Split
open Go.ChangeShapes Go.WideShapes Go.ChangeAt Go.RowKit Go.Deep
set_option linter.unusedVariables false

theorem own : ownKnob Yba.prog.godebug = none := by kernel_rfl
theorem laidOut : laidOutB Yba.prog = true := by kernel_rfl

/-- the items, as the walk is told of them -/
theorem opened {H : Type} {enc : TypeId × Value → H} {W : World} {base : Nat} {spare : Nat → Bool} {held : Bool} {fuel : Nat} {a0 : Option Addr} {len cap : Nat} {x : DataW H × List MemPlace}
    (h : DataW.trod enc Yba.prog W base spare held fuel 29 [.slice a0 len cap] = some x) : ∃ its : List It, its.length = len ∧ Lies W a0 its := by
  rcases open_triples Yba.underlying29 Yba.underlying34 (by kernel_rfl) rfl rfl rfl (by kernel_rfl) (by kernel_rfl) (by kernel_rfl) h with hcs | ⟨a, l, c, hcs, hl, hm, hx⟩
  · simp at hcs
    exact ⟨[], by simp [hcs.2.1], fun h0 => by simp at h0⟩
  · simp at hcs
    obtain ⟨rfl, rfl, rfl⟩ := hcs
    by_cases h0 : len = 0
    · exact ⟨[], by simp [h0], fun h0 => by simp at h0⟩
    obtain ⟨b, off, spot⟩ := a
    have hspot : spot = none := by
      obtain ⟨n, v0, v1, v2, x0, x1, x2, e0, _⟩ := hx 0 (by omega)
      simpa [Addr.add] using World.cell?_spot e0
    subst hspot
    have hlt : b < W.heap.size := by
      obtain ⟨n, v0, v1, v2, x0, x1, x2, e0, _⟩ := hx 0 (by omega)
      rw [add_plain] at e0
      exact block_lt_of_cell e0
    obtain ⟨F, hF⟩ := choose_lt (α := It) (p := fun j x => W.cell? ⟨b, off + j * 3, none⟩ = some (.bool x.1) ∧ W.cell? ⟨b, off + j * 3 + 1, none⟩ = some (.string x.2.1) ∧ W.cell? ⟨b, off + j * 3 + 2, none⟩ = some (.string x.2.2)) (fun j hj => by
      obtain ⟨n, v0, v1, v2, x0, x1, x2, e0, e1, e2, t0, t1, t2⟩ := hx j hj
      obtain ⟨o, ho, _⟩ := DataW.trod_bool Yba.underlying4 t0
      obtain ⟨t, ht, _⟩ := DataW.trod_string Yba.underlying9 t1
      obtain ⟨m, hm, _⟩ := DataW.trod_string Yba.underlying9 t2
      simp at ho ht hm
      subst ho ht hm
      rw [add_plain] at e0 e1 e2
      exact ⟨(o, t, m), e0, e1, e2⟩)
    refine ⟨(List.range len).map F, by simp, fun _ => ⟨b, off, rfl, hlt, fun j x hx => ?_⟩⟩
    rw [List.getElem?_map] at hx
    have hj : j < len := by
      rcases Nat.lt_or_ge j len with h | h
      · exact h
      · simp [List.getElem?_eq_none (show (List.range len).length ≤ j by simpa using h)] at hx
    simp [List.getElem?_range hj] at hx
    subst hx
    exact hF j hj

/-! ### THE ROW's STEP -/
set_option maxRecDepth 100000 in
theorem lifted (os : Os) (started : os.Started) (H : Type) (enc : TypeId × Value → H) :
    ReturnsInHanded {} Yba.checked os 4 .any (Rows.lawS0946BSplitSpec.pre6 enc Yba.prog Yba.f4 Rows.lawS0946BSplitRow.domain false) (Rows.lawS0946BSplitSpec.post enc Yba.prog Yba.f4 false true false false) := by
  refine returnsInHanded_of_change (C := Yba.checked) own started (by kernel_rfl) Yba.func4
    (ChangeSpec.witness6 (enc := enc) (C := Yba.checked) false ⟨#[], #[.bool false, .slice none 0 0], []⟩ 8 (by kernel_rfl) (by kernel_rfl) (by kernel_rfl) (by kernel_rfl)) ?_
  intro W base args ds gs before hval0 hW hcnd _
  have hval : ∀ (j : Nat) t v, Yba.f4.params[j]? = some t → args[j]? = some v → Value.okWide Yba.prog W .any base t v := hval0
  have hW' := hW
  obtain ⟨p, q, hA0, hV, rfl, hfz, hnd⟩ := hW
  have hA : DataW.TrodAll enc Yba.prog W 0 (fun _ => true) true Yba.f4.params.toList args.toList ds p := hA0
  rw [Yba.params4] at hA hval
  obtain ⟨v0, vs0, d0, ds0, p0, q0, hargs, rfl, rfl, h0, r0⟩ := trodAll_cons hA
  obtain ⟨v1, vs1, d1, ds1, p1, q1, rfl, rfl, rfl, h1, r1⟩ := trodAll_cons r0
  obtain ⟨rfl, rfl, rfl⟩ := trodAll_nil r1
  obtain rfl : args = #[v0, v1] := by cases args; simp_all
  obtain ⟨rfl, rfl⟩ := trodVars_none hV
  obtain ⟨a0, rfl, rfl, rfl⟩ := open_bool Yba.underlying4 (hval 0 4 v0 rfl rfl) h0
  obtain ⟨a1, len1, cap1, rfl⟩ := okWide_slice Yba.underlying29 (hval 1 29 v1 rfl rfl)
  have k1 := h1
  have lt1 : ∀ x ∈ p1, x.block < W.heap.size := by obtain ⟨m, hm⟩ := k1; exact DataW.trod_lt m _ _ _ hm
  obtain ⟨its, rfl, w1⟩ : ∃ its : List It, its.length = len1 ∧ Lies W a1 its := by
    obtain ⟨fuel, hf⟩ := h1
    exact opened (by simpa [Value.cells] using hf)
  clear hA0 hval0
  refine (walk a0 a1 cap1 its W w1).mono fun e W' ⟨he, bel⟩ => ?_
  subst he
  exact ⟨_, rfl, _, _, _, [], _, [], hW', trodAll_mk1 (shut_bool Yba.underlying4 _), (trodAll_cons_mk (shut_bool Yba.underlying4 _) (trodAll_cons_mk (Below.trod laidOut (by kernel_rfl) (of_decide_eq_true (by kernel_rfl)) k1 bel lt1) trodAll_mk0)), rfl, bel.frame _, fun h => by cases h⟩

theorem over : Rows.lawS0946BSplitRow.holds Yba.pinned (OpenSpec.ofChange Rows.lawS0946BSplitSpec) :=
  OpenClaim.holds_of_wide 4 Yba.f4 rfl rfl rfl rfl rfl rfl rfl ⟨rfl, rfl, rfl, rfl, rfl⟩ rfl rfl rfl rfl rfl (by kernel_rfl) Yba.func4 (by kernel_rfl)
    (of_decide_eq_true (by kernel_rfl)) (by unfold Func.isWrapper; first | (rw [if_pos (by decide +kernel)]; kernel_rfl) | (rw [if_neg (by decide +kernel)]; exact ⟨rfl, rfl⟩))
    (fun os started H enc _ => lifted os started H enc)

/-- THE STATEMENT -/
theorem proved : Rows.LawS0946BSplitSaid := over
#print axioms proved
end Go.Proofs.Ybulksok.Split
