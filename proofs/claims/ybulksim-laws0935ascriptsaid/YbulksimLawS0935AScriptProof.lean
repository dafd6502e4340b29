/- A proof of Rows.LawS0935AScriptSaid (lock.LawS0935AScript). The frame is after the kit's shell for laws over slices, turned to a slice of structs; the walk lies in YbulksimScriptWalk. By an AI agent. -/
import Derived.Test.YbulksimRows
import Derived.WalkKit
import Derived.ProofKit
import Derived.OpenShut
import Derived.ShutString
import Derived.ChangeOld
import Derived.Below
import Derived.Test.YbulksimTriples
import Derived.Test.YbulksimScriptWalk
namespace Go.Proofs.Ybulksim.lawS0935AScript
open Go.ChangeShapes Go.WideShapes Go.ChangeAt Go.RowKit
set_option linter.unusedVariables false

theorem own : ownKnob Yba.prog.godebug = none := by kernel_rfl
theorem laidOut : laidOutB Yba.prog = true := by kernel_rfl

/-- the script, as the walk is told of it -/
theorem opened {H : Type} {enc : TypeId × Value → H} {W : World} {base : Nat} {spare : Nat → Bool} {held : Bool} {fuel : Nat} {a0 : Option Addr} {len cap : Nat} {x : DataW H × List MemPlace}
    (h : DataW.trod enc Yba.prog W base spare held fuel 32 [.slice a0 len cap] = some x) :
    0 < len → ∃ b off, a0 = some ⟨b, off, none⟩ ∧ b < W.heap.size ∧ ∀ j, j < len → ∃ o t m : Int, (0 ≤ o ∧ o ≤ 255) ∧ (0 ≤ t ∧ t ≤ 255) ∧ (0 ≤ m ∧ m ≤ 255) ∧
      W.cell? ⟨b, off + j * 3, none⟩ = some (.int .u8 o) ∧ W.cell? ⟨b, off + j * 3 + 1, none⟩ = some (.int .u8 t) ∧ W.cell? ⟨b, off + j * 3 + 2, none⟩ = some (.int .u8 m) := by
  intro h0
  rcases open_triples Yba.underlying32 Yba.underlying34 (by kernel_rfl) rfl rfl rfl (by kernel_rfl) (by kernel_rfl) (by kernel_rfl) h with hcs | ⟨a, l, c, hcs, hl, hm, hx⟩
  · simp at hcs
    omega
  · simp at hcs
    obtain ⟨rfl, rfl, rfl⟩ := hcs
    obtain ⟨b, off, spot⟩ := a
    have hspot : spot = none := by
      obtain ⟨n, v0, v1, v2, x0, x1, x2, e0, _⟩ := hx 0 h0
      simpa [Addr.add] using World.cell?_spot e0
    subst hspot
    refine ⟨b, off, rfl, ?_, fun j hj => ?_⟩
    · obtain ⟨n, v0, v1, v2, x0, x1, x2, e0, _⟩ := hx 0 h0
      rw [add_plain] at e0
      exact block_lt_of_cell e0
    · obtain ⟨n, v0, v1, v2, x0, x1, x2, e0, e1, e2, t0, t1, t2⟩ := hx j hj
      obtain ⟨o, ho, _, wo⟩ := DataW.trod_int Yba.underlying5 t0
      obtain ⟨t, ht, _, wt⟩ := DataW.trod_int Yba.underlying5 t1
      obtain ⟨m, hm, _, wm⟩ := DataW.trod_int Yba.underlying5 t2
      simp at ho ht hm
      subst ho ht hm
      rw [add_plain] at e0 e1 e2
      exact ⟨o, t, m, bounds_u8 wo, bounds_u8 wt, bounds_u8 wm, e0, e1, e2⟩

/-! ### THE ROW's STEP -/
set_option maxRecDepth 100000 in
theorem lifted (os : Os) (started : os.Started) (H : Type) (enc : TypeId × Value → H) :
    ReturnsInHanded {} Yba.checked os 4 .any (Rows.lawS0935AScriptSpec.pre6 enc Yba.prog Yba.f4 Rows.lawS0935AScriptRow.domain false) (Rows.lawS0935AScriptSpec.post enc Yba.prog Yba.f4 false true false false) := by
  refine returnsInHanded_of_change (C := Yba.checked) own started (by kernel_rfl) Yba.func4
    (ChangeSpec.witness6 (enc := enc) (C := Yba.checked) false ⟨#[], #[.slice none 0 0], []⟩ 8 (by kernel_rfl) (by kernel_rfl) (by kernel_rfl) (by kernel_rfl)) ?_
  intro W base args ds gs before hval0 hW hcnd _
  have hval : ∀ (j : Nat) t v, Yba.f4.params[j]? = some t → args[j]? = some v → Value.okWide Yba.prog W .any base t v := hval0
  have hW' := hW
  obtain ⟨p, q, hA0, hV, rfl, hfz, hnd⟩ := hW
  have hA : DataW.TrodAll enc Yba.prog W 0 (fun _ => true) true Yba.f4.params.toList args.toList ds p := hA0
  rw [Yba.params4] at hA hval
  obtain ⟨v0, vs0, d0, ds0, p0, q0, hargs, rfl, rfl, h0, r0⟩ := trodAll_cons hA
  obtain ⟨rfl, rfl, rfl⟩ := trodAll_nil r0
  obtain rfl : args = #[v0] := by cases args; simp_all
  obtain ⟨rfl, rfl⟩ := trodVars_none hV
  obtain ⟨a0, len0, cap0, rfl⟩ := okWide_slice Yba.underlying32 (hval 0 32 v0 rfl rfl)
  have k0 := h0
  have lt0 : ∀ x ∈ p0, x.block < W.heap.size := by obtain ⟨m, hm⟩ := k0; exact DataW.trod_lt m _ _ _ hm
  have w0 : 0 < len0 → ∃ b off, a0 = some ⟨b, off, none⟩ ∧ b < W.heap.size ∧ ∀ j, j < len0 → ∃ o t m : Int, (0 ≤ o ∧ o ≤ 255) ∧ (0 ≤ t ∧ t ≤ 255) ∧ (0 ≤ m ∧ m ≤ 255) ∧
      W.cell? ⟨b, off + j * 3, none⟩ = some (.int .u8 o) ∧ W.cell? ⟨b, off + j * 3 + 1, none⟩ = some (.int .u8 t) ∧ W.cell? ⟨b, off + j * 3 + 2, none⟩ = some (.int .u8 m) := by
    obtain ⟨fuel, hf⟩ := h0
    exact opened (by simpa [Value.cells] using hf)
  clear hA0 hval0
  refine (walk a0 len0 cap0 W w0).mono fun e W' ⟨he, bel⟩ => ?_
  subst he
  exact ⟨_, rfl, _, _, _, [], _, [], hW', trodAll_mk1 (shut_bool Yba.underlying4 _), (trodAll_cons_mk (Below.trod laidOut (by kernel_rfl) (of_decide_eq_true (by kernel_rfl)) k0 bel lt0) trodAll_mk0), rfl, bel.frame _, fun h => by cases h⟩

theorem over : Rows.lawS0935AScriptRow.holds Yba.pinned (OpenSpec.ofChange Rows.lawS0935AScriptSpec) :=
  OpenClaim.holds_of_wide 4 Yba.f4 rfl rfl rfl rfl rfl rfl rfl ⟨rfl, rfl, rfl, rfl, rfl⟩ rfl rfl rfl rfl rfl (by kernel_rfl) Yba.func4 (by kernel_rfl)
    (of_decide_eq_true (by kernel_rfl)) (by unfold Func.isWrapper; first | (rw [if_pos (by decide +kernel)]; kernel_rfl) | (rw [if_neg (by decide +kernel)]; exact ⟨rfl, rfl⟩))
    (fun os started H enc _ => lifted os started H enc)

/-- THE STATEMENT -/
theorem proved : Rows.LawS0935AScriptSaid := over
#print axioms proved
end Go.Proofs.Ybulksim.lawS0935AScript
