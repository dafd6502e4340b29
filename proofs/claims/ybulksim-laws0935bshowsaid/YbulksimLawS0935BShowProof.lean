/- A proof of Rows.LawS0935BShowSaid (history.LawS0935BShow). The frame is the kit's shell, written by program; the walk and its lemmas are typed by an AI agent. -/
import Derived.Test.YbulksimRows
import Derived.WalkKit
import Derived.ProofKit
import Derived.OpenShut
import Derived.ShutString
import Derived.ChangeOld
import Derived.Below
import Derived.Laws.BytesArg
import Derived.Deep.QuietTactic
import Derived.BigQuiet
import Derived.WalkSpells
import Derived.WalkLawsBesides
namespace Go.Proofs.Ybulksim.lawS0935BShow
open Go.ChangeShapes Go.WideShapes Go.ChangeAt Go.RowKit
open Go.ChangeMaps (open_string shut_string)
set_option linter.unusedVariables false

theorem own : ownKnob Yba.prog.godebug = none := by kernel_rfl
theorem laidOut : laidOutB Yba.prog = true := by kernel_rfl

/-- WHAT THE WALK IS TOLD OF A SLICE OF INTEGERS THAT CAME IN: it is nil; or it leads to a row of 'cap' cells, the numbers 'zs' (the first 'len' are its elements, the rest its spare room), each fitting its kind. -/
def IsRow (k : IntKind) (w : World) (a : Option Addr) (len cap : Nat) (zs : List Int) : Prop :=
  (a = none ∧ len = 0 ∧ cap = 0 ∧ zs = []) ∨
  ∃ x, a = some x ∧ len ≤ cap ∧ cap ≤ maxLen ∧ zs.length = cap ∧ (∀ i, i < zs.length → w.cell? (x.add i) = some (.int k (zs.getD i 0))) ∧ ∀ n ∈ zs, (Lit.int k n).wf = true

/-! ### THE CONVERSION: whatever the slice (nil, empty, or with elements) -/
theorem conv_any {a : Option Addr} {len cap : Nat} {zs : List Int} {w : World} (h : IsRow .u8 w a len cap zs) :
    (convert 38 9 (.slice a len cap)).run Yba.prog w = .ok (.string (strOfNums (zs.take len))) w := by
  rcases h with ⟨rfl, rfl, rfl, rfl⟩ | ⟨x, rfl, hl, hm, hz, hc, hw⟩
  · exact run_convert_bytes_nil w 38 5 Yba.underlying38 Yba.underlying5 0 0 9 Yba.underlying9
  · by_cases h0 : 0 < zs.length
    · obtain ⟨b, off, rfl, hc'⟩ := ints_at hc h0
      exact run_convert_bytes_arg w 38 5 Yba.underlying38 Yba.underlying5 b off len cap (zs.take len) (by simp; omega) (fun i hi => by rw [hc' i (by omega)]; simp [List.getD, hi]) 9 Yba.underlying9
    · have e0 : zs = [] := by cases zs <;> simp_all
      subst e0
      obtain rfl : len = 0 := by simp at hz; omega
      rw [run_convert_bytes_string w 38 9 5 _ 0 cap Yba.underlying38 Yba.underlying5 Yba.underlying9]
      exact run_bytesToString w x 0 cap [] (run_loadCells_list (P := Yba.prog) w x [] (fun j v hj => by simp at hj))

theorem show_yes {a : Option Addr} {len cap : Nat} {zs : List Int} {w : World} (h : IsRow .u8 w a len cap zs) :
    Calls Yba.prog 12 #[.slice a len cap, .bool true] w fun e w' => e = .returned (.string (strOfNums (zs.take len))) ∧ w = w' := by
  have hcv := conv_any h
  clear h
  go_enter Yba.func12, Yba.ntmps12
  go_wp2
  go_ret
  exact ⟨rfl, rfl⟩

theorem chars {zs : List Int} (hw : ∀ n ∈ zs, (Lit.int .u8 n).wf = true) (len k : Nat) (hlen : len ≤ zs.length) (hk : k < len) (hs : k < (strOfNums (zs.take len)).size) :
    (((strOfNums (zs.take len))[k]'hs).toNat : Int) = zs[k]?.getD 0 := by
  have hk' : k < zs.length := by omega
  have e : ((strOfNums (zs.take len))[k]'hs) = UInt8.ofNat zs[k].toNat := by
    show ((strOfNums (zs.take len)).data[k]'hs) = _
    simp [strOfNums]
  have b := bounds_u8 (hw zs[k] (List.getElem_mem hk'))
  rw [e, List.getElem?_eq_getElem hk']
  simp
  omega

/-! ### STEP 1: THE WALK -/
set_option maxHeartbeats 400000 in
theorem walk (a0 : Option Addr) (len0 cap0 : Nat) (z0 : List Int) (a1 : Bool) (w : World) (w0 : IsRow .u8 w a0 len0 cap0 z0) :
    Calls Yba.prog 5 #[.slice a0 len0 cap0, .bool a1] w fun e w' => e = .returned (.bool true) ∧ Below w.heap.size w w' := by
  by_cases hbig : (65536 : Int) < (len0 : Int)
  · go_enter Yba.func5, Yba.ntmps5
    go_wp2
    go_ret
    exact ⟨rfl, Below.refl _ _⟩
  cases a1
  · go_enter Yba.func5, Yba.ntmps5
    go_wp2
    go_ret
    exact ⟨rfl, Below.refl _ _⟩
  · have hsh := show_yes w0
    have hlen : len0 ≤ z0.length := by
      rcases w0 with ⟨rfl, rfl, rfl, rfl⟩ | ⟨x, rfl, hl, hm, hz, hc, hw⟩ <;> omega
    have hwf : ∀ n ∈ z0, (Lit.int .u8 n).wf = true := by
      rcases w0 with ⟨rfl, rfl, rfl, rfl⟩ | ⟨x, rfl, hl, hm, hz, hc, hw⟩
      · intro n hn; simp at hn
      · exact hw
    have hch := fun k => chars hwf len0 k hlen
    have hsz : (strOfNums (z0.take len0)).size = len0 := by rw [strOfNums_size]; simp; omega
    have hcells : 0 < len0 → ∃ b off, a0 = some ⟨b, off, none⟩ ∧ ∀ j, j < len0 → w.cell? ⟨b, off + j, none⟩ = some (.int .u8 (z0.getD j 0)) := by
      intro h0
      rcases w0 with ⟨rfl, rfl, rfl, rfl⟩ | ⟨x, rfl, hl, hm, hz, hc, hw⟩
      · omega
      · obtain ⟨b, off, rfl, hc'⟩ := ints_at hc (by omega)
        exact ⟨b, off, rfl, fun j hj => hc' j (by omega)⟩
    have hcap : len0 ≤ cap0 := by
      rcases w0 with ⟨rfl, rfl, rfl, rfl⟩ | ⟨x, rfl, hl, hm, hz, hc, hw⟩ <;> omega
    generalize strOfNums (z0.take len0) = s at hsh hch hsz
    clear w0 hwf
    go_enter Yba.func5, Yba.ntmps5
    go_wp2_with (go_at_call 12; refine hsh.mono ?_; rintro e w' ⟨rfl, rfl⟩)
    go_loopw [6] (fun i wr => ∃ k n : Nat, k ≤ len0 ∧ i = .int .i64 k ∧ wr = w.drewN n) (fun i _ => len0 - (intOf i).toNat)
    case atStart => exact ⟨0, 0, Nat.zero_le _, rfl, rfl⟩
    case round =>
      obtain ⟨k, n, hk, rfl, rfl⟩ := hrel
      by_cases hlt : k < len0
      · obtain ⟨b, off, rfl, hc⟩ := hcells (by omega)
        have hck := hc k hlt
        have h1 := hch k hlt (by omega)
        clear hc hcells hch hsh
        go_wp2
        go_quiet (fail)
        go_wp2
        go_roundw
        case rel => exact ⟨k + 1, _, by omega, by go_num, rfl⟩
        case measure => simp [intOf]; omega
      · go_wp2
        go_ret
        exact ⟨rfl, below_drewN (Below.refl _ _) _⟩

/-! ### THE ROW's STEP: WRITTEN OUT: LEAVE IT -/
set_option maxRecDepth 100000 in
theorem lifted (os : Os) (started : os.Started) (H : Type) (enc : TypeId × Value → H) :
    ReturnsInHanded {} Yba.checked os 5 .any (Rows.lawS0935BShowSpec.pre6 enc Yba.prog Yba.f5 Rows.lawS0935BShowRow.domain false) (Rows.lawS0935BShowSpec.post enc Yba.prog Yba.f5 false true false false) := by
  refine returnsInHanded_of_change (C := Yba.checked) own started (by kernel_rfl) Yba.func5
    (ChangeSpec.witness6 (enc := enc) (C := Yba.checked) false ⟨#[], #[.slice none 0 0, .bool false], []⟩ 8 (by kernel_rfl) (by kernel_rfl) (by kernel_rfl) (by kernel_rfl)) ?_
  intro W base args ds gs before hval0 hW hcnd _
  have hval : ∀ (j : Nat) t v, Yba.f5.params[j]? = some t → args[j]? = some v → Value.okWide Yba.prog W .any base t v := hval0
  have hW' := hW
  obtain ⟨p, q, hA0, hV, rfl, hfz, hnd⟩ := hW
  have hA : DataW.TrodAll enc Yba.prog W 0 (fun _ => true) true Yba.f5.params.toList args.toList ds p := hA0
  rw [Yba.params5] at hA hval
  obtain ⟨v0, vs0, d0, ds0, p0, q0, hargs, rfl, rfl, h0, r0⟩ := trodAll_cons hA
  obtain ⟨v1, vs1, d1, ds1, p1, q1, rfl, rfl, rfl, h1, r1⟩ := trodAll_cons r0
  obtain ⟨rfl, rfl, rfl⟩ := trodAll_nil r1
  obtain rfl : args = #[v0, v1] := by cases args; simp_all
  obtain ⟨rfl, rfl⟩ := trodVars_none hV
  obtain ⟨a0, len0, cap0, rfl⟩ := okWide_slice Yba.underlying38 (hval 0 38 v0 rfl rfl)
  have k0 := h0
  have lt0 : ∀ x ∈ p0, x.block < W.heap.size := by obtain ⟨m, hm⟩ := k0; exact DataW.trod_lt m _ _ _ hm
  obtain ⟨z0, w0⟩ : ∃ zs, IsRow .u8 W a0 len0 cap0 zs := by
    obtain ⟨fuel, hf⟩ := h0
    rcases open_ints Yba.underlying38 Yba.underlying5 (by kernel_rfl) hf with ⟨hcs, _⟩ | ⟨x, l, c, zs, hcs, _, hl, hm, hz, _, hcell, hwz⟩
    · simp [Value.cells] at hcs
      obtain ⟨rfl, rfl, rfl⟩ := hcs
      exact ⟨[], .inl ⟨rfl, rfl, rfl, rfl⟩⟩
    · simp [Value.cells] at hcs
      obtain ⟨rfl, rfl, rfl⟩ := hcs
      exact ⟨zs, .inr ⟨_, rfl, hl, hm, by simpa using hz, hcell, hwz⟩⟩
  obtain ⟨a1, rfl, rfl, rfl⟩ := open_bool Yba.underlying4 (hval 1 4 v1 rfl rfl) h1
  clear hA0 hval0
  refine (walk a0 len0 cap0 z0 a1 W w0).mono fun e W' ⟨he, bel⟩ => ?_
  subst he
  exact ⟨_, rfl, _, _, _, [], _, [], hW', trodAll_mk1 (shut_bool Yba.underlying4 _), (trodAll_cons_mk (Below.trod laidOut (by kernel_rfl) (of_decide_eq_true (by kernel_rfl)) k0 bel lt0) (trodAll_cons_mk (shut_bool Yba.underlying4 _) trodAll_mk0)), rfl, bel.frame _, fun h => by cases h⟩

theorem over : Rows.lawS0935BShowRow.holds Yba.pinned (OpenSpec.ofChange Rows.lawS0935BShowSpec) :=
  OpenClaim.holds_of_wide 5 Yba.f5 rfl rfl rfl rfl rfl rfl rfl ⟨rfl, rfl, rfl, rfl, rfl⟩ rfl rfl rfl rfl rfl (by kernel_rfl) Yba.func5 (by kernel_rfl)
    (of_decide_eq_true (by kernel_rfl)) (by unfold Func.isWrapper; first | (rw [if_pos (by decide +kernel)]; kernel_rfl) | (rw [if_neg (by decide +kernel)]; exact ⟨rfl, rfl⟩))
    (fun os started H enc _ => lifted os started H enc)

/-- ████ THE STATEMENT ████ -/
theorem proved : Rows.LawS0935BShowSaid := over
#print axioms proved
end Go.Proofs.Ybulksim.lawS0935BShow
