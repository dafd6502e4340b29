/- The walk of decisioncombiner.LawS0946AOneOrMany. By an AI agent. -/
import Derived.Test.YbulksokProg
import Derived.WalkKit
import Derived.OpenShut
import Derived.WalkSpells
import Derived.WalkLawsBesides
import Derived.WalkSmall
import Derived.Deep.QuietTactic
import Derived.BigQuiet
import Derived.Deep.DeepCutAuto
import Derived.Lib.SliceRun
import Derived.LaidEqlPtr
namespace Go.Proofs.Ybulksok.lawS0946AOneOrMany
open Go.RowKit
set_option linter.unusedVariables false

/-- WHAT THE WALK IS TOLD OF A SLICE OF INTEGERS THAT CAME IN: it is nil; or it leads to a row of 'cap' cells, the numbers 'zs' (the first 'len' are its elements, the rest its spare room), each fitting its kind. -/
def IsRow (k : IntKind) (w : World) (a : Option Addr) (len cap : Nat) (zs : List Int) : Prop :=
  (a = none ∧ len = 0 ∧ cap = 0 ∧ zs = []) ∨
  ∃ x, a = some x ∧ len ≤ cap ∧ cap ≤ maxLen ∧ zs.length = cap ∧ (∀ i, i < zs.length → w.cell? (x.add i) = some (.int k (zs.getD i 0))) ∧ ∀ n ∈ zs, (Lit.int k n).wf = true

theorem info20 : (Yba.prog.info? 20).map (fun i => (i.zero, i.size, i.bytes)) = some (some .nilIface, 1, 16) := by kernel_rfl

/-- the elements, and where they lie -/
theorem rows {w : World} {a : Option Addr} {len cap : Nat} {z : List Int} (h : IsRow .i64 w a len cap z) :
    ∃ zs : List Int, zs.length = len ∧ (a = none → len = 0) ∧ (0 < len → ∃ b off, a = some ⟨b, off, none⟩ ∧ b < w.heap.size ∧ ∀ j, j < len → w.cell? ⟨b, off + j, none⟩ = some (.int .i64 (zs[j]?.getD 0))) := by
  rcases h with ⟨rfl, rfl, rfl, rfl⟩ | ⟨x, rfl, hl, hm, hz, hc, hw⟩
  · exact ⟨[], rfl, fun _ => rfl, fun h => by omega⟩
  · refine ⟨z.take len, by simp; omega, fun h => (by cases h), fun h0 => ?_⟩
    obtain ⟨b, off, rfl, hc'⟩ := ints_at hc (by omega)
    refine ⟨b, off, rfl, ?_, fun j hj => ?_⟩
    · have := hc' 0 (by omega)
      exact block_lt_of_cell this
    · rw [hc' j (by omega)]
      simp [List.getD, hj]

/-- an int in an interface -/
abbrev box (z : Int) : Value := .iface 2 (.int .i64 z)

theorem set_next (zs : List Int) (n k : Nat) (hk : k < n) (hz : zs.length = n) :
    ((zs.take k).map box ++ List.replicate (n - k) Value.nilIface).set k (box (zs[k]?.getD 0)) = (zs.take (k + 1)).map box ++ List.replicate (n - (k + 1)) Value.nilIface := by
  rw [List.take_succ_eq_append_getElem (by omega), List.getElem?_eq_getElem (by omega)]
  rw [List.set_append, if_neg (by simp; omega)]
  rw [show n - k = (n - (k + 1)) + 1 by omega, List.replicate_succ, List.length_map, List.length_take, show k - min k zs.length = 0 by omega]
  simp only [List.set_cons_zero, List.map_append, List.map_cons, List.map_nil, List.append_assoc, List.cons_append, List.nil_append, Option.getD_some]

theorem made_list (z : Value) (n : Nat) : (madeCells #[z] n).toList = List.replicate n z := by
  apply List.ext_getElem
  · simp [madeCells]
  · intro i h1 h2
    simp [madeCells, Nat.mod_one]

theorem assert2 (v : Value) (w : World) : (Instr.typeAssert (.iface 2 v) 20 2 true).run Yba.prog w = .ok (.tuple #[v, .bool true]) w := by
  simp [Instr.typeAssert, run_underlying Yba.underlying2]
theorem assert23 (v : Value) (w : World) : (Instr.typeAssert (.iface 23 v) 20 23 true).run Yba.prog w = .ok (.tuple #[v, .bool true]) w := by
  simp [Instr.typeAssert, run_underlying Yba.underlying23]

/-- '!=' of a pointer with itself -/
theorem ptr_ne_self (a : Addr) (w : World) : (binOp .neq 27 (.pointer (some a)) (.pointer (some a))).run Yba.prog w = .ok (.bool false) w := by
  have hs : (Yba.prog.info? 20).isSome = true := by kernel_rfl
  obtain ⟨j, hj⟩ := Option.isSome_iff_exists.1 hs
  have h : ∀ d : Nat, (Op.equalIn (d + 1) 27 (.pointer (some a)) (.pointer (some a))).run Yba.prog w = .ok true w := fun d => by
    simp [Op.equalIn, run_underlying Yba.underlying27, sizeOf, typeInfo, hj, run_sameAddr_same]
  simp only [binOp]
  simp [Op.equal, Op.maxDepth, h 9999]

set_option maxRecDepth 100000 in
set_option maxHeartbeats 2000000 in
theorem walk (a0 : Option Addr) (len0 cap0 : Nat) (z0 : List Int) (w : World) (w0 : IsRow .i64 w a0 len0 cap0 z0) :
    Calls Yba.prog 3 #[.slice a0 len0 cap0] w fun e w' => e = .returned (.bool true) ∧ Below w.heap.size w w' := by
  by_cases hbig : (1024 : Int) < (len0 : Int)
  · go_enter Yba.func3, Yba.ntmps3
    go_wp2
    go_ret
    exact ⟨rfl, Below.refl _ _⟩
  obtain ⟨zs, hzs, hnil, hcells⟩ := rows w0
  obtain ⟨i0, hi, hz0, hz1, hz2⟩ := info_parts info20
  have HNil : Hid (a0 = none → len0 = 0) := hnil
  clear w0 hnil
  have hneq := fun (w : World) (a : Option Addr) (n c : Nat) => run_neq_slice_nil_any (P := Yba.prog) w 22 2 a n c 0 0 Yba.underlying22
  have heql := fun (w : World) (a : Option Addr) (n c : Nat) => Lib.run_eql_slice_nil (P := Yba.prog) w 22 2 a n c 0 0 Yba.underlying22
  have heql' := fun (w : World) (a : Option Addr) (n c : Nat) => Lib.run_eql_slice_nil (P := Yba.prog) w 23 20 a n c 0 0 Yba.underlying23
  have has2 := assert2
  have has23 := assert23
  go_enter Yba.func3, Yba.ntmps3
  go_upto_if 18 with fail
  go_cut [3] (fun s wx => ((a0 = none ∧ s = .slice none 0 0) ∨ (a0 ≠ none ∧ ∃ g, s = .slice (some ⟨g, 0, none⟩) len0 len0 ∧ ∀ j, j < len0 → wx.cell? ⟨g, j, none⟩ = some (box (zs[j]?.getD 0)))) ∧ Below w.heap.size w wx)
  case first =>
    cases a0 with
    | none =>
      go_wp2
      go_meet
      case rel => exact ⟨.inl (by simp), Below.refl _ _⟩
    | some x =>
      go_wp2_with (first
        | (at_make; refine wpList_make_full _ rfl (.tmp 20) (.tmp 20) 23 rfl w.heap.size 20 i0 .nilIface 1 Yba.underlying23 hi hz0 hz1 _ _ _ _ len0 rfl rfl rfl rfl (by rw [hz2]; omega) (by unfold maxLen; omega) (Nat.le_refl _) ?_; intro wm hown hgrow
           have hbm : Below w.heap.size w wm := (Below.refl _ _).grown hgrow (Nat.le_refl _) (fun k e => by cases e)
           clear hgrow)
        | go_in)
      have hown0 : wm.ownsRow w.heap.size 20 1 (.slice (some ⟨w.heap.size, 0, none⟩) len0 len0) len0 ((zs.take 0).map box ++ List.replicate (len0 - 0) Value.nilIface) := by
        have e : (madeCells Value.nilIface.cells (len0 * 1)).toList = List.replicate len0 Value.nilIface := by rw [Nat.mul_one]; exact made_list _ _
        rw [e] at hown
        simpa using hown
      clear hown
      go_loopw [24] (fun i wx => ∃ k : Nat, k ≤ len0 ∧ i = .int .i64 k ∧ wx.ownsRow w.heap.size 20 1 (.slice (some ⟨w.heap.size, 0, none⟩) len0 len0) len0 ((zs.take k).map box ++ List.replicate (len0 - k) Value.nilIface) ∧ Below w.heap.size w wx)
        (fun i _ => len0 - (intOf i).toNat)
      case atStart => exact ⟨0, Nat.zero_le _, rfl, hown0, hbm⟩
      case round =>
        obtain ⟨k, hk, rfl, hok, hbk⟩ := hrel
        clear hown0 hbm
        by_cases hlt : k < len0
        · obtain ⟨b, off, hx, hbl, hc⟩ := hcells (by omega)
          obtain rfl : x = ⟨b, off, none⟩ := by simpa using hx
          have g1 := (hbk.cell (p := ⟨b, off + k, none⟩) hbl).trans (hc k hlt)
          have hs := (hok.stored k (box (zs[k]?.getD 0))).1
          rw [set_next zs len0 k hlt hzs] at hs
          have g2 : ∃ u, wr.cell? ⟨w.heap.size, k, none⟩ = some u := by
            rw [hok.cellAt k (by omega)]
            exact ⟨_, List.getElem?_eq_getElem (by simp; omega)⟩
          obtain ⟨u, g2⟩ := g2
          have g3 := hok.frozenAt k
          have hb2 := hbk.setCell (p := ⟨w.heap.size, k, none⟩) (Nat.le_refl _) (box (zs[k]?.getD 0))
          have HS : Hid ((wr.setCell ⟨w.heap.size, k, none⟩ (box (zs[k]?.getD 0))).ownsRow w.heap.size 20 1 (.slice (some ⟨w.heap.size, 0, none⟩) len0 len0) len0 ((zs.take (k + 1)).map box ++ List.replicate (len0 - (k + 1)) Value.nilIface)) := hs
          generalize zs[k]?.getD 0 = y at g1 hb2 HS
          clear hs hc hcells hok hbk hx
          go_wp2
          go_roundw
          case rel => exact ⟨k + 1, by omega, by go_num, HS.out, hb2⟩
          case measure => simp [intOf]; omega
        · obtain rfl : k = len0 := by omega
          have hall : ∀ j, j < k → wr.cell? ⟨w.heap.size, j, none⟩ = some (box (zs[j]?.getD 0)) := by
            intro j hj
            rw [hok.cellAt j (by omega)]
            simp [hzs, hj]
          have HA : Hid (∀ j, j < k → wr.cell? ⟨w.heap.size, j, none⟩ = some (box (zs[j]?.getD 0))) := hall
          clear hok hall hcells
          go_wp2
          go_meet
          case rel => exact ⟨.inr ⟨by simp, _, rfl, HA.out⟩, hbk⟩
  case rest =>
    obtain ⟨hs, hbc⟩ := hcut
    rcases hs with ⟨rfl, rfl⟩ | ⟨hne, g, rfl, hg⟩
    · obtain rfl : len0 = 0 := HNil.out rfl
      clear hcells
      go_wp2
      refine wp_loop_rounds 1 ?_
      rw [rounds_succ]
      go_wp2
      go_quiet (fail)
      go_wp2
      go_ret
      exact ⟨rfl, below_drewN hbc _⟩
    · by_cases h1 : len0 = 1
      · subst h1
        obtain ⟨b, off, rfl, hbl, hc⟩ := hcells (by omega)
        have g1 := (hbc.cell (p := ⟨b, off + 0, none⟩) hbl).trans (hc 0 (by omega))
        have g2 := hg 0 (by omega)
        generalize zs[0]?.getD 0 = y at g1 g2
        simp only [Nat.add_zero] at g1
        clear hg hc hcells hne
        go_wp2
        go_ret
        exact ⟨rfl, hbc⟩
      · have h1b : ((len0 : Int) == 1) = false := by simp; omega
        obtain ⟨x, rfl⟩ : ∃ x, a0 = some x := by
          cases a0 with
          | none => exact absurd rfl hne
          | some x => exact ⟨x, rfl⟩
        have hps := ptr_ne_self
        clear hne h1
        by_cases h0 : len0 = 0
        · subst h0
          clear hcells hg
          go_wp2
          refine wp_loop_rounds 1 ?_
          rw [rounds_succ]
          go_wp2
          go_quiet (fail)
          go_wp2
          go_ret
          exact ⟨rfl, below_drewN hbc _⟩
        have h0' : 0 < len0 := by omega
        have hd : decide (0 < len0) = true := by simp [h0']
        have hdi : decide ((0 : Int) < (len0 : Int)) = true := by simp [h0']
        clear h0
        go_wp2
        go_loop [76] (fun i => ∃ k : Nat, k ≤ len0 ∧ i = .int .i64 k) (fun i => len0 - (intOf i).toNat)
        case atStart => exact ⟨0, Nat.zero_le _, rfl⟩
        case round =>
          obtain ⟨k, hk, rfl⟩ := hrel
          by_cases hlt : k < len0
          · obtain ⟨b, off, hx, hbl, hc⟩ := hcells (by omega)
            obtain rfl : x = ⟨b, off, none⟩ := by simpa using hx
            have g1 := (hbc.cell (p := ⟨b, off + k, none⟩) hbl).trans (hc k hlt)
            have g2 := hg k hlt
            generalize zs[k]?.getD 0 = y at g1 g2
            clear hg hc hcells hx
            go_wp2
            go_round
            case rel => exact ⟨k + 1, by omega, by go_num⟩
            case measure => simp [intOf]; omega
          · clear hg hcells
            go_wp2
            go_quiet (fail)
            go_wp2
            go_ret
            exact ⟨rfl, below_drewN hbc _⟩

end Go.Proofs.Ybulksok.lawS0946AOneOrMany
