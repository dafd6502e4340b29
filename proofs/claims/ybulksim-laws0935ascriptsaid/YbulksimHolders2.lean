/- lock.Entry[int].Holders, slices.Collect and the law's own comparison: plain contracts. By an AI agent. -/
import Derived.Test.YbulksimHolders
import Derived.Deep.QuietTactic
import Derived.BigQuiet
import Derived.WalkSpells
import Derived.WalkLawsBesides
import Derived.WalkSmall
import Derived.Deep.RegionHeld3
namespace Go.Proofs.Ybulksim.Hold
open Go.RowKit Go.Shelf

/-- What is owned from a block on is owned from an earlier block on. -/
theorem ownsRow_lower {w : World} {b b' : Nat} {e : TypeId} {size : Nat} {v : Value} {n : Nat} {xs : List Value} (h : w.ownsRow b e size v n xs) (hb : b' ≤ b) : w.ownsRow b' e size v n xs := by
  obtain ⟨h1, h2⟩ := h
  refine ⟨h1, ?_⟩
  rcases h2 with h2 | ⟨g, cap, cur, hv, hg, r⟩
  · exact .inl h2
  · exact .inr ⟨g, cap, cur, hv, by omega, r⟩

theorem holders_any (p : Option Addr) (w : World) :
    Calls Yba.prog 15 #[.pointer p] w fun e w' => e = .returned (.func (.func 20) #[] #[.pointer (some ⟨w.heap.size, 0, none⟩)]) ∧ w.alloc (.cells #[.pointer p] 23) = w' := by
  go_enter Yba.func15, Yba.ntmps15
  go_wp2
  go_ret
  exact ⟨rfl, rfl⟩

theorem collect_any (Bn E : Nat) (m x : Int) (sv : Value) (zs : List Int) (hlen : zs.length + 1 ≤ 65536)
    (w : World) (hBlt : Bn < w.heap.size) (hc : w.cell? ⟨Bn, 0, none⟩ = some (.pointer (some ⟨E, 0, none⟩))) (hE : Held w.heap.size w E m x sv zs) :
    Calls Yba.prog 14 #[.func (.func 20) #[] #[.pointer (some ⟨Bn, 0, none⟩)]] w fun e W' =>
      ∃ g cap, e = .returned (.slice (some ⟨g, 0, none⟩) (zs.length + 1) cap) ∧ W'.ownsRow w.heap.size 3 1 (.slice (some ⟨g, 0, none⟩) (zs.length + 1) cap) (zs.length + 1) ((x :: zs).map (Value.int .i64)) ∧ Below w.heap.size w W' := by
  have hap := (callsIn_wide (n := 3)).1 (appendSeq_in Fence.wide 3 trivial trivial rfl (by omega) Bn E m x sv zs (by unfold maxLen; omega) (by omega) w hBlt hc hE)
  clear hE hc
  go_enter Yba.func14, Yba.ntmps14
  go_wp2_with (go_at_call 19; refine hap.mono ?_; rintro e w' ⟨v, rfl, hown, hb⟩; obtain ⟨g, cap, rfl⟩ := ownsRow_succ hown)
  go_ret
  exact ⟨_, _, rfl, by assumption, by assumption⟩

theorem Holders_no (E : Nat) (w : World) (h : w.cell? ⟨E, 1, none⟩ = some (.bool false)) :
    Calls Yba.prog 8 #[.pointer (some ⟨E, 0, none⟩)] w fun e w' => e = .returned (.tuple #[.int .u8 0, .slice none 0 0]) ∧ w = w' := by
  go_enter Yba.func8, Yba.ntmps8
  go_wp2
  go_ret2
  exact ⟨rfl, rfl⟩

set_option maxRecDepth 100000 in
set_option maxHeartbeats 1000000 in
theorem Holders_yes (E : Nat) (m x : Int) (sv : Value) (zs : List Int) (hlen : zs.length + 1 ≤ 65536) (w : World) (hE : Held w.heap.size w E m x sv zs) :
    Calls Yba.prog 8 #[.pointer (some ⟨E, 0, none⟩)] w fun e W' => ∃ g cap, e = .returned (.tuple #[.int .u8 m, .slice (some ⟨g, 0, none⟩) (zs.length + 1) cap]) ∧
      W'.ownsRow w.heap.size 3 1 (.slice (some ⟨g, 0, none⟩) (zs.length + 1) cap) (zs.length + 1) ((x :: zs).map (Value.int .i64)) ∧ Below w.heap.size w W' := by
  have hcol : ∀ W, Below w.heap.size w W → W.cell? ⟨w.heap.size, 0, none⟩ = some (.pointer (some ⟨E, 0, none⟩)) → w.heap.size < W.heap.size →
      Calls Yba.prog 14 #[.func (.func 20) #[] #[.pointer (some ⟨w.heap.size, 0, none⟩)]] W fun e W' =>
      ∃ g cap, e = .returned (.slice (some ⟨g, 0, none⟩) (zs.length + 1) cap) ∧ W'.ownsRow w.heap.size 3 1 (.slice (some ⟨g, 0, none⟩) (zs.length + 1) cap) (zs.length + 1) ((x :: zs).map (Value.int .i64)) ∧ Below w.heap.size w W' ∧ W'.cell? ⟨E, 0, none⟩ = some (.int .u8 m) := by
    intro W hb hc hs
    have hE' := hE.below hb
    have hE2 : Held W.heap.size W E m x sv zs := ⟨by have := hE'.lt; omega, hE'.mode, hE'.held, hE'.first, hE'.others, by
      rcases hE'.ints with h | ⟨b, off, cap, e, hb', hc'⟩
      · exact .inl h
      · exact .inr ⟨b, off, cap, e, by omega, hc'⟩⟩
    refine (collect_any w.heap.size E m x sv zs hlen W hs hc hE2).mono ?_
    rintro e W' ⟨g, cap, rfl, hown, hb2⟩
    have hb3 : Below w.heap.size w W' := hb.trans (hb2.mono (by omega))
    exact ⟨g, cap, rfl, ownsRow_lower hown (by omega), hb3, (hb3.cell (p := ⟨E, 0, none⟩) hE.lt).trans hE.mode⟩
  have c0 := hE.mode
  have c1 := hE.held
  have hne := World.new_ne w ⟨E, 0, none⟩ c0
  clear hE
  go_enter Yba.func8, Yba.ntmps8
  go_wp2
  go_region_held3 (fun w' => w'.cell? ⟨E, 0, none⟩ = some (.int .u8 m)) (first | go_keep | assumption)
    (first | (go_at_call 15; refine (holders_any _ _).mono ?_; rintro e w' ⟨rfl, rfl⟩) | (go_at_call 14; refine (hcol _ ?_ ?_ ?_).mono ?_; (first | exact ((Below.refl _ _).alloc (Nat.le_refl _) _).drew | exact ((Below.refl _ _).drew).alloc (Nat.le_refl _) _); simp; simp; rintro e w' ⟨g, cap, rfl, hown, hb, hcE⟩))
  go_wp2
  go_ret2
  exact ⟨_, _, rfl, by assumption, by assumption⟩

/-- An owned row, seen as ints in memory. -/
theorem ints_of_own {w : World} {base g n cap : Nat} {zs : List Int} (h : w.ownsRow base 3 1 (.slice (some ⟨g, 0, none⟩) n cap) n (zs.map (Value.int .i64))) : n = zs.length ∧ g < w.heap.size ∧ base ≤ g ∧ ∀ j, j < zs.length → w.cell? ⟨g, 0 + j, none⟩ = some (.int .i64 (zs[j]?.getD 0)) := by
  have hl := h.lt g rfl
  refine ⟨by have := h.1; simp at this; omega, hl.2, hl.1, fun j hj => ?_⟩
  have := h.cells (g := g) rfl j (.int .i64 (zs[j]?.getD 0)) (by simp [List.getElem?_map, List.getElem?_eq_getElem hj])
  have hp : (⟨g, 0, none⟩ : Addr).add j = ⟨g, 0 + j, none⟩ := by unfold Addr.add; split <;> simp_all
  rw [hp] at this
  exact this

set_option maxHeartbeats 1000000 in
/-- zzs0935aeq at two slices that hold the same ints: true. -/
theorem eq_any (n₀ : Nat) (u v : Value) (zs : List Int) (w : World) (hlen : zs.length ≤ 65536) (hu : Ints n₀ w u zs) (hv : Ints n₀ w v zs) :
    Calls Yba.prog 9 #[u, v] w fun e w' => e = .returned (.bool true) ∧ ∃ n, w' = w.drewN n := by
  have hu' : ∃ a cap, u = .slice a zs.length cap ∧ (0 < zs.length → ∃ b off, a = some ⟨b, off, none⟩ ∧ ∀ j, j < zs.length → w.cell? ⟨b, off + j, none⟩ = some (.int .i64 (zs[j]?.getD 0))) := by
    rcases hu with ⟨rfl, rfl⟩ | ⟨b, off, cap, rfl, _, hc⟩
    · exact ⟨none, 0, rfl, fun h => by simp at h⟩
    · exact ⟨_, cap, rfl, fun _ => ⟨b, off, rfl, hc⟩⟩
  have hv' : ∃ a cap, v = .slice a zs.length cap ∧ (0 < zs.length → ∃ b off, a = some ⟨b, off, none⟩ ∧ ∀ j, j < zs.length → w.cell? ⟨b, off + j, none⟩ = some (.int .i64 (zs[j]?.getD 0))) := by
    rcases hv with ⟨rfl, rfl⟩ | ⟨b, off, cap, rfl, _, hc⟩
    · exact ⟨none, 0, rfl, fun h => by simp at h⟩
    · exact ⟨_, cap, rfl, fun _ => ⟨b, off, rfl, hc⟩⟩
  clear hu hv
  obtain ⟨a1, cap1, rfl, hc1⟩ := hu'
  obtain ⟨a2, cap2, rfl, hc2⟩ := hv'
  go_enter Yba.func9, Yba.ntmps9
  go_wp2
  go_loopw [5] (fun i wr => ∃ k n : Nat, k ≤ zs.length ∧ i = .int .i64 k ∧ wr = w.drewN n) (fun i _ => zs.length - (intOf i).toNat)
  case atStart => exact ⟨0, 0, Nat.zero_le _, rfl, rfl⟩
  case round =>
    obtain ⟨k, n, hk, rfl, rfl⟩ := hrel
    by_cases hlt : k < zs.length
    · obtain ⟨b1, o1, rfl, h1⟩ := hc1 (by omega)
      obtain ⟨b2, o2, rfl, h2⟩ := hc2 (by omega)
      have g1 := h1 k hlt
      have g2 := h2 k hlt
      generalize zs[k]?.getD 0 = y at g1 g2
      clear h1 h2 hc1 hc2
      go_wp2
      go_quiet (fail)
      go_wp2
      go_roundw
      case rel => exact ⟨k + 1, _, by omega, by go_num, rfl⟩
      case measure => simp [intOf]; omega
    · go_wp2
      go_ret
      exact ⟨rfl, n, rfl⟩

end Go.Proofs.Ybulksim.Hold
