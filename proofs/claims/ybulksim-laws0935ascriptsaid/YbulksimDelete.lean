/- slices.Index[[]int,int] and slices.Delete[[]int,int] at this program: contracts. The second after the kit's worked walk of append(xs[:i], xs[i+1:]...). By an AI agent. -/
import Derived.Test.YbulksimHolders2
import Derived.Test.YbulksimKeep
import Derived.Deep.RegionLaw
import Derived.Lib.SliceRun
namespace Go.Proofs.Ybulksim.Hold
open Go.RowKit Go.Shelf Go.Proofs.Ybulksim.Keep

theorem ret_int {k : IntKind} {a b : Int} (h : a = b) : Ending.returned (.int k a) = .returned (.int k b) := by rw [h]
theorem ret_slice {a : Option Addr} {n m c : Nat} (h : n = m) : Ending.returned (.slice a n c) = .returned (.slice a m c) := by rw [h]

set_option maxHeartbeats 1000000 in
/-- slices.Index: the first place of t, -1 where there is none. -/
theorem index_any (n₀ : Nat) (u : Value) (zs : List Int) (t : Int) (w : World) (hlen : zs.length ≤ 65536) (hu : Ints n₀ w u zs) :
    Calls Yba.prog 16 #[u, .int .i64 t] w fun e w' => e = .returned (.int .i64 (idx zs t)) ∧ w = w' := by
  have hu' : ∃ a cap, u = .slice a zs.length cap ∧ (0 < zs.length → ∃ b off, a = some ⟨b, off, none⟩ ∧ ∀ j, j < zs.length → w.cell? ⟨b, off + j, none⟩ = some (.int .i64 (zs[j]?.getD 0))) := by
    rcases hu with ⟨rfl, rfl⟩ | ⟨b, off, cap, rfl, _, hc⟩
    · exact ⟨none, 0, rfl, fun h => by simp at h⟩
    · exact ⟨_, cap, rfl, fun _ => ⟨b, off, rfl, hc⟩⟩
  clear hu
  obtain ⟨a1, cap1, rfl, hc1⟩ := hu'
  go_enter Yba.func16, Yba.ntmps16
  go_wp2
  go_loop [8] (fun i => ∃ k : Nat, k ≤ zs.length ∧ i = .int .i64 k ∧ t ∉ zs.take k) (fun i => zs.length - (intOf i).toNat)
  case atStart => exact ⟨0, Nat.zero_le _, rfl, by simp⟩
  case round =>
    obtain ⟨k, hk, rfl, hno⟩ := hrel
    have HN : Hid (t ∉ zs.take k) := hno
    clear hno
    by_cases hlt : k < zs.length
    · obtain ⟨b1, o1, rfl, h1⟩ := hc1 (by omega)
      have g1 := h1 k hlt
      have hstep := fun y (e : zs[k]?.getD 0 = y) (hne : t ≠ y) => not_mem_take_succ HN.out e hlt hne
      have hhit := fun (e : zs[k]?.getD 0 = t) => (idx_hit HN.out e hlt).1
      have HS : Hid (∀ y, zs[k]?.getD 0 = y → t ≠ y → t ∉ zs.take (k + 1)) := hstep
      have HH : Hid (zs[k]?.getD 0 = t → idx zs t = k) := hhit
      obtain ⟨y, hy⟩ : ∃ y, zs[k]?.getD 0 = y := ⟨_, rfl⟩
      rw [hy] at g1
      have HY : Hid (zs[k]?.getD 0 = y) := hy
      clear hy h1 hc1 hstep hhit
      by_cases hty : t = y
      · have hb : (t == y) = true := by simp [hty]
        have HT : Hid (t = y) := hty
        clear hty
        go_wp2
        go_ret
        exact ⟨ret_int (HH.out (HY.out.trans HT.out.symm)).symm, rfl⟩
      · have hb : (t == y) = false := by simp [hty]
        have HT : Hid (t ≠ y) := hty
        clear hty
        go_wp2
        go_round
        case rel => exact ⟨k + 1, by omega, by go_num, HS.out y HY.out HT.out⟩
        case measure => simp [intOf]; omega
    · have hm : idx zs t = -1 := idx_miss (by have := HN.out; rwa [List.take_of_length_le (by omega)] at this)
      have HM : Hid (idx zs t = -1) := hm
      clear hm
      go_wp2
      go_ret
      exact ⟨ret_int HM.out.symm, rfl⟩

theorem zero3 (w : World) : (zeroValue 3).run Yba.prog w = .ok (.int .i64 0) w := by
  simp [go_sem, Yba.zeroValue3]

set_option maxHeartbeats 4000000 in
set_option maxRecDepth 1000000 in
/-- slices.Delete(s, i, i+1): the row of s owns what it owned, without the i-th; nothing else has turned. -/
theorem delete_any (base g n cap i : Nat) (zs : List Int) (w : World) (hown : w.ownsRow base 3 1 (.slice (some ⟨g, 0, none⟩) n cap) n (zs.map (Value.int .i64))) (hn : zs.length = n) (hi : i < n) (hlen : n ≤ 65536) :
    Calls Yba.prog 17 #[.slice (some ⟨g, 0, none⟩) n cap, .int .i64 i, .int .i64 ((i : Int) + 1)] w fun e w' => e = .returned (.slice (some ⟨g, 0, none⟩) (n - 1) cap) ∧
      w'.ownsRow base 3 1 (.slice (some ⟨g, 0, none⟩) (n - 1) cap) (n - 1) ((zs.eraseIdx i).map (Value.int .i64)) ∧ Keeps (· = g) w w' := by
  obtain ⟨i0, hi0, hz0, hz1, hz2⟩ := info_parts info3
  obtain ⟨cur, hg, hnc, hcm, hcs⟩ : ∃ cur : Array Value, w.heap[g]? = some (.cells cur 3 (0, 0)) ∧ n ≤ cap ∧ cap ≤ maxLen ∧ cur.size = cap := by
    rcases hown.2 with ⟨h', _⟩ | ⟨g', cap', cur, h', hb, hg, hnc, hcm, hcs, htake⟩
    · simp at h'
    · simp only [Value.slice.injEq, Option.some.injEq, Addr.mk.injEq, and_true, true_and] at h'
      obtain ⟨rfl, rfl⟩ := h'
      exact ⟨cur, hg, hnc, hcm, by omega⟩
  unfold maxLen at hcm
  have hcell : ∀ j, j < n → w.cell? ⟨g, j, none⟩ = some (.int .i64 (zs[j]?.getD 0)) := fun j hj => by
    have := (ints_of_own hown).2.2.2 j (by omega); rwa [Nat.zero_add] at this
  have hfz : ∀ j, w.frozen? ⟨g, j, none⟩ = false := fun j => by simp [World.frozen?, hg]
  obtain ⟨news, hnews⟩ : ∃ news, news = (zs.drop (i + 1)).map (Value.int .i64) := ⟨_, rfl⟩
  have hnl : news.length = n - (i + 1) := by rw [hnews]; simp; omega
  have hget : ∀ t, t < n - (i + 1) → news[t]? = some (.int .i64 (zs[i + 1 + t]?.getD 0)) := by
    intro t ht
    rw [hnews, List.getElem?_map, List.getElem?_drop, List.getElem?_eq_getElem (by omega)]
    rfl
  obtain ⟨A, hA, hsrc⟩ : ∃ A : Addr, (if cap = i + 1 then some (⟨g, 0, none⟩ : Addr) else some ⟨g, i + 1, none⟩) = some A ∧ Hid (∀ t u, news[t]? = some u → w.drew.cell? (A.add t) = some u) := by
    by_cases h : cap = i + 1
    · refine ⟨⟨g, 0, none⟩, by simp [h], fun t u hu => ?_⟩
      have h0 : news.length = 0 := by omega
      rw [List.length_eq_zero_iff.1 h0] at hu
      simp at hu
    · refine ⟨⟨g, i + 1, none⟩, by simp [h], fun t u hu => ?_⟩
      have ht : t < n - (i + 1) := by
        have := (List.getElem?_eq_some_iff.1 hu).1
        omega
      rw [hget t ht] at hu
      rw [Addr.add_lit]
      exact (hcell (i + 1 + t) (by omega)).trans hu
  have s1 : Hid (news.length = (n - (i + 1)) * 1) := by rw [Nat.mul_one]; exact hnl
  have s2 : Hid (∀ u ∈ news, u.oneCell' = true) := by
    intro u hu
    rw [hnews] at hu
    obtain ⟨x, _, rfl⟩ := List.mem_map.1 hu
    rfl
  have s3 : Hid (∀ t, t < news.length → (w.drew.cell? ⟨g, 0 + i * 1 + t, none⟩).isSome = true ∧ w.drew.frozen? ⟨g, 0 + i * 1 + t, none⟩ = false) := by
    intro t ht
    rw [hnl] at ht
    rw [Nat.mul_one, Nat.zero_add]
    exact ⟨by show (w.cell? _).isSome = true; rw [hcell (i + t) (by omega)]; rfl, hfz _⟩
  obtain ⟨W1, hW1⟩ : ∃ W1, W1 = w.drew.setCells g (0 + i * 1) news := ⟨_, rfl⟩
  have hcl : ∀ ty, (Builtin.clear_ #[22] ty #[.slice (some ⟨g, i + (n - (i + 1)), none⟩) (n - (i + (n - (i + 1)))) (cap - (i + (n - (i + 1))))]).run Yba.prog W1 = .ok (.tuple #[]) (W1.setCells g (n - 1) [.int .i64 0]) := by
    intro ty
    have e1 : i + (n - (i + 1)) = n - 1 := by omega
    have e2 : n - (n - 1) = 1 := by omega
    rw [e1, e2]
    have := Lib.run_clear_slice (P := Yba.prog) W1 22 3 ty (.int .i64 0) Yba.underlying22 zero3 rfl rfl g (n - 1) 1 (cap - (n - 1)) (by omega)
      (fun j hj => by
        rw [hW1, World.isSome_setCells]
        show (w.cell? _).isSome = true
        rw [show n - 1 + j = n - 1 by omega, hcell (n - 1) (by omega)]; rfl)
      (fun j hj => by rw [hW1, World.frozen?_setCells]; exact hfz _)
    simpa using this
  have HW : Hid (W1 = w.drew.setCells g (0 + i * 1) news) := hW1
  have HO := owns_delete (w := w.drew) (u := .int .i64 0) hown hn hi
  have HO' : Hid ((W1.setCells g (n - 1) [.int .i64 0]).ownsRow base 3 1 (.slice (some ⟨g, 0, none⟩) (n - 1) cap) (n - 1) ((zs.eraseIdx i).map (Value.int .i64))) := by
    rw [hW1, hnews, Nat.zero_add, Nat.mul_one]; exact HO
  have HK : Hid (Keeps (· = g) w (W1.setCells g (n - 1) [.int .i64 0])) := by
    rw [hW1]; exact keeps_sets (S := (· = g)) rfl _ _ _ (keeps_sets (S := (· = g)) rfl _ _ _ (Keeps.refl _ w).drew)
  have hic : i ≤ cap := by omega
  clear hW1 hnews hnl hget HO hown hcell hfz hg hcs hn
  have hp0 : (0 : Int) ≤ (i : Int) + 1 := by omega
  have hp1 : (i : Int) + 1 ≤ (n : Int) := by omega
  have hp2 : ((i : Int) + 1).toNat = i + 1 := by omega
  have hne : ((i : Int) == (i : Int) + 1) = false := by simp; omega
  go_enter Yba.func17, Yba.ntmps17
  go_wp2_with fail
  go_region_law (refine step_append_room rfl (.tmp 22) (.tmp 25) 22 rfl 3 i0 1 Yba.underlying22 hi0 hz1 g 0 i cap (by simp [Act.eval, Act.put]) A (n - (i + 1)) (cap - (i + 1)) news (by simp [Act.eval, Act.put]) s1.out hsrc.out s2.out (by omega) s3.out ?_; rw [← HW.out])
  go_wp2
  go_ret
  exact ⟨ret_slice (by omega), HO'.out, HK.out⟩

end Go.Proofs.Ybulksim.Hold
