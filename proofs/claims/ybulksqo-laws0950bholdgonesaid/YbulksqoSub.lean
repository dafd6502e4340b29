/- (time.Time).Equal and (time.Time).Sub at this program: contracts. By an AI agent. -/
import Derived.Test.YbulksqoTime
import Derived.Deep.RegionHeld3
namespace Go.Proofs.Ybulksqo.Hold
open Go.RowKit

theorem ret_int {k : IntKind} {a b : Int} (h : a = b) : Ending.returned (.int k a) = .returned (.int k b) := by rw [h]

theorem cell2b (w : World) (A R : Array Value) (tA tR : TypeId) (k : Nat) (v : Value) (h : R[k]? = some v) : ((w.alloc (.cells A tA)).alloc (.cells R tR)).cell? ⟨w.heap.size + 1, k, none⟩ = some v := by
  have h1 : ((w.alloc (.cells A tA)).alloc (.cells R tR)).heap[w.heap.size + 1]? = some (.cells R tR) := by
    have := heap_alloc_new (w.alloc (.cells A tA)) (.cells R tR)
    simpa using this
  unfold World.cell?
  simp only [h1]
  exact h

set_option maxRecDepth 100000 in
set_option maxHeartbeats 1000000 in
theorem equal_same (n s : Int) (p p' : Option Addr) (w : World) (h0 : 0 ≤ n) (h1 : n < 1000000000) :
    Calls Yba.prog 6 #[tv n s (.pointer p), tv n s (.pointer p')] w fun e w' => e = .returned (.bool true) ∧ Below w.heap.size w w' := by
  have ha := and_any n n h0 (by omega) h0 (by omega)
  have hb : (bits .and .u64 (bits .and .u64 n n) 9223372036854775808 != 0) = false := by rw [and_top _ ha.1 ha.2]; rfl
  clear ha
  have hsec1 := sec_any w.heap.size n s ((w.alloc (.cells #[.int .u64 n, .int .i64 s, .pointer p] 25)).alloc (.cells #[.int .u64 n, .int .i64 s, .pointer p'] 25)) h0 h1 (cell2 _ _ _ _ _ _ _ rfl) (cell2 _ _ _ _ _ _ _ rfl)
  have hsec2 := sec_any (w.heap.size + 1) n s ((w.alloc (.cells #[.int .u64 n, .int .i64 s, .pointer p] 25)).alloc (.cells #[.int .u64 n, .int .i64 s, .pointer p'] 25)) h0 h1 (cell2b _ _ _ _ _ _ _ rfl) (cell2b _ _ _ _ _ _ _ rfl)
  have hns1 := nsec_any w.heap.size n ((w.alloc (.cells #[.int .u64 n, .int .i64 s, .pointer p] 25)).alloc (.cells #[.int .u64 n, .int .i64 s, .pointer p'] 25)) h0 h1 (cell2 _ _ _ _ _ _ _ rfl)
  have hns2 := nsec_any (w.heap.size + 1) n ((w.alloc (.cells #[.int .u64 n, .int .i64 s, .pointer p] 25)).alloc (.cells #[.int .u64 n, .int .i64 s, .pointer p'] 25)) h0 h1 (cell2b _ _ _ _ _ _ _ rfl)
  go_enter Yba.func6, Yba.ntmps6
  go_wp2_with (first
    | (go_at_call 12; refine hsec1.mono ?_; clear hsec1; rintro e w1 ⟨rfl, rfl⟩)
    | (go_at_call 12; refine hsec2.mono ?_; clear hsec2; rintro e w1 ⟨rfl, rfl⟩)
    | (go_at_call 8; refine hns1.mono ?_; clear hns1; rintro e w1 ⟨rfl, rfl⟩)
    | (go_at_call 8; refine hns2.mono ?_; clear hns2; rintro e w1 ⟨rfl, rfl⟩))
  go_ret
  exact ⟨rfl, ((Below.refl _ _).alloc (Nat.le_refl _) _).alloc (by simp) _⟩

set_option maxRecDepth 100000 in
set_option maxHeartbeats 2000000 in
/-- (time.Time).Sub: the nanoseconds between. -/
theorem sub_any (n1 s1 n2 s2 d : Int) (p1 p2 : Option Addr) (w : World) (h0 : 0 ≤ n1) (h1 : n1 < 1000000000) (h2 : 0 ≤ n2) (h3 : n2 < 1000000000) (hs1 : -20 < s1 ∧ s1 < 20) (hs2 : -20 < s2 ∧ s2 < 20)
    (heq : s1 * 1000000000 + n1 = s2 * 1000000000 + n2 + d) :
    Calls Yba.prog 11 #[tv n1 s1 (.pointer p1), tv n2 s2 (.pointer p2)] w fun e w' => e = .returned (.int .i64 d) ∧ Below w.heap.size w w' := by
  have ha := and_any n2 n1 h0 (by omega) h2 (by omega)
  have hb : (bits .and .u64 (bits .and .u64 n1 n2) 9223372036854775808 != 0) = false := by rw [and_top _ ha.1 ha.2]; rfl
  have HE : Hid (s1 * 1000000000 + n1 = s2 * 1000000000 + n2 + d) := heq
  clear ha heq
  have hsec1 := sec_any w.heap.size n1 s1 ((w.alloc (.cells #[.int .u64 n1, .int .i64 s1, .pointer p1] 25)).alloc (.cells #[.int .u64 n2, .int .i64 s2, .pointer p2] 25)) h0 h1 (cell2 _ _ _ _ _ _ _ rfl) (cell2 _ _ _ _ _ _ _ rfl)
  have hsec2 := sec_any (w.heap.size + 1) n2 s2 ((w.alloc (.cells #[.int .u64 n1, .int .i64 s1, .pointer p1] 25)).alloc (.cells #[.int .u64 n2, .int .i64 s2, .pointer p2] 25)) h2 h3 (cell2b _ _ _ _ _ _ _ rfl) (cell2b _ _ _ _ _ _ _ rfl)
  have hns1 := nsec_any w.heap.size n1 ((w.alloc (.cells #[.int .u64 n1, .int .i64 s1, .pointer p1] 25)).alloc (.cells #[.int .u64 n2, .int .i64 s2, .pointer p2] 25)) h0 h1 (cell2 _ _ _ _ _ _ _ rfl)
  have hns2 := nsec_any (w.heap.size + 1) n2 ((w.alloc (.cells #[.int .u64 n1, .int .i64 s1, .pointer p1] 25)).alloc (.cells #[.int .u64 n2, .int .i64 s2, .pointer p2] 25)) h2 h3 (cell2b _ _ _ _ _ _ _ rfl)
  go_enter Yba.func11, Yba.ntmps11
  go_wp2_with (first
    | (go_at_call 12; refine hsec1.mono ?_; clear hsec1; rintro e w1 ⟨rfl, rfl⟩)
    | (go_at_call 12; refine hsec2.mono ?_; clear hsec2; rintro e w1 ⟨rfl, rfl⟩)
    | (go_at_call 8; refine hns1.mono ?_; clear hns1; rintro e w1 ⟨rfl, rfl⟩)
    | (go_at_call 8; refine hns2.mono ?_; clear hns2; rintro e w1 ⟨rfl, rfl⟩))
  have t0 : ((w.alloc (.cells #[.int .u64 n1, .int .i64 s1, .pointer p1] 25)).alloc (.cells #[.int .u64 n2, .int .i64 s2, .pointer p2] 25)).cell? ⟨w.heap.size, 0, none⟩ = some (.int .u64 n1) := cell2 _ _ _ _ _ _ _ rfl
  have t1 : ((w.alloc (.cells #[.int .u64 n1, .int .i64 s1, .pointer p1] 25)).alloc (.cells #[.int .u64 n2, .int .i64 s2, .pointer p2] 25)).cell? ⟨w.heap.size, 1, none⟩ = some (.int .i64 s1) := cell2 _ _ _ _ _ _ _ rfl
  have t2 : ((w.alloc (.cells #[.int .u64 n1, .int .i64 s1, .pointer p1] 25)).alloc (.cells #[.int .u64 n2, .int .i64 s2, .pointer p2] 25)).cell? ⟨w.heap.size, 2, none⟩ = some (.pointer p1) := cell2 _ _ _ _ _ _ _ rfl
  have u0 : ((w.alloc (.cells #[.int .u64 n1, .int .i64 s1, .pointer p1] 25)).alloc (.cells #[.int .u64 n2, .int .i64 s2, .pointer p2] 25)).cell? ⟨w.heap.size + 1, 0, none⟩ = some (.int .u64 n2) := cell2b _ _ _ _ _ _ _ rfl
  have u1 : ((w.alloc (.cells #[.int .u64 n1, .int .i64 s1, .pointer p1] 25)).alloc (.cells #[.int .u64 n2, .int .i64 s2, .pointer p2] 25)).cell? ⟨w.heap.size + 1, 1, none⟩ = some (.int .i64 s2) := cell2b _ _ _ _ _ _ _ rfl
  have u2 : ((w.alloc (.cells #[.int .u64 n1, .int .i64 s1, .pointer p1] 25)).alloc (.cells #[.int .u64 n2, .int .i64 s2, .pointer p2] 25)).cell? ⟨w.heap.size + 1, 2, none⟩ = some (.pointer p2) := cell2b _ _ _ _ _ _ _ rfl
  have hB : Below w.heap.size w ((w.alloc (.cells #[.int .u64 n1, .int .i64 s1, .pointer p1] 25)).alloc (.cells #[.int .u64 n2, .int .i64 s2, .pointer p2] 25)) := ((Below.refl _ _).alloc (Nat.le_refl _) _).alloc (by simp) _
  have hz : w.heap.size + 1 < ((w.alloc (.cells #[.int .u64 n1, .int .i64 s1, .pointer p1] 25)).alloc (.cells #[.int .u64 n2, .int .i64 s2, .pointer p2] 25)).heap.size := by simp
  have hadd := fun W => add_any n2 s2 ((s1 - s2) * 1000000000 + (n1 - n2)) n1 s1 p2 W h2 h3 (by omega) (by omega) h0 h1 (by omega)
  have hequ := fun W => equal_same n1 s1 p2 p1 W h0 h1
  generalize ((w.alloc (.cells #[.int .u64 n1, .int .i64 s1, .pointer p1] 25)).alloc (.cells #[.int .u64 n2, .int .i64 s2, .pointer p2] 25)) = W0 at *
  clear hb
  go_region_held3 (fun w' => w'.cell? ⟨w.heap.size, 0, none⟩ = some (.int .u64 n1) ∧ w'.cell? ⟨w.heap.size, 1, none⟩ = some (.int .i64 s1) ∧ w'.cell? ⟨w.heap.size, 2, none⟩ = some (.pointer p1) ∧ w'.cell? ⟨w.heap.size + 1, 0, none⟩ = some (.int .u64 n2) ∧ w'.cell? ⟨w.heap.size + 1, 1, none⟩ = some (.int .i64 s2) ∧ w'.cell? ⟨w.heap.size + 1, 2, none⟩ = some (.pointer p2))
    (first
      | go_keep
      | (go_split_ands
         refine ⟨?_, ?_, ?_, ?_, ?_, ?_⟩ <;> (first | (rw [hb2.cell (by simp; omega)]; assumption) | (rw [hb1.cell (by simp; omega)]; assumption))))
    (first
      | (go_at_call 4; refine (hadd _).mono ?_; rintro e w1 ⟨rfl, hb1⟩; have hz1 : W0.heap.size ≤ w1.heap.size := hb1.size)
      | (go_at_call 6; refine (hequ _).mono ?_; rintro e w2 ⟨rfl, hb2⟩))
  have hB1 : Below w.heap.size w w1 := hB.drew.trans (hb1.mono (show w.heap.size ≤ W0.heap.size by omega))
  have hB2 : Below w.heap.size w w2 := hB1.trans (hb2.mono (by omega))
  clear hb1 hb2 hB hadd hequ
  go_wp2
  go_ret
  exact ⟨ret_int (by have := HE.out; omega), hB2⟩

end Go.Proofs.Ybulksqo.Hold
