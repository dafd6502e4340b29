/- package time at this program: nsec, sec, addSec, Add, Equal, Sub on times without a monotonic reading, in UTC. By an AI agent. -/
import Derived.Test.YbulksqoProg
import Derived.WalkKit
import Derived.WalkSpells
import Derived.WalkLawsBesides
import Derived.OpenShut
import Derived.Laws.BitsAllLaws
namespace Go.Proofs.Ybulksqo.Hold
open Go.RowKit

/-! ### the bits -/
theorem and_low (n : Int) (h0 : 0 ≤ n) (h1 : n < 1073741824) : bits .and .u64 n 1073741823 = n := by
  rw [u64_and n 1073741823 h0 (by omega) (by omega) (by omega)]
  rw [show (1073741823 : Int).toNat = 2 ^ 30 - 1 by rfl, Nat.and_two_pow_sub_one_eq_mod]
  have : n.toNat < 2 ^ 30 := by omega
  rw [Nat.mod_eq_of_lt this]
  omega
theorem nat_and_top (m : Nat) (h : m < 2 ^ 63) : m &&& 2 ^ 63 = 0 := by
  rw [nat_bit 63 m, Nat.div_eq_of_lt h]
theorem and_top (n : Int) (h0 : 0 ≤ n) (h1 : n < 1073741824) : bits .and .u64 n 9223372036854775808 = 0 := by
  rw [u64_and n 9223372036854775808 h0 (by omega) (by omega) (by omega)]
  rw [show (9223372036854775808 : Int).toNat = 2 ^ 63 by rfl, nat_and_top _ (by omega)]
  rfl
theorem and_any (m n : Int) (h0 : 0 ≤ n) (h1 : n < 1073741824) (h2 : 0 ≤ m) (h3 : m < 1073741824) : 0 ≤ bits .and .u64 n m ∧ bits .and .u64 n m < 1073741824 := by
  rw [u64_and n m h0 (by omega) h2 (by omega)]
  have := Nat.and_le_left (n := n.toNat) (m := m.toNat)
  omega
theorem andNot_low (n : Int) (h0 : 0 ≤ n) (h1 : n < 1073741824) : bits .andNot .u64 n 1073741823 = 0 := by
  rw [u64_andNot n 1073741823 h0 (by omega) (by omega) (by omega)]
  rw [show 18446744073709551615 - (1073741823 : Int).toNat = 2 ^ 64 - 2 ^ 30 by rfl]
  have h : n.toNat &&& (2 ^ 64 - 2 ^ 30) = 0 := by
    apply Nat.eq_of_testBit_eq
    intro i
    rw [Nat.testBit_and, Nat.zero_testBit]
    by_cases hi : i < 30
    · have : (2 ^ 64 - 2 ^ 30 : Nat).testBit i = false := by
        rw [show (2 ^ 64 - 2 ^ 30 : Nat) = 2 ^ 30 * (2 ^ 34 - 1) by rfl, Nat.testBit_two_pow_mul]
        simp; omega
      rw [this, Bool.and_false]
    · rw [Nat.testBit_lt_two_pow (Nat.lt_of_lt_of_le (show n.toNat < 2 ^ 30 by omega) (Nat.pow_le_pow_right (by omega) (by omega))), Bool.false_and]
  rw [h]
  rfl
theorem or_zero (n : Int) (h0 : 0 ≤ n) (h1 : n < 1073741824) : bits .or .u64 0 n = n := by
  rw [u64_or 0 n (by omega) (by omega) h0 (by omega)]
  simp
  omega

set_option maxHeartbeats 400000 in
theorem nsec_any (b : Nat) (n : Int) (w : World) (h0 : 0 ≤ n) (h1 : n < 1000000000) (c0 : w.cell? ⟨b, 0, none⟩ = some (.int .u64 n)) :
    Calls Yba.prog 8 #[.pointer (some ⟨b, 0, none⟩)] w fun e w' => e = .returned (.int .i32 n) ∧ w = w' := by
  have hb := and_low n h0 (by omega)
  have hw : wrap32 n = n := by unfold wrap32; omega
  go_enter Yba.func8, Yba.ntmps8
  go_wp2
  go_ret
  exact ⟨rfl, rfl⟩

set_option maxHeartbeats 400000 in
theorem sec_any (b : Nat) (n s : Int) (w : World) (h0 : 0 ≤ n) (h1 : n < 1000000000) (c0 : w.cell? ⟨b, 0, none⟩ = some (.int .u64 n)) (c1 : w.cell? ⟨b, 1, none⟩ = some (.int .i64 s)) :
    Calls Yba.prog 12 #[.pointer (some ⟨b, 0, none⟩)] w fun e w' => e = .returned (.int .i64 s) ∧ w = w' := by
  have hb : (bits .and .u64 n 9223372036854775808 != 0) = false := by rw [and_top n h0 (by omega)]; rfl
  go_enter Yba.func12, Yba.ntmps12
  go_wp2
  go_ret
  exact ⟨rfl, rfl⟩

set_option maxHeartbeats 400000 in
theorem addSec_any (b : Nat) (n s d : Int) (w : World) (h0 : 0 ≤ n) (h1 : n < 1000000000) (hs : -100000000000 < s ∧ s < 100000000000) (hd : -100000000000 < d ∧ d < 100000000000) (c0 : w.cell? ⟨b, 0, none⟩ = some (.int .u64 n)) (c1 : w.cell? ⟨b, 1, none⟩ = some (.int .i64 s)) (f1 : w.frozen? ⟨b, 1, none⟩ = false) :
    Calls Yba.prog 9 #[.pointer (some ⟨b, 0, none⟩), .int .i64 d] w fun e w' => e = .returned (.tuple #[]) ∧ w.setCell ⟨b, 1, none⟩ (.int .i64 (s + d)) = w' := by
  have hb : (bits .and .u64 n 9223372036854775808 != 0) = false := by rw [and_top n h0 (by omega)]; rfl
  by_cases hp : 0 < d
  · have e1 : decide (s < s + d) = true := by simp; omega
    have e2 : decide (0 < d) = true := by simp; omega
    go_enter Yba.func9, Yba.ntmps9
    go_wp2
    go_end0
    exact ⟨rfl, rfl⟩
  · have e1 : decide (s < s + d) = false := by simp; omega
    have e2 : decide (0 < d) = false := by simp; omega
    go_enter Yba.func9, Yba.ntmps9
    go_wp2
    go_end0
    exact ⟨rfl, rfl⟩

theorem quorem (d : Int) : ∃ q r, d.tdiv 1000000000 = q ∧ d.tmod 1000000000 = r ∧ d = q * 1000000000 + r ∧ -1000000000 < r ∧ r < 1000000000 := by
  refine ⟨_, _, rfl, rfl, ?_, ?_, ?_⟩
  · have := Int.mul_tdiv_add_tmod d 1000000000; omega
  · have h := Int.tmod_lt_of_pos (-d) (show (0 : Int) < 1000000000 by omega)
    rw [Int.neg_tmod] at h
    omega
  · exact Int.tmod_lt_of_pos d (by omega)

theorem cell2 (w : World) (A R : Array Value) (tA tR : TypeId) (k : Nat) (v : Value) (h : A[k]? = some v) : ((w.alloc (.cells A tA)).alloc (.cells R tR)).cell? ⟨w.heap.size, k, none⟩ = some v := by
  have h1 : ((w.alloc (.cells A tA)).alloc (.cells R tR)).heap[w.heap.size]? = some (.cells A tA) := (Below.heap_alloc _ _ _ (by simp)).trans (heap_alloc_new w _)
  unfold World.cell?
  simp only [h1]
  exact h
theorem free2 (w : World) (A R : Array Value) (tA tR : TypeId) (k : Nat) : ((w.alloc (.cells A tA)).alloc (.cells R tR)).frozen? ⟨w.heap.size, k, none⟩ = false := by
  have h1 : ((w.alloc (.cells A tA)).alloc (.cells R tR)).heap[w.heap.size]? = some (.cells A tA) := (Below.heap_alloc _ _ _ (by simp)).trans (heap_alloc_new w _)
  unfold World.frozen?
  simp only [h1]
  simp

/-- A time without a monotonic reading: nanoseconds n, seconds s. -/
abbrev tv (n s : Int) (loc : Value) : Value := .agg #[.int .u64 n, .int .i64 s, loc]

set_option maxRecDepth 100000 in
set_option maxHeartbeats 1000000 in
/-- (time.Time).Add: the time whose nanoseconds and seconds make the sum. -/
theorem add_any (n s d n' s' : Int) (p : Option Addr) (w : World) (h0 : 0 ≤ n) (h1 : n < 1000000000) (hs : -50000000000 < s ∧ s < 50000000000) (hd : -50000000000 < d ∧ d < 50000000000)
    (h0' : 0 ≤ n') (h1' : n' < 1000000000) (heq : s' * 1000000000 + n' = s * 1000000000 + n + d) :
    Calls Yba.prog 4 #[tv n s (.pointer p), .int .i64 d] w fun e w' => e = .returned (tv n' s' (.pointer p)) ∧ Below w.heap.size w w' := by
  obtain ⟨q, r, hq, hr, hqr, hr0, hr1⟩ := quorem d
  have HE : Hid (s' * 1000000000 + n' = s * 1000000000 + n + (q * 1000000000 + r)) := by rw [← hqr]; exact heq
  have hqb : -100 < q ∧ q < 100 := by omega
  clear heq hqr
  have hb1 := andNot_low n h0 (by omega)
  by_cases hc1 : 1000000000 ≤ n + r
  · have hb2 := or_zero (n + r - 1000000000) (by omega) (by omega)
    have hb3 : (bits .and .u64 (n + r - 1000000000) 9223372036854775808 != 0) = false := by rw [and_top _ (by omega) (by omega)]; rfl
    go_enter Yba.func4, Yba.ntmps4
    go_wp2_with (first
      | (go_at_call 8; refine (nsec_any w.heap.size n _ h0 h1 (cell2 _ _ _ _ _ _ _ rfl)).mono ?_; rintro e w1 ⟨rfl, rfl⟩)
      | (go_at_call 9; refine (addSec_any w.heap.size (n + r - 1000000000) s (q + 1) _ (by omega) (by omega) (by omega) (by omega) (cell2 _ _ _ _ _ _ _ rfl) (cell2 _ _ _ _ _ _ _ rfl) (free2 _ _ _ _ _ _)).mono ?_; rintro e w1 ⟨rfl, rfl⟩))
    obtain rfl : n' = n + r - 1000000000 := by have := HE.out; omega
    obtain rfl : s' = s + (q + 1) := by have := HE.out; omega
    refine bodyPost_ret (v := tv (n + r - 1000000000) (s + (q + 1)) (.pointer p)) (by simp [results, Yba.results4, go_sem]) rfl ⟨rfl, ?_⟩
    exact ((Below.refl _ _).alloc (Nat.le_refl _) _).alloc (by simp) _
  by_cases hc2 : n + r < 0
  · have hb2 := or_zero (n + r + 1000000000) (by omega) (by omega)
    have hb3 : (bits .and .u64 (n + r + 1000000000) 9223372036854775808 != 0) = false := by rw [and_top _ (by omega) (by omega)]; rfl
    go_enter Yba.func4, Yba.ntmps4
    go_wp2_with (first
      | (go_at_call 8; refine (nsec_any w.heap.size n _ h0 h1 (cell2 _ _ _ _ _ _ _ rfl)).mono ?_; rintro e w1 ⟨rfl, rfl⟩)
      | (go_at_call 9; refine (addSec_any w.heap.size (n + r + 1000000000) s (q - 1) _ (by omega) (by omega) (by omega) (by omega) (cell2 _ _ _ _ _ _ _ rfl) (cell2 _ _ _ _ _ _ _ rfl) (free2 _ _ _ _ _ _)).mono ?_; rintro e w1 ⟨rfl, rfl⟩))
    obtain rfl : n' = n + r + 1000000000 := by have := HE.out; omega
    obtain rfl : s' = s + (q - 1) := by have := HE.out; omega
    refine bodyPost_ret (v := tv (n + r + 1000000000) (s + (q - 1)) (.pointer p)) (by simp [results, Yba.results4, go_sem]) rfl ⟨rfl, ?_⟩
    exact ((Below.refl _ _).alloc (Nat.le_refl _) _).alloc (by simp) _
  · have hb2 := or_zero (n + r) (by omega) (by omega)
    have hb3 : (bits .and .u64 (n + r) 9223372036854775808 != 0) = false := by rw [and_top _ (by omega) (by omega)]; rfl
    go_enter Yba.func4, Yba.ntmps4
    go_wp2_with (first
      | (go_at_call 8; refine (nsec_any w.heap.size n _ h0 h1 (cell2 _ _ _ _ _ _ _ rfl)).mono ?_; rintro e w1 ⟨rfl, rfl⟩)
      | (go_at_call 9; refine (addSec_any w.heap.size (n + r) s (q) _ (by omega) (by omega) (by omega) (by omega) (cell2 _ _ _ _ _ _ _ rfl) (cell2 _ _ _ _ _ _ _ rfl) (free2 _ _ _ _ _ _)).mono ?_; rintro e w1 ⟨rfl, rfl⟩))
    obtain rfl : n' = n + r := by have := HE.out; omega
    obtain rfl : s' = s + (q) := by have := HE.out; omega
    refine bodyPost_ret (v := tv (n + r) (s + (q)) (.pointer p)) (by simp [results, Yba.results4, go_sem]) rfl ⟨rfl, ?_⟩
    exact ((Below.refl _ _).alloc (Nat.le_refl _) _).alloc (by simp) _

end Go.Proofs.Ybulksqo.Hold
