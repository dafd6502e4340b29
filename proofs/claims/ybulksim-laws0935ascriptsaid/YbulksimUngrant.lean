/- lock.Entry[int].ungrant: its contract over the list of holders. By an AI agent. -/
import Derived.Test.YbulksimGrant
namespace Go.Proofs.Ybulksim.Hold
open Go.RowKit Go.Shelf Go.Proofs.Ybulksim.Keep

/-- the slice of the others, seen as ints -/
theorem ints_row {W : World} {B : Nat} {sv : Value} {zs : List Int} (h : W.ownsRow B 3 1 sv zs.length (zs.map (Value.int .i64))) : Ints W.heap.size W sv zs := by
  rcases h.2 with ⟨rfl, h0⟩ | ⟨g, cap, cur, rfl, _⟩
  · exact .inl ⟨rfl, List.eq_nil_of_length_eq_zero h0⟩
  · obtain ⟨_, hg, _, hc⟩ := ints_of_own h
    exact .inr ⟨g, 0, cap, rfl, hg, hc⟩

/-- a slice that owns something is written out -/
theorem row_some {W : World} {B n : Nat} {sv : Value} {xs : List Value} (h : W.ownsRow B 3 1 sv n xs) (hn : 0 < n) : ∃ g cap, sv = .slice (some ⟨g, 0, none⟩) n cap := by
  rcases h.2 with ⟨_, h0⟩ | ⟨g, cap, cur, rfl, _⟩
  · omega
  · exact ⟨g, cap, rfl⟩

theorem row_slice {W : World} {B n : Nat} {sv : Value} {xs : List Value} (h : W.ownsRow B 3 1 sv n xs) : ∃ a c, sv = .slice a n c := by
  rcases h.2 with ⟨rfl, rfl⟩ | ⟨g, cap, cur, rfl, _⟩
  · exact ⟨_, _, rfl⟩
  · exact ⟨_, _, rfl⟩

set_option maxHeartbeats 1000000 in
theorem ungrant_free (B E : Nat) (mo t : Int) (sv : Value) (W : World) (h : Ent B W E mo [] sv) :
    Calls Yba.prog 11 #[.pointer (some ⟨E, 0, none⟩), .int .i64 t] W fun e W' => e = .returned (.tuple #[]) ∧ After B E sv W W' mo [] := by
  have c1 := cell_blk h.blk 1
  simp at c1
  have HE : Hid (Ent B W E mo [] sv) := h
  clear h
  go_enter Yba.func11, Yba.ntmps11
  go_wp2
  refine bodyPost_ret (results_none rfl _ _ _) rfl ?_
  exact ⟨rfl, sv, HE.out, Keeps.refl _ _, fun g hg => .inl hg⟩

set_option maxHeartbeats 1000000 in
theorem ungrant_last (B E : Nat) (mo t : Int) (sv : Value) (W : World) (h : Ent B W E mo [t] sv) :
    Calls Yba.prog 11 #[.pointer (some ⟨E, 0, none⟩), .int .i64 t] W fun e W' => e = .returned (.tuple #[]) ∧ After B E sv W W' mo [] := by
  obtain ⟨sa, sc, hsv⟩ := row_slice (n := 0) h.row
  subst hsv
  have c1 := cell_blk h.blk 1
  have c2 := cell_blk h.blk 2
  have c3 := cell_blk h.blk 3
  have f1 := free_blk h.blk 1
  have f2 := free_blk h.blk 2
  simp at c1 c2 c3
  have HE : Hid (Ent B W E mo [t] (.slice sa 0 sc)) := h
  clear h
  go_enter Yba.func11, Yba.ntmps11
  go_wp2
  refine bodyPost_ret (results_none rfl _ _ _) rfl ?_
  have h := HE.out
  refine ⟨rfl, .slice sa 0 sc, ⟨?_, ?_⟩, ?_, fun g hg => .inl hg⟩
  · rw [heap_set (.int .i64 0) (heap_set (.bool false) h.blk)]
    rfl
  · exact (((Keeps.refl (· = E) W).setCell rfl _).setCell rfl _).owns h.row (fun g hg e => h.ne (by rw [hg, e]))
  · exact (((Keeps.refl (fun k => k = E ∨ (Value.slice sa 0 sc).ownBlock = some k) W).setCell (.inl rfl) _).setCell (.inl rfl) _)

theorem delete_zero (base g n cap : Nat) (zs : List Int) (w : World) (hown : w.ownsRow base 3 1 (.slice (some ⟨g, 0, none⟩) n cap) n (zs.map (Value.int .i64))) (hn : zs.length = n) (hi : 0 < n) (hlen : n ≤ 65536) :
    Calls Yba.prog 17 #[.slice (some ⟨g, 0, none⟩) n cap, .int .i64 0, .int .i64 1] w fun e w' => e = .returned (.slice (some ⟨g, 0, none⟩) (n - 1) cap) ∧
      w'.ownsRow base 3 1 (.slice (some ⟨g, 0, none⟩) (n - 1) cap) (n - 1) (zs.tail.map (Value.int .i64)) ∧ Keeps (· = g) w w' := by
  have h := delete_any base g n cap 0 zs w hown hn hi hlen
  simpa using h

set_option maxRecDepth 100000 in
set_option maxHeartbeats 1000000 in
theorem ungrant_first (B E : Nat) (mo t y : Int) (ys : List Int) (sv : Value) (W : World) (h : Ent B W E mo (t :: y :: ys) sv) (hlen : ys.length + 1 ≤ 65536) :
    Calls Yba.prog 11 #[.pointer (some ⟨E, 0, none⟩), .int .i64 t] W fun e W' => e = .returned (.tuple #[]) ∧ After B E sv W W' mo (y :: ys) := by
  obtain ⟨g, sc, hsv⟩ := row_some (n := ys.length + 1) h.row (by omega)
  subst hsv
  have c1 := cell_blk h.blk 1
  have c2 := cell_blk h.blk 2
  have c3 := cell_blk h.blk 3
  have f2 := free_blk h.blk 2
  have f3 := free_blk h.blk 3
  simp at c1 c2 c3
  have hne : g ≠ E := fun e => h.ne (by rw [e]; rfl)
  have cg : W.cell? ⟨g, 0, none⟩ = some (.int .i64 y) := by
    have := (ints_of_own (zs := y :: ys) h.row).2.2.2 0 (by simp)
    simpa using this
  have hk1 : Keeps (· = E) W (W.setCell ⟨E, 2, none⟩ (.int .i64 y)) := (Keeps.refl (· = E) W).setCell (p := ⟨E, 2, none⟩) rfl _
  have hrow1 : (W.setCell ⟨E, 2, none⟩ (.int .i64 y)).ownsRow B 3 1 (.slice (some ⟨g, 0, none⟩) (ys.length + 1) sc) (ys.length + 1) ((y :: ys).map (Value.int .i64)) :=
    hk1.owns h.row (fun g' hg' e => h.ne (by rw [hg', e]))
  have hb1 := heap_set (j := 2) (.int .i64 y) h.blk
  have hdel := delete_zero B g (ys.length + 1) sc (y :: ys) _ hrow1 (by simp) (by omega) hlen
  have HE : Hid (Ent B W E mo (t :: y :: ys) (.slice (some ⟨g, 0, none⟩) (ys.length + 1) sc)) := h
  have HK1 : Hid (Keeps (· = E) W (W.setCell ⟨E, 2, none⟩ (.int .i64 y))) := hk1
  have HB1 : Hid ((W.setCell ⟨E, 2, none⟩ (.int .i64 y)).heap[E]? = some (.cells #[.int .u8 mo, .bool true, .int .i64 y, .slice (some ⟨g, 0, none⟩) (ys.length + 1) sc, .slice none 0 0] 27 (0, 0))) := hb1
  clear h hk1 hrow1 hb1
  go_enter Yba.func11, Yba.ntmps11
  go_wp2_with (go_at_call 17; refine hdel.mono ?_; rintro e w2 ⟨rfl, hown2, hk2⟩
               have hb2 := (hk2.block E (Array.getElem?_eq_some_iff.1 HB1.out).1 (Ne.symm hne)).trans HB1.out
               have c32 := cell_blk hb2 3
               have f32 := free_blk hb2 3
               simp at c32
               have HB2 : Hid (w2.heap[E]? = some (.cells #[.int .u8 mo, .bool true, .int .i64 y, .slice (some ⟨g, 0, none⟩) (ys.length + 1) sc, .slice none 0 0] 27 (0, 0))) := hb2
               clear hb2 hdel)
  go_end0
  refine ⟨rfl, .slice (some ⟨g, 0, none⟩) (ys.length + 1 - 1) sc, ⟨?_, ?_⟩, ?_, fun g' hg' => .inl hg'⟩
  · rw [heap_set _ HB2.out]
    rfl
  · exact ((Keeps.refl (· = E) w2).setCell rfl _).owns (by simpa using hown2) (fun g' hg' e => hne (by have := Option.some.inj hg'; simp at this; omega))
  · refine ((HK1.out.mono (T := fun k => k = E ∨ (Value.slice (some ⟨g, 0, none⟩) (ys.length + 1) sc).ownBlock = some k) (fun i _ hi => .inl hi)).trans (hk2.mono fun i _ hi => .inr (by rw [hi]; rfl))).setCell (.inl rfl) _

set_option maxRecDepth 100000 in
set_option maxHeartbeats 1000000 in
theorem ungrant_none (B E : Nat) (mo t x : Int) (zs : List Int) (sv : Value) (W : World) (h : Ent B W E mo (x :: zs) sv) (hlen : zs.length ≤ 65536) (hx : x ≠ t) (hm : t ∉ zs) :
    Calls Yba.prog 11 #[.pointer (some ⟨E, 0, none⟩), .int .i64 t] W fun e W' => e = .returned (.tuple #[]) ∧ After B E sv W W' mo (x :: zs) := by
  have hix := index_any W.heap.size sv zs t W hlen (ints_row h.row)
  rw [idx_miss hm] at hix
  obtain ⟨sa, sc, hsv⟩ := row_slice (n := zs.length) h.row
  subst hsv
  have c1 := cell_blk h.blk 1
  have c2 := cell_blk h.blk 2
  have c3 := cell_blk h.blk 3
  simp at c1 c2 c3
  have hb : (x != t) = true := by simp [hx]
  have HE : Hid (Ent B W E mo (x :: zs) (.slice sa zs.length sc)) := h
  clear h hm hx
  go_enter Yba.func11, Yba.ntmps11
  go_wp2_with (go_at_call 16; refine hix.mono ?_; rintro e w2 ⟨rfl, rfl⟩)
  refine bodyPost_ret (results_none rfl _ _ _) rfl ?_
  exact ⟨rfl, _, HE.out, Keeps.refl _ _, fun g hg => .inl hg⟩

set_option maxRecDepth 100000 in
set_option maxHeartbeats 1000000 in
theorem ungrant_other (B E : Nat) (mo t x : Int) (zs : List Int) (sv : Value) (W : World) (h : Ent B W E mo (x :: zs) sv) (hlen : zs.length ≤ 65536) (hx : x ≠ t) (hm : t ∈ zs) :
    Calls Yba.prog 11 #[.pointer (some ⟨E, 0, none⟩), .int .i64 t] W fun e W' => e = .returned (.tuple #[]) ∧ After B E sv W W' mo (x :: zs.erase t) := by
  have hix := index_any W.heap.size sv zs t W hlen (ints_row h.row)
  have hi : zs.idxOf t < zs.length := List.idxOf_lt_length_of_mem hm
  have he : zs.eraseIdx (zs.idxOf t) = zs.erase t := erase_idx
  have hel : (zs.erase t).length = zs.length - 1 := by rw [← he, List.length_eraseIdx]; simp [hi]
  have hidx : idx zs t = (zs.idxOf t : Int) := by simp [idx, hm]
  rw [hidx] at hix
  obtain ⟨g, sc, hsv⟩ := row_some (n := zs.length) h.row (by omega)
  subst hsv
  have hdel := delete_any B g zs.length sc (zs.idxOf t) zs W h.row rfl hi hlen
  rw [he] at hdel
  generalize zs.idxOf t = i at hix hi hdel
  have c1 := cell_blk h.blk 1
  have c2 := cell_blk h.blk 2
  have c3 := cell_blk h.blk 3
  have f3 := free_blk h.blk 3
  simp at c1 c2 c3
  have hne : g ≠ E := fun e => h.ne (by rw [e]; rfl)
  have hb : (x != t) = true := by simp [hx]
  have HE : Hid (Ent B W E mo (x :: zs) (.slice (some ⟨g, 0, none⟩) zs.length sc)) := h
  have HL : Hid ((zs.erase t).length = zs.length - 1) := hel
  clear h hm hx he hel hidx
  go_enter Yba.func11, Yba.ntmps11
  go_wp2_with (first
    | (go_at_call 16; refine hix.mono ?_; rintro e w2 ⟨rfl, rfl⟩; clear hix)
    | (go_at_call 17; refine hdel.mono ?_; rintro e w2 ⟨rfl, hown2, hk2⟩
       have hb2 := (hk2.block E (Array.getElem?_eq_some_iff.1 HE.out.blk).1 (Ne.symm hne)).trans HE.out.blk
       have c32 := cell_blk hb2 3
       have f32 := free_blk hb2 3
       simp at c32
       have HB2 : Hid (w2.heap[E]? = some (.cells #[.int .u8 mo, .bool true, .int .i64 x, .slice (some ⟨g, 0, none⟩) zs.length sc, .slice none 0 0] 27 (0, 0))) := hb2
       clear hb2 hdel))
  refine bodyPost_ret (results_none rfl _ _ _) rfl ?_
  refine ⟨rfl, .slice (some ⟨g, 0, none⟩) (zs.length - 1) sc, ⟨?_, ?_⟩, ?_, fun g' hg' => .inl hg'⟩
  · rw [heap_set _ HB2.out]
    rfl
  · refine ((Keeps.refl (· = E) w2).setCell rfl _).owns ?_ (fun g' hg' e => hne (by have := Option.some.inj hg'; simp at this; omega))
    show w2.ownsRow B 3 1 _ (zs.erase t).length _
    rw [HL.out]
    exact hown2
  · exact (hk2.mono fun i _ hi => .inr (by rw [hi]; rfl)).setCell (.inl rfl) _

/-- **ungrant: the first t among the holders goes, whoever it is; the others keep their order.** -/
theorem ungrant_any (B E : Nat) (mo t : Int) (L : List Int) (sv : Value) (W : World) (h : Ent B W E mo L sv) (hlen : L.length ≤ 65536) :
    Calls Yba.prog 11 #[.pointer (some ⟨E, 0, none⟩), .int .i64 t] W fun e W' => e = .returned (.tuple #[]) ∧ After B E sv W W' mo (L.erase t) := by
  match L, h, hlen with
  | [], h, _ => exact ungrant_free B E mo t sv W h
  | x :: zs, h, hlen =>
    simp at hlen
    by_cases hx : x = t
    · subst hx
      rw [List.erase_cons_head]
      match zs, h, hlen with
      | [], h, _ => exact ungrant_last B E mo x sv W h
      | y :: ys, h, hlen => exact ungrant_first B E mo x y ys sv W h (by simp at hlen; omega)
    · rw [List.erase_cons_tail (by simpa using hx)]
      by_cases hm : t ∈ zs
      · exact ungrant_other B E mo t x zs sv W h (by omega) hx hm
      · rw [List.erase_of_not_mem hm]
        exact ungrant_none B E mo t x zs sv W h (by omega) hx hm

end Go.Proofs.Ybulksim.Hold
