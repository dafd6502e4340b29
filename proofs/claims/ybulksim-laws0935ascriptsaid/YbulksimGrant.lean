/- lock.Entry[int].grant and .ungrant: contracts over the list of holders. By an AI agent. -/
import Derived.Test.YbulksimDelete
namespace Go.Proofs.Ybulksim.Hold
open Go.RowKit Go.Shelf Go.Proofs.Ybulksim.Keep

theorem cell_blk {W : World} {E : Nat} {cs : Array Value} {t : TypeId} (h : W.heap[E]? = some (.cells cs t (0, 0))) (k : Nat) : W.cell? ⟨E, k, none⟩ = cs[k]? := by simp [World.cell?, h]
theorem free_blk {W : World} {E : Nat} {cs : Array Value} {t : TypeId} (h : W.heap[E]? = some (.cells cs t (0, 0))) (k : Nat) : W.frozen? ⟨E, k, none⟩ = false := by simp [World.frozen?, h]

/-- The entry in block E: its holders are L, in mode mo; the others' slice is sv. -/
structure Ent (B : Nat) (W : World) (E : Nat) (mo : Int) (L : List Int) (sv : Value) : Prop where
  blk : W.heap[E]? = some (.cells #[.int .u8 mo, .bool (!L.isEmpty), .int .i64 (L.headD 0), sv, .slice none 0 0] 27 (0, 0))
  row : W.ownsRow B 3 1 sv L.tail.length (L.tail.map (Value.int .i64))

theorem Ent.ne {B : Nat} {W : World} {E : Nat} {mo : Int} {L : List Int} {sv : Value} (h : Ent B W E mo L sv) : sv.ownBlock ≠ some E := by
  rcases h.row.2 with ⟨e, _⟩ | ⟨g, cap, cur, e, _, hg, _⟩
  · rw [e]; simp [Value.ownBlock]
  · intro he
    rw [e] at he
    obtain rfl : g = E := by simpa [Value.ownBlock] using he
    rw [h.blk] at hg
    simp at hg

/-- What grant and ungrant leave. -/
def After (B E : Nat) (sv : Value) (W W' : World) (mo : Int) (L : List Int) : Prop :=
  ∃ sv', Ent B W' E mo L sv' ∧ Keeps (fun k => k = E ∨ sv.ownBlock = some k) W W' ∧ ∀ g, sv'.ownBlock = some g → sv.ownBlock = some g ∨ W.heap.size ≤ g

set_option maxHeartbeats 1000000 in
theorem grant_free (B E : Nat) (mo t m : Int) (sv : Value) (W : World) (h : Ent B W E mo [] sv) :
    Calls Yba.prog 10 #[.pointer (some ⟨E, 0, none⟩), .int .i64 t, .int .u8 m] W fun e W' => e = .returned (.tuple #[]) ∧ After B E sv W W' m [t] := by
  have b0 := h.blk
  have c0 := cell_blk b0 0
  have c1 := cell_blk b0 1
  have c2 := cell_blk b0 2
  have f0 := free_blk b0 0
  have f1 := free_blk b0 1
  have f2 := free_blk b0 2
  simp at c0 c1 c2
  have HB : Hid (W.heap[E]? = some (.cells #[.int .u8 mo, .bool (!([] : List Int).isEmpty), .int .i64 (([] : List Int).headD 0), sv, .slice none 0 0] 27 (0, 0))) := b0
  clear b0
  go_enter Yba.func10, Yba.ntmps10
  go_wp2
  go_end0
  refine ⟨rfl, sv, ⟨?_, ?_⟩, ?_, fun g hg => .inl hg⟩
  · rw [heap_set (.int .i64 t) (heap_set (.bool true) (heap_set (.int .u8 m) HB.out))]
    rfl
  · exact ((((Keeps.refl (· = E) W).setCell rfl _).setCell rfl _).setCell rfl _).owns h.row (fun g hg e => h.ne (by rw [hg, e]))
  · exact ((((Keeps.refl (fun k => k = E ∨ sv.ownBlock = some k) W).setCell (.inl rfl) _).setCell (.inl rfl) _).setCell (.inl rfl) _)

set_option maxRecDepth 100000 in
set_option maxHeartbeats 1000000 in
theorem grant_held (B E : Nat) (mo t m x : Int) (zs : List Int) (sv : Value) (W : World) (h : Ent B W E mo (x :: zs) sv) (hlen : zs.length ≤ 65536) (hB : B ≤ W.heap.size) :
    Calls Yba.prog 10 #[.pointer (some ⟨E, 0, none⟩), .int .i64 t, .int .u8 m] W fun e W' => e = .returned (.tuple #[]) ∧ After B E sv W W' mo (x :: zs ++ [t]) := by
  obtain ⟨i0, hi, hz0, hz1, hz2⟩ := info_parts info3
  have b0 := h.blk
  have hlt : E < W.heap.size := (Array.getElem?_eq_some_iff.1 b0).1
  have c1 := cell_blk b0 1
  have c3 := cell_blk b0 3
  have f3 := free_blk b0 3
  simp at c1 c3
  have hrow : W.ownsRow B 3 1 sv zs.length (zs.map (Value.int .i64)) := h.row
  obtain ⟨sa, sn, sc, hsv⟩ : ∃ a n c, sv = .slice a n c := by
    rcases hrow.2 with ⟨rfl, _⟩ | ⟨g, cap, cur, rfl, _⟩
    · exact ⟨_, _, _, rfl⟩
    · exact ⟨_, _, _, rfl⟩
  subst hsv
  have HE : Hid (Ent B W E mo (x :: zs) (.slice sa sn sc)) := h
  clear h b0
  go_enter Yba.func10, Yba.ntmps10
  go_wp2_with (first
    | (at_builtin; go_must (refine wpList_append_own_at _ rfl _ _ 22 rfl B 3 i0 (.int .i64 0) 1 8 Yba.underlying22 hi hz0 hz1 hz2 rfl (by decide) _ _ _ rfl (hrow.alloc _) ⟨W.heap.size, 0, none⟩ 1 1 [.int .i64 t] rfl rfl (cell_one_new _ _ _) (by simp [Value.oneCell']) (by unfold maxLen; omega) (by omega) (by simp; omega) ?_); intro v' w1 hown' hgrow _ hat
       obtain ⟨g', cap', rfl⟩ := ownsRow_succ hown'
       have hb1 : w1.heap[E]? = W.heap[E]? := (hgrow.block E (by simp; omega) (Ne.symm HE.out.ne)).trans (Below.heap_alloc _ _ E hlt)
       have hc1 := cell_blk (hb1.trans HE.out.blk) 3
       have hf1 := free_blk (hb1.trans HE.out.blk) 3
       simp at hc1
       have HB1 : Hid (w1.heap[E]? = W.heap[E]?) := hb1
       clear hb1)
    | go_in)
  refine bodyPost_ret (results_none rfl _ _ _) rfl ?_
  have hne := HE.out.ne
  have hk : Keeps (fun k => k = E ∨ (Value.slice sa sn sc).ownBlock = some k) W w1 := ((Keeps.refl _ W).alloc _).grown hgrow (fun k hk => .inl (.inr hk))
  refine ⟨rfl, .slice (some ⟨g', 0, none⟩) (zs.length + 1) cap', ⟨?_, ?_⟩, hk.setCell (.inl rfl) _, ?_⟩
  · rw [heap_set _ (HB1.out.trans HE.out.blk)]
    rfl
  · refine ((Keeps.refl (· = E) w1).setCell rfl _).owns (by simpa using hown') (fun g hg e => ?_)
    subst e
    rcases hat with e | e
    · exact hne (e.symm.trans hg)
    · rw [hg] at e
      simp at e
      omega
  · intro g hg
    rcases hat with e | e
    · exact .inl (e.symm.trans hg)
    · rw [hg] at e
      simp at e
      exact .inr (by omega)

end Go.Proofs.Ybulksim.Hold
