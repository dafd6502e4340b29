/- The state between two steps of lock.LawS0935AScript, and what each piece of the step does to it: no walk in sight. By an AI agent. -/
import Derived.Test.YbulksimUngrant
namespace Go.Proofs.Ybulksim.lawS0935AScript
open Go.RowKit Go.Shelf Go.Proofs.Ybulksim.Hold Go.Proofs.Ybulksim.Keep

/-- The entry (the first new block) has the holders L; the model's slice mv owns the list M; the mode is mo where there is a holder; the two slices lie apart. -/
structure St (w W : World) (L M : List Int) (mo : Int) (mv : Value) : Prop where
  below : Below w.heap.size w W
  size : w.heap.size < W.heap.size
  ent : ∃ sv md, Ent (w.heap.size + 1) W w.heap.size md L sv ∧ (L ≠ [] → md = mo) ∧ ∀ g, sv.ownBlock = some g → mv.ownBlock ≠ some g
  row : W.ownsRow (w.heap.size + 1) 3 1 mv M.length (M.map (Value.int .i64))

theorem St.row_lt {w W : World} {L M : List Int} {mo : Int} {mv : Value} (h : St w W L M mo mv) : ∀ g, mv.ownBlock = some g → w.heap.size + 1 ≤ g ∧ g < W.heap.size := h.row.lt

/-- at the start -/
theorem St.start (w : World) : St w (w.alloc (.cells #[.int .u8 0, .bool false, .int .i64 0, .slice none 0 0, .slice none 0 0] 27)) [] [] 0 (.slice none 0 0) :=
  ⟨(Below.refl _ w).alloc (Nat.le_refl _) _, by simp, ⟨.slice none 0 0, 0, ⟨World.alloc_heap_new w _, World.ownsRow_nil _ _ _ _⟩, fun h => absurd rfl h, fun g hg => by cases hg⟩, World.ownsRow_nil _ _ _ _⟩

/-- behind grant or ungrant -/
theorem St.after {w W W' : World} {L M L' : List Int} {mo mo' md : Int} {mv sv : Value} (h : St w W L M mo mv) (hdis : ∀ g, sv.ownBlock = some g → mv.ownBlock ≠ some g)
    (hsv : ∀ g, sv.ownBlock = some g → w.heap.size + 1 ≤ g) (ha : After (w.heap.size + 1) w.heap.size sv W W' md L') (hmo : L' ≠ [] → md = mo') : St w W' L' M mo' mv := by
  obtain ⟨sv', hE, hk, hown⟩ := ha
  refine ⟨h.below.trans (hk.below (Nat.le_of_lt h.size) (fun k hk' hs => ?_)), Nat.lt_of_lt_of_le h.size hk.size, ⟨sv', md, hE, hmo, fun g hg hm => ?_⟩, hk.owns h.row (fun g hg hs => ?_)⟩
  · rcases hs with e | e
    · omega
    · have := hsv k e; omega
  · rcases hown g hg with e | e
    · exact hdis g e hm
    · have := (h.row_lt g hm).2; omega
  · rcases hs with e | e
    · have := (h.row_lt g hg).1; omega
    · exact hdis g e hg

/-- behind the model's append -/
theorem St.appended {w W w1 : World} {L M : List Int} {mo t : Int} {mv mv' : Value} {tmp : Obj} (h : St w W L M mo mv) (hgrow : (W.alloc tmp).grownBy w1 mv.ownBlock)
    (hown : w1.ownsRow (w.heap.size + 1) 3 1 mv' (M.length + 1) (M.map (Value.int .i64) ++ [.int .i64 t])) (hat : mv'.ownBlock = mv.ownBlock ∨ mv'.ownBlock = some (W.heap.size + 1)) : St w w1 L (M ++ [t]) mo mv' := by
  obtain ⟨sv, md, hE, hmo, hdis⟩ := h.ent
  have hk : Keeps (fun k => mv.ownBlock = some k) W w1 := ((Keeps.refl _ W).alloc tmp).grown hgrow (fun k e => .inl e)
  have hlt := h.row_lt
  have hs1 := hgrow.size
  have hE1 : w1.heap[w.heap.size]? = W.heap[w.heap.size]? := hk.block _ h.size (fun e => by have := (hlt _ e).1; omega)
  refine ⟨h.below.trans (hk.below (Nat.le_of_lt h.size) (fun k hk' hs => by have := (hlt k hs).1; omega)), Nat.lt_of_lt_of_le h.size hk.size, ⟨sv, md, ⟨hE1.trans hE.blk, hk.owns hE.row hdis⟩, hmo, fun g hg hm => ?_⟩, by simpa using hown⟩
  rcases hat with e | e
  · exact hdis g hg (e.symm.trans hm)
  · rw [hm] at e
    have := (hE.row.lt g hg).2
    simp at e
    omega

/-- behind what makes new blocks alone; the model's slice may be a new one -/
theorem St.fresh {w W W2 : World} {L M M' : List Int} {mo : Int} {mv nm : Value} (h : St w W L M mo mv) (hb : Below W.heap.size W W2) (hown : W2.ownsRow W.heap.size 3 1 nm M'.length (M'.map (Value.int .i64))) : St w W2 L M' mo nm := by
  obtain ⟨sv, md, hE, hmo, hdis⟩ := h.ent
  have hk : Keeps (fun _ => False) W W2 := Keeps.of_below hb
  have hsz := h.size
  refine ⟨h.below.trans (hb.mono (Nat.le_of_lt h.size)), Nat.lt_of_lt_of_le h.size hb.size, ⟨sv, md, ⟨(hb.block _ h.size).trans hE.blk, hk.owns hE.row (fun _ _ e => e)⟩, hmo, fun g hg hm => ?_⟩, ownsRow_lower hown (by omega)⟩
  have h1 := (hE.row.lt g hg).2
  have h2 := (hown.lt g hm).1
  omega

theorem St.later {w W W2 : World} {L M : List Int} {mo : Int} {mv : Value} (h : St w W L M mo mv) (hb : Below W.heap.size W W2) : St w W2 L M mo mv := by
  obtain ⟨sv, md, hE, hmo, hdis⟩ := h.ent
  have hk : Keeps (fun _ => False) W W2 := Keeps.of_below hb
  exact ⟨h.below.trans (hb.mono (Nat.le_of_lt h.size)), Nat.lt_of_lt_of_le h.size hb.size, ⟨sv, md, ⟨(hb.block _ h.size).trans hE.blk, hk.owns hE.row (fun _ _ e => e)⟩, hmo, hdis⟩, hk.owns h.row (fun _ _ e => e)⟩

theorem St.drewN {w W : World} {L M : List Int} {mo : Int} {mv : Value} (h : St w W L M mo mv) (n : Nat) : St w (W.drewN n) L M mo mv :=
  ⟨h.below.trans ⟨rfl, rfl, rfl, Nat.le_refl _, fun _ _ => rfl⟩, h.size, by obtain ⟨sv, md, hE, r⟩ := h.ent; exact ⟨sv, md, ⟨hE.blk, hE.row⟩, r⟩, h.row⟩

/-- **grant**, at no holder -/
theorem St.grant_free {w W : World} {M : List Int} {mo : Int} {mv : Value} (h : St w W [] M mo mv) (t m : Int) :
    Calls Yba.prog 10 #[.pointer (some ⟨w.heap.size, 0, none⟩), .int .i64 t, .int .u8 m] W fun e W' => e = .returned (.tuple #[]) ∧ St w W' [t] M m mv := by
  obtain ⟨sv, md, hE, hmo, hdis⟩ := h.ent
  exact (Hold.grant_free _ _ md t m sv W hE).mono fun e W' ⟨he, ha⟩ => ⟨he, h.after hdis (fun g hg => (hE.row.lt g hg).1) ha (fun _ => rfl)⟩

/-- **grant**, at a holder at least -/
theorem St.grant_held {w W : World} {x : Int} {zs M : List Int} {mo : Int} {mv : Value} (h : St w W (x :: zs) M mo mv) (hlen : zs.length ≤ 65536) (t m : Int) :
    Calls Yba.prog 10 #[.pointer (some ⟨w.heap.size, 0, none⟩), .int .i64 t, .int .u8 m] W fun e W' => e = .returned (.tuple #[]) ∧ St w W' (x :: zs ++ [t]) M mo mv := by
  obtain ⟨sv, md, hE, hmo, hdis⟩ := h.ent
  exact (Hold.grant_held _ _ md t m x zs sv W hE hlen h.size).mono fun e W' ⟨he, ha⟩ => ⟨he, h.after hdis (fun g hg => (hE.row.lt g hg).1) ha (fun _ => hmo (by simp))⟩

/-- **ungrant** -/
theorem St.ungrant {w W : World} {L M : List Int} {mo : Int} {mv : Value} (h : St w W L M mo mv) (hlen : L.length ≤ 65536) (t : Int) :
    Calls Yba.prog 11 #[.pointer (some ⟨w.heap.size, 0, none⟩), .int .i64 t] W fun e W' => e = .returned (.tuple #[]) ∧ St w W' (L.erase t) M mo mv := by
  obtain ⟨sv, md, hE, hmo, hdis⟩ := h.ent
  refine (Hold.ungrant_any _ _ md t L sv W hE hlen).mono fun e W' ⟨he, ha⟩ => ⟨he, h.after hdis (fun g hg => (hE.row.lt g hg).1) ha (fun hn => hmo (fun e => hn (by rw [e]; rfl)))⟩

/-- **Holders**, at no holder -/
theorem St.holders_no {w W : World} {M : List Int} {mo : Int} {mv : Value} (h : St w W [] M mo mv) :
    Calls Yba.prog 8 #[.pointer (some ⟨w.heap.size, 0, none⟩)] W fun e w' => e = .returned (.tuple #[.int .u8 0, .slice none 0 0]) ∧ W = w' := by
  obtain ⟨sv, md, hE, hmo, hdis⟩ := h.ent
  exact Hold.Holders_no _ W (by rw [cell_blk hE.blk 1]; rfl)

/-- **Holders**, at a holder at least: the mode, and a new slice of the holders; the state stands -/
theorem St.holders_yes {w W : World} {x : Int} {zs M : List Int} {mo : Int} {mv : Value} (h : St w W (x :: zs) M mo mv) (hlen : zs.length + 1 ≤ 65536) :
    Calls Yba.prog 8 #[.pointer (some ⟨w.heap.size, 0, none⟩)] W fun e W' => ∃ g cap, e = .returned (.tuple #[.int .u8 mo, .slice (some ⟨g, 0, none⟩) (zs.length + 1) cap]) ∧
      Ints W'.heap.size W' (.slice (some ⟨g, 0, none⟩) (zs.length + 1) cap) (x :: zs) ∧ St w W' (x :: zs) M mo mv := by
  obtain ⟨sv, md, hE, hmo, hdis⟩ := h.ent
  obtain rfl : md = mo := hmo (by simp)
  have hH : Held W.heap.size W w.heap.size md x sv zs := ⟨h.size, by rw [cell_blk hE.blk 0]; rfl, by rw [cell_blk hE.blk 1]; rfl, by rw [cell_blk hE.blk 2]; rfl, by rw [cell_blk hE.blk 3]; rfl, ints_row hE.row⟩
  refine (Hold.Holders_yes _ md x sv zs hlen W hH).mono ?_
  rintro e W' ⟨g, cap, rfl, hown, hb⟩
  exact ⟨g, cap, rfl, ints_row (by simpa using hown), h.later hb⟩

theorem erase_len (M : List Int) (t : Int) : (M.erase t).length ≤ M.length := List.length_erase_le

end Go.Proofs.Ybulksim.lawS0935AScript
