import Derived.Test.Qxb6000847aMst5
namespace Go.Proofs.Qxb6000847a
open Go.RowKit

theorem info33 : (Try.prog.info? 33).map (fun i => (i.zero, i.size, i.bytes)) = some (some (.agg #[.int .u64 0,.int .u64 0,.int .u64 0,.int .u64 0,.int .u64 0,.int .u64 0,.int .u64 0,.int .u64 0,.int .i64 0,.int .i64 0]), 10, 80) := by kernel_rfl
theorem info38 : (Try.prog.info? 38).map (fun i => (i.zero, i.size, i.bytes)) = some (some (.agg #[.int .i32 0, .slice none 0 0, .slice none 0 0]), 3, 56) := by kernel_rfl
theorem info3 : (Try.prog.info? 3).map (fun i => (i.zero, i.size, i.bytes)) = some (some (.int .i64 0), 1, 8) := by kernel_rfl

theorem pairs_get {α : Type} (f g : Nat → α) (G e : Nat) (he : e < G) : ((List.range G).flatMap fun i => [f i, g i])[e * 2]? = some (f e) ∧ ((List.range G).flatMap fun i => [f i, g i])[e * 2 + 1]? = some (g e) := by
  induction G with
  | zero => omega
  | succ G ih =>
    have hl : ((List.range G).flatMap fun i => [f i, g i]).length = G * 2 := by
      clear ih he
      induction G with
      | zero => rfl
      | succ G ih => rw [List.range_succ, List.flatMap_append, List.length_append, ih]; simp; omega
    rw [List.range_succ, List.flatMap_append]
    by_cases h : e < G
    · obtain ⟨h1, h2⟩ := ih h
      rw [List.getElem?_append_left (by omega), List.getElem?_append_left (by omega)]
      exact ⟨h1, h2⟩
    · obtain rfl : e = G := by omega
      rw [List.getElem?_append_right (by omega), List.getElem?_append_right (by omega), hl]
      simp

theorem ent_cells {w : World} {SB : Nat} {l : List Int} {k b : Nat} {mc : Value} (h : w.ownsRow b 59 2 mc (gl l k).length (entCells SB l k)) {e : Nat} (he : e < (gl l k).length) :
    ∃ g cap, mc = .slice (some ⟨g, 0, none⟩) (gl l k).length cap ∧ b ≤ g ∧ g < w.heap.size ∧ w.cell? ⟨g, e * 2, none⟩ = some (.int .i32 (chAt l k e)) ∧ w.cell? ⟨g, e * 2 + 1, none⟩ = some (.slice (some ⟨SB, stAt l k e * 2, none⟩) (stAt l k (e + 1) - stAt l k e) (stAt l k (e + 1) - stAt l k e)) := by
  obtain ⟨ao, cap, hmc, _⟩ := own_form h
  have h2 := h.2
  rcases h2 with ⟨_, h0⟩ | ⟨g, cap, cur, rfl, hb, hh, _⟩
  · omega
  · obtain ⟨p1, p2⟩ := pairs_get (fun e => Value.int .i32 (chAt l k e)) (fun e => Value.slice (some ⟨SB, stAt l k e * 2, none⟩) (stAt l k (e + 1) - stAt l k e) (stAt l k (e + 1) - stAt l k e)) (gl l k).length e he
    obtain ⟨hlt, _⟩ := Array.getElem?_eq_some_iff.1 hh
    exact ⟨g, cap, rfl, hb, hlt, by rw [h.cellAt (e * 2) (by omega)]; exact p1, by rw [h.cellAt (e * 2 + 1) (by omega)]; exact p2⟩

/-- the first copy: t words done. 'wa' is the world ahead of the making of the copy. -/
structure Zw (wa wr : World) (nw t : Nat) (f : Nat → Nat → Value) : Prop where
  bel : Below wa.heap.size wa wr
  size : wa.heap.size < wr.heap.size
  row : Grid wr wa.heap.size 33 10 nw (fun i j => if i < t then f i j else zeroWord j)

theorem zw_start (wa : World) (nw : Nat) (f : Nat → Nat → Value) : Zw wa (wa.alloc (Obj.cells (madeCells #[.int .u64 0, .int .u64 0, .int .u64 0, .int .u64 0, .int .u64 0, .int .u64 0, .int .u64 0, .int .u64 0, .int .i64 0, .int .i64 0] (nw * 10)) 33)) nw 0 f := by
  refine ⟨(Below.refl _ _).alloc (Nat.le_refl _) _, by simp, (grid_made wa _ 10 nw 33 rfl).congr (fun i j _ hj => ?_)⟩
  match j, hj with
  | 0, _ => rfl
  | 1, _ => rfl
  | 2, _ => rfl
  | 3, _ => rfl
  | 4, _ => rfl
  | 5, _ => rfl
  | 6, _ => rfl
  | 7, _ => rfl
  | 8, _ => rfl
  | 9, _ => rfl

theorem Grid.setrow {w : World} {b : Nat} {t : TypeId} {n : Nat} {f : Nat → Nat → Value} (h : Grid w b t 10 n f) (i : Nat) (v0 v1 v2 v3 v4 v5 v6 v7 v8 v9 : Value) :
    Grid ((((((((((w.setCell ⟨b, i * 10, none⟩ v0).setCell ⟨b, i * 10 + 1, none⟩ v1).setCell ⟨b, i * 10 + 2, none⟩ v2).setCell ⟨b, i * 10 + 3, none⟩ v3).setCell ⟨b, i * 10 + 4, none⟩ v4).setCell ⟨b, i * 10 + 5, none⟩ v5).setCell ⟨b, i * 10 + 6, none⟩ v6).setCell ⟨b, i * 10 + 7, none⟩ v7).setCell ⟨b, i * 10 + 8, none⟩ v8).setCell ⟨b, i * 10 + 9, none⟩ v9)
      b t 10 n (fun i' j' => if i' = i then [v0, v1, v2, v3, v4, v5, v6, v7, v8, v9].getD j' default else f i' j') := by
  refine ((((((((((h.set i 0 (by omega) v0 rfl).set i 1 (by omega) v1 rfl).set i 2 (by omega) v2 rfl).set i 3 (by omega) v3 rfl).set i 4 (by omega) v4 rfl).set i 5 (by omega) v5 rfl).set i 6 (by omega) v6 rfl).set i 7 (by omega) v7 rfl).set i 8 (by omega) v8 rfl).set i 9 (by omega) v9 rfl).congr (fun i' j' _ hj => ?_)
  by_cases e : i' = i
  · subst e
    match j', hj with
    | 0, _ => simp
    | 1, _ => simp
    | 2, _ => simp
    | 3, _ => simp
    | 4, _ => simp
    | 5, _ => simp
    | 6, _ => simp
    | 7, _ => simp
    | 8, _ => simp
    | 9, _ => simp
  · simp [e]

/-- what the entries hold. -/
def entCell (EB : Nat) (l : List Int) (e j : Nat) : Value :=
  if j = 0 then .int .i32 (chAt l l.length e)
  else if j = 1 then .slice (some ⟨EB + 2 + 3 * e, 0, none⟩) (stAt l l.length (e + 1) - stAt l l.length e) (stAt l l.length (e + 1) - stAt l l.length e)
  else .slice (some ⟨EB + 3 + 3 * e, 0, none⟩) (stAt l l.length (e + 1) - stAt l l.length e) (stAt l l.length (e + 1) - stAt l l.length e)
def entZero (j : Nat) : Value := if j = 0 then .int .i32 0 else .slice none 0 0

/-- the second copy: t entries done. 'wb' is the world ahead of the making of the copy. -/
structure Ze (wb wr : World) (l : List Int) (t : Nat) : Prop where
  bel : Below wb.heap.size wb wr
  size : wr.heap.size = wb.heap.size + 1 + 3 * t
  row : Grid wr wb.heap.size 38 3 (gl l l.length).length (fun i j => if i < t then entCell wb.heap.size l i j else entZero j)
  ats : ∀ e, e < t → wr.rowIs (wb.heap.size + 2 + 3 * e) 3 (stAt l l.length (e + 1) - stAt l l.length e) (fun j => .int .i64 ((wordsOf l l.length (stAt l l.length e + j)).1 : Nat))
  bts : ∀ e, e < t → wr.rowIs (wb.heap.size + 3 + 3 * e) 31 (stAt l l.length (e + 1) - stAt l l.length e) (fun j => .int .u64 ((wordsOf l l.length (stAt l l.length e + j)).2 : Nat))

theorem ze_start (wb : World) (l : List Int) : Ze wb (wb.alloc (Obj.cells (madeCells #[.int .i32 0, .slice none 0 0, .slice none 0 0] ((gl l l.length).length * 3)) 38)) l 0 := by
  refine ⟨(Below.refl _ _).alloc (Nat.le_refl _) _, by simp, (grid_made wb _ 3 _ 38 rfl).congr (fun i j _ hj => ?_), fun e he => by omega, fun e he => by omega⟩
  match j, hj with
  | 0, _ => rfl
  | 1, _ => rfl
  | 2, _ => rfl

def cnt (l : List Int) (e : Nat) : Nat := stAt l l.length (e + 1) - stAt l l.length e

structure Zi (wc wr : World) (SB : Nat) (l : List Int) (t q : Nat) : Prop where
  bel : Below wc.heap.size wc wr
  size : wr.heap.size = wc.heap.size + 3
  c0 : wr.cell? ⟨wc.heap.size, 0, none⟩ = some (.int .i32 (chAt l l.length t))
  c1 : wr.cell? ⟨wc.heap.size, 1, none⟩ = some (.slice (some ⟨SB, stAt l l.length t * 2, none⟩) (cnt l t) (cnt l t))
  ats : wr.rowIs (wc.heap.size + 1) 3 (cnt l t) (fun j => .int .i64 ((if j < q then (wordsOf l l.length (stAt l l.length t + j)).1 else 0 : Nat) : Int))
  bts : wr.rowIs (wc.heap.size + 2) 31 (cnt l t) (fun j => .int .u64 ((if j < q then (wordsOf l l.length (stAt l l.length t + j)).2 else 0 : Nat) : Int))

theorem zi_start (wc : World) (SB : Nat) (l : List Int) (t : Nat) :
    Zi wc (((wc.alloc (Obj.cells #[.int .i32 (chAt l l.length t), .slice (some ⟨SB, stAt l l.length t * 2, none⟩) (cnt l t) (cnt l t)] 59)).alloc (Obj.cells (madeCells #[.int .i64 0] (cnt l t)) 3)).alloc (Obj.cells (madeCells #[.int .u64 0] (cnt l t)) 31)) SB l t 0 := by
  have hs1 : (wc.alloc (Obj.cells #[.int .i32 (chAt l l.length t), .slice (some ⟨SB, stAt l l.length t * 2, none⟩) (cnt l t) (cnt l t)] 59)).heap.size = wc.heap.size + 1 := by simp
  have hs2 : ((wc.alloc (Obj.cells #[.int .i32 (chAt l l.length t), .slice (some ⟨SB, stAt l l.length t * 2, none⟩) (cnt l t) (cnt l t)] 59)).alloc (Obj.cells (madeCells #[.int .i64 0] (cnt l t)) 3)).heap.size = wc.heap.size + 2 := by simp
  have g := ((grid_alloc wc #[.int .i32 (chAt l l.length t), .slice (some ⟨SB, stAt l l.length t * 2, none⟩) (cnt l t) (cnt l t)] 59 2 1 (fun _ j => if j = 0 then .int .i32 (chAt l l.length t) else .slice (some ⟨SB, stAt l l.length t * 2, none⟩) (cnt l t) (cnt l t)) rfl (fun i j hi hj => by
    obtain rfl : i = 0 := by omega
    match j, hj with
    | 0, _ => rfl
    | 1, _ => rfl)).alloc (Obj.cells (madeCells #[.int .i64 0] (cnt l t)) 3)).alloc (Obj.cells (madeCells #[.int .u64 0] (cnt l t)) 31)
  have ra := (World.rowIs_made (wc.alloc (Obj.cells #[.int .i32 (chAt l l.length t), .slice (some ⟨SB, stAt l l.length t * 2, none⟩) (cnt l t) (cnt l t)] 59)) (.int .i64 0) (cnt l t) 3).alloc (Obj.cells (madeCells #[.int .u64 0] (cnt l t)) 31)
  have rb := World.rowIs_made ((wc.alloc (Obj.cells #[.int .i32 (chAt l l.length t), .slice (some ⟨SB, stAt l l.length t * 2, none⟩) (cnt l t) (cnt l t)] 59)).alloc (Obj.cells (madeCells #[.int .i64 0] (cnt l t)) 3)) (.int .u64 0) (cnt l t) 31
  rw [hs1] at ra
  rw [hs2] at rb
  exact ⟨(((Below.refl _ _).alloc (Nat.le_refl _) _).alloc (by simp) _).alloc (by simp; omega) _, by simp, g.cell' 0 0 rfl (by omega) (by omega), g.cell' 0 1 rfl (by omega) (by omega), ra.congr (fun j _ => by simp), rb.congr (fun j _ => by simp)⟩

theorem zi_step {wc wr : World} {SB : Nat} {l : List Int} {t q : Nat} (h : Zi wc wr SB l t q) (x y : Int) (hx : x = ((wordsOf l l.length (stAt l l.length t + q)).1 : Nat)) (hy : y = ((wordsOf l l.length (stAt l l.length t + q)).2 : Nat)) :
    Zi wc ((wr.setCell ⟨wc.heap.size + 1, q, none⟩ (.int .i64 x)).setCell ⟨wc.heap.size + 2, q, none⟩ (.int .u64 y)) SB l t (q + 1) := by
  refine ⟨(h.bel.setCell (by show wc.heap.size ≤ wc.heap.size + 1; omega) _).setCell (by show wc.heap.size ≤ wc.heap.size + 2; omega) _, by simp [h.size], ?_, ?_,
    ((h.ats.set q _).setOther (by show wc.heap.size + 1 ≠ wc.heap.size + 2; omega) _).congr (fun j _ => ?_), ((h.bts.setOther (by show wc.heap.size + 2 ≠ wc.heap.size + 1; omega) _).set q _).congr (fun j _ => ?_)⟩
  · rw [World.cell?_setCell_other _ _ _ _ (fun e => by have := congrArg Addr.block e; simp at this), World.cell?_setCell_other _ _ _ _ (fun e => by have := congrArg Addr.block e; simp at this)]; exact h.c0
  · rw [World.cell?_setCell_other _ _ _ _ (fun e => by have := congrArg Addr.block e; simp at this), World.cell?_setCell_other _ _ _ _ (fun e => by have := congrArg Addr.block e; simp at this)]; exact h.c1
  · by_cases e : j = q
    · subst e; simp [hx]
    · rw [if_neg e]
      by_cases hq : j < q
      · rw [if_pos hq, if_pos (by omega)]
      · rw [if_neg hq, if_neg (by omega)]
  · by_cases e : j = q
    · subst e; simp [hy]
    · rw [if_neg e]
      by_cases hq : j < q
      · rw [if_pos hq, if_pos (by omega)]
      · rw [if_neg hq, if_neg (by omega)]

theorem zi_end {wb wc wr : World} {SB : Nat} {l : List Int} {t : Nat} (h : Ze wb wc l t) (k : Zi wc wr SB l t (cnt l t)) (ht : t < (gl l l.length).length) :
    Ze wb (((wr.setCell ⟨wb.heap.size, t * 3, none⟩ (.int .i32 (chAt l l.length t))).setCell ⟨wb.heap.size, t * 3 + 1, none⟩ (.slice (some ⟨wc.heap.size + 1, 0, none⟩) (cnt l t) (cnt l t))).setCell ⟨wb.heap.size, t * 3 + 2, none⟩ (.slice (some ⟨wc.heap.size + 2, 0, none⟩) (cnt l t) (cnt l t))) l (t + 1) := by
  have hs := h.size
  have hr : Grid wr wb.heap.size 38 3 (gl l l.length).length (fun i j => if i < t then entCell wb.heap.size l i j else entZero j) := h.row.below k.bel h.row.lt
  have hbel : Below wb.heap.size wb wr := h.bel.trans (k.bel.mono (by omega))
  refine ⟨((hbel.setCell (Nat.le_refl _) _).setCell (Nat.le_refl _) _).setCell (Nat.le_refl _) _, by simp [k.size, hs]; omega, (((hr.set t 0 (by omega) _ rfl).set t 1 (by omega) _ rfl).set t 2 (by omega) _ rfl).congr (fun i j hi hj => ?_), fun e he => ?_, fun e he => ?_⟩
  · by_cases e : i = t
    · subst e
      match j, hj with
      | 0, _ => simp [entCell]
      | 1, _ => simp [entCell, hs, cnt] <;> omega
      | 2, _ => simp [entCell, hs, cnt] <;> omega
    · rw [if_neg (fun h => e h.1), if_neg (fun h => e h.1), if_neg (fun h => e h.1)]
      by_cases hi' : i < t
      · rw [if_pos hi', if_pos (by omega)]
      · rw [if_neg hi', if_neg (by omega)]
  · refine World.rowIs.setOther (World.rowIs.setOther (World.rowIs.setOther ?_ (by show wb.heap.size + 2 + 3 * e ≠ wb.heap.size; omega) _) (by show wb.heap.size + 2 + 3 * e ≠ wb.heap.size; omega) _) (by show wb.heap.size + 2 + 3 * e ≠ wb.heap.size; omega) _
    by_cases e1 : e = t
    · subst e1
      have := k.ats
      rw [hs] at this
      rw [show wb.heap.size + 2 + 3 * e = wb.heap.size + 1 + 3 * e + 1 by omega]
      exact this.congr (fun j hj => by rw [if_pos hj])
    · have := h.ats e (by omega)
      exact this.of_block (k.bel.block _ this.lt)
  · refine World.rowIs.setOther (World.rowIs.setOther (World.rowIs.setOther ?_ (by show wb.heap.size + 3 + 3 * e ≠ wb.heap.size; omega) _) (by show wb.heap.size + 3 + 3 * e ≠ wb.heap.size; omega) _) (by show wb.heap.size + 3 + 3 * e ≠ wb.heap.size; omega) _
    by_cases e1 : e = t
    · subst e1
      have := k.bts
      rw [hs] at this
      rw [show wb.heap.size + 3 + 3 * e = wb.heap.size + 1 + 3 * e + 2 by omega]
      exact this.congr (fun j hj => by rw [if_pos hj])
    · have := h.bts e (by omega)
      exact this.of_block (k.bel.block _ this.lt)

end Go.Proofs.Qxb6000847a
