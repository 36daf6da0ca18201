import Derived.Test.Qxb6000847aMst
import Derived.Test.Qxb6000847aGrp
namespace Go.Proofs.Qxb6000847a
open Go.RowKit

/-- the last word below t that holds a barrier, or -1. -/
def barW (K C : Nat → Int) (n : Nat) : Nat → Int
  | 0 => -1
  | t + 1 => if maskAt K C n t 2 ||| maskAt K C n t 1 ||| maskAt K C n t 6 = 0 then barW K C n t else (t : Int)
/-- the last word below t that holds an end, or -1. -/
def endW (K C : Nat → Int) (n : Nat) : Nat → Int
  | 0 => -1
  | t + 1 => if maskAt K C n t 6 = 0 then endW K C n t else (t : Int)

theorem barW_bd (K C : Nat → Int) (n t : Nat) : -1 ≤ barW K C n t ∧ barW K C n t < t := by
  induction t with
  | zero => simp [barW]
  | succ t ih => unfold barW; split <;> omega
theorem endW_bd (K C : Nat → Int) (n t : Nat) : -1 ≤ endW K C n t ∧ endW K C n t < t := by
  induction t with
  | zero => simp [endW]
  | succ t ih => unfold endW; split <;> omega

def maskCell3 (K C : Nat → Int) (n t i j : Nat) : Value :=
  if j < 8 then .int .u64 (maskAt K C n i j) else if i < t then (if j = 8 then .int .i64 (barW K C n (i + 1)) else .int .i64 (endW K C n (i + 1))) else .int .i64 0

structure St3 (w wr : World) (CB n t : Nat) (K C : Nat → Int) : Prop where
  st : St w wr ((n + 63) / 64) (maskCell3 K C n t) (.slice none 0 0)
  cb : w.heap.size + 3 ≤ CB
  ch : Grid wr CB 31 1 (chList K C n).length (fun i _ => .int .u64 ((chList K C n).getD i 0))

theorem st3_start {w wr : World} {CB n : Nat} {K C : Nat → Int} (h : St2 w wr CB n n K C) : St3 w wr CB n 0 K C :=
  ⟨st_congr h.st (fun i j _ _ => by unfold maskCell maskCell3; simp), h.cb, h.ch⟩

theorem barW_yes (K C : Nat → Int) (n t : Nat) (h : maskAt K C n t 2 ||| maskAt K C n t 1 ||| maskAt K C n t 6 ≠ 0) : barW K C n (t + 1) = t := by rw [barW, if_neg h]
theorem barW_no (K C : Nat → Int) (n t : Nat) (h : maskAt K C n t 2 ||| maskAt K C n t 1 ||| maskAt K C n t 6 = 0) : barW K C n (t + 1) = barW K C n t := by rw [barW, if_pos h]
theorem endW_yes (K C : Nat → Int) (n t : Nat) (h : maskAt K C n t 6 ≠ 0) : endW K C n (t + 1) = t := by rw [endW, if_neg h]
theorem endW_no (K C : Nat → Int) (n t : Nat) (h : maskAt K C n t 6 = 0) : endW K C n (t + 1) = endW K C n t := by rw [endW, if_pos h]

theorem st3_step {w wr : World} {CB n t : Nat} {K C : Nat → Int} (h : St3 w wr CB n t K C) (vb ve : Int) (hb : vb = barW K C n (t + 1)) (he : ve = endW K C n (t + 1)) (q : Nat) :
    St3 w (((wr.drewN q).setCell ⟨w.heap.size + 1, t * 10 + 8, none⟩ (.int .i64 vb)).setCell ⟨w.heap.size + 1, t * 10 + 9, none⟩ (.int .i64 ve)) CB n (t + 1) K C := by
  refine ⟨st_congr (((h.st.drewN q).setw t 8 (by omega) _ rfl).setw t 9 (by omega) _ rfl) (fun i j _ hj => ?_), h.cb, ?_⟩
  · unfold maskCell3
    by_cases e : i = t
    · subst e
      by_cases e9 : j = 9
      · subst e9; simp [he]
      · by_cases e8 : j = 8
        · subst e8; simp [hb]
        · simp [e8, e9, show j < 8 by omega]
    · rw [if_neg (fun h => e h.1), if_neg (fun h => e h.1)]
      by_cases e8 : j < 8
      · simp [e8]
      · by_cases hi : i < t
        · simp [e8, hi, show i < t + 1 by omega]
        · simp [e8, hi, show ¬ i < t + 1 by omega]
  · exact ((h.ch.drewN q).setOther (by show CB ≠ w.heap.size + 1; have := h.cb; omega) _).setOther (by show CB ≠ w.heap.size + 1; have := h.cb; omega) _

theorem holds_of {w : World} {CB : Nat} {l : List Int} (h : Grid w CB 31 1 l.length (fun i _ => .int .u64 (l.getD i 0))) : Sort.Holds (Value.int .u64) w CB 0 l.toArray := fun j hj => by
  have hj' : j < l.length := by simpa using hj
  refine ⟨?_, h.frozen _⟩
  rw [h.cell' j 0 (o := 0 + j) (by omega) hj' (by omega)]
  congr 2
  simp [List.getD_eq_getElem?_getD, hj', getElem!_pos]

/-- blocks that lie behind the three may turn. -/
theorem St.grown {w wr w' : World} {nw : Nat} {words : Nat → Nat → Value} {mc : Value} {b : Nat} (h : St w wr nw words mc) (hg : wr.grownBy w' (some b)) (hb : w.heap.size + 3 ≤ b) : St w w' nw words mc := by
  have hs := h.size
  have blk : ∀ k, k < w.heap.size + 3 → w'.heap[k]? = wr.heap[k]? := fun k hk => hg.block k (by omega) (by intro e; injection e with e; omega)
  refine ⟨h.bel.trans ⟨hg.os, hg.tape, hg.output, hg.size, fun k hk => blk k (by omega)⟩, Nat.le_trans hs hg.size, h.res.of_block (blk _ (by omega)), h.wds.of_block (blk _ (by omega)), h.m.of_block (blk _ (by omega))⟩

structure St4 (w wr : World) (CB n : Nat) (K C : Nat → Int) (l : List Int) : Prop where
  st : St w wr ((n + 63) / 64) (maskCell3 K C n ((n + 63) / 64)) (.slice none 0 0)
  cb : w.heap.size + 3 ≤ CB
  ch : Grid wr CB 31 1 l.length (fun i _ => .int .u64 (cd l i))

theorem grown_sort (wr : World) (q CB : Nat) (d : Array Int) (os : Array Obj) : wr.grownBy (Sort.grow (Sort.putRow (Value.int .u64) (Sort.ahead wr q) CB 0 d) os) (some CB) := by
  refine ⟨rfl, rfl, rfl, by simp, fun k hk hne => ?_⟩
  rw [Sort.heap_grow_old _ _ (by simpa using hk)]
  simp only [Sort.putRow, Sort.mapBlock, Array.getElem?_modify]
  rw [if_neg (fun e => hne (by rw [e]))]
  rfl

theorem st4_of {w wr w5 : World} {CB n q : Nat} {K C : Nat → Int} {os : Array Obj} (h : St3 w wr CB n ((n + 63) / 64) K C)
    (hw : w5 = Sort.grow (Sort.putRow (Value.int .u64) (Sort.ahead wr q) CB 0 ((chList K C n).mergeSort fun x y => decide (x ≤ y)).toArray) os) :
    St4 w w5 CB n K C ((chList K C n).mergeSort fun x y => decide (x ≤ y)) := by
  have hlt := h.ch.lt
  have hg := grown_sort wr q CB ((chList K C n).mergeSort fun x y => decide (x ≤ y)).toArray os
  rw [← hw] at hg
  refine ⟨h.st.grown hg h.cb, h.cb, ?_⟩
  obtain ⟨c, hb, hs, hc⟩ := h.ch
  have hl : ((chList K C n).mergeSort fun x y => decide (x ≤ y)).length = (chList K C n).length := List.length_mergeSort _
  refine ⟨Sort.putCells (Value.int .u64) 0 ((chList K C n).mergeSort fun x y => decide (x ≤ y)).toArray c, ?_, ?_, ?_⟩
  · rw [hw, Sort.heap_grow_old _ _ (by simpa using hlt)]
    simp only [Sort.putRow, Sort.mapBlock, Array.getElem?_modify, if_true]
    show (wr.heap[CB]?).map _ = _
    rw [hb]
    rfl
  · simp [Sort.putCells, hs, hl]
  · intro i j hi hj
    obtain rfl : j = 0 := by omega
    have hi' : i < (chList K C n).length := by omega
    have h1 := hc i 0 hi' (by omega)
    simp only [Nat.mul_one, Nat.add_zero] at h1 ⊢
    simp only [Sort.putCells, Array.getElem?_mapIdx, h1, Option.map_some]
    rw [if_pos ⟨by omega, by simpa using hi⟩]
    simp [cd, List.getD_eq_getElem?_getD]

theorem chList_mem (K C : Nat → Int) (r : Nat) : ∀ x, x ∈ chList K C r → ∃ i, i < r ∧ chStep K C i = true ∧ x = chCode C i := by
  induction r with
  | zero => intro x hx; simp [chList] at hx
  | succ r ih =>
    intro x hx
    unfold chList at hx
    split at hx
    · rename_i h
      rcases List.mem_append.1 hx with h1 | h1
      · obtain ⟨i, hi, hs⟩ := ih x h1
        exact ⟨i, by omega, hs⟩
      · simp at h1
        exact ⟨r, by omega, h, h1⟩
    · obtain ⟨i, hi, hs⟩ := ih x hx
      exact ⟨i, by omega, hs⟩

theorem cd_mem {l : List Int} {k : Nat} (hk : k < l.length) : cd l k ∈ l := by
  unfold cd
  rw [List.getD_eq_getElem?_getD, List.getElem?_eq_getElem hk]
  exact List.getElem_mem hk

theorem cd_range {K C : Nat → Int} {n : Nat} {l : List Int} (h : ∀ x, x ∈ l → x ∈ chList K C n) (hn : n ≤ 65536) {k : Nat} (hk : k < l.length) : 0 ≤ cd l k ∧ cd l k < 18446744073709551616 := by
  obtain ⟨i, hi, _, e⟩ := chList_mem K C n _ (h _ (cd_mem hk))
  rw [e]
  unfold chCode
  omega

theorem hi_of_chr {K C : Nat → Int} {n : Nat} {l : List Int} (h : ∀ x, x ∈ l → x ∈ chList K C n) (hn : n ≤ 65536) {k k' : Nat} (hk : k < l.length) (hk' : k' < l.length) (e : chr l k' = chr l k) : hi l k' = hi l k := by
  have r1 := cd_range h hn hk
  have r2 := cd_range h hn hk'
  exact wrap32_inj (by unfold hi; omega) (by unfold hi; omega) e

/-- the cells of the groups. -/
def entCells (SB : Nat) (l : List Int) (k : Nat) : List Value :=
  (List.range (gl l k).length).flatMap fun e => [.int .i32 (chAt l k e), .slice (some ⟨SB, stAt l k e * 2, none⟩) (stAt l k (e + 1) - stAt l k e) (stAt l k (e + 1) - stAt l k e)]
def wordCell (l : List Int) (k t j : Nat) : Value := if j = 0 then .int .i64 ((wordsOf l k t).1 : Nat) else .int .u64 ((wordsOf l k t).2 : Nat)

structure St5 (w wr : World) (CB SB n : Nat) (K C : Nat → Int) (l : List Int) (kg kw : Nat) (mc : Value) : Prop where
  st : St w wr ((n + 63) / 64) (maskCell3 K C n ((n + 63) / 64)) mc
  cb : w.heap.size + 3 ≤ CB
  sb : CB < SB
  ch : Grid wr CB 31 1 l.length (fun i _ => .int .u64 (cd l i))
  wg : Grid wr SB 61 2 (szOf l l.length) (wordCell l kw)
  own : wr.ownsRow (SB + 1) 59 2 mc (gl l kg).length (entCells SB l kg)

theorem own_drewN {w : World} {b : Nat} {e : TypeId} {sz : Nat} {v : Value} {n : Nat} {xs : List Value} (h : w.ownsRow b e sz v n xs) (q : Nat) : (w.drewN q).ownsRow b e sz v n xs := h
theorem St5.drewN {w wr : World} {CB SB n kg kw : Nat} {K C : Nat → Int} {l : List Int} {mc : Value} (h : St5 w wr CB SB n K C l kg kw mc) (q : Nat) : St5 w (wr.drewN q) CB SB n K C l kg kw mc :=
  ⟨h.st.drewN q, h.cb, h.sb, h.ch.drewN q, h.wg.drewN q, own_drewN h.own q⟩

theorem st5_start {w wr : World} {CB n : Nat} {K C : Nat → Int} {l : List Int} (h : St4 w wr CB n K C l) :
    St5 w (wr.alloc (Obj.cells (madeCells #[Value.int IntKind.i64 0, Value.int IntKind.u64 0] (szOf l l.length * 2)) 61)) CB wr.heap.size n K C l 0 0 (.slice none 0 0) := by
  refine ⟨h.st.alloc _, h.cb, h.ch.lt, h.ch.alloc _, (grid_made wr _ 2 _ 61 rfl).congr (fun i j _ hj => ?_), World.ownsRow_nil _ _ _ _⟩
  match j, hj with
  | 0, _ => rfl
  | 1, _ => rfl

end Go.Proofs.Qxb6000847a
