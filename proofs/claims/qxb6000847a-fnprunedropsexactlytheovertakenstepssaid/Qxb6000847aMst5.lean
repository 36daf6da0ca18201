import Derived.Test.Qxb6000847aMst3
import Derived.Deep.RegionLaw
namespace Go.Proofs.Qxb6000847a
open Go.RowKit

theorem last_at (l : List Int) (k : Nat) : 0 < szOf l (k + 1) ∧ (wordsOf l (k + 1) (szOf l (k + 1) - 1)).1 = ix l k / 64 := by
  induction k with
  | zero =>
    have ht : trans l 0 = true := rfl
    rw [szOf_yes l 0 ht]
    refine ⟨by omega, ?_⟩
    simp [wordsOf, ht, szOf]
  | succ k ih =>
    by_cases ht : trans l (k + 1) = true
    · rw [szOf_yes l (k + 1) ht]
      refine ⟨by omega, ?_⟩
      rw [wordsOf]
      simp [ht]
    · have ht' : trans l (k + 1) = false := by simpa using ht
      rw [szOf_no l (k + 1) ht']
      refine ⟨ih.1, ?_⟩
      have e : ix l (k + 1) / 64 = ix l k / 64 := by
        unfold trans at ht'
        simp at ht'
        exact ht'.2
      rw [wordsOf]
      simp only [ht', Bool.false_eq_true, if_false]
      rw [if_pos (by have := ih.1; omega), e]
      exact ih.2

theorem word_lt (l : List Int) (k t : Nat) : (wordsOf l k t).2 < 18446744073709551616 := by
  induction k generalizing t with
  | zero => simp [wordsOf]
  | succ k ih =>
    unfold wordsOf
    split
    · split
      · exact two_pow_lt64 _
      · exact ih t
    · split
      · exact Nat.or_lt_two_pow (n := 64) (ih t) (two_pow_lt64 _)
      · exact ih t

theorem St5.alloc {w wr : World} {CB SB n kg kw : Nat} {K C : Nat → Int} {l : List Int} {mc : Value} (h : St5 w wr CB SB n K C l kg kw mc) (o : Obj) : St5 w (wr.alloc o) CB SB n K C l kg kw mc :=
  ⟨h.st.alloc o, h.cb, h.sb, h.ch.alloc o, h.wg.alloc o, h.own.alloc o⟩

theorem own_setw {w : World} {b SB : Nat} {e : TypeId} {sz : Nat} {v : Value} {n : Nat} {xs : List Value} (h : w.ownsRow b e sz v n xs) (hb : SB < b) (o : Nat) (u : Value) : (w.setCell ⟨SB, o, none⟩ u).ownsRow b e sz v n xs :=
  ownsRow_setCell_below h hb u

/-- one cell of the words' block. -/
theorem St5.setw {w wr : World} {CB SB n kg kw kw' : Nat} {K C : Nat → Int} {l : List Int} {mc : Value} (h : St5 w wr CB SB n K C l kg kw mc) (o : Nat) (u : Value)
    (hg : Grid (wr.setCell ⟨SB, o, none⟩ u) SB 61 2 (szOf l l.length) (wordCell l kw')) : St5 w (wr.setCell ⟨SB, o, none⟩ u) CB SB n K C l kg kw' mc :=
  ⟨h.st.grown (grown_set wr SB o u) (by have := h.cb; have := h.sb; omega), h.cb, h.sb, h.ch.setOther (by show CB ≠ SB; have := h.sb; omega) _, hg, own_setw h.own (Nat.lt_succ_self _) o u⟩

theorem or_step {w wr : World} {CB SB n k k' : Nat} {K C : Nat → Int} {l : List Int} {mc : Value} (hO : St5 w wr CB SB n K C l k k' mc) (hk : k ≤ k') (hkl : k' < l.length) (ht0 : trans l k = true)
    (hc : k < k' → hi l k' = hi l (k' - 1)) (hlen : l.length ≤ 65536) :
    Calls Try.prog 23 #[.slice (some ⟨SB, szOf l k * 2, none⟩) (szOf l k' - szOf l k) (szOf l l.length - szOf l k), .int .i64 ((ix l k' : Int) / 64), .int .u64 (IntKind.u64.wrap (2 ^ (ix l k' % 64)))] wr fun e w' =>
      e = .returned (.slice (some ⟨SB, szOf l k * 2, none⟩) (szOf l (k' + 1) - szOf l k) (szOf l l.length - szOf l k)) ∧ St5 w w' CB SB n K C l k (k' + 1) mc := by
  rw [wrap_pow, show ((ix l k' : Int) / 64) = ((ix l k' / 64 : Nat) : Int) by omega]
  have h1 := szOf_le l k'
  have h2 := szOf_mono l k k' hk
  have h3 := szOf_mono l (k' + 1) l.length hkl
  have hb : ((2 ^ (ix l k' % 64) : Nat) : Int) ≠ 0 := by
    have := Nat.two_pow_pos (ix l k' % 64)
    omega
  by_cases ht : trans l k' = true
  · rw [szOf_yes l k' ht] at h3
    have hn := or_new SB (szOf l k) (szOf l k' - szOf l k) (szOf l l.length - szOf l k) (szOf l l.length) (wordCell l k') ((ix l k' / 64 : Nat) : Int) ((2 ^ (ix l k' % 64) : Nat) : Int) wr hO.wg (by omega) (by omega) (by omega) (fun hl => by
      have hkk : k < k' := by
        rcases Nat.lt_or_ge k k' with h | h
        · exact h
        · obtain rfl : k = k' := by omega
          omega
      refine ⟨((wordsOf l k' (szOf l k' - 1)).1 : Nat), ?_, ?_⟩
      · rw [show szOf l k + (szOf l k' - szOf l k) - 1 = szOf l k' - 1 by omega]; rfl
      · obtain ⟨q, rfl⟩ : ∃ q, k' = q + 1 := ⟨k' - 1, by omega⟩
        have hla := (last_at l q).2
        rw [hla]
        have hhi : hi l (q + 1) = hi l q := hc hkk
        unfold trans at ht
        simp only [Nat.add_sub_cancel] at ht
        simp [hhi] at ht
        omega) hb
    refine hn.mono ?_
    rintro e w' ⟨rfl, hw⟩
    refine ⟨by rw [szOf_yes l k' ht, show szOf l k' - szOf l k + 1 = szOf l k' + 1 - szOf l k by omega], ?_⟩
    rw [hw, show (szOf l k + (szOf l k' - szOf l k)) * 2 = szOf l k' * 2 by omega]
    have hA := hO.alloc (Obj.cells #[.int .i64 ((ix l k' / 64 : Nat) : Int), .int .u64 ((2 ^ (ix l k' % 64) : Nat) : Int)] 61)
    refine ⟨?_, hA.cb, hA.sb, ?_, ?_, ?_⟩
    · exact (hA.st.grown (grown_set _ SB _ _) (by have := hA.cb; have := hA.sb; omega)).grown (grown_set _ SB _ _) (by have := hA.cb; have := hA.sb; omega)
    · exact (hA.ch.setOther (by show CB ≠ SB; have := hA.sb; omega) _).setOther (by show CB ≠ SB; have := hA.sb; omega) _
    · refine ((hA.wg.set (szOf l k') 0 (by omega) _ (by omega)).set (szOf l k') 1 (by omega) _ (by omega)).congr (fun t j _ hj => ?_)
      unfold wordCell
      rw [wordsOf]
      simp only [ht, if_true]
      by_cases e : t = szOf l k'
      · subst e
        match j, hj with
        | 0, _ => simp
        | 1, _ => simp
      · simp [e]
    · exact own_setw (own_setw hA.own (Nat.lt_succ_self _) _ _) (Nat.lt_succ_self _) _ _
  · have ht' : trans l k' = false := by simpa using ht
    have hkk : k < k' := by
      rcases Nat.lt_or_ge k k' with h | h
      · exact h
      · obtain rfl : k = k' := by omega
        rw [ht0] at ht'; cases ht'
    obtain ⟨q, rfl⟩ : ∃ q, k' = q + 1 := ⟨k' - 1, by omega⟩
    have hla := last_at l q
    have hgt := szOf_lt_of l k (q + 1) hkk ht0
    have e0 : ix l (q + 1) / 64 = ix l q / 64 := by
      unfold trans at ht'
      simp at ht'
      exact ht'.2
    have hs := or_same SB (szOf l k) (szOf l (q + 1) - szOf l k) (szOf l l.length - szOf l k) (szOf l l.length) (wordCell l (q + 1)) ((ix l (q + 1) / 64 : Nat) : Int) ((2 ^ (ix l (q + 1) % 64) : Nat) : Int) ((wordsOf l (q + 1) (szOf l (q + 1) - 1)).2 : Nat) wr hO.wg (by omega) (by rw [szOf_no l (q + 1) ht'] at h3; omega) (by omega)
      (by rw [show szOf l k + (szOf l (q + 1) - szOf l k) - 1 = szOf l (q + 1) - 1 by omega]; unfold wordCell; rw [if_pos rfl, hla.2, e0])
      (by rw [show szOf l k + (szOf l (q + 1) - szOf l k) - 1 = szOf l (q + 1) - 1 by omega]; rfl) hb
    refine hs.mono ?_
    rintro e w' ⟨rfl, hw⟩
    refine ⟨by rw [szOf_no l (q + 1) ht'], ?_⟩
    rw [hw, bits_or_u64_nat _ _ (word_lt _ _ _) (two_pow_lt64 _)]
    refine hO.setw _ _ ((hO.wg.set (szOf l (q + 1) - 1) 1 (by omega) _ (by omega)).congr (fun t j _ hj => ?_))
    unfold wordCell
    rw [show wordsOf l (q + 1 + 1) = fun t => if trans l (q + 1) then (if t = szOf l (q + 1) then (ix l (q + 1) / 64, 2 ^ (ix l (q + 1) % 64)) else wordsOf l (q + 1) t) else (if t + 1 = szOf l (q + 1) then ((wordsOf l (q + 1) t).1, (wordsOf l (q + 1) t).2 ||| 2 ^ (ix l (q + 1) % 64)) else wordsOf l (q + 1) t) from rfl]
    simp only [ht', Bool.false_eq_true, if_false]
    by_cases e : t = szOf l (q + 1) - 1
    · subst e
      rw [if_pos (show szOf l (q + 1) - 1 + 1 = szOf l (q + 1) by omega)]
      match j, hj with
      | 0, _ => simp
      | 1, _ => simp
    · rw [if_neg (fun h => e h.1), if_neg (show ¬ t + 1 = szOf l (q + 1) by omega)]

theorem own_form {w : World} {b : Nat} {e : TypeId} {sz : Nat} {v : Value} {n : Nat} {xs : List Value} (h : w.ownsRow b e sz v n xs) : ∃ ao cap, v = .slice ao n cap ∧ ∀ k, v.ownBlock = some k → b ≤ k := by
  rcases h.2 with ⟨rfl, rfl⟩ | ⟨g, cap, cur, rfl, hb, _⟩
  · exact ⟨none, 0, rfl, fun k hk => by simp [Value.ownBlock] at hk⟩
  · exact ⟨_, cap, rfl, fun k hk => by simp [Value.ownBlock] at hk; omega⟩

/-- append onto a row of the call's own, as one step of a region that draws. -/
theorem step_append_own {P : Program} {ops : Array Oper} {o : Oper} {a : Act} {w : World} {K : Act → World → Prop} {Q : Exit → Act → World → Prop} {E : Prop}
    (hg : o.guard = none) (s x : Operand) (t : TypeId) (hop : o.op = Op.call { callee := Callee.builtin Builtin.append, args := #[s, x], argTypes := #[t, t] })
    (e : TypeId) (i : TypeInfo) (z : Value) (size bytes : Nat) (h1 : P.underlying t = some (.slice e)) (h2 : P.info? e = some i) (h3 : i.zero = some z) (h4 : i.size = size) (h5 : i.bytes = bytes) (h6 : z.cells.size = size) (h7 : 0 < size)
    (v : Value) (n base : Nat) (xs : List Value) (hs : a.eval s = v) (hown : w.ownsRow base e size v n xs)
    (ad : Addr) (m c : Nat) (hm : 0 < m) (news : List Value) (hx : a.eval x = .slice (some ad) m c) (hn : news.length = m * size) (hc : ∀ j u, news[j]? = some u → w.cell? (ad.add j) = some u) (h1c : ∀ u ∈ news, u.oneCell' = true)
    (b1 : n + m ≤ maxLen) (b2 : (n + m) * bytes ≤ 140737488355328) (hbase : base ≤ w.heap.size)
    (hK : ∀ g cap w', w'.ownsRow base e size (.slice (some ⟨g, 0, none⟩) (n + m) cap) (n + m) (xs ++ news) → w.grownBy w' v.ownBlock → K (a.put o.dst (.slice (some ⟨g, 0, none⟩) (n + m) cap)) w') :
    if Region.wanted o (yielded ops a.tmps) = true then Oper.wp P o a w K Q else E := by
  have hw : Region.wanted o (yielded ops a.tmps) = true := by simp [Region.wanted, hg]
  rw [if_pos hw]
  obtain ⟨v', w', hrun, r1, r2, _⟩ := run_append_own (P := P) w base t o.type e i z size bytes h1 h2 h3 h4 h5 h6 h7 v n xs hown ad m c news hn hc h1c b1 b2 hbase
  unfold Oper.wp
  simp [execOp, hop, resolve, invoke, builtin, hs, hx, hrun, Result.andThen]
  rcases r1.2 with ⟨_, h0⟩ | ⟨g, cap, cur, rfl, _⟩
  · omega
  · exact hK g cap w' r1 r2

theorem own_drew {w : World} {b : Nat} {e : TypeId} {sz : Nat} {v : Value} {n : Nat} {xs : List Value} (h : w.ownsRow b e sz v n xs) : w.drew.ownsRow b e sz v n xs := h
theorem new_two (w : World) (x y : Value) (t : TypeId) : ∀ j u, [x, y][j]? = some u → ((w.alloc (.cells #[x, y] t)).drew).cell? ((⟨w.heap.size, 0, none⟩ : Addr).add j) = some u := by
  intro j u hj
  match j, hj with
  | 0, hj => simp at hj; subst hj; simp [Addr.add]
  | 1, hj => simp at hj; subst hj; simp [Addr.add]
theorem one_two (c : Int) (a : Option Addr) (n m : Nat) : ∀ u ∈ [Value.int .i32 c, .slice a n m], u.oneCell' = true := by
  intro u hu; simp at hu; rcases hu with rfl | rfl <;> rfl
theorem gl_len (l : List Int) (k : Nat) : (gl l k).length ≤ k := by
  induction k with
  | zero => exact Nat.le_refl _
  | succ k ih =>
    unfold gl
    split
    · simp; omega
    · omega

theorem info59 : (Try.prog.info? 59).map (fun i => (i.zero, i.size, i.bytes)) = some (some (.agg #[.int .i32 0, .slice none 0 0]), 2, 32) := by kernel_rfl

theorem gl_run (l : List Int) (k k' : Nat) (hk : k < k') (hn : newG l k = true) (hs : ∀ j, k < j → j < k' → newG l j = false) : gl l k' = gl l k ++ [(chr l k, szOf l k)] := by
  induction k' with
  | zero => omega
  | succ q ih =>
    by_cases e : k = q
    · subst e; rw [gl, if_pos hn]
    · rw [gl, if_neg (by rw [hs q (by omega) (by omega)]; simp)]
      exact ih (by omega) (fun j h1 h2 => hs j h1 (by omega))

theorem stAt_old (l : List Int) (k k' e : Nat) (h : gl l k' = gl l k ++ [(chr l k, szOf l k)]) (he : e ≤ (gl l k).length) : stAt l k' e = stAt l k e := by
  unfold stAt
  rw [h, List.getD_eq_getElem?_getD, List.getD_eq_getElem?_getD]
  by_cases e1 : e < (gl l k).length
  · rw [List.getElem?_append_left e1, List.getElem?_eq_getElem e1]; rfl
  · obtain rfl : e = (gl l k).length := by omega
    simp
theorem chAt_old (l : List Int) (k k' e : Nat) (h : gl l k' = gl l k ++ [(chr l k, szOf l k)]) (he : e < (gl l k).length) : chAt l k' e = chAt l k e := by
  unfold chAt
  rw [h, List.getD_eq_getElem?_getD, List.getD_eq_getElem?_getD, List.getElem?_append_left he, List.getElem?_eq_getElem he]; rfl
theorem stAt_end (l : List Int) (k : Nat) : stAt l k (gl l k).length = szOf l k := by
  unfold stAt; simp [List.getD_eq_getElem?_getD]

theorem entCells_run (SB : Nat) (l : List Int) (k k' : Nat) (h : gl l k' = gl l k ++ [(chr l k, szOf l k)]) :
    entCells SB l k' = entCells SB l k ++ [.int .i32 (chr l k), .slice (some ⟨SB, szOf l k * 2, none⟩) (szOf l k' - szOf l k) (szOf l k' - szOf l k)] := by
  have hl : (gl l k').length = (gl l k).length + 1 := by rw [h]; simp
  unfold entCells
  rw [hl, List.range_succ, List.flatMap_append]
  congr 1
  · rw [List.flatMap_def, List.flatMap_def]
    congr 1
    refine List.map_congr_left (fun e he => ?_)
    have he' : e < (gl l k).length := List.mem_range.1 he
    rw [chAt_old l k k' e h he', stAt_old l k k' e h (by omega), stAt_old l k k' (e + 1) h (by omega)]
  · have e1 : chAt l k' (gl l k).length = chr l k := by unfold chAt; rw [h]; simp [List.getD_eq_getElem?_getD]
    have e2 : stAt l k' (gl l k).length = szOf l k := by rw [stAt_old l k k' _ h (Nat.le_refl _), stAt_end]
    have e3 : stAt l k' ((gl l k).length + 1) = szOf l k' := by rw [← hl, stAt_end]
    simp [e1, e2, e3]

theorem m_after {w wr w8 : World} {nw : Nat} {words : Nat → Nat → Value} {mc : Value} {o : Obj} {row : Option Nat} (h : St w wr nw words mc) (hg : ((wr.alloc o).drew).grownBy w8 row) (hr : ∀ k, row = some k → w.heap.size + 3 ≤ k) :
    w8.cell? ⟨w.heap.size + 1 + 1, 1, none⟩ = some mc ∧ w8.frozen? ⟨w.heap.size + 1 + 1, 1, none⟩ = false := by
  have hm := (h.m.alloc o).of_block (w' := w8) (hg.block (w.heap.size + 2) (h.m.alloc o).lt (fun e => by have := hr _ e.symm; omega))
  exact ⟨hm.cell' 0 1 rfl (by omega) (by omega), hm.frozen _⟩

theorem St.grownAt {w wr w' : World} {nw : Nat} {words : Nat → Nat → Value} {mc : Value} {row : Option Nat} (h : St w wr nw words mc) (hg : wr.grownBy w' row) (hr : ∀ k, row = some k → w.heap.size + 3 ≤ k) : St w w' nw words mc := by
  have hs := h.size
  have blk : ∀ k, k < w.heap.size + 3 → w'.heap[k]? = wr.heap[k]? := fun k hk => hg.block k (by omega) (by intro e; have := hr _ e.symm; omega)
  refine ⟨h.bel.trans ⟨hg.os, hg.tape, hg.output, hg.size, fun k hk => blk k (by omega)⟩, Nat.le_trans hs hg.size, h.res.of_block (blk _ (by omega)), h.wds.of_block (blk _ (by omega)), h.m.of_block (blk _ (by omega))⟩

theorem St.setm {w wr : World} {nw : Nat} {words : Nat → Nat → Value} {mc v : Value} (h : St w wr nw words mc) : St w (wr.setCell ⟨w.heap.size + 1 + 1, 1, none⟩ v) nw words v := by
  refine ⟨h.bel.setCell (by show w.heap.size ≤ w.heap.size + 1 + 1; omega) _, by have := h.size; simpa using this, h.res.setOther (by show w.heap.size ≠ w.heap.size + 1 + 1; omega) _, h.wds.setOther (by show w.heap.size + 1 ≠ w.heap.size + 1 + 1; omega) _, ?_⟩
  refine (h.m.set 0 1 (by omega) v rfl).congr (fun i j hi hj => ?_)
  obtain rfl : i = 0 := by omega
  match j, hj with
  | 0, _ => rfl
  | 1, _ => rfl

theorem st5_next {w wr w8 : World} {CB SB n k k' : Nat} {K C : Nat → Int} {l : List Int} {mc v8 : Value} {o : Obj} {ck : Int} (hO : St5 w wr CB SB n K C l k k' mc)
    (hg : ((wr.alloc o).drew).grownBy w8 mc.ownBlock) (hk : k < k') (hn : newG l k = true) (hck : chr l k = ck) (hsame : ∀ j, k ≤ j → j < k' → chr l j = ck)
    (hown : w8.ownsRow (SB + 1) 59 2 v8 ((gl l k).length + 1) (entCells SB l k ++ [.int .i32 ck, .slice (some ⟨SB, szOf l k * 2, none⟩) (szOf l k' - szOf l k) (szOf l k' - szOf l k)])) :
    St5 w (w8.setCell ⟨w.heap.size + 1 + 1, 1, none⟩ v8) CB SB n K C l k' k' v8 := by
  have hrow : ∀ q, mc.ownBlock = some q → SB + 1 ≤ q := by
    obtain ⟨_, _, _, h⟩ := own_form hO.own
    exact h
  have hcb := hO.cb
  have hsb := hO.sb
  have hA := hO.alloc o
  have hgl := gl_run l k k' hk hn (fun j h1 h2 => by
    have e1 := hsame j (by omega) h2
    have e2 := hsame (j - 1) (by omega) (by omega)
    unfold newG
    simp [e1, e2]
    omega)
  have blk : ∀ q, q ≤ SB → w8.heap[q]? = (wr.alloc o).heap[q]? := fun q hq => hg.block q (Nat.lt_of_le_of_lt hq hA.wg.lt) (fun e => by have := hrow _ e.symm; omega)
  refine ⟨((hA.st.drewN 1).grownAt hg (fun q hq => by have := hrow q hq; omega)).setm, hcb, hsb, (hA.ch.of_block (blk CB (by omega))).setOther (by show CB ≠ w.heap.size + 1 + 1; omega) _, (hA.wg.of_block (blk SB (Nat.le_refl _))).setOther (by show SB ≠ w.heap.size + 1 + 1; omega) _, ?_⟩
  rw [entCells_run SB l k k' hgl, show (gl l k').length = (gl l k).length + 1 by rw [hgl]; simp, hck]
  exact ownsRow_setCell_below hown (by show w.heap.size + 1 + 1 < SB + 1; omega) _

/-- what newStepMasks leaves. -/
structure MasksOut (w w' : World) (n : Nat) (K C : Nat → Int) (SB : Nat) (l : List Int) (mc : Value) : Prop where
  bel : Below w.heap.size w w'
  size : w.heap.size + 3 ≤ w'.heap.size
  wds : Grid w' (w.heap.size + 1) 55 10 ((n + 63) / 64) (maskCell3 K C n ((n + 63) / 64))
  sb : w.heap.size + 3 < SB
  wg : Grid w' SB 61 2 (szOf l l.length) (wordCell l l.length)
  own : w'.ownsRow (SB + 1) 59 2 mc (gl l l.length).length (entCells SB l l.length)

theorem masks_end {w wr : World} {CB SB n : Nat} {K C : Nat → Int} {l : List Int} {mc : Value} (h : St5 w wr CB SB n K C l l.length l.length mc) (x y : Value) :
    MasksOut w ((wr.setCell ⟨w.heap.size, 0, none⟩ x).setCell ⟨w.heap.size, 1, none⟩ y) n K C SB l mc := by
  have hcb := h.cb
  have hsb := h.sb
  refine ⟨(h.st.bel.setCell (Nat.le_refl _) _).setCell (Nat.le_refl _) _, by have := h.st.size; simpa using this, (h.st.wds.setOther (by show w.heap.size + 1 ≠ w.heap.size; omega) _).setOther (by show w.heap.size + 1 ≠ w.heap.size; omega) _, by omega,
    (h.wg.setOther (by show SB ≠ w.heap.size; omega) _).setOther (by show SB ≠ w.heap.size; omega) _, ?_⟩
  exact ownsRow_setCell_below (ownsRow_setCell_below h.own (by show w.heap.size < SB + 1; omega) _) (by show w.heap.size < SB + 1; omega) _

theorem res_cells {w wr : World} {nw : Nat} {words : Nat → Nat → Value} {mc : Value} (h : St w wr nw words mc) (A B : Value) :
    ((wr.setCell ⟨w.heap.size, 0, none⟩ A).setCell ⟨w.heap.size, 1, none⟩ B).cell? ⟨w.heap.size, 0, none⟩ = some A ∧ ((wr.setCell ⟨w.heap.size, 0, none⟩ A).setCell ⟨w.heap.size, 1, none⟩ B).cell? ⟨w.heap.size, 1, none⟩ = some B := by
  have g := (h.res.set 0 0 (by omega) A rfl).set 0 1 (by omega) B rfl
  exact ⟨by have := g.cell' 0 0 (o := 0) rfl (by omega) (by omega); simpa using this, by have := g.cell' 0 1 (o := 1) rfl (by omega) (by omega); simpa using this⟩

end Go.Proofs.Qxb6000847a
