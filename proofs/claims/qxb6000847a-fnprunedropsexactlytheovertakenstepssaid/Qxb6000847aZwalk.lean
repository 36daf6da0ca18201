import Derived.Test.Qxb6000847aZst
namespace Go.Proofs.Qxb6000847a
open Go.RowKit
set_option linter.unusedSimpArgs false

/-- newStepMasks' contract. -/
def SaidMasks : Prop := ∀ (bs n : Nat) (K C : Nat → Int) (w : World), Grid w bs 71 4 n (stepCell K C) → n ≤ 65536 → (∀ i, i < n → 0 ≤ K i ∧ K i ≤ 5) → (0 < n → K 0 ≠ 5) →
    Calls Try.prog 19 #[.slice (some ⟨bs, 0, none⟩) n n] w fun e w' => ∃ SB mc, e = .returned (.agg #[.slice (some ⟨w.heap.size + 1, 0, none⟩) ((n + 63) / 64) ((n + 63) / 64), mc]) ∧ MasksOut w w' n K C SB ((chList K C n).mergeSort fun x y => decide (x ≤ y)) mc

/-- what ZZNewStepMasks leaves. -/
structure ZOut (w w' : World) (n : Nat) (K C : Nat → Int) (WB EB : Nat) (l : List Int) : Prop where
  bel : Below w.heap.size w w'
  wb : w.heap.size ≤ WB
  wds : Grid w' WB 33 10 ((n + 63) / 64) (maskCell3 K C n ((n + 63) / 64))
  ent : Grid w' EB 38 3 (gl l l.length).length (entCell EB l)
  ats : ∀ e, e < (gl l l.length).length → w'.rowIs (EB + 2 + 3 * e) 3 (cnt l e) (fun j => .int .i64 ((wordsOf l l.length (stAt l l.length e + j)).1 : Nat))
  bts : ∀ e, e < (gl l l.length).length → w'.rowIs (EB + 3 + 3 * e) 31 (cnt l e) (fun j => .int .u64 ((wordsOf l l.length (stAt l l.length e + j)).2 : Nat))

theorem row_form {K C : Nat → Int} {n NW t : Nat} (h : t < NW) : ∀ j, j < 10 → [Value.int .u64 ((maskAt K C n t 0 : Nat) : Int), .int .u64 ((maskAt K C n t 1 : Nat) : Int), .int .u64 ((maskAt K C n t 2 : Nat) : Int), .int .u64 ((maskAt K C n t 3 : Nat) : Int), .int .u64 ((maskAt K C n t 4 : Nat) : Int), .int .u64 ((maskAt K C n t 5 : Nat) : Int), .int .u64 ((maskAt K C n t 6 : Nat) : Int), .int .u64 ((maskAt K C n t 7 : Nat) : Int), .int .i64 (barW K C n (t + 1)), .int .i64 (endW K C n (t + 1))].getD j default = maskCell3 K C n NW t j := by
  intro j hj
  match j, hj with
  | 0, _ => rfl
  | 1, _ => rfl
  | 2, _ => rfl
  | 3, _ => rfl
  | 4, _ => rfl
  | 5, _ => rfl
  | 6, _ => rfl
  | 7, _ => rfl
  | 8, _ => simp [maskCell3, h]
  | 9, _ => simp [maskCell3, h]

/-- the made masks beside the local m. -/
structure Za (w wx : World) (n NW : Nat) (K C : Nat → Int) (WS MB SB : Nat) (l : List Int) (mc : Value) (lim : Nat) : Prop where
  bel0 : Below w.heap.size w wx
  ws : WS < lim
  mb : MB < lim
  sb : SB < lim
  own0 : w.heap.size ≤ WS
  wds : Grid wx WS 55 10 NW (maskCell3 K C n NW)
  m0 : wx.cell? ⟨MB, 0, none⟩ = some (.slice (some ⟨WS, 0, none⟩) NW NW)
  m1 : wx.cell? ⟨MB, 1, none⟩ = some mc
  wg : Grid wx SB 61 2 (szOf l l.length) (wordCell l l.length)
  own : wx.ownsRow (SB + 1) 59 2 mc (gl l l.length).length (entCells SB l l.length)
  ownlt : ∀ k, mc.ownBlock = some k → k < lim
  limw : w.heap.size ≤ lim

theorem own_bel {w w' : World} {b B : Nat} {e : TypeId} {sz : Nat} {v : Value} {n : Nat} {xs : List Value} (h : w.ownsRow b e sz v n xs) (hb : Below B w w') (hB : ∀ k, v.ownBlock = some k → k < B) : w'.ownsRow b e sz v n xs := by
  obtain ⟨h1, h2⟩ := h
  refine ⟨h1, ?_⟩
  rcases h2 with h2 | ⟨g, cap, cur, rfl, hg, hh, r⟩
  · exact .inl h2
  · exact .inr ⟨g, cap, cur, rfl, hg, by rw [hb.block g (hB g rfl)]; exact hh, r⟩

theorem Za.bel {w wx wy : World} {n NW : Nat} {K C : Nat → Int} {WS MB SB : Nat} {l : List Int} {mc : Value} {lim : Nat} (h : Za w wx n NW K C WS MB SB l mc lim) (hb : Below lim wx wy) : Za w wy n NW K C WS MB SB l mc lim :=
  ⟨h.bel0.trans (hb.mono h.limw), h.ws, h.mb, h.sb, h.own0, h.wds.below hb h.ws, by rw [hb.cell (p := ⟨MB, 0, none⟩) h.mb]; exact h.m0, by rw [hb.cell (p := ⟨MB, 1, none⟩) h.mb]; exact h.m1, h.wg.below hb h.sb, own_bel h.own hb h.ownlt, h.ownlt, h.limw⟩

theorem Za.lift {w wx : World} {n NW : Nat} {K C : Nat → Int} {WS MB SB : Nat} {l : List Int} {mc : Value} {lim lim' : Nat} (h : Za w wx n NW K C WS MB SB l mc lim) (hl : lim ≤ lim') : Za w wx n NW K C WS MB SB l mc lim' :=
  ⟨h.bel0, by have := h.ws; omega, by have := h.mb; omega, by have := h.sb; omega, h.own0, h.wds, h.m0, h.m1, h.wg, h.own, fun k hk => by have := h.ownlt k hk; omega, by have := h.limw; omega⟩

theorem zw_step {wa wr : World} {NW t : Nat} {f : Nat → Nat → Value} (h : Zw wa wr NW t f) (v0 v1 v2 v3 v4 v5 v6 v7 v8 v9 : Value) (o : Obj) (hv : ∀ j, j < 10 → [v0, v1, v2, v3, v4, v5, v6, v7, v8, v9].getD j default = f t j) :
    Zw wa (((((((((((wr.setCell ⟨wa.heap.size, t * 10, none⟩ v0).setCell ⟨wa.heap.size, t * 10 + 1, none⟩ v1).setCell ⟨wa.heap.size, t * 10 + 2, none⟩ v2).setCell ⟨wa.heap.size, t * 10 + 3, none⟩ v3).setCell ⟨wa.heap.size, t * 10 + 4, none⟩ v4).setCell ⟨wa.heap.size, t * 10 + 5, none⟩ v5).setCell ⟨wa.heap.size, t * 10 + 6, none⟩ v6).setCell ⟨wa.heap.size, t * 10 + 7, none⟩ v7).setCell ⟨wa.heap.size, t * 10 + 8, none⟩ v8).setCell ⟨wa.heap.size, t * 10 + 9, none⟩ v9).alloc o) NW (t + 1) f := by
  have hs := h.size
  refine ⟨Below.alloc ((((((((((h.bel.setCell (Nat.le_refl _) _).setCell (Nat.le_refl _) _).setCell (Nat.le_refl _) _).setCell (Nat.le_refl _) _).setCell (Nat.le_refl _) _).setCell (Nat.le_refl _) _).setCell (Nat.le_refl _) _).setCell (Nat.le_refl _) _).setCell (Nat.le_refl _) _).setCell (Nat.le_refl _) _) (by simp; omega) _, by simp; omega, ((h.row.setrow t v0 v1 v2 v3 v4 v5 v6 v7 v8 v9).alloc o).congr (fun i j _ hj => ?_)⟩
  by_cases e : i = t
  · subst e
    rw [if_pos rfl, if_pos (by omega), hv j hj]
  · rw [if_neg e]
    by_cases hi : i < t
    · rw [if_pos hi, if_pos (by omega)]
    · rw [if_neg hi, if_neg (by omega)]

theorem stAt_mono_le (l : List Int) (k e : Nat) : stAt l k e ≤ szOf l k := by
  have key : ∀ x ∈ gl l k, x.2 ≤ szOf l k := by
    clear e
    induction k with
    | zero => intro x hx; simp [gl] at hx
    | succ k ih =>
      intro x hx
      have hm := szOf_mono l k (k + 1) (by omega)
      unfold gl at hx
      split at hx
      · rcases List.mem_append.1 hx with h | h
        · have := ih x h; omega
        · simp at h; rw [h]; exact hm
      · have := ih x hx; omega
  unfold stAt
  rw [List.getD_eq_getElem?_getD]
  cases h : (gl l k)[e]? with
  | none => exact Nat.le_refl _
  | some x => exact key x (List.mem_of_getElem? h)
theorem cnt_le (l : List Int) (e : Nat) (h : l.length ≤ 65536) : cnt l e ≤ 65536 := by
  have h1 := stAt_mono_le l l.length (e + 1)
  have h2 := szOf_le l l.length
  unfold cnt
  omega

theorem za_start {w w1 w2 : World} {n NW : Nat} {K C : Nat → Int} {SB : Nat} {l : List Int} {mc : Value} (hS : Stp w w1 n n K C) (hM : MasksOut w1 w2 n K C SB l mc) (hNW : (n + 63) / 64 = NW) :
    Za w (w2.alloc (Obj.cells #[.slice (some ⟨w1.heap.size + 1, 0, none⟩) NW NW, mc] 50)) n NW K C (w1.heap.size + 1) w2.heap.size SB l mc (w2.heap.size + 1) := by
  have h1 := hS.size
  have h2 := hM.size
  have h3 := hM.wg.lt
  have g := grid_alloc w2 #[.slice (some ⟨w1.heap.size + 1, 0, none⟩) NW NW, mc] 50 2 1 (fun _ j => if j = 0 then .slice (some ⟨w1.heap.size + 1, 0, none⟩) NW NW else mc) rfl (fun i j hi hj => by
    obtain rfl : i = 0 := by omega
    match j, hj with
    | 0, _ => rfl
    | 1, _ => rfl)
  have hw := hM.wds
  rw [hNW] at hw
  refine ⟨(hS.bel.trans (hM.bel.mono (by omega))).alloc (by omega) _, by omega, by omega, by omega, by omega, hw.alloc _, g.cell' 0 0 rfl (by omega) (by omega), g.cell' 0 1 rfl (by omega) (by omega), hM.wg.alloc _, hM.own.alloc _, fun k hk => ?_, by omega⟩
  have := (hM.own.lt k hk).2
  omega

set_option maxHeartbeats 4000000 in
set_option maxRecDepth 100000 in
theorem zmasks_calls (hm : SaidMasks) (b0 b1 n : Nat) (K C : Nat → Int) (w : World)
    (hK : w.rowIs b0 5 n (fun i => .int .u8 (K i))) (hC : w.rowIs b1 21 n (fun i => .int .i32 (C i))) (hn : n ≤ 65536) (hKr : ∀ i, i < n → 0 ≤ K i ∧ K i ≤ 5) (hK0 : 0 < n → K 0 ≠ 5) :
    Calls Try.prog 10 #[.slice (some ⟨b0, 0, none⟩) n n, .slice (some ⟨b1, 0, none⟩) n n] w fun e w' => ∃ WB EB, e = .returned (.tuple #[.slice (some ⟨WB, 0, none⟩) ((n + 63) / 64) ((n + 63) / 64), .slice (some ⟨EB, 0, none⟩) (gl ((chList K C n).mergeSort fun x y => decide (x ≤ y)) ((chList K C n).mergeSort fun x y => decide (x ≤ y)).length).length (gl ((chList K C n).mergeSort fun x y => decide (x ≤ y)) ((chList K C n).mergeSort fun x y => decide (x ≤ y)).length).length]) ∧
      ZOut w w' n K C WB EB ((chList K C n).mergeSort fun x y => decide (x ≤ y)) := by
  have hll : ((chList K C n).mergeSort fun x y => decide (x ≤ y)).length ≤ n := by rw [List.length_mergeSort]; exact chList_le K C n
  generalize hl : ((chList K C n).mergeSort fun x y => decide (x ≤ y)) = l at hll ⊢
  have HL := Hid.mk' hl
  clear hl
  go_enter Try.func10, Try.ntmps10
  go_wp2_with fail
  refine (steps_calls b0 b1 n K C w hK hC hn).mono ?_
  rintro e w1 ⟨rfl, hS⟩
  go_wp2_with fail
  refine (hm w.heap.size n K C w1 (hS.row.congr (fun i j hi _ => by rw [if_pos hi])) hn hKr hK0).mono ?_
  rintro e w2 ⟨SB, mc, rfl, hM⟩
  rw [HL.out] at hM
  have hb1 := hS.size
  have hA0 := @za_start w w1 w2 n _ K C SB l mc hS hM rfl
  generalize hNW : (n + 63) / 64 = NW at hA0 ⊢
  have hNW2 : NW ≤ 1024 := by omega
  have HNW := Hid.mk' hNW
  clear hNW
  have hA := hA0
  clear hM hA0
  have hWS : w.heap.size + 1 + 1 = w1.heap.size + 1 := by omega
  have HWS := Hid.mk' hWS
  clear hWS
  generalize hW : w1.heap.size + 1 = WS at hA HWS ⊢
  clear hW hb1
  obtain ⟨ao, cap, hmc, _⟩ := own_form hA.own
  subst hmc
  have hmk := run_make_k (P := Try.prog) 27 33 _ _ 10 80 Try.underlying27 info33 rfl .i64 .i64 NW NW (Nat.le_refl _) (by omega) (by omega)
  go_wp2
  clear hmk
  have hZ := zw_start (w2.alloc (Obj.cells #[.slice (some ⟨WS, 0, none⟩) NW NW, .slice ao (gl l l.length).length cap] 50)) NW (maskCell3 K C n NW)
  have hsz : (w2.alloc (Obj.cells #[.slice (some ⟨WS, 0, none⟩) NW NW, .slice ao (gl l l.length).length cap] 50)).heap.size = w2.heap.size + 1 := by simp
  generalize w2.alloc (Obj.cells #[.slice (some ⟨WS, 0, none⟩) NW NW, .slice ao (gl l l.length).length cap] 50) = wa at hA hZ hsz ⊢
  generalize hMB : w2.heap.size = MB at hA hsz ⊢
  clear hMB
  rw [← hsz] at hA ⊢
  generalize wa.alloc (Obj.cells (madeCells #[.int .u64 0, .int .u64 0, .int .u64 0, .int .u64 0, .int .u64 0, .int .u64 0, .int .u64 0, .int .u64 0, .int .i64 0, .int .i64 0] (NW * 10)) 33) = w3 at hZ ⊢
  have hms : MB < wa.heap.size := by omega
  have hWL : w.heap.size ≤ wa.heap.size := hA.limw
  have HSZ := Hid.mk' hsz
  clear hsz
  go_loopg [8] NW (fun g s8 wx => ∃ t : Nat, t ≤ NW ∧ g = NW - t ∧ s8 = .int .i64 t ∧ Zw wa wx NW t (maskCell3 K C n NW))
  case atStart => exact ⟨0, Nat.zero_le _, rfl, rfl, hZ⟩
  case round =>
    obtain ⟨t, ht, rfl, rfl, hO⟩ := hrel
    clear hZ
    by_cases htn : t < NW
    · have hA := hA.bel hO.bel
      have hws := hA.wds.lt
      have hlt := hO.size
      have d0 := hA.m0
      have a0 : wr.cell? ⟨WS, t * 10, none⟩ = some (.int .u64 ((maskAt K C n t 0 : Nat) : Int)) := by rw [hA.wds.cell' t 0 (o := t * 10) (by omega) htn (by omega)]; simp [maskCell3, htn]
      have a1 : wr.cell? ⟨WS, t * 10 + 1, none⟩ = some (.int .u64 ((maskAt K C n t 1 : Nat) : Int)) := by rw [hA.wds.cell' t 1 (o := t * 10 + 1) (by omega) htn (by omega)]; simp [maskCell3, htn]
      have a2 : wr.cell? ⟨WS, t * 10 + 2, none⟩ = some (.int .u64 ((maskAt K C n t 2 : Nat) : Int)) := by rw [hA.wds.cell' t 2 (o := t * 10 + 2) (by omega) htn (by omega)]; simp [maskCell3, htn]
      have a3 : wr.cell? ⟨WS, t * 10 + 3, none⟩ = some (.int .u64 ((maskAt K C n t 3 : Nat) : Int)) := by rw [hA.wds.cell' t 3 (o := t * 10 + 3) (by omega) htn (by omega)]; simp [maskCell3, htn]
      have a4 : wr.cell? ⟨WS, t * 10 + 4, none⟩ = some (.int .u64 ((maskAt K C n t 4 : Nat) : Int)) := by rw [hA.wds.cell' t 4 (o := t * 10 + 4) (by omega) htn (by omega)]; simp [maskCell3, htn]
      have a5 : wr.cell? ⟨WS, t * 10 + 5, none⟩ = some (.int .u64 ((maskAt K C n t 5 : Nat) : Int)) := by rw [hA.wds.cell' t 5 (o := t * 10 + 5) (by omega) htn (by omega)]; simp [maskCell3, htn]
      have a6 : wr.cell? ⟨WS, t * 10 + 6, none⟩ = some (.int .u64 ((maskAt K C n t 6 : Nat) : Int)) := by rw [hA.wds.cell' t 6 (o := t * 10 + 6) (by omega) htn (by omega)]; simp [maskCell3, htn]
      have a7 : wr.cell? ⟨WS, t * 10 + 7, none⟩ = some (.int .u64 ((maskAt K C n t 7 : Nat) : Int)) := by rw [hA.wds.cell' t 7 (o := t * 10 + 7) (by omega) htn (by omega)]; simp [maskCell3, htn]
      have a8 : wr.cell? ⟨WS, t * 10 + 8, none⟩ = some (.int .i64 (barW K C n (t + 1))) := by rw [hA.wds.cell' t 8 (o := t * 10 + 8) (by omega) htn (by omega)]; simp [maskCell3, htn]
      have a9 : wr.cell? ⟨WS, t * 10 + 9, none⟩ = some (.int .i64 (endW K C n (t + 1))) := by rw [hA.wds.cell' t 9 (o := t * 10 + 9) (by omega) htn (by omega)]; simp [maskCell3, htn]
      have hY : Hid (∀ j, j < 10 → [Value.int .u64 ((maskAt K C n t 0 : Nat) : Int), .int .u64 ((maskAt K C n t 1 : Nat) : Int), .int .u64 ((maskAt K C n t 2 : Nat) : Int), .int .u64 ((maskAt K C n t 3 : Nat) : Int), .int .u64 ((maskAt K C n t 4 : Nat) : Int), .int .u64 ((maskAt K C n t 5 : Nat) : Int), .int .u64 ((maskAt K C n t 6 : Nat) : Int), .int .u64 ((maskAt K C n t 7 : Nat) : Int), .int .i64 (barW K C n (t + 1)), .int .i64 (endW K C n (t + 1))].getD j default = maskCell3 K C n NW t j) := row_form htn
      generalize maskAt K C n t 0 = Y0 at a0 hY
      generalize maskAt K C n t 1 = Y1 at a1 hY
      generalize maskAt K C n t 2 = Y2 at a2 hY
      generalize maskAt K C n t 3 = Y3 at a3 hY
      generalize maskAt K C n t 4 = Y4 at a4 hY
      generalize maskAt K C n t 5 = Y5 at a5 hY
      generalize maskAt K C n t 6 = Y6 at a6 hY
      generalize maskAt K C n t 7 = Y7 at a7 hY
      generalize barW K C n (t + 1) = Y8 at a8 hY
      generalize endW K C n (t + 1) = Y9 at a9 hY
      have b0 := hO.row.cell' t 0 (o := t * 10) (by omega) htn (by omega)
      have c0 := hO.row.frozen (t * 10)
      have b1 := hO.row.cell' t 1 (o := t * 10 + 1) (by omega) htn (by omega)
      have c1 := hO.row.frozen (t * 10 + 1)
      have b2 := hO.row.cell' t 2 (o := t * 10 + 2) (by omega) htn (by omega)
      have c2 := hO.row.frozen (t * 10 + 2)
      have b3 := hO.row.cell' t 3 (o := t * 10 + 3) (by omega) htn (by omega)
      have c3 := hO.row.frozen (t * 10 + 3)
      have b4 := hO.row.cell' t 4 (o := t * 10 + 4) (by omega) htn (by omega)
      have c4 := hO.row.frozen (t * 10 + 4)
      have b5 := hO.row.cell' t 5 (o := t * 10 + 5) (by omega) htn (by omega)
      have c5 := hO.row.frozen (t * 10 + 5)
      have b6 := hO.row.cell' t 6 (o := t * 10 + 6) (by omega) htn (by omega)
      have c6 := hO.row.frozen (t * 10 + 6)
      have b7 := hO.row.cell' t 7 (o := t * 10 + 7) (by omega) htn (by omega)
      have c7 := hO.row.frozen (t * 10 + 7)
      have b8 := hO.row.cell' t 8 (o := t * 10 + 8) (by omega) htn (by omega)
      have c8 := hO.row.frozen (t * 10 + 8)
      have b9 := hO.row.cell' t 9 (o := t * 10 + 9) (by omega) htn (by omega)
      have c9 := hO.row.frozen (t * 10 + 9)
      have hd : ¬ WS = wa.heap.size := by have := hA.ws; omega
      go_wp2
      go_roundg (NW - (t + 1))
      case measure => omega
      case rel => exact ⟨t + 1, by omega, rfl, by go_num, zw_step hO _ _ _ _ _ _ _ _ _ _ _ hY.out⟩
    · obtain rfl : NW = t := by omega
      have hA2 := (hA.bel hO.bel).lift (Nat.le_of_lt hO.size)
      have hRow : Grid wr wa.heap.size 33 10 NW (maskCell3 K C n NW) := hO.row.congr (fun i j hi _ => by rw [if_pos hi])
      have hWB := hO.size
      clear hA hO
      have hG : (gl l l.length).length ≤ l.length := gl_len l l.length
      have hZE := ze_start wr l
      generalize hGG : (gl l l.length).length = G at hG hZE ⊢
      have HGG := Hid.mk' hGG
      clear hGG
      have d0 := hA2.m0
      have d1 := hA2.m1
      rw [HGG.out] at d1
      have hmk := run_make_k (P := Try.prog) 28 38 _ _ 3 56 Try.underlying28 info38 rfl .i64 .i64 G G (Nat.le_refl _) (by omega) (by omega)
      go_wp2
      clear hmk d0 d1
      generalize hw4 : wr.alloc (Obj.cells (madeCells #[.int .i32 0, .slice none 0 0, .slice none 0 0] (G * 3)) 38) = w4 at hZE ⊢
      clear hw4
      generalize hwb : wr = wb at hA2 hZE hRow hWB ⊢
      clear hwb
      go_loopg [11] G (fun g s11 wx => ∃ t : Nat, t ≤ G ∧ g = G - t ∧ s11 = .int .i64 t ∧ Ze wb wx l t)
      case atStart => exact ⟨0, Nat.zero_le _, rfl, rfl, hZE⟩
      case round =>
        obtain ⟨t, ht, rfl, rfl, hO⟩ := hrel
        clear hZE
        by_cases htn : t < G
        · have hA3 := (hA2.bel hO.bel).lift (show wb.heap.size ≤ wr.heap.size by have := hO.size; omega)
          obtain ⟨g, cap', hmc, hg1, hg2, k0, k1⟩ := ent_cells hA3.own (e := t) (by rw [HGG.out]; exact htn)
          rw [HGG.out] at hmc
          injection hmc with hmc1 hmc2 hmc3
          subst hmc1
          subst hmc3
          have d1 := hA3.m1
          rw [HGG.out] at d1
          have hmb := hA3.mb
          have hcn : stAt l l.length (t + 1) - stAt l l.length t = cnt l t := rfl
          rw [hcn] at k1
          clear hcn hmc2
          have hcb : cnt l t ≤ 65536 := cnt_le l t (by omega)
          have hmk1 := run_make_row' (P := Try.prog) 35 3 (.int .i64 0) 8 Try.underlying35 info3 rfl .i64 .i64 (cnt l t) (by omega) (by omega)
          have hmk2 := run_make_row' (P := Try.prog) 36 31 (.int .u64 0) 8 Try.underlying36 info31 rfl .i64 .i64 (cnt l t) (by omega) (by omega)
          go_wp2
          clear hmk1 hmk2 k0 k1 d1
          have hZi := zi_start wr SB l t
          generalize hw5 : ((wr.alloc (Obj.cells #[.int .i32 (chAt l l.length t), .slice (some ⟨SB, stAt l l.length t * 2, none⟩) (cnt l t) (cnt l t)] 59)).alloc (Obj.cells (madeCells #[.int .i64 0] (cnt l t)) 3)).alloc (Obj.cells (madeCells #[.int .u64 0] (cnt l t)) 31) = w5 at hZi ⊢
          clear hw5
          generalize hwc : wr = wc at hA3 hO hZi hmb hg2 ⊢
          clear hwc
          have hszl : stAt l l.length t + cnt l t ≤ szOf l l.length ∨ cnt l t = 0 := by
            have h1 := stAt_mono_le l l.length (t + 1)
            unfold cnt
            omega
          go_loopg [15] (cnt l t) (fun g s15 wx => ∃ q : Nat, q ≤ cnt l t ∧ g = cnt l t - q ∧ s15 = .int .i64 q ∧ Zi wc wx SB l t q)
          case atStart => exact ⟨0, Nat.zero_le _, rfl, rfl, hZi⟩
          case round =>
            obtain ⟨q, hq, rfl, rfl, hI⟩ := hrel
            clear hZi
            have i0 := hI.c0
            have i1 := hI.c1
            have hsI := hI.size
            by_cases hqn : q < cnt l t
            · have hsb := hA3.sb
              have x0 : wr.cell? ⟨SB, stAt l l.length t * 2 + q * 2, none⟩ = some (.int .i64 ((wordsOf l l.length (stAt l l.length t + q)).1 : Nat)) := by
                rw [hI.bel.cell (p := ⟨SB, stAt l l.length t * 2 + q * 2, none⟩) hA3.sb]; exact hA3.wg.cell' (stAt l l.length t + q) 0 (by omega) (by omega) (by omega)
              have x1 : wr.cell? ⟨SB, stAt l l.length t * 2 + q * 2 + 1, none⟩ = some (.int .u64 ((wordsOf l l.length (stAt l l.length t + q)).2 : Nat)) := by
                rw [hI.bel.cell (p := ⟨SB, stAt l l.length t * 2 + q * 2 + 1, none⟩) hA3.sb]; exact hA3.wg.cell' (stAt l l.length t + q) 1 (by omega) (by omega) (by omega)
              have y0 := hI.ats.cell hqn
              have y1 := hI.ats.frozen q
              have y2 := hI.bts.cell hqn
              have y3 := hI.bts.frozen q
              generalize hu0 : (wordsOf l l.length (stAt l l.length t + q)).1 = U0 at x0
              generalize hu1 : (wordsOf l l.length (stAt l l.length t + q)).2 = U1 at x1
              have HU : Hid ((wordsOf l l.length (stAt l l.length t + q)).1 = U0 ∧ (wordsOf l l.length (stAt l l.length t + q)).2 = U1) := ⟨hu0, hu1⟩
              clear hu0 hu1
              go_wp2
              go_roundg (cnt l t - (q + 1))
              case measure => omega
              case rel => exact ⟨q + 1, by omega, rfl, by go_num, zi_step hI _ _ (by rw [HU.out.1]) (by rw [HU.out.2])⟩
            · obtain rfl : q = cnt l t := by omega
              have hbw := hO.row.lt
              have hrow := hO.row.below hI.bel hbw
              have z0 := hrow.cell' t 0 (o := t * 3) (by omega) (by rw [HGG.out]; exact htn) (by omega)
              have z1 := hrow.cell' t 1 (o := t * 3 + 1) (by omega) (by rw [HGG.out]; exact htn) (by omega)
              have z2 := hrow.cell' t 2 (o := t * 3 + 2) (by omega) (by rw [HGG.out]; exact htn) (by omega)
              have zf0 := hrow.frozen (t * 3)
              have zf1 := hrow.frozen (t * 3 + 1)
              have zf2 := hrow.frozen (t * 3 + 2)
              clear hrow
              go_wp2
              go_roundg (G - (t + 1))
              case measure => omega
              case rel => exact ⟨t + 1, by omega, rfl, by go_num, zi_end hO hI (by rw [HGG.out]; exact htn)⟩
        · obtain rfl : G = t := by omega
          have hA3 := hA2.bel hO.bel
          have d1 := hA3.m1
          rw [HGG.out] at d1
          go_wp2
          go_ret2
          refine ⟨wa.heap.size, wb.heap.size, ?_, ⟨hA3.bel0, hWL, ?_, ?_, ?_, ?_⟩⟩
          · rw [HNW.out, HGG.out]; rfl
          · rw [HNW.out]; exact hRow.below hO.bel hWB
          · rw [HGG.out]
            have h := hO.row
            rw [HGG.out] at h
            exact h.congr (fun i j hi _ => by rw [if_pos hi])
          · intro e he; rw [HGG.out] at he; exact hO.ats e he
          · intro e he; rw [HGG.out] at he; exact hO.bts e he

end Go.Proofs.Qxb6000847a
