import Derived.Test.Qxb6000847aPr6
namespace Go.Proofs.Qxb6000847a
open Go.RowKit
set_option linter.unusedSimpArgs false
set_option linter.unusedVariables false

theorem dn_step {M nw i : Nat} {A B : Nat → Nat} (h : Inc A M nw) (hi : i < M) (hB : B i < 18446744073709551616) (t : Nat) : (if t = A i then B i else dnW i A B t) = dnW (i + 1) A B t := by
  have h1 : Inc A (i + 1) nw := ⟨fun j hj => h.1 j (by omega), fun j hj => h.2 j (by omega)⟩
  by_cases e : t = A i
  · rw [if_pos e, e]
    exact (dnW_at h1 (Nat.lt_succ_self i) hB).symm
  · rw [if_neg e]
    refine word_ext (dnW_lt _ _ _ _) (dnW_lt _ _ _ _) fun b hb => ?_
    rw [dnW_bit _ _ _ _ _ hb, dnW_bit _ _ _ _ _ hb, Bool.eq_iff_iff, rch_iff, rch_iff, show (64 * t + b) / 64 = t by omega]
    constructor
    · rintro ⟨j, h2, h3, h4⟩
      exact ⟨j, by omega, h3, h4⟩
    · rintro ⟨j, h2, h3, h4⟩
      refine ⟨j, ?_, h3, h4⟩
      by_cases e2 : j = i
      · subst e2; exact absurd h3.symm e
      · omega

/-- pruneModel's first loop. -/
structure D1 (w wr : World) (nw i : Nat) (A B : Nat → Nat) : Prop where
  bel : Below w.heap.size w wr
  size : wr.heap.size = w.heap.size + 1
  row : wr.rowIs w.heap.size 31 nw (fun t => .int .u64 (dnW i A B t : Nat))
theorem d1_start (w : World) (nw : Nat) (A B : Nat → Nat) : D1 w (w.alloc (.cells (madeCells #[.int .u64 0] nw) 31)) nw 0 A B :=
  ⟨(Below.refl _ _).alloc (Nat.le_refl _) _, by simp, (World.rowIs_made w _ nw 31).congr fun t _ => by rw [dnW_none (fun i hi => by omega)]; rfl⟩
theorem d1_step {w wr : World} {M nw i : Nat} {A B : Nat → Nat} (h : D1 w wr nw i A B) (hinc : Inc A M nw) (hi : i < M) (hB : B i < 18446744073709551616) :
    D1 w (wr.setCell ⟨w.heap.size, A i, none⟩ (.int .u64 (B i : Nat))).drew nw (i + 1) A B :=
  ⟨(h.bel.setCell (p := ⟨w.heap.size, A i, none⟩) (Nat.le_refl _) _).drew, by simpa using h.size, (h.row.set (A i) _).drew.congr fun t _ => by
    rw [← dn_step hinc hi hB t]
    by_cases e : t = A i
    · rw [if_pos e, if_pos e]
    · rw [if_neg e, if_neg e]⟩

/-- .. its second: the words copied. -/
structure D2 (w wr : World) (nw t : Nat) (D : Nat → Nat) : Prop where
  bel : Below w.heap.size w wr
  size : wr.heap.size = w.heap.size + 2
  dn : wr.rowIs w.heap.size 31 nw (fun t => .int .u64 (D t : Nat))
  kp : wr.rowIs (w.heap.size + 1) 31 nw (fun a => .int .u64 (if a < t then (D a : Int) else 0))
theorem d2_start {w wr : World} {nw i : Nat} {A B : Nat → Nat} (h : D1 w wr nw i A B) : D2 w (wr.alloc (.cells (madeCells #[.int .u64 0] nw) 31)) nw 0 (dnW i A B) := by
  refine ⟨h.bel.alloc (by have := h.size; omega) _, by simp [h.size], h.row.alloc _, ?_⟩
  have hh := World.rowIs_made wr (.int .u64 0) nw 31
  rw [h.size] at hh
  exact hh.congr (fun i _ => by simp)
theorem d2_step {w wr : World} {nw t : Nat} {D : Nat → Nat} (h : D2 w wr nw t D) : D2 w (wr.setCell ⟨w.heap.size + 1, t, none⟩ (.int .u64 (D t : Nat))) nw (t + 1) D := by
  refine ⟨h.bel.setCell (p := ⟨w.heap.size + 1, t, none⟩) (by show w.heap.size ≤ w.heap.size + 1; omega) _, by simpa using h.size, h.dn.setOther (by show w.heap.size ≠ w.heap.size + 1; omega) _, (h.kp.set t _).congr fun a _ => ?_⟩
  by_cases e : a = t
  · subst e; simp
  · have e2 : (a < t + 1) ↔ (a < t) := by omega
    simp [e, e2]

/-- .. its third: the sweep, r positions left. -/
structure D3 (w wr : World) (n nw M : Nat) (K C : Nat → Int) (A B : Nat → Nat) (r : Nat) : Prop where
  bel : Below w.heap.size w wr
  size : wr.heap.size = w.heap.size + 2
  dn : wr.rowIs w.heap.size 31 nw (fun t => .int .u64 (dnW M A B t : Nat))
  kp : wr.rowIs (w.heap.size + 1) 31 nw (fun t => .int .u64 (kpW K C n M A B r t : Nat))
theorem d3_start {w wr : World} {n nw M : Nat} {K C : Nat → Int} {A B : Nat → Nat} (h : D2 w wr nw nw (dnW M A B)) (h1 : 64 * nw = NN n) (h2 : (n + 63) / 64 = nw) : D3 w wr n nw M K C A B (64 * nw) :=
  ⟨h.bel, h.size, h.dn, h.kp.congr fun t ht => by rw [if_pos ht, h1, kpW_top _ _ _ _ _ _ _ (by omega)]⟩
theorem stay_b (R X : Bool) (h : (R && X) = false) : (R && !X) = R := by cases R <;> cases X <;> first | rfl | cases h
theorem drop_b (R X : Bool) (h : (R && X) = true) : (R && !X) = false := by cases R <;> cases X <;> first | rfl | cases h
theorem d3_stay {w wr : World} {n nw M : Nat} {K C : Nat → Int} {A B : Nat → Nat} {p : Nat} (h : D3 w wr n nw M K C A B (p + 1)) (hk : keepP K C n M A B p = rch M A B p) : D3 w wr n nw M K C A B p :=
  ⟨h.bel, h.size, h.dn, h.kp.congr fun t _ => by
    by_cases e : t = p / 64
    · subst e; rw [kpW_stay _ _ _ _ _ _ _ hk]
    · rw [kpW_other _ _ _ _ _ _ _ _ e]⟩
theorem d3_drop {w wr : World} {n nw M : Nat} {K C : Nat → Int} {A B : Nat → Nat} {p : Nat} (h : D3 w wr n nw M K C A B (p + 1)) (hk : keepP K C n M A B p = false) :
    D3 w (wr.setCell ⟨w.heap.size + 1, p / 64, none⟩ (.int .u64 ((kpW K C n M A B (p + 1) (p / 64) &&& notW (2 ^ (p % 64)) : Nat) : Int))) n nw M K C A B p := by
  refine ⟨h.bel.setCell (p := ⟨w.heap.size + 1, p / 64, none⟩) (by show w.heap.size ≤ w.heap.size + 1; omega) _, by simpa using h.size, h.dn.setOther (by show w.heap.size ≠ w.heap.size + 1; omega) _, (h.kp.set (p / 64) _).congr fun t _ => ?_⟩
  by_cases e : t = p / 64
  · subst e; rw [if_pos rfl, kpW_drop _ _ _ _ _ _ _ hk]
  · rw [if_neg e, kpW_other _ _ _ _ _ _ _ _ e]

/-- .. its fourth: the words that are left. -/
structure D4 (w wr : World) (nw M : Nat) (A kW : Nat → Nat) (i : Nat) : Prop where
  bel : Below w.heap.size w wr
  size : w.heap.size + 4 ≤ wr.heap.size
  kp : wr.rowIs (w.heap.size + 1) 31 nw (fun t => .int .u64 (kW t : Nat))
  xs : wr.rowIs (w.heap.size + 2) 3 M (fun j => .int .i64 (if j < (cmp (fun i => kW (A i)) i).length then (A ((cmp (fun i => kW (A i)) i).getD j 0) : Int) else 0))
  ys : wr.rowIs (w.heap.size + 3) 31 M (fun j => .int .u64 (if j < (cmp (fun i => kW (A i)) i).length then (kW (A ((cmp (fun i => kW (A i)) i).getD j 0)) : Int) else 0))
theorem d4_start {w wr : World} {n nw M : Nat} {K C : Nat → Int} {A B : Nat → Nat} (h : D3 w wr n nw M K C A B 0) :
    D4 w ((wr.alloc (.cells (madeCells #[.int .i64 0] M) 3)).alloc (.cells (madeCells #[.int .u64 0] M) 31)) nw M A (keepW K C n M A B) 0 := by
  have hs := h.size
  have h1 := World.rowIs_made wr (.int .i64 0) M 3
  have h2 := World.rowIs_made (wr.alloc (.cells (madeCells #[.int .i64 0] M) 3)) (.int .u64 0) M 31
  rw [hs] at h1
  rw [show (wr.alloc (.cells (madeCells #[.int .i64 0] M) 3)).heap.size = w.heap.size + 3 by simp [hs]] at h2
  refine ⟨(h.bel.alloc (by omega) _).alloc (by simp [hs]; omega) _, by simp [hs], ((h.kp.alloc _).alloc _).congr (fun t _ => by rw [kpW_zero]), (h1.alloc _).congr (fun j _ => by simp [cmp]), h2.congr (fun j _ => by simp [cmp])⟩
theorem d4_no {w wr : World} {nw M i : Nat} {A kW : Nat → Nat} (h : D4 w wr nw M A kW i) (hc : cmp (fun i => kW (A i)) (i + 1) = cmp (fun i => kW (A i)) i) : D4 w wr nw M A kW (i + 1) :=
  ⟨h.bel, h.size, h.kp, by rw [hc]; exact h.xs, by rw [hc]; exact h.ys⟩
/-- .. between its two appends. -/
structure D5 (w wr : World) (nw M : Nat) (A kW : Nat → Nat) (i : Nat) : Prop where
  bel : Below w.heap.size w wr
  size : w.heap.size + 4 ≤ wr.heap.size
  kp : wr.rowIs (w.heap.size + 1) 31 nw (fun t => .int .u64 (kW t : Nat))
  xs : wr.rowIs (w.heap.size + 2) 3 M (fun j => .int .i64 (if j < (cmp (fun i => kW (A i)) (i + 1)).length then (A ((cmp (fun i => kW (A i)) (i + 1)).getD j 0) : Int) else 0))
  ys : wr.rowIs (w.heap.size + 3) 31 M (fun j => .int .u64 (if j < (cmp (fun i => kW (A i)) i).length then (kW (A ((cmp (fun i => kW (A i)) i).getD j 0)) : Int) else 0))
theorem snoc_cell (f : Nat → Int) (l : List Nat) (i j : Nat) : (if j = l.length then f i else if j < l.length then f (l.getD j 0) else 0) = if j < (l ++ [i]).length then f ((l ++ [i]).getD j 0) else 0 := by
  rw [List.length_append, List.length_singleton]
  by_cases h1 : j < l.length
  · rw [if_neg (by omega), if_pos h1, if_pos (by omega), List.getD_eq_getElem?_getD, List.getD_eq_getElem?_getD, List.getElem?_append_left h1]
  · by_cases h2 : j = l.length
    · subst h2
      rw [if_pos rfl, if_pos (by omega)]
      simp
    · rw [if_neg h2, if_neg h1, if_neg (by omega)]
theorem d4_x {w wr : World} {nw M i : Nat} {A kW : Nat → Nat} (h : D4 w wr nw M A kW i) (hc : cmp (fun i => kW (A i)) (i + 1) = cmp (fun i => kW (A i)) i ++ [i]) (o : Obj) :
    D5 w ((wr.alloc o).setCells (w.heap.size + 2) (cmp (fun i => kW (A i)) i).length [.int .i64 (A i : Nat)]) nw M A kW i := by
  have hs := h.size
  show D5 w ((wr.alloc o).setCell ⟨w.heap.size + 2, (cmp (fun i => kW (A i)) i).length, none⟩ (.int .i64 (A i : Nat))) nw M A kW i
  refine ⟨(h.bel.alloc (by omega) o).setCell (by show w.heap.size ≤ w.heap.size + 2; omega) _, by simp; omega, (h.kp.alloc o).setOther (by show w.heap.size + 1 ≠ w.heap.size + 2; omega) _, ((h.xs.alloc o).set _ _).congr fun j _ => ?_, (h.ys.alloc o).setOther (by show w.heap.size + 3 ≠ w.heap.size + 2; omega) _⟩
  rw [hc, ← snoc_cell (fun i => (A i : Int))]
  by_cases e : j = (cmp (fun i => kW (A i)) i).length
  · rw [if_pos e, if_pos e]
  · rw [if_neg e, if_neg e]
theorem d5_y {w wr : World} {nw M i : Nat} {A kW : Nat → Nat} (h : D5 w wr nw M A kW i) (hc : cmp (fun i => kW (A i)) (i + 1) = cmp (fun i => kW (A i)) i ++ [i]) (o : Obj) :
    D4 w ((wr.alloc o).setCells (w.heap.size + 3) (cmp (fun i => kW (A i)) i).length [.int .u64 (kW (A i) : Nat)]) nw M A kW (i + 1) := by
  have hs := h.size
  show D4 w ((wr.alloc o).setCell ⟨w.heap.size + 3, (cmp (fun i => kW (A i)) i).length, none⟩ (.int .u64 (kW (A i) : Nat))) nw M A kW (i + 1)
  refine ⟨(h.bel.alloc (by omega) o).setCell (by show w.heap.size ≤ w.heap.size + 3; omega) _, by simp; omega, (h.kp.alloc o).setOther (by show w.heap.size + 1 ≠ w.heap.size + 3; omega) _, (h.xs.alloc o).setOther (by show w.heap.size + 2 ≠ w.heap.size + 3; omega) _, ((h.ys.alloc o).set _ _).congr fun j _ => ?_⟩
  rw [hc, ← snoc_cell (fun i => (kW (A i) : Int))]
  by_cases e : j = (cmp (fun i => kW (A i)) i).length
  · rw [if_pos e, if_pos e]
  · rw [if_neg e, if_neg e]
theorem d4_end {w wr : World} {n nw M : Nat} {K C : Nat → Int} {A B : Nat → Nat} (h : D4 w wr nw M A (keepW K C n M A B) M) :
    (∀ j, j < (cmp (fun j => keepW K C n M A B (A j)) M).length → wr.cell? ⟨w.heap.size + 2, j, none⟩ = some (.int .i64 (aOf K C n M A B j : Nat))) ∧ (∀ j, j < (cmp (fun j => keepW K C n M A B (A j)) M).length → wr.cell? ⟨w.heap.size + 3, j, none⟩ = some (.int .u64 (bOf K C n M A B j : Nat))) ∧ Below w.heap.size w wr := by
  have hl := cmp_le (fun j => keepW K C n M A B (A j)) M
  refine ⟨fun j hj => ?_, fun j hj => ?_, h.bel⟩
  · rw [h.xs.cell (i := j) (by omega), if_pos hj]; rfl
  · rw [h.ys.cell (i := j) (by omega), if_pos hj]; rfl

set_option maxHeartbeats 4000000 in
set_option maxRecDepth 100000 in
theorem model_calls (b0 b1 b2 b3 n M : Nat) (K C : Nat → Int) (A B : Nat → Nat) (w : World)
    (hK : w.rowIs b0 5 n (fun i => .int .u8 (K i))) (hC : w.rowIs b1 21 n (fun i => .int .i32 (C i))) (hn : n ≤ 65536) (hKr : ∀ i, i < n → 0 ≤ K i ∧ K i ≤ 5)
    (hA : w.rowIs b2 3 M (fun i => .int .i64 (A i : Nat))) (hB : w.rowIs b3 31 M (fun i => .int .u64 (B i : Nat))) (hinc : Inc A M ((n + 63) / 64)) (hBl : ∀ i, i < M → B i < 18446744073709551616) :
    Calls Try.prog 16 #[.slice (some ⟨b0, 0, none⟩) n n, .slice (some ⟨b1, 0, none⟩) n n, .slice (some ⟨b2, 0, none⟩) M M, .slice (some ⟨b3, 0, none⟩) M M, .int .i64 (((n + 63) / 64 : Nat) : Int)] w fun e w' =>
      e = .returned (.tuple #[.slice (some ⟨w.heap.size + 2, 0, none⟩) (mOf K C n M A B) M, .slice (some ⟨w.heap.size + 3, 0, none⟩) (mOf K C n M A B) M]) ∧
      (∀ j, j < mOf K C n M A B → w'.cell? ⟨w.heap.size + 2, j, none⟩ = some (.int .i64 (aOf K C n M A B j : Nat))) ∧ (∀ j, j < mOf K C n M A B → w'.cell? ⟨w.heap.size + 3, j, none⟩ = some (.int .u64 (bOf K C n M A B j : Nat))) ∧ Below w.heap.size w w' := by
  have hMn := hinc.len
  generalize hNW : (n + 63) / 64 = nw at hMn hinc ⊢
  have hnw : nw ≤ 1024 := by omega
  have HNW := Hid.mk' hNW
  clear hNW
  have hb0 := hK.lt
  have hb1 := hC.lt
  have hb2 := hA.lt
  have hb3 := hB.lt
  have hmk1 := run_make_row' (P := Try.prog) 36 31 (.int .u64 0) 8 Try.underlying36 info31 rfl .i64 .i64 nw (by omega) (by omega)
  go_enter Try.func16, Try.ntmps16
  go_wp2
  go_loopg [14] M (fun g s14 wx => ∃ i : Nat, i ≤ M ∧ g = M - i ∧ s14 = .int .i64 i ∧ D1 w wx nw i A B)
  case atStart => exact ⟨0, Nat.zero_le _, rfl, rfl, d1_start w nw A B⟩
  case round =>
    obtain ⟨i, hi, rfl, rfl, hO⟩ := hrel
    by_cases him : i < M
    · have c2 : wr.cell? ⟨b2, i, none⟩ = some (.int .i64 (A i : Nat)) := by rw [hO.bel.cell (p := ⟨b2, i, none⟩) hb2]; exact hA.cell him
      have c3 : wr.cell? ⟨b3, i, none⟩ = some (.int .u64 (B i : Nat)) := by rw [hO.bel.cell (p := ⟨b3, i, none⟩) hb3]; exact hB.cell him
      have hAi := hinc.1 i him
      have c4 := hO.row.cell hAi
      have z4 := hO.row.frozen (A i)
      have hlt := hO.row.lt
      have hdi : decide ((i : Int) < (M : Int)) = true := decide_eq_true (by omega)
      have hii : (i : Int) < (M : Int) := by omega
      have hi0 : (0 : Int) ≤ (i : Int) := by omega
      have hai : (A i : Int) < (nw : Int) := by omega
      have ha0 : (0 : Int) ≤ (A i : Int) := by omega
      have hBi := hBl i him
      go_wp2
      go_region
      all_goals go_wp2
      all_goals
        go_roundg (M - (i + 1))
        case measure => omega
        case rel => exact ⟨i + 1, by omega, rfl, by go_num, d1_step hO hinc him hBi⟩
    · obtain rfl : i = M := by omega
      have hD : D2 w (wr.alloc (.cells (madeCells #[.int .u64 0] nw) 31)) nw 0 (dnW i A B) := d2_start hO
      have hsz := hO.size
      go_wp2
      clear hmk1
      generalize wr.alloc (.cells (madeCells #[.int .u64 0] nw) 31) = w4 at hD ⊢
      clear hO hsz
      go_loopg [16] nw (fun g s16 wx => ∃ t : Nat, t ≤ nw ∧ g = nw - t ∧ s16 = .int .i64 t ∧ D2 w wx nw t (dnW i A B))
      case atStart => exact ⟨0, Nat.zero_le _, rfl, rfl, hD⟩
      case round =>
        clear hD
        obtain ⟨t, ht, rfl, rfl, hO⟩ := hrel
        by_cases htn : t < nw
        · have c4 := hO.dn.cell htn
          have c5 := hO.kp.cell htn
          have z5 := hO.kp.frozen t
          have hl4 := hO.dn.lt
          have hl5 := hO.kp.lt
          go_wp2
          go_roundg (nw - (t + 1))
          case measure => omega
          case rel => exact ⟨t + 1, by omega, rfl, by go_num, d2_step hO⟩
        · obtain rfl : t = nw := by omega
          have hE : D3 w wr n t i K C A B (64 * t) := d3_start hO (by rw [← HNW.out]; rfl) HNW.out
          clear hO
          go_wp2
          go_loopg [17, 18, 19] (64 * t) (fun g s17 s18 s19 wx => ∃ r : Nat, r ≤ 64 * t ∧ r = g ∧ s19 = .int .i64 ((r : Int) - 1) ∧ s17 = .bool (sw (bSt K C n) (gSt K n i A B) (NN n) (NN n - r)) ∧ s18 = .bool (sw (bEn K n) (gDs K n i A B) (NN n) (NN n - r)) ∧ D3 w wx n t i K C A B r)
          case atStart => exact ⟨64 * t, Nat.le_refl _, rfl, by go_num, by rw [show NN n - 64 * t = 0 by unfold NN; rw [HNW.out]; omega]; rfl, by rw [show NN n - 64 * t = 0 by unfold NN; rw [HNW.out]; omega]; rfl, hE⟩
          case round =>
            clear hE
            obtain ⟨r, hr, rfl, rfl, rfl, rfl, hO⟩ := hrel
            cases r with
            | zero =>
              have hO2 := d4_start hO
              have hsz := hO.size
              have hmk1 := run_make_k (P := Try.prog) 35 3 (.int .i64 0) _ 1 8 Try.underlying35 info3 rfl .i64 .i64 0 i (Nat.zero_le _) (by omega) (by omega)
              have hmk2 := run_make_k (P := Try.prog) 36 31 (.int .u64 0) _ 1 8 Try.underlying36 info31 rfl .i64 .i64 0 i (Nat.zero_le _) (by omega) (by omega)
              simp only [Int.natCast_zero, Nat.mul_one] at hmk1 hmk2
              have hdn : decide ((0 : Int) ≤ ((0 : Nat) : Int) - 1) = false := by decide
              clear hO
              go_wp2
              clear hmk1 hmk2 hdn hsz
              generalize (wr.alloc (Obj.cells (madeCells #[.int .i64 0] i) 3)).alloc (Obj.cells (madeCells #[.int .u64 0] i) 31) = w5 at hO2 ⊢
              have HMO : Hid (mOf K C n i A B = (cmp (fun j => keepW K C n i A B (A j)) i).length) := Hid.mk' rfl
              have HFIN : Hid (∀ wz, D4 w wz t i A (keepW K C n i A B) i →
                  (∀ j, j < (cmp (fun j => keepW K C n i A B (A j)) i).length → wz.cell? ⟨w.heap.size + 2, j, none⟩ = some (.int .i64 (aOf K C n i A B j : Nat))) ∧ (∀ j, j < (cmp (fun j => keepW K C n i A B (A j)) i).length → wz.cell? ⟨w.heap.size + 3, j, none⟩ = some (.int .u64 (bOf K C n i A B j : Nat))) ∧ Below w.heap.size w wz) := Hid.mk' fun wz h => d4_end h
              have hkl : ∀ t, keepW K C n i A B t < 18446744073709551616 := fun t => keepW_lt _ _ _ _ _ _ _
              generalize keepW K C n i A B = kW at hO2 HFIN hkl HMO
              generalize sw (bSt K C n) (gSt K n i A B) (NN n) (NN n - 0) = bo1
              generalize sw (bEn K n) (gDs K n i A B) (NN n) (NN n - 0) = bo2
              go_loopg [27, 28, 29] i (fun g s27 s28 s29 wx => ∃ j : Nat, j ≤ i ∧ g = i - j ∧ s29 = .int .i64 j ∧ s27 = .slice (some ⟨w.heap.size + 2, 0, none⟩) (cmp (fun j => kW (A j)) j).length i ∧ s28 = .slice (some ⟨w.heap.size + 3, 0, none⟩) (cmp (fun j => kW (A j)) j).length i ∧ D4 w wx t i A kW j)
              case atStart => exact ⟨0, Nat.zero_le _, rfl, rfl, rfl, rfl, hO2⟩
              case round =>
                clear hO2
                obtain ⟨j, hj, rfl, rfl, rfl, rfl, hO⟩ := hrel
                have hcl := cmp_le (fun j => kW (A j)) j
                have hsz := hO.size
                by_cases hji : j < i
                · have c2 : wr.cell? ⟨b2, j, none⟩ = some (.int .i64 (A j : Nat)) := by rw [hO.bel.cell (p := ⟨b2, j, none⟩) hb2]; exact hA.cell hji
                  have hAj := hinc.1 j hji
                  have c4 := hO.kp.cell hAj
                  have hli : decide ((j : Int) < (i : Int)) = true := decide_eq_true (by omega)
                  have hii : (j : Int) < (i : Int) := by omega
                  have haj : (A j : Int) < (t : Int) := by omega
                  by_cases hz : kW (A j) = 0
                  · have hzb : ((kW (A j) : Int) != 0) = false := by simp [hz]
                    have HC : Hid (cmp (fun j => kW (A j)) (j + 1) = cmp (fun j => kW (A j)) j) := by unfold Hid; rw [cmp, if_pos hz]
                    clear hz
                    go_wp2
                    go_roundg (i - (j + 1))
                    case measure => omega
                    case rel => exact ⟨j + 1, by omega, rfl, by go_num, by rw [HC.out], by rw [HC.out], d4_no hO HC.out⟩
                  · have hzb : ((kW (A j) : Int) != 0) = true := by simp [hz]
                    have HC : Hid (cmp (fun j => kW (A j)) (j + 1) = cmp (fun j => kW (A j)) j ++ [j]) := by unfold Hid; rw [cmp, if_neg hz]
                    clear hz
                    have HX := Hid.mk' (fun o => d4_x hO HC.out o)
                    generalize hL : (cmp (fun j => kW (A j)) j).length = L at hcl HX ⊢
                    have HL := Hid.mk' hL
                    clear hL
                    have hroom : L + 1 ≤ i := by omega
                    obtain ⟨i3, hi3, hu3, hs3, ht3⟩ := info_parts info3
                    obtain ⟨i31, hi31, hu31, hs31, ht31⟩ := info_parts info31
                    have hsp : ∀ o k, k < 1 → ((wr.alloc o).cell? ⟨w.heap.size + 2, 0 + L * 1 + k, none⟩).isSome = true ∧ (wr.alloc o).frozen? ⟨w.heap.size + 2, 0 + L * 1 + k, none⟩ = false := fun o k hk =>
                      ⟨by rw [(hO.xs.alloc o).cell (i := 0 + L * 1 + k) (by omega)]; rfl, (hO.xs.alloc o).frozen _⟩
                    go_wp2_with (at_builtin; refine wpList_append_fit _ rfl (.tmp 164) (.tmp 169) 35 rfl 3 i3 1 Try.underlying35 hi3 hs3 (w.heap.size + 2) 0 L i rfl ⟨wr.heap.size, 0, none⟩ 1 1 [.int .i64 (A j : Nat)] rfl rfl ?c1 ?c2 hroom ?c3 (Hid.out ?c4))
                    case c1 =>
                      intro k u hk
                      match k, hk with
                      | 0, hk => simp at hk; subst hk; simp [Addr.add]
                    case c2 => intro u hu; simp at hu; subst hu; rfl
                    case c3 => intro k hk; exact hsp _ k hk
                    case c4 =>
                      refine Hid.mk' ?_
                      have hO5 := HX.out (Obj.cells #[.int .i64 (A j : Nat)] 3)
                      generalize (wr.alloc (Obj.cells #[.int .i64 (A j : Nat)] 3)).setCells (w.heap.size + 2) L [.int .i64 (A j : Nat)] = w6 at hO5 ⊢
                      clear HX hsp c2 c4 hO hsz
                      have HY := Hid.mk' (fun o => d5_y hO5 HC.out o)
                      rw [HL.out] at HY
                      have hsz := hO5.size
                      have c2 : w6.cell? ⟨b2, j, none⟩ = some (.int .i64 (A j : Nat)) := by rw [hO5.bel.cell (p := ⟨b2, j, none⟩) hb2]; exact hA.cell hji
                      have c4 := hO5.kp.cell hAj
                      have hsp : ∀ o k, k < 1 → ((w6.alloc o).cell? ⟨w.heap.size + 3, 0 + L * 1 + k, none⟩).isSome = true ∧ (w6.alloc o).frozen? ⟨w.heap.size + 3, 0 + L * 1 + k, none⟩ = false := fun o k hk =>
                        ⟨by rw [(hO5.ys.alloc o).cell (i := 0 + L * 1 + k) (by omega)]; rfl, (hO5.ys.alloc o).frozen _⟩
                      go_wp2_with (at_builtin; refine wpList_append_fit _ rfl (.tmp 171) (.tmp 179) 36 rfl 31 i31 1 Try.underlying36 hi31 hs31 (w.heap.size + 3) 0 L i rfl ⟨w6.heap.size, 0, none⟩ 1 1 [.int .u64 (kW (A j) : Nat)] rfl rfl ?c1 ?c2 hroom ?c3 (Hid.out ?c4))
                      case c1 =>
                        intro k u hk
                        match k, hk with
                        | 0, hk => simp at hk; subst hk; simp [Addr.add]
                      case c2 => intro u hu; simp at hu; subst hu; rfl
                      case c3 => intro k hk; exact hsp _ k hk
                      case c4 =>
                        refine Hid.mk' ?_
                        have hO6 := HY.out (Obj.cells #[.int .u64 (kW (A j) : Nat)] 31)
                        generalize (w6.alloc (Obj.cells #[.int .u64 (kW (A j) : Nat)] 31)).setCells (w.heap.size + 3) L [.int .u64 (kW (A j) : Nat)] = w7 at hO6 ⊢
                        clear HY hsp c2 c4 hO5 hsz
                        go_wp2
                        go_roundg (i - (j + 1))
                        case measure => omega
                        case rel => exact ⟨j + 1, by omega, rfl, by go_num, by rw [HC.out, List.length_append, HL.out]; rfl, by rw [HC.out, List.length_append, HL.out]; rfl, hO6⟩
                · obtain rfl : j = i := by omega
                  go_wp2
                  go_ret2
                  rw [HMO.out]
                  exact ⟨rfl, HFIN.out _ hO⟩
            | succ p =>
              have e9 : ((p + 1 : Nat) : Int) - 1 = (p : Int) := by omega
              rw [e9]
              clear e9
              have hp64 : p / 64 < t := by omega
              have cd := hO.dn.cell hp64
              have ck := hO.kp.cell hp64
              have zk := hO.kp.frozen (p / 64)
              have hl4 := hO.dn.lt
              have hl5 := hO.kp.lt
              have hx0 : p < n → wr.cell? ⟨b0, p, none⟩ = some (.int .u8 (K p)) := fun h => by rw [hO.bel.cell (p := ⟨b0, p, none⟩) hb0]; exact hK.cell h
              have hx1 : p < n → wr.cell? ⟨b1, p, none⟩ = some (.int .i32 (C p)) := fun h => by rw [hO.bel.cell (p := ⟨b1, p, none⟩) hb1]; exact hC.cell h
              go_upto_if 73 with fail
              go_cut [20] from 67 to 143 (fun s20 wx => wr = wx ∧ s20 = .int .u8 (if p < n then K p else 255))
              case first =>
                by_cases hpn : p < n
                · have x0 := hx0 hpn
                  have d1 : decide ((p : Int) < (n : Int)) = true := decide_eq_true (by omega)
                  have d2 : decide (p < n) = true := decide_eq_true hpn
                  go_wp2
                  go_meet
                  case rel => exact ⟨rfl, by rw [if_pos hpn]⟩
                · have d1 : decide ((p : Int) < (n : Int)) = false := decide_eq_false (by omega)
                  have d2 : decide (p < n) = false := decide_eq_false hpn
                  go_wp2
                  go_meet
                  case rel => exact ⟨rfl, by rw [if_neg hpn]⟩
              case rest =>
                obtain ⟨rfl, rfl⟩ := hcut
                generalize hkk : (if p < n then K p else 255 : Int) = kk
                have HKK := Hid.mk' hkk
                clear hkk
                have hk0 : kk = 0 → p < n ∧ K p = 0 := fun h => by
                  have := HKK.out
                  by_cases hpn : p < n
                  · rw [if_pos hpn] at this; exact ⟨hpn, by omega⟩
                  · rw [if_neg hpn] at this; omega
                have eS : ∀ v, (kk == 0) = v → (decide (p < n) && pSl K C p) = (v && C p == 47) := fun v hv => by
                  have := HKK.out
                  unfold pSl
                  by_cases hpn : p < n
                  · rw [if_pos hpn] at this; rw [decide_eq_true hpn, this, hv, Bool.true_and]
                  · rw [if_neg hpn] at this; subst this; rw [decide_eq_false hpn, ← hv]; rfl
                have HES := Hid.mk' eS
                clear eS
                go_upto_region 20 with fail
                go_cut [21] from 67 to 143 (fun s21 wx => wr = wx ∧ s21 = .bool (decide (p < n) && pSl K C p))
                case first =>
                  by_cases hk : kk = 0
                  · have hpn := (hk0 hk).1
                    have x1 := hx1 hpn
                    have u0 : (kk == 0) = true := by simpa using hk
                    have HE := Hid.mk' (HES.out true u0)
                    clear hk
                    go_wp2
                    go_meet
                    case rel => exact ⟨rfl, by rw [HE.out]; rfl⟩
                  · have u0 : (kk == 0) = false := by simpa using hk
                    have HE := Hid.mk' (HES.out false u0)
                    clear hk
                    go_wp2
                    go_meet
                    case rel => exact ⟨rfl, by rw [HE.out]; rfl⟩
                case rest =>
                  obtain ⟨rfl, rfl⟩ := hcut
                  clear HES hx0 hx1 hk0
                  have eE : bEn K n p = (kk == 5) := by
                    have := HKK.out
                    unfold bEn pEnd
                    by_cases hpn : p < n
                    · rw [if_pos hpn] at this; rw [decide_eq_true hpn, this, Bool.true_and]
                    · rw [if_neg hpn] at this; subst this; rw [decide_eq_false hpn]; rfl
                  have eD : (decide (p < n) && pDS K p) = (kk == 4) := by
                    have := HKK.out
                    unfold pDS
                    by_cases hpn : p < n
                    · rw [if_pos hpn] at this; rw [decide_eq_true hpn, this, Bool.true_and]
                    · rw [if_neg hpn] at this; subst this; rw [decide_eq_false hpn]; rfl
                  have e3 : (decide (p < n) && K p == 3) = (kk == 3) := by
                    have := HKK.out
                    by_cases hpn : p < n
                    · rw [if_pos hpn] at this; rw [decide_eq_true hpn, this, Bool.true_and]
                    · rw [if_neg hpn] at this; subst this; rw [decide_eq_false hpn]; rfl
                  have eB : bSt K C n p = ((kk == 5) || ((kk == 4) || (decide (p < n) && pSl K C p))) := by
                    rw [← eE, ← eD]
                    unfold bSt bEn pBar pSl pDS pEnd
                    cases decide (p < n) <;> rfl
                  have HEE := Hid.mk' eE
                  have HED := Hid.mk' eD
                  have HE3 := Hid.mk' e3
                  have HEB := Hid.mk' eB
                  clear eE eD e3 eB
                  generalize (decide (p < n) && pSl K C p) = sl at HEB ⊢
                  go_upto_region 23 with fail
                  generalize hv5 : (kk == 5) = v5 at HEE HEB ⊢
                  generalize hv4 : (kk == 4) = v4 at HED HEB ⊢
                  clear hv5 hv4
                  go_cut [24] from 67 to 143 (fun s24 wx => wr = wx ∧ s24 = .bool (bSt K C n p))
                  case first =>
                    cases sl <;> cases v5 <;> cases v4
                    all_goals
                      go_wp2
                      go_meet
                      case rel => exact ⟨rfl, by rw [HEB.out]; rfl⟩
                  case rest =>
                    obtain ⟨rfl, rfl⟩ := hcut
                    clear HEB
                    have hin : (bits .and .u64 ((dnW i A B (p / 64) : Nat) : Int) (IntKind.u64.wrap ((2 : Int) ^ (p % 64))) != 0) = rch i A B p := by
                      rw [bit_q _ p (dnW_lt _ _ _ _), dnW_bit _ _ _ _ _ (Nat.mod_lt _ (by decide)), show 64 * (p / 64) + p % 64 = p by omega]
                    have HIN := Hid.mk' hin
                    clear hin
                    go_upto_region 26 with fail
                    rw [HIN.out]
                    clear HIN
                    generalize hgR : rch i A B p = R
                    generalize hgS : sw (bSt K C n) (gSt K n i A B) (NN n) (NN n - (p + 1)) = S
                    generalize hgD : sw (bEn K n) (gDs K n i A B) (NN n) (NN n - (p + 1)) = D
                    generalize hgB : bSt K C n p = bar
                    have HR := Hid.mk' hgR
                    have HS := Hid.mk' hgS
                    have HD := Hid.mk' hgD
                    have HBR := Hid.mk' hgB
                    clear hgR hgS hgD hgB
                    go_cut [124] from 67 to 143 (fun s124 wx => wr = wx ∧ s124 = .bool (R && ((S && !bar) || (D && !v5))))
                    case first =>
                      cases R <;> cases S <;> cases D <;> cases bar <;> cases v5
                      all_goals
                        go_wp2
                        go_meet
                        case rel => exact ⟨rfl, rfl⟩
                    case rest =>
                      obtain ⟨rfl, rfl⟩ := hcut
                      have hkp : keepP K C n i A B p = (R && !((S && !bar) || (D && !v5))) := by
                        unfold keepP onS onD onAt
                        rw [HR.out, HBR.out, HEE.out, show NN n - 1 - p = NN n - (p + 1) by omega, HS.out, HD.out]
                      have HKP := Hid.mk' hkp
                      clear hkp
                      generalize hdr : (R && ((S && !bar) || (D && !v5))) = dr
                      have HDR := Hid.mk' hdr
                      clear hdr
                      have hand : bits .andNot .u64 ((kpW K C n i A B (p + 1) (p / 64) : Nat) : Int) (IntKind.u64.wrap ((2 : Int) ^ (p % 64))) = ((kpW K C n i A B (p + 1) (p / 64) &&& notW (2 ^ (p % 64)) : Nat) : Int) := by
                        rw [wrap_pow, andNot_nat _ _ (kpW_lt _ _ _ _ _ _ _ _) (two_pow_lt64 p)]
                      have HAN := Hid.mk' hand
                      clear hand
                      go_upto_if 124 with fail
                      go_cut [] from 67 to 143 (fun wx => D3 w wx n t i K C A B p)
                      case first =>
                        cases dr
                        · go_wp2
                          go_meet
                          case rel => exact d3_stay hO (by rw [HKP.out, HR.out]; exact stay_b _ _ HDR.out)
                        · go_wp2
                          go_meet
                          case rel => exact (by rw [HAN.out]; exact d3_drop hO (by rw [HKP.out]; exact drop_b _ _ HDR.out))
                      case rest =>
                        have hN : p < NN n := by unfold NN; rw [HNW.out]; omega
                        have hS1 : sw (bSt K C n) (gSt K n i A B) (NN n) (NN n - p) = ((S && !bar) || (R && (kk == 3))) := by
                          rw [show NN n - p = (NN n - (p + 1)) + 1 by omega, sw, show NN n - 1 - (NN n - (p + 1)) = p by omega, HS.out, HBR.out]
                          unfold gSt
                          rw [HR.out, HE3.out]
                        have hD1 : sw (bEn K n) (gDs K n i A B) (NN n) (NN n - p) = ((D && !v5) || (R && v4)) := by
                          rw [show NN n - p = (NN n - (p + 1)) + 1 by omega, sw, show NN n - 1 - (NN n - (p + 1)) = p by omega, HD.out, HEE.out]
                          unfold gDs
                          rw [HR.out, HED.out]
                        have HS1 := Hid.mk' hS1
                        have HD1 := Hid.mk' hD1
                        clear hS1 hD1 hN HR HS HD HBR HEE HED HE3 HKP HDR HAN hO cd ck zk hl4 hl5
                        have hO := hcut
                        clear hcut
                        go_upto_if 133 with fail
                        go_cut [17] from 67 to 143 (fun s17 wx => wc = wx ∧ s17 = .bool (S && !bar))
                        case first =>
                          cases bar
                          all_goals
                            go_wp2
                            go_meet
                            case rel => exact ⟨rfl, by cases S <;> rfl⟩
                        case rest =>
                          obtain ⟨rfl, rfl⟩ := hcut
                          generalize (S && !bar) = S2 at HS1 ⊢
                          go_upto_if 134 with fail
                          go_cut [18] from 67 to 143 (fun s18 wx => wc = wx ∧ s18 = .bool (D && !v5))
                          case first =>
                            cases v5
                            all_goals
                              go_wp2
                              go_meet
                              case rel => exact ⟨rfl, by cases D <;> rfl⟩
                          case rest =>
                            obtain ⟨rfl, rfl⟩ := hcut
                            generalize (D && !v5) = D2 at HD1 ⊢
                            go_upto_region 32 with fail
                            generalize hv3 : (kk == 3) = v3 at HS1 ⊢
                            go_cut [139] from 67 to 143 (fun s139 wx => wc = wx ∧ s139 = .bool (R && v3))
                            case first =>
                              cases R
                              · go_wp2
                                go_meet
                                case rel => exact ⟨rfl, rfl⟩
                              · go_wp2
                                go_meet
                                case rel => exact ⟨rfl, by rw [← hv3]; rfl⟩
                            case rest =>
                              clear hv3
                              obtain ⟨rfl, rfl⟩ := hcut
                              generalize (R && v3) = x3 at HS1 ⊢
                              go_upto_if 139 with fail
                              go_cut [17] from 67 to 143 (fun s17 wx => wc = wx ∧ s17 = .bool (S2 || x3))
                              case first =>
                                cases x3
                                all_goals
                                  go_wp2
                                  go_meet
                                  case rel => exact ⟨rfl, by cases S2 <;> rfl⟩
                              case rest =>
                                obtain ⟨rfl, rfl⟩ := hcut
                                rw [← HS1.out]
                                clear HS1
                                go_upto_region 34 with fail
                                go_cut [143] from 67 to 143 (fun s143 wx => wc = wx ∧ s143 = .bool (R && v4))
                                case first =>
                                  cases R <;> cases v4
                                  all_goals
                                    go_wp2
                                    go_meet
                                    case rel => exact ⟨rfl, rfl⟩
                                case rest =>
                                  obtain ⟨rfl, rfl⟩ := hcut
                                  generalize (R && v4) = x4 at HD1 ⊢
                                  cases x4
                                  all_goals
                                    go_wp2
                                    go_roundg p
                                    case measure => omega
                                    case rel => exact ⟨p, by omega, rfl, rfl, rfl, by rw [HD1.out]; cases D2 <;> rfl, hO⟩
end Go.Proofs.Qxb6000847a
