import Derived.Test.Qxb6000847aPr2
import Derived.Test.Qxb6000847aZwalk
namespace Go.Proofs.Qxb6000847a
open Go.RowKit
set_option linter.unusedSimpArgs false
set_option linter.unusedVariables false

/-- what ZZPrune leaves. -/
structure ZP (w w' : World) (m : Nat) (A Z : Nat → Nat) (OB OC : Nat) : Prop where
  bel : Below w.heap.size w w'
  ob : w.heap.size ≤ OB
  oc : w.heap.size ≤ OC
  ats : w'.rowIs OB 3 m (fun j => .int .i64 (A j : Nat))
  bts : w'.rowIs OC 31 m (fun j => .int .u64 (Z j : Nat))

/-- ZZPrune's first loop, i words laid: the masks, the row, the two arguments. -/
structure ZQ (w w1 w2 : World) (n M : Nat) (K C : Nat → Int) (A B : Nat → Nat) (b2 b3 i : Nat) (wr : World) : Prop where
  bel : Below w.heap.size w wr
  hs : wr.cell? ⟨w2.heap.size, 1, none⟩ = some (.slice (some ⟨w1.heap.size + 1, 0, none⟩) ((n + 63) / 64) ((n + 63) / 64))
  wds : Grid wr (w1.heap.size + 1) 55 10 ((n + 63) / 64) (maskCell3 K C n ((n + 63) / 64))
  row : Grid wr (w2.heap.size + 1) 61 2 M (fun a j => if a < i then rCell A B a j else if j = 0 then .int .i64 0 else .int .u64 0)
  ats : wr.rowIs b2 3 M (fun i => .int .i64 (A i : Nat))
  bts : wr.rowIs b3 31 M (fun i => .int .u64 (B i : Nat))
theorem zq_start {w w1 w2 : World} {n M : Nat} {K C : Nat → Int} {A B : Nat → Nat} {b2 b3 : Nat} {x mc : Value} (hb : Below w.heap.size w w2) (hle : w.heap.size ≤ w2.heap.size)
    (hw : Grid w2 (w1.heap.size + 1) 55 10 ((n + 63) / 64) (maskCell3 K C n ((n + 63) / 64))) (hlt : w1.heap.size + 1 < w2.heap.size)
    (hA : w.rowIs b2 3 M (fun i => .int .i64 (A i : Nat))) (hB : w.rowIs b3 31 M (fun i => .int .u64 (B i : Nat))) :
    ZQ w w1 w2 n M K C A B b2 b3 0 ((w2.alloc (Obj.cells #[x, .slice (some ⟨w1.heap.size + 1, 0, none⟩) ((n + 63) / 64) ((n + 63) / 64), mc, .slice none 0 0, .slice none 0 0] 66)).alloc (Obj.cells (madeCells #[.int .i64 0, .int .u64 0] (M * 2)) 61)) := by
  have hb' := ((hb.alloc hle (Obj.cells #[x, .slice (some ⟨w1.heap.size + 1, 0, none⟩) ((n + 63) / 64) ((n + 63) / 64), mc, .slice none 0 0, .slice none 0 0] 66)).alloc (by simp; omega) (Obj.cells (madeCells #[.int .i64 0, .int .u64 0] (M * 2)) 61))
  refine ⟨hb', ?_, (hw.alloc _).alloc _, ?_, hA.of_block (hb'.block b2 hA.lt), hB.of_block (hb'.block b3 hB.lt)⟩
  · simp [go_sem]
  · have h := grid_made (w2.alloc (Obj.cells #[x, .slice (some ⟨w1.heap.size + 1, 0, none⟩) ((n + 63) / 64) ((n + 63) / 64), mc, .slice none 0 0, .slice none 0 0] 66)) #[.int .i64 0, .int .u64 0] 2 M 61 rfl
    simp at h
    refine h.congr (fun a j ha hj => ?_)
    rw [if_neg (by omega)]
    match j, hj with
    | 0, _ => rfl
    | 1, _ => rfl

theorem zq_step {w w1 w2 wr : World} {n M : Nat} {K C : Nat → Int} {A B : Nat → Nat} {b2 b3 i : Nat} (h : ZQ w w1 w2 n M K C A B b2 b3 i wr) (hle : w.heap.size ≤ w2.heap.size + 1) (hlw : w1.heap.size + 1 < w2.heap.size) (h2 : b2 < w.heap.size) (h3 : b3 < w.heap.size) :
    ZQ w w1 w2 n M K C A B b2 b3 (i + 1) ((wr.setCell ⟨w2.heap.size + 1, i * 2, none⟩ (.int .i64 (A i : Nat))).setCell ⟨w2.heap.size + 1, i * 2 + 1, none⟩ (.int .u64 (B i : Nat))).drew := by
  refine ⟨((h.bel.setCell (p := ⟨w2.heap.size + 1, i * 2, none⟩) hle _).setCell (p := ⟨w2.heap.size + 1, i * 2 + 1, none⟩) hle _).drew, ?_, ?_, ?_, ?_, ?_⟩
  · have hx : (((wr.setCell ⟨w2.heap.size + 1, i * 2, none⟩ (.int .i64 (A i : Nat))).setCell ⟨w2.heap.size + 1, i * 2 + 1, none⟩ (.int .u64 (B i : Nat))).drew).cell? ⟨w2.heap.size, 1, none⟩ = wr.cell? ⟨w2.heap.size, 1, none⟩ := by simp [go_sem]
    rw [hx]; exact h.hs
  · exact ((h.wds.setOther (by show w1.heap.size + 1 ≠ w2.heap.size + 1; omega) _).setOther (by show w1.heap.size + 1 ≠ w2.heap.size + 1; omega) _).drew
  · refine (((h.row.set i 0 (by omega) _ (by omega)).set i 1 (by omega) _ (by omega)).drew).congr (fun a j ha hj => ?_)
    by_cases e : a = i
    · subst e
      rw [if_pos (Nat.lt_succ_self _)]
      unfold rCell
      by_cases hj0 : j = 0
      · subst hj0; simp
      · obtain rfl : j = 1 := by omega
        simp
    · have e2 : (a < i + 1) ↔ (a < i) := by omega
      simp [e, e2]
  · exact ((h.ats.setOther (by show b2 ≠ w2.heap.size + 1; omega) _).setOther (by show b2 ≠ w2.heap.size + 1; omega) _).drew
  · exact ((h.bts.setOther (by show b3 ≠ w2.heap.size + 1; omega) _).setOther (by show b3 ≠ w2.heap.size + 1; omega) _).drew

/-- two new rows, places and bits, k laid. -/
structure R2 (w wr : World) (m k : Nat) (f g : Nat → Nat) : Prop where
  bel : Below w.heap.size w wr
  size : wr.heap.size = w.heap.size + 2
  xs : wr.rowIs w.heap.size 3 m (fun i => .int .i64 (if i < k then (f i : Int) else 0))
  ys : wr.rowIs (w.heap.size + 1) 31 m (fun i => .int .u64 (if i < k then (g i : Int) else 0))
theorem r2_start (w : World) (m : Nat) (f g : Nat → Nat) : R2 w ((w.alloc (.cells (madeCells #[.int .i64 0] m) 3)).alloc (.cells (madeCells #[.int .u64 0] m) 31)) m 0 f g := by
  refine ⟨((Below.refl _ _).alloc (Nat.le_refl _) _).alloc (by simp) _, by simp, ((World.rowIs_made w _ m 3).alloc _).congr (fun i _ => by simp), ?_⟩
  have h := World.rowIs_made (w.alloc (.cells (madeCells #[.int .i64 0] m) 3)) (.int .u64 0) m 31
  simp at h
  exact h.congr (fun i _ => by simp)
theorem r2_step {w wr : World} {m k : Nat} {f g : Nat → Nat} (h : R2 w wr m k f g) :
    R2 w ((wr.setCell ⟨w.heap.size, k, none⟩ (.int .i64 (f k : Nat))).setCell ⟨w.heap.size + 1, k, none⟩ (.int .u64 (g k : Nat))) m (k + 1) f g := by
  refine ⟨(h.bel.setCell (Nat.le_refl _) _).setCell (by show w.heap.size ≤ w.heap.size + 1; omega) _, by simp [h.size],
    ((h.xs.set k _).setOther (by show w.heap.size ≠ w.heap.size + 1; omega) _).congr (fun i _ => ?_), ((h.ys.setOther (by show w.heap.size + 1 ≠ w.heap.size; omega) _).set k _).congr (fun i _ => ?_)⟩
  · by_cases e : i = k
    · subst e; simp
    · have e2 : (i < k + 1) ↔ (i < k) := by omega
      simp [e, e2]
  · by_cases e : i = k
    · subst e; simp
    · have e2 : (i < k + 1) ↔ (i < k) := by omega
      simp [e, e2]

set_option maxHeartbeats 4000000 in
set_option maxRecDepth 100000 in
theorem zzprune_calls (hm : SaidMasks) (b0 b1 b2 b3 n M : Nat) (K C : Nat → Int) (A B : Nat → Nat) (w : World)
    (hK : w.rowIs b0 5 n (fun i => .int .u8 (K i))) (hC : w.rowIs b1 21 n (fun i => .int .i32 (C i))) (hn : n ≤ 65536) (hKr : ∀ i, i < n → 0 ≤ K i ∧ K i ≤ 5) (hK0 : 0 < n → K 0 ≠ 5)
    (hA : w.rowIs b2 3 M (fun i => .int .i64 (A i : Nat))) (hB : w.rowIs b3 31 M (fun i => .int .u64 (B i : Nat))) (hinc : Inc A M ((n + 63) / 64)) (hBl : ∀ i, i < M → B i < 18446744073709551616) :
    Calls Try.prog 15 #[.slice (some ⟨b0, 0, none⟩) n n, .slice (some ⟨b1, 0, none⟩) n n, .slice (some ⟨b2, 0, none⟩) M M, .slice (some ⟨b3, 0, none⟩) M M] w fun e w' =>
      ∃ OB OC, e = .returned (.tuple #[.slice (some ⟨OB, 0, none⟩) (cmp (fun i => keepW K C n M A B (A i)) M).length (cmp (fun i => keepW K C n M A B (A i)) M).length, .slice (some ⟨OC, 0, none⟩) (cmp (fun i => keepW K C n M A B (A i)) M).length (cmp (fun i => keepW K C n M A B (A i)) M).length])
      ∧ ZP w w' (cmp (fun i => keepW K C n M A B (A i)) M).length (fun j => A ((cmp (fun i => keepW K C n M A B (A i)) M).getD j 0)) (fun j => keepW K C n M A B (A ((cmp (fun i => keepW K C n M A B (A i)) M).getD j 0))) OB OC := by
  have hMn := hinc.len
  go_enter Try.func15, Try.ntmps15
  go_wp2_with fail
  refine (steps_calls b0 b1 n K C w hK hC hn).mono ?_
  rintro e w1 ⟨rfl, hS⟩
  go_wp2_with fail
  refine (hm w.heap.size n K C w1 (hS.row.congr (fun i j hi _ => by rw [if_pos hi])) hn hKr hK0).mono ?_
  rintro e w2 ⟨SB, mc, rfl, hM⟩
  have hmk := run_make_k (P := Try.prog) 57 61 _ _ 2 16 Try.underlying57 info61 rfl .i64 .i64 M M (Nat.le_refl _) (by omega) (by omega)
  go_wp2
  clear hmk
  have hs1 := hS.size
  have hs2 := hM.size
  have hb2 : Below w.heap.size w w2 := hS.bel.trans (hM.bel.mono (by omega))
  have hQ : ZQ w w1 w2 n M K C A B b2 b3 0 ((w2.alloc (Obj.cells #[.slice (some ⟨w.heap.size, 0, none⟩) n n, .slice (some ⟨w1.heap.size + 1, 0, none⟩) ((n + 63) / 64) ((n + 63) / 64), mc, .slice none 0 0, .slice none 0 0] 66)).alloc (Obj.cells (madeCells #[.int .i64 0, .int .u64 0] (M * 2)) 61)) := zq_start hb2 (by omega) hM.wds (by omega) hA hB
  generalize (w2.alloc (Obj.cells #[.slice (some ⟨w.heap.size, 0, none⟩) n n, .slice (some ⟨w1.heap.size + 1, 0, none⟩) ((n + 63) / 64) ((n + 63) / 64), mc, .slice none 0 0, .slice none 0 0] 66)).alloc (Obj.cells (madeCells #[.int .i64 0, .int .u64 0] (M * 2)) 61) = w3 at hQ ⊢
  have hb0 : b2 < w.heap.size := hA.lt
  have hb1 : b3 < w.heap.size := hB.lt
  clear hM hS hb2 hA hB
  go_loopg [14] M (fun g s14 wx => ∃ i : Nat, i ≤ M ∧ g = M - i ∧ s14 = .int .i64 i ∧ ZQ w w1 w2 n M K C A B b2 b3 i wx)
  case atStart => exact ⟨0, Nat.zero_le _, rfl, rfl, hQ⟩
  case round =>
    clear hQ
    obtain ⟨i, hi, rfl, rfl, hO⟩ := hrel
    by_cases him : i < M
    · have c2 : wr.cell? ⟨b2, i, none⟩ = some (.int .i64 (A i : Nat)) := hO.ats.cell him
      have c3 : wr.cell? ⟨b3, i, none⟩ = some (.int .u64 (B i : Nat)) := hO.bts.cell him
      have hlt := hO.row.lt
      have hle2 : w.heap.size ≤ w2.heap.size + 1 := by omega
      have hlw : w1.heap.size + 1 < w2.heap.size := by omega
      have d0 : ∃ v, wr.cell? ⟨w2.heap.size + 1, i * 2, none⟩ = some v := ⟨_, hO.row.cell' i 0 (by omega) him (by omega)⟩
      have d1 : ∃ v, wr.cell? ⟨w2.heap.size + 1, i * 2 + 1, none⟩ = some v := ⟨_, hO.row.cell' i 1 (by omega) him (by omega)⟩
      obtain ⟨v0, d0⟩ := d0
      obtain ⟨v1, d1⟩ := d1
      have z0 := hO.row.frozen (i * 2)
      have z1 := hO.row.frozen (i * 2 + 1)
      have hdi : decide ((i : Int) < (M : Int)) = true := decide_eq_true (by omega)
      have hii : (i : Int) < (M : Int) := by omega
      have hi0 : (0 : Int) ≤ (i : Int) := by omega
      go_wp2
      go_region
      all_goals go_wp2
      all_goals
        go_roundg (M - (i + 1))
        case measure => omega
        case rel => exact ⟨i + 1, by omega, rfl, by go_num, zq_step hO hle2 hlw hb0 hb1⟩
    · obtain rfl : i = M := by omega
      go_wp2_with fail
      refine (prune_calls K C n i A B w2.heap.size (w1.heap.size + 1) (w2.heap.size + 1) wr hn hinc hBl (by omega) (by omega) hO.hs hO.wds (hO.row.congr (fun a j ha hj => by rw [if_pos ha]))).mono ?_
      rintro e w5 ⟨rfl, hT⟩
      have hb5 : Below w.heap.size w w5 := hO.bel.trans (hT.bel.mono (by omega))
      have hle5 : w.heap.size ≤ w5.heap.size := hb5.size
      have hcl := cmp_le (fun i_1 => keepW K C n i A B (A i_1)) i
      have hrw := hT.row
      have hrl := hrw.lt
      generalize hm : (cmp (fun i_1 => keepW K C n i A B (A i_1)) i).length = m at hcl ⊢
      have HMM := Hid.mk' hm
      clear hm
      have hmk1 := run_make_row' (P := Try.prog) 35 3 (.int .i64 0) 8 Try.underlying35 info3 rfl .i64 .i64 m (by omega) (by omega)
      have hmk2 := run_make_row' (P := Try.prog) 36 31 (.int .u64 0) 8 Try.underlying36 info31 rfl .i64 .i64 m (by omega) (by omega)
      go_wp2
      clear hmk1 hmk2
      go_loopg [18] m (fun g s18 wx => ∃ k : Nat, k ≤ m ∧ g = m - k ∧ s18 = .int .i64 k ∧ R2 w5 wx m k (fun j => A ((cmp (fun i_1 => keepW K C n i A B (A i_1)) i).getD j 0)) (fun j => keepW K C n i A B (A ((cmp (fun i_1 => keepW K C n i A B (A i_1)) i).getD j 0))))
      case atStart => exact ⟨0, Nat.zero_le _, rfl, rfl, r2_start w5 m _ _⟩
      case round =>
        obtain ⟨k, hk, rfl, rfl, hO⟩ := hrel
        by_cases hkm : k < m
        · have c0 : wr.cell? ⟨w2.heap.size + 1, k * 2, none⟩ = some (.int .i64 (A ((cmp (fun i_1 => keepW K C n i A B (A i_1)) i).getD k 0) : Nat)) := by
            rw [hO.bel.cell (p := ⟨w2.heap.size + 1, k * 2, none⟩) hrl, hrw.cell' k 0 (o := k * 2) (by omega) (by omega) (by omega), if_pos (by rw [HMM.out]; exact hkm)]; rfl
          have c1 : wr.cell? ⟨w2.heap.size + 1, k * 2 + 1, none⟩ = some (.int .u64 (keepW K C n i A B (A ((cmp (fun i_1 => keepW K C n i A B (A i_1)) i).getD k 0)) : Nat)) := by
            rw [hO.bel.cell (p := ⟨w2.heap.size + 1, k * 2 + 1, none⟩) hrl, hrw.cell' k 1 (o := k * 2 + 1) (by omega) (by omega) (by omega), if_pos (by rw [HMM.out]; exact hkm)]; rfl
          have t1 := hO.xs.cell hkm
          have t2 := hO.xs.frozen k
          have t3 := hO.ys.cell hkm
          have t4 := hO.ys.frozen k
          have hbs := hO.bel.size
          go_wp2
          go_roundg (m - (k + 1))
          case measure => omega
          case rel => exact ⟨k + 1, by omega, rfl, by go_num, r2_step hO⟩
        · obtain rfl : k = m := by omega
          go_wp2
          go_ret2
          refine ⟨w5.heap.size, w5.heap.size + 1, by rw [HMM.out]; rfl, ?_⟩
          rw [HMM.out]
          exact ⟨hb5.trans (hO.bel.mono hle5), hle5, by omega, hO.xs.congr (fun a ha => by rw [if_pos ha]), hO.ys.congr (fun a ha => by rw [if_pos ha])⟩
end Go.Proofs.Qxb6000847a
