import Derived.Test.Qxb6000847aBase
namespace Go.Proofs.Qxb6000847a
open Go.RowKit

/-- BLOCK b IS A ROW OF n ELEMENTS OF k CELLS EACH, NONE FROZEN; cell j of element i holds 'f i j'. -/
def Grid (w : World) (b : Nat) (t : TypeId) (k n : Nat) (f : Nat → Nat → Value) : Prop :=
  ∃ c : Array Value, w.heap[b]? = some (.cells c t (0, 0)) ∧ c.size = n * k ∧ ∀ i j, i < n → j < k → c[i * k + j]? = some (f i j)

namespace Grid
variable {w : World} {b : Nat} {t : TypeId} {k n : Nat} {f g : Nat → Nat → Value}

theorem cell (h : Grid w b t k n f) {i j : Nat} (hi : i < n) (hj : j < k) : w.cell? ⟨b, i * k + j, none⟩ = some (f i j) := by
  obtain ⟨c, hb, _, hc⟩ := h
  simp [World.cell?, hb, hc i j hi hj]

theorem cell' (h : Grid w b t k n f) (i j : Nat) {o : Nat} (ho : o = i * k + j) (hi : i < n) (hj : j < k) : w.cell? ⟨b, o, none⟩ = some (f i j) := by
  subst ho; exact h.cell hi hj

theorem frozen (h : Grid w b t k n f) (o : Nat) : w.frozen? ⟨b, o, none⟩ = false := by
  obtain ⟨c, hb, _, _⟩ := h
  simp [World.frozen?, hb]

theorem lt (h : Grid w b t k n f) : b < w.heap.size := by
  obtain ⟨c, hb, _, _⟩ := h
  obtain ⟨hlt, _⟩ := Array.getElem?_eq_some_iff.1 hb
  exact hlt

theorem congr (h : Grid w b t k n f) (e : ∀ i j, i < n → j < k → f i j = g i j) : Grid w b t k n g := by
  obtain ⟨c, hb, hn, hc⟩ := h
  exact ⟨c, hb, hn, fun i j hi hj => by rw [hc i j hi hj, e i j hi hj]⟩

theorem of_block {w' : World} (h : Grid w b t k n f) (e : w'.heap[b]? = w.heap[b]?) : Grid w' b t k n f := by
  obtain ⟨c, hb, hn, hc⟩ := h
  exact ⟨c, e.trans hb, hn, hc⟩

theorem below {w' : World} {B : Nat} (h : Grid w b t k n f) (hb : Below B w w') (hB : b < B) : Grid w' b t k n f := h.of_block (hb.block b hB)

theorem idx_inj {k i j i' j' : Nat} (hj : j < k) (hj' : j' < k) (h : i * k + j = i' * k + j') : i = i' ∧ j = j' := by
  have hk : 0 < k := by omega
  have e1 : (i * k + j) / k = i := by rw [Nat.add_comm, Nat.add_mul_div_right _ _ hk, Nat.div_eq_of_lt hj]; omega
  have e2 : (i' * k + j') / k = i' := by rw [Nat.add_comm, Nat.add_mul_div_right _ _ hk, Nat.div_eq_of_lt hj']; omega
  have hi : i = i' := by rw [← e1, h, e2]
  subst hi
  exact ⟨rfl, by omega⟩

theorem set (h : Grid w b t k n f) (i j : Nat) (hj : j < k) (v : Value) {o : Nat} (ho : o = i * k + j) :
    Grid (w.setCell ⟨b, o, none⟩ v) b t k n (fun i' j' => if i' = i ∧ j' = j then v else f i' j') := by
  subst ho
  obtain ⟨c, hb, hn, hc⟩ := h
  refine ⟨c.setIfInBounds (i * k + j) v, ?_, by simpa using hn, fun i' j' hi' hj' => ?_⟩
  · simp [World.setCell, Array.getElem?_modify, hb]
  · rw [Array.getElem?_setIfInBounds]
    by_cases e : i' = i ∧ j' = j
    · obtain ⟨rfl, rfl⟩ := e
      have : i' * k + j' < n * k := by
        have h1 : (i' + 1) * k ≤ n * k := Nat.mul_le_mul_right k hi'
        have h2 : (i' + 1) * k = i' * k + k := by rw [Nat.add_mul]; omega
        omega
      simp [hn, this]
    · rw [if_neg (fun h => e ((idx_inj hj hj' h).imp Eq.symm Eq.symm))]
      show _ = some (if i' = i ∧ j' = j then v else f i' j')
      rw [if_neg e]
      exact hc i' j' hi' hj'

theorem setOther (h : Grid w b t k n f) {a : Addr} (ha : b ≠ a.block) (v : Value) : Grid (w.setCell a v) b t k n f := h.of_block (Below.heap_setCell _ _ _ _ ha)

theorem alloc (h : Grid w b t k n f) (o : Obj) : Grid (w.alloc o) b t k n f := h.of_block (Below.heap_alloc _ _ _ h.lt)

theorem drew (h : Grid w b t k n f) : Grid w.drew b t k n f := h
theorem drewN (h : Grid w b t k n f) (q : Nat) : Grid (w.drewN q) b t k n f := h

end Grid

theorem grid_alloc (w : World) (c : Array Value) (t : TypeId) (k n : Nat) (f : Nat → Nat → Value) (hs : c.size = n * k) (hc : ∀ i j, i < n → j < k → c[i * k + j]? = some (f i j)) :
    Grid (w.alloc (.cells c t)) w.heap.size t k n f := by
  exact ⟨c, Deep.blk_alloc_new _ _, hs, hc⟩

theorem grid_made (w : World) (z : Array Value) (k n : Nat) (t : TypeId) (hk : z.size = k) : Grid (w.alloc (.cells (madeCells z (n * k)) t)) w.heap.size t k n (fun _ j => z[j]!) := by
  refine grid_alloc w _ t k n _ (size_madeCells _ _) (fun i j hi hj => ?_)
  have hlt : i * k + j < n * k := by
    have h1 : (i + 1) * k ≤ n * k := Nat.mul_le_mul_right k hi
    have h2 : (i + 1) * k = i * k + k := by rw [Nat.add_mul]; omega
    omega
  simp [madeCells, hk, hlt, Nat.mod_eq_of_lt hj]

theorem run_make_k {P : Program} (t e : TypeId) (z : Value) (zs : Array Value) (k bytes : Nat) (ht : P.underlying t = some (.slice e)) (hinfo : (P.info? e).map (fun i => (i.zero, i.size, i.bytes)) = some (some z, k, bytes)) (hz1 : z.cells = zs)
    (kl kc : IntKind) (l n : Nat) (hln : l ≤ n) (hbytes : bytes * n ≤ 281474976710656) (h63 : n ≤ 9223372036854775807) (w : World) :
    (Instr.makeSlice t (.int kl (l : Int)) (.int kc (n : Int))).run P w = .ok (.slice (some ⟨w.heap.size, 0, none⟩) l n) (w.alloc (.cells (madeCells zs (n * k)) e)) := by
  obtain ⟨i, hi, hzz⟩ := Option.map_eq_some_iff.1 hinfo
  simp only [Prod.mk.injEq] at hzz
  obtain ⟨hz, hs, hb⟩ := hzz
  have hb' : (i.bytes : Int) * (n : Int) ≤ 281474976710656 := by
    have h : ((i.bytes * n : Nat) : Int) ≤ 281474976710656 := by rw [hb]; omega
    rwa [Int.natCast_mul] at h
  have hr := run_make (P := P) w t e i z ht hi hz kl kc l n (by omega) (by omega) hb' (by omega)
  simp only [Int.toNat_natCast, hs, hz1] at hr
  exact hr

theorem info71 : (Try.prog.info? 71).map (fun i => (i.zero, i.size, i.bytes)) = some (some (.agg #[.int .u8 0, .int .i32 0, .slice none 0 0, .bool false]), 4, 40) := by kernel_rfl

/-- a step's cells. -/
def stepCell (K C : Nat → Int) (i j : Nat) : Value := if j = 0 then .int .u8 (K i) else if j = 1 then .int .i32 (C i) else if j = 2 then .slice none 0 0 else .bool false

/-- zzSteps, r rounds done. -/
structure Stp (w wr : World) (n r : Nat) (K C : Nat → Int) : Prop where
  bel : Below w.heap.size w wr
  size : wr.heap.size = w.heap.size + 1
  row : Grid wr w.heap.size 71 4 n (fun i j => if i < r then stepCell K C i j else stepCell (fun _ => 0) (fun _ => 0) i j)

theorem stp_start (w : World) (n : Nat) (K C : Nat → Int) : Stp w (w.alloc (.cells (madeCells #[.int .u8 0, .int .i32 0, .slice none 0 0, .bool false] (n * 4)) 71)) n 0 K C := by
  refine ⟨(Below.refl _ _).alloc (Nat.le_refl _) _, by simp, (grid_made w _ 4 n 71 rfl).congr (fun i j _ hj => ?_)⟩
  match j, hj with
  | 0, _ => rfl
  | 1, _ => rfl
  | 2, _ => rfl
  | 3, _ => rfl

theorem stp_step {w wr : World} {n r : Nat} {K C : Nat → Int} (h : Stp w wr n r K C) :
    Stp w ((wr.setCell ⟨w.heap.size, r * 4, none⟩ (.int .u8 (K r))).setCell ⟨w.heap.size, r * 4 + 1, none⟩ (.int .i32 (C r))) n (r + 1) K C := by
  refine ⟨(h.bel.setCell (Nat.le_refl _) _).setCell (Nat.le_refl _) _, by simp [h.size], ((h.row.set r 0 (by omega) _ (by omega)).set r 1 (by omega) _ (by omega)).congr (fun i j _ hj => ?_)⟩
  by_cases e : i = r
  · subst e
    match j, hj with
    | 0, _ => simp [stepCell]
    | 1, _ => simp [stepCell]
    | 2, _ => simp [stepCell]
    | 3, _ => simp [stepCell]
  · rw [if_neg (fun h => e h.1), if_neg (fun h => e h.1)]
    by_cases hi : i < r
    · rw [if_pos hi, if_pos (by omega)]
    · rw [if_neg hi, if_neg (by omega)]

set_option maxHeartbeats 1000000 in
theorem steps_calls (b0 b1 n : Nat) (K C : Nat → Int) (w : World)
    (hK : w.rowIs b0 5 n (fun i => .int .u8 (K i))) (hC : w.rowIs b1 21 n (fun i => .int .i32 (C i))) (hn : n ≤ 65536) :
    Calls Try.prog 20 #[.slice (some ⟨b0, 0, none⟩) n n, .slice (some ⟨b1, 0, none⟩) n n] w fun e w' =>
      e = .returned (.slice (some ⟨w.heap.size, 0, none⟩) n n) ∧ Stp w w' n n K C := by
  have hmk := run_make_k (P := Try.prog) 52 71 _ _ 4 40 Try.underlying52 info71 rfl .i64 .i64 n n (Nat.le_refl _) (by omega) (by omega)
  go_enter Try.func20, Try.ntmps20
  go_wp2
  clear hmk
  go_loopg [6] n (fun g i wr => ∃ r : Nat, r ≤ n ∧ g = n - r ∧ i = .int .i64 r ∧ Stp w wr n r K C)
  case atStart => exact ⟨0, Nat.zero_le _, rfl, rfl, stp_start w n K C⟩
  case round =>
    obtain ⟨r, hr, rfl, rfl, hO⟩ := hrel
    by_cases hrn : r < n
    · have g0 : wr.cell? ⟨b0, r, none⟩ = some (.int .u8 (K r)) := by rw [hO.bel.cell (p := ⟨b0, r, none⟩) hK.lt]; exact hK.cell hrn
      have g1 : wr.cell? ⟨b1, r, none⟩ = some (.int .i32 (C r)) := by rw [hO.bel.cell (p := ⟨b1, r, none⟩) hC.lt]; exact hC.cell hrn
      have hb0 := hK.lt
      have hb1 := hC.lt
      have t0 := hO.row.cell' r 0 (o := r * 4) (by omega) hrn (by omega)
      have t1 := hO.row.cell' r 1 (o := r * 4 + 1) (by omega) hrn (by omega)
      have f0 := hO.row.frozen (r * 4)
      have f1 := hO.row.frozen (r * 4 + 1)
      go_wp2
      go_roundg (n - (r + 1))
      case measure => omega
      case rel => exact ⟨r + 1, by omega, rfl, by go_num, stp_step hO⟩
    · go_wp2
      go_ret
      obtain rfl : r = n := by omega
      exact ⟨rfl, hO⟩

end Go.Proofs.Qxb6000847a
