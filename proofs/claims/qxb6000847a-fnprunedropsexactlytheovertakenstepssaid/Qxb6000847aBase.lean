import Derived.Test.Qxb6000847aProg
import Derived.WalkKit
import Derived.Deep.LoopGhost
import Derived.Deep.OwnRows
import Derived.Deep.Cut
import Derived.Deep.Light
import Derived.Deep.CutRange
import Derived.CellFam
import Derived.BigGuard
import Derived.BigQuiet
import Derived.Deep.QuietTactic
namespace Go.Proofs.Qxb6000847a
open Go.RowKit

theorem info5 : (Try.prog.info? 5).map (fun i => (i.zero, i.size, i.bytes)) = some (some (.int .u8 0), 1, 1) := by kernel_rfl
theorem info21 : (Try.prog.info? 21).map (fun i => (i.zero, i.size, i.bytes)) = some (some (.int .i32 0), 1, 4) := by kernel_rfl

/-- normSteps, k rounds done. -/
structure Norm (w wr : World) (n m k : Nat) (K C : Nat → Int) : Prop where
  bel : Below w.heap.size w wr
  size : wr.heap.size = w.heap.size + 2
  ks : wr.rowIs w.heap.size 5 n (fun i => .int .u8 (if i < k then K i % 6 else 0))
  cs : wr.rowIs (w.heap.size + 1) 21 n (fun i => .int .i32 (if i < k ∧ i < m then C i else 0))

theorem norm_start (w : World) (n m : Nat) (K C : Nat → Int) : Norm w ((w.alloc (.cells (madeCells #[.int .u8 0] n) 5)).alloc (.cells (madeCells #[.int .i32 0] n) 21)) n m 0 K C := by
  refine ⟨((Below.refl _ _).alloc (Nat.le_refl _) _).alloc (by simp) _, by simp, ((World.rowIs_made w _ n 5).alloc _).congr (fun i _ => by simp), ?_⟩
  have h := World.rowIs_made (w.alloc (.cells (madeCells #[.int .u8 0] n) 5)) (.int .i32 0) n 21
  simp at h
  exact h.congr (fun i _ => by simp)

theorem norm_step {w wr : World} {n m k : Nat} {K C : Nat → Int} (h : Norm w wr n m k K C) (hm : k < m) :
    Norm w ((wr.setCell ⟨w.heap.size, k, none⟩ (.int .u8 (K k % 6))).setCell ⟨w.heap.size + 1, k, none⟩ (.int .i32 (C k))) n m (k + 1) K C := by
  refine ⟨(h.bel.setCell (Nat.le_refl _) _).setCell (by show w.heap.size ≤ w.heap.size + 1; omega) _, by simp [h.size],
    ((h.ks.set k _).setOther (by show w.heap.size ≠ w.heap.size + 1; omega) _).congr (fun i _ => ?_), ((h.cs.setOther (by show w.heap.size + 1 ≠ w.heap.size; omega) _).set k _).congr (fun i _ => ?_)⟩
  · by_cases e : i = k
    · subst e; simp
    · rw [if_neg e]; congr 1
      by_cases hk : i < k
      · rw [if_pos hk, if_pos (by omega)]
      · rw [if_neg hk, if_neg (by omega)]
  · by_cases e : i = k
    · subst e; simp [hm]
    · rw [if_neg e]; congr 1
      by_cases hk : i < k ∧ i < m
      · rw [if_pos hk, if_pos (by omega)]
      · rw [if_neg hk, if_neg (by omega)]

theorem norm_step' {w wr : World} {n m k : Nat} {K C : Nat → Int} (h : Norm w wr n m k K C) (hm : ¬ k < m) :
    Norm w (wr.setCell ⟨w.heap.size, k, none⟩ (.int .u8 (K k % 6))) n m (k + 1) K C := by
  refine ⟨h.bel.setCell (Nat.le_refl _) _, by simp [h.size],
    (h.ks.set k _).congr (fun i _ => ?_), (h.cs.setOther (by show w.heap.size + 1 ≠ w.heap.size; omega) _).congr (fun i _ => ?_)⟩
  · by_cases e : i = k
    · subst e; simp
    · rw [if_neg e]; congr 1
      by_cases hk : i < k
      · rw [if_pos hk, if_pos (by omega)]
      · rw [if_neg hk, if_neg (by omega)]
  · congr 1
    by_cases hk : i < k ∧ i < m
    · rw [if_pos hk, if_pos (by omega)]
    · rw [if_neg hk, if_neg (by omega)]

set_option maxHeartbeats 1000000 in
theorem norm_calls (a0 : Option Addr) (b0 o0 n c0 : Nat) (a1 : Option Addr) (b1 o1 m c1 : Nat) (K C : Nat → Int) (w : World)
    (h0 : 0 < n → a0 = some ⟨b0, o0, none⟩) (h1 : 0 < m → a1 = some ⟨b1, o1, none⟩)
    (hK : ∀ i, i < n → w.cell? ⟨b0, o0 + i, none⟩ = some (.int .u8 (K i))) (hC : ∀ i, i < m → w.cell? ⟨b1, o1 + i, none⟩ = some (.int .i32 (C i)))
    (hKr : ∀ i, i < n → 0 ≤ K i ∧ K i < 256) (hn : n ≤ 65536) (hm : m ≤ 65536) :
    Calls Try.prog 9 #[.slice a0 n c0, .slice a1 m c1] w fun e w' =>
      e = .returned (.tuple #[.slice (some ⟨w.heap.size, 0, none⟩) n n, .slice (some ⟨w.heap.size + 1, 0, none⟩) n n]) ∧ Norm w w' n m n K C := by
  have hmk22 := run_make_row' (P := Try.prog) 22 5 (.int .u8 0) 1 Try.underlying22 info5 rfl .i64 .i64 n (by omega) (by omega)
  have hmk23 := run_make_row' (P := Try.prog) 23 21 (.int .i32 0) 4 Try.underlying23 info21 rfl .i64 .i64 n (by omega) (by omega)
  go_enter Try.func9, Try.ntmps9
  go_wp2
  clear hmk22 hmk23
  go_loopg [8] n (fun g i wr => ∃ k : Nat, k ≤ n ∧ g = n - k ∧ i = .int .i64 k ∧ Norm w wr n m k K C)
  case atStart => exact ⟨0, Nat.zero_le _, rfl, rfl, norm_start w n m K C⟩
  case round =>
    obtain ⟨k, hk, rfl, rfl, hO⟩ := hrel
    by_cases hkn : k < n
    · obtain rfl := h0 (by omega)
      have hb0 : b0 < w.heap.size := World.block_lt_of_cell? _ _ (hK k hkn)
      have hKk := hKr k hkn
      have g0 : wr.cell? ⟨b0, o0 + k, none⟩ = some (.int .u8 (K k)) := by rw [hO.bel.cell (p := ⟨b0, o0 + k, none⟩) hb0]; exact hK k hkn
      have t1 := hO.ks.cell hkn
      have t2 := hO.ks.frozen k
      have t3 := hO.cs.cell hkn
      have t4 := hO.cs.frozen k
      by_cases hkm : k < m
      · obtain rfl := h1 (by omega)
        have hb1 : b1 < w.heap.size := World.block_lt_of_cell? _ _ (hC k hkm)
        have g1 : wr.cell? ⟨b1, o1 + k, none⟩ = some (.int .i32 (C k)) := by rw [hO.bel.cell (p := ⟨b1, o1 + k, none⟩) hb1]; exact hC k hkm
        go_wp2
        go_roundg (n - (k + 1))
        case measure => omega
        case rel => exact ⟨k + 1, by omega, rfl, by go_num, norm_step hO hkm⟩
      · go_wp2
        go_roundg (n - (k + 1))
        case measure => omega
        case rel => exact ⟨k + 1, by omega, rfl, by go_num, norm_step' hO hkm⟩
    · go_wp2
      go_ret2
      obtain rfl : k = n := by omega
      exact ⟨rfl, hO⟩

end Go.Proofs.Qxb6000847a
