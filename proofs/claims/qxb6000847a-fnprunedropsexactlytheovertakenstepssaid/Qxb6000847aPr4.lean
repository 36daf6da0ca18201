import Derived.Test.Qxb6000847aPr3
namespace Go.Proofs.Qxb6000847a
open Go.RowKit
set_option linter.unusedSimpArgs false
set_option linter.unusedVariables false

set_option maxHeartbeats 2000000 in
theorem zz18 (a0 : Option Addr) (n c0 : Nat) (a1 : Option Addr) (m c1 : Nat) (a2 : Option Addr) (l2 c2 : Nat) (a3 : Option Addr) (l3 c3 : Nat) (w : World) (h0 : n ≤ 9223372036854775807) (h1 : m ≤ 9223372036854775807) (h2 : l2 ≤ 9223372036854775807) (h3 : l3 ≤ 9223372036854775807) :
    Calls Try.prog 18 #[.slice a0 n c0, .slice a1 m c1, .slice a2 l2 c2, .slice a3 l3 c3] w fun e w' => (∃ b, e = .returned (.bool b)) ∧ w' = w := by
  go_enter Try.func18, Try.ntmps18
  go_wp2
  all_goals (go_ret; exact ⟨⟨_, rfl⟩, rfl⟩)
set_option maxHeartbeats 2000000 in
theorem zz13 (a0 : Option Addr) (n c0 : Nat) (a1 : Option Addr) (m c1 : Nat) (a2 : Option Addr) (l2 c2 : Nat) (a3 : Option Addr) (l3 c3 : Nat) (w : World) (h0 : n ≤ 9223372036854775807) (h1 : m ≤ 9223372036854775807) (h2 : l2 ≤ 9223372036854775807) (h3 : l3 ≤ 9223372036854775807) :
    Calls Try.prog 13 #[.slice a0 n c0, .slice a1 m c1, .slice a2 l2 c2, .slice a3 l3 c3] w fun e w' => (∃ b, e = .returned (.bool b)) ∧ w' = w := by
  go_enter Try.func13, Try.ntmps13
  go_wp2
  all_goals (go_ret; exact ⟨⟨_, rfl⟩, rfl⟩)

theorem below_dn {B : Nat} {a w : World} (h : Below B a w) (n : Nat) : Below B a (w.drewN n) := ⟨h.os, h.tape, h.output, h.size, h.block⟩

set_option maxHeartbeats 2000000 in
theorem same_calls (x1 y1 x2 y2 m : Nat) (A Z : Nat → Nat) (w : World) (hm : m ≤ 65536)
    (h1 : w.rowIs x1 3 m (fun j => .int .i64 (A j : Nat))) (h2 : w.rowIs y1 31 m (fun j => .int .u64 (Z j : Nat))) (h3 : w.rowIs x2 3 m (fun j => .int .i64 (A j : Nat))) (h4 : w.rowIs y2 31 m (fun j => .int .u64 (Z j : Nat))) :
    Calls Try.prog 17 #[.slice (some ⟨x1, 0, none⟩) m m, .slice (some ⟨y1, 0, none⟩) m m, .slice (some ⟨x2, 0, none⟩) m m, .slice (some ⟨y2, 0, none⟩) m m] w fun e w' => e = .returned (.bool true) ∧ ∃ q, w' = w.drewN q := by
  go_enter Try.func17, Try.ntmps17
  go_wp2
  go_loopg [9] m (fun g s9 wx => ∃ k : Nat, k ≤ m ∧ g = m - k ∧ s9 = .int .i64 k ∧ ∃ q, wx = w.drewN q)
  case atStart => exact ⟨0, Nat.zero_le _, rfl, rfl, 0, rfl⟩
  case round =>
    obtain ⟨k, hk, rfl, rfl, q, rfl⟩ := hrel
    by_cases hkm : k < m
    · have c1 := h1.cell hkm
      have c2 := h2.cell hkm
      have c3 := h3.cell hkm
      have c4 := h4.cell hkm
      have hdk : decide ((k : Int) < (m : Int)) = true := decide_eq_true (by omega)
      have hki : (k : Int) < (m : Int) := by omega
      go_wp2
      go_quiet (fail)
      go_wp2
      go_roundg (m - (k + 1))
      case measure => omega
      case rel => exact ⟨k + 1, by omega, rfl, by go_num, _, rfl⟩
    · go_wp2
      go_ret
      exact ⟨rfl, _, rfl⟩

/-- the first k places ascend strictly within [0, nw). -/
def Okk (T : Nat → Int) (nw k : Nat) : Prop := (∀ i, i < k → 0 ≤ T i ∧ T i < (nw : Int)) ∧ ∀ i, i + 1 < k → T i < T (i + 1)
def prevOf (T : Nat → Int) (k : Nat) : Int := if k = 0 then -1 else T (k - 1)
theorem okk_step {T : Nat → Int} {nw k : Nat} (h : Okk T nw k) (h1 : ¬ T k ≤ prevOf T k) (h2 : ¬ (nw : Int) ≤ T k) : Okk T nw (k + 1) := by
  unfold prevOf at h1
  by_cases h0 : k = 0
  · subst h0
    rw [if_pos rfl] at h1
    refine ⟨fun i hi => ?_, fun i hi => by omega⟩
    obtain rfl : i = 0 := by omega
    omega
  · rw [if_neg h0] at h1
    refine ⟨fun i hi => ?_, fun i hi => ?_⟩
    · by_cases e : i = k
      · subst e
        have := h.1 (i - 1) (by omega)
        omega
      · exact h.1 i (by omega)
    · by_cases e : i + 1 = k
      · subst e
        rw [Nat.add_sub_cancel] at h1
        omega
      · exact h.2 i (by omega)
theorem okk_inc {T : Nat → Int} {nw M : Nat} (h : Okk T nw M) : Inc (fun i => (T i).toNat) M nw := by
  refine ⟨fun i hi => ?_, fun i hi => ?_⟩
  · have := h.1 i hi; show (T i).toNat < nw; omega
  · have h1 := h.1 i (by omega)
    have h2 := h.1 (i + 1) hi
    have h3 := h.2 i hi
    show (T i).toNat < (T (i + 1)).toNat
    omega

/-- two new rows of integers, k laid. -/
structure R3 (w wr : World) (m k : Nat) (f g : Nat → Int) : Prop where
  bel : Below w.heap.size w wr
  size : wr.heap.size = w.heap.size + 2
  xs : wr.rowIs w.heap.size 3 m (fun i => .int .i64 (if i < k then f i else 0))
  ys : wr.rowIs (w.heap.size + 1) 31 m (fun i => .int .u64 (if i < k then g i else 0))
theorem r3_start (w : World) (m : Nat) (f g : Nat → Int) : R3 w ((w.alloc (.cells (madeCells #[.int .i64 0] m) 3)).alloc (.cells (madeCells #[.int .u64 0] m) 31)) m 0 f g := by
  refine ⟨((Below.refl _ _).alloc (Nat.le_refl _) _).alloc (by simp) _, by simp, ((World.rowIs_made w _ m 3).alloc _).congr (fun i _ => by simp), ?_⟩
  have h := World.rowIs_made (w.alloc (.cells (madeCells #[.int .i64 0] m) 3)) (.int .u64 0) m 31
  simp at h
  exact h.congr (fun i _ => by simp)
theorem r3_step {w wr : World} {m k : Nat} {f g : Nat → Int} (h : R3 w wr m k f g) :
    R3 w ((wr.setCell ⟨w.heap.size, k, none⟩ (.int .i64 (f k))).setCell ⟨w.heap.size + 1, k, none⟩ (.int .u64 (g k))) m (k + 1) f g := by
  refine ⟨(h.bel.setCell (Nat.le_refl _) _).setCell (by show w.heap.size ≤ w.heap.size + 1; omega) _, by simp [h.size],
    ((h.xs.set k _).setOther (by show w.heap.size ≠ w.heap.size + 1; omega) _).congr (fun i _ => ?_), ((h.ys.setOther (by show w.heap.size + 1 ≠ w.heap.size; omega) _).set k _).congr (fun i _ => ?_)⟩
  · by_cases e : i = k
    · subst e; simp
    · have e2 : (i < k + 1) ↔ (i < k) := by omega
      simp [e, e2]
  · by_cases e : i = k
    · subst e; simp
    · have e2 : (i < k + 1) ↔ (i < k) := by omega
      simp [e, e2]

/-- what reachedOf leaves: not in order; or the words, laid anew. -/
def Reached (w : World) (M nw : Nat) (T U : Nat → Int) (e : Ending) (w' : World) : Prop :=
  (∃ x y, e = .returned (.tuple #[x, y, .bool false]) ∧ Below w.heap.size w w') ∨
  (e = .returned (.tuple #[.slice (some ⟨w.heap.size, 0, none⟩) M M, .slice (some ⟨w.heap.size + 1, 0, none⟩) M M, .bool true]) ∧ R3 w w' M M T U ∧ Okk T nw M)

set_option maxHeartbeats 2000000 in
theorem reached_calls (a2 : Option Addr) (b2 o2 l2 c2 : Nat) (a3 : Option Addr) (b3 o3 l3 c3 nw : Nat) (T U : Nat → Int) (w : World)
    (h2 : 0 < l2 → a2 = some ⟨b2, o2, none⟩) (h3 : 0 < l3 → a3 = some ⟨b3, o3, none⟩)
    (hT : ∀ i, i < l2 → w.cell? ⟨b2, o2 + i, none⟩ = some (.int .i64 (T i))) (hU : ∀ i, i < l3 → w.cell? ⟨b3, o3 + i, none⟩ = some (.int .u64 (U i))) (hl2 : l2 ≤ 65536) (hl3 : l3 ≤ 65536) (hnw : nw ≤ 1024) :
    Calls Try.prog 14 #[.slice a2 l2 c2, .slice a3 l3 c3, .int .i64 (nw : Int)] w fun e w' => Reached w (min l2 l3) nw T U e w' := by
  have key : ∀ M, M = min l2 l3 → Calls Try.prog 14 #[.slice a2 l2 c2, .slice a3 l3 c3, .int .i64 (nw : Int)] w fun e w' => Reached w M nw T U e w' := by
    intro M hM
    have hM2 : M ≤ l2 := by omega
    have hM3 : M ≤ l3 := by omega
    have hmk1 := run_make_row' (P := Try.prog) 35 3 (.int .i64 0) 8 Try.underlying35 info3 rfl .i64 .i64 M (by omega) (by omega)
    have hmk2 := run_make_row' (P := Try.prog) 36 31 (.int .u64 0) 8 Try.underlying36 info31 rfl .i64 .i64 M (by omega) (by omega)
    by_cases hlt : l3 < l2
    · obtain rfl : M = l3 := by omega
      clear hM
      have ht : decide ((M : Int) < (l2 : Int)) = true := decide_eq_true (by omega)
      go_enter Try.func14, Try.ntmps14
      go_wp2
      clear hmk1 hmk2
      go_loopg [12, 13] M (fun g s12 s13 wx => ∃ k : Nat, k ≤ M ∧ g = M - k ∧ s13 = .int .i64 k ∧ s12 = .int .i64 (prevOf T k) ∧ R3 w wx M k T U ∧ Okk T nw k)
      case atStart => exact ⟨0, Nat.zero_le _, rfl, rfl, rfl, r3_start w M T U, ⟨fun i hi => by omega, fun i hi => by omega⟩⟩
      case round =>
        obtain ⟨k, hk, rfl, rfl, rfl, hO, hok⟩ := hrel
        have HOK := Hid.mk' hok
        clear hok
        by_cases hkm : k < M
        · obtain rfl := h2 (by omega)
          obtain rfl := h3 (by omega)
          have hb2 : b2 < w.heap.size := World.block_lt_of_cell? _ _ (hT k (by omega))
          have hb3 : b3 < w.heap.size := World.block_lt_of_cell? _ _ (hU k (by omega))
          have g2 : wr.cell? ⟨b2, o2 + k, none⟩ = some (.int .i64 (T k)) := by rw [hO.bel.cell (p := ⟨b2, o2 + k, none⟩) hb2]; exact hT k (by omega)
          have g3 : wr.cell? ⟨b3, o3 + k, none⟩ = some (.int .u64 (U k)) := by rw [hO.bel.cell (p := ⟨b3, o3 + k, none⟩) hb3]; exact hU k (by omega)
          have t1 := hO.xs.cell hkm
          have t2 := hO.xs.frozen k
          have t3 := hO.ys.cell hkm
          have t4 := hO.ys.frozen k
          have HPV : Hid (prevOf T (k + 1) = T k) := by unfold prevOf; rw [if_neg (by omega), Nat.add_sub_cancel]; exact rfl
          by_cases d1 : T k ≤ prevOf T k
          · have e1 : decide (T k ≤ prevOf T k) = true := decide_eq_true d1
            go_wp2
            go_ret3
            exact .inl ⟨_, _, rfl, hO.bel⟩
          · have e1 : decide (T k ≤ prevOf T k) = false := decide_eq_false d1
            by_cases d2 : (nw : Int) ≤ T k
            · have e2 : decide ((nw : Int) ≤ T k) = true := decide_eq_true d2
              go_wp2
              go_ret3
              exact .inl ⟨_, _, rfl, hO.bel⟩
            · have e2 : decide ((nw : Int) ≤ T k) = false := decide_eq_false d2
              have hok' := Hid.mk' (okk_step HOK.out d1 d2)
              go_wp2
              go_roundg (M - (k + 1))
              case measure => omega
              case rel => exact ⟨k + 1, by omega, rfl, by go_num, by rw [HPV.out], r3_step hO, hok'.out⟩
        · obtain rfl : k = M := by omega
          go_wp2
          go_ret3
          exact .inr ⟨rfl, hO, HOK.out⟩
    · obtain rfl : M = l2 := by omega
      clear hM
      have ht : decide ((l3 : Int) < (M : Int)) = false := decide_eq_false (by omega)
      go_enter Try.func14, Try.ntmps14
      go_wp2
      clear hmk1 hmk2
      go_loopg [12, 13] M (fun g s12 s13 wx => ∃ k : Nat, k ≤ M ∧ g = M - k ∧ s13 = .int .i64 k ∧ s12 = .int .i64 (prevOf T k) ∧ R3 w wx M k T U ∧ Okk T nw k)
      case atStart => exact ⟨0, Nat.zero_le _, rfl, rfl, rfl, r3_start w M T U, ⟨fun i hi => by omega, fun i hi => by omega⟩⟩
      case round =>
        obtain ⟨k, hk, rfl, rfl, rfl, hO, hok⟩ := hrel
        have HOK := Hid.mk' hok
        clear hok
        by_cases hkm : k < M
        · obtain rfl := h2 (by omega)
          obtain rfl := h3 (by omega)
          have hb2 : b2 < w.heap.size := World.block_lt_of_cell? _ _ (hT k (by omega))
          have hb3 : b3 < w.heap.size := World.block_lt_of_cell? _ _ (hU k (by omega))
          have g2 : wr.cell? ⟨b2, o2 + k, none⟩ = some (.int .i64 (T k)) := by rw [hO.bel.cell (p := ⟨b2, o2 + k, none⟩) hb2]; exact hT k (by omega)
          have g3 : wr.cell? ⟨b3, o3 + k, none⟩ = some (.int .u64 (U k)) := by rw [hO.bel.cell (p := ⟨b3, o3 + k, none⟩) hb3]; exact hU k (by omega)
          have t1 := hO.xs.cell hkm
          have t2 := hO.xs.frozen k
          have t3 := hO.ys.cell hkm
          have t4 := hO.ys.frozen k
          have HPV : Hid (prevOf T (k + 1) = T k) := by unfold prevOf; rw [if_neg (by omega), Nat.add_sub_cancel]; exact rfl
          by_cases d1 : T k ≤ prevOf T k
          · have e1 : decide (T k ≤ prevOf T k) = true := decide_eq_true d1
            go_wp2
            go_ret3
            exact .inl ⟨_, _, rfl, hO.bel⟩
          · have e1 : decide (T k ≤ prevOf T k) = false := decide_eq_false d1
            by_cases d2 : (nw : Int) ≤ T k
            · have e2 : decide ((nw : Int) ≤ T k) = true := decide_eq_true d2
              go_wp2
              go_ret3
              exact .inl ⟨_, _, rfl, hO.bel⟩
            · have e2 : decide ((nw : Int) ≤ T k) = false := decide_eq_false d2
              have hok' := Hid.mk' (okk_step HOK.out d1 d2)
              go_wp2
              go_roundg (M - (k + 1))
              case measure => omega
              case rel => exact ⟨k + 1, by omega, rfl, by go_num, by rw [HPV.out], r3_step hO, hok'.out⟩
        · obtain rfl : k = M := by omega
          go_wp2
          go_ret3
          exact .inr ⟨rfl, hO, HOK.out⟩
  exact key _ rfl
end Go.Proofs.Qxb6000847a
