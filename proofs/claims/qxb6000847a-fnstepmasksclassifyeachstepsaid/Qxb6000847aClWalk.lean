import Derived.Test.Qxb6000847aTop
namespace Go.Proofs.Qxb6000847a
open Go.RowKit
set_option linter.unusedSimpArgs false

set_option maxHeartbeats 4000000 in
set_option maxRecDepth 100000 in
theorem classify_calls (hm : SaidMasks) (a0 : Option Addr) (b0 o0 n c0 : Nat) (a1 : Option Addr) (b1 o1 m c1 : Nat) (K C : Nat → Int) (w : World)
    (h0 : 0 < n → a0 = some ⟨b0, o0, none⟩) (h1 : 0 < m → a1 = some ⟨b1, o1, none⟩)
    (hK : ∀ i, i < n → w.cell? ⟨b0, o0 + i, none⟩ = some (.int .u8 (K i))) (hC : ∀ i, i < m → w.cell? ⟨b1, o1 + i, none⟩ = some (.int .i32 (C i)))
    (hKr : ∀ i, i < n → 0 ≤ K i ∧ K i < 256) (hnx : n ≤ maxLen) (hmx : m ≤ maxLen) :
    Calls Try.prog 3 #[.slice a0 n c0, .slice a1 m c1] w fun e w' => e = .returned (.bool true) ∧ Below w.heap.size w w' := by
  unfold maxLen at hnx hmx
  by_cases hn : n ≤ 65536
  · by_cases hmm : m ≤ 65536
    · by_cases h4 : n + 4 * m ≤ 1048576
      · go_enter Try.func3, Try.ntmps3
        go_wp2_with fail
        refine (zz8 a0 n c0 a1 m c1 _).mono ?_
        rintro e w' ⟨⟨b, rfl⟩, rfl⟩
        cases b
        · go_wp2
          go_ret
          exact ⟨rfl, Below.refl _ _⟩
        · go_wp2_with fail
          refine (norm_calls a0 b0 o0 n c0 a1 b1 o1 m c1 K C _ h0 h1 hK hC hKr hn hmm).mono ?_
          rintro e w1 ⟨rfl, hN⟩
          have hk0 : w1.rowIs w.heap.size 5 n (fun i => .int .u8 (nK K i)) := hN.ks.congr (fun i hi => by rw [if_pos hi]; rfl)
          have hc0 : w1.rowIs (w.heap.size + 1) 21 n (fun i => .int .i32 (nC m C i)) := hN.cs.congr (fun i hi => by simp [nC, hi])
          have hkr : ∀ i, i < n → 0 ≤ nK K i ∧ nK K i ≤ 5 := fun i hi => by unfold nK; omega
          have hkf : 0 < n → w1.cell? ⟨w.heap.size, 0, none⟩ = some (.int .u8 (nK K 0)) := fun h => hk0.cell h
          by_cases hend : 0 < n ∧ nK K 0 = 5
          · obtain ⟨hn0, h5⟩ := hend
            have hkf0 := hkf hn0
            have h5b : (nK K 0 == 5) = true := by rw [h5]; rfl
            have hn0z : (0 : Int) < (n : Int) := by omega
            clear h5
            go_wp2
            go_ret
            exact ⟨rfl, hN.bel⟩
          · have hK0 : 0 < n → nK K 0 ≠ 5 := fun h e => hend ⟨h, e⟩
            have hcall := zmasks_calls hm w.heap.size (w.heap.size + 1) n (nK K) (nC m C) w1 hk0 hc0 hn hkr hK0
            have hreach : ∃ bb : Bool, (if 0 < n then (nK K 0 == 5) else false) = bb := ⟨_, rfl⟩
            clear hreach
            by_cases hn0 : 0 < n
            · have hkf0 := hkf hn0
              have h5b : (nK K 0 == 5) = false := by simpa using hK0 hn0
              have hn0z : (0 : Int) < (n : Int) := by omega
              have HC := Hid.mk' hcall
              clear hcall hkf hend hK0
              go_wp2_with fail
              refine HC.out.mono ?_
              rintro e w2 ⟨WB, EB, rfl, hZ⟩
              have e64 : (((n + 63) / 64 : Nat) : Int) = ((n : Int) + 63) / 64 := by omega
              go_wp2
              have hkz : ∀ i, i < n → w2.cell? ⟨w.heap.size, i, none⟩ = some (.int .u8 (nK K i)) := fun i hi => by rw [hZ.bel.cell (p := ⟨w.heap.size, i, none⟩) hk0.lt]; exact hk0.cell hi
              have hcz : ∀ i, i < n → w2.cell? ⟨w.heap.size + 1, i, none⟩ = some (.int .i32 (nC m C i)) := fun i hi => by rw [hZ.bel.cell (p := ⟨w.heap.size + 1, i, none⟩) hc0.lt]; exact hc0.cell hi
              have hWl := hZ.wds.lt
              have hsz0 : w.heap.size + 1 < w2.heap.size := Nat.lt_of_lt_of_le hc0.lt hZ.bel.size
              clear hk0 hc0 hkf0 h5b
              go_loopg [10] (64 * ((n + 63) / 64)) (fun g s10 wx => ∃ i : Nat, i ≤ 64 * ((n + 63) / 64) ∧ g = 64 * ((n + 63) / 64) - i ∧ s10 = .int .i64 i ∧ Below w2.heap.size w2 wx)
              case atStart => exact ⟨0, Nat.zero_le _, rfl, rfl, Below.refl _ _⟩
              case round =>
                obtain ⟨i, hi, rfl, rfl, hb⟩ := hrel
                by_cases hil : i < 64 * ((n + 63) / 64)
                · have hi64 : i / 64 < (n + 63) / 64 := by omega
                  have a0 : wr.cell? ⟨WB, i / 64 * 10, none⟩ = some (.int .u64 ((maskAt (nK K) (nC m C) n (i / 64) 0 : Nat) : Int)) := by rw [hb.cell (p := ⟨WB, i / 64 * 10, none⟩) hWl]; rw [hZ.wds.cell' (i / 64) 0 (o := i / 64 * 10) (by omega) (by omega) (by omega)]; simp [maskCell3, hi64]
                  have a1 : wr.cell? ⟨WB, i / 64 * 10 + 1, none⟩ = some (.int .u64 ((maskAt (nK K) (nC m C) n (i / 64) 1 : Nat) : Int)) := by rw [hb.cell (p := ⟨WB, i / 64 * 10 + 1, none⟩) hWl]; rw [hZ.wds.cell' (i / 64) 1 (o := i / 64 * 10 + 1) (by omega) (by omega) (by omega)]; simp [maskCell3, hi64]
                  have a2 : wr.cell? ⟨WB, i / 64 * 10 + 2, none⟩ = some (.int .u64 ((maskAt (nK K) (nC m C) n (i / 64) 2 : Nat) : Int)) := by rw [hb.cell (p := ⟨WB, i / 64 * 10 + 2, none⟩) hWl]; rw [hZ.wds.cell' (i / 64) 2 (o := i / 64 * 10 + 2) (by omega) (by omega) (by omega)]; simp [maskCell3, hi64]
                  have a3 : wr.cell? ⟨WB, i / 64 * 10 + 3, none⟩ = some (.int .u64 ((maskAt (nK K) (nC m C) n (i / 64) 3 : Nat) : Int)) := by rw [hb.cell (p := ⟨WB, i / 64 * 10 + 3, none⟩) hWl]; rw [hZ.wds.cell' (i / 64) 3 (o := i / 64 * 10 + 3) (by omega) (by omega) (by omega)]; simp [maskCell3, hi64]
                  have a4 : wr.cell? ⟨WB, i / 64 * 10 + 4, none⟩ = some (.int .u64 ((maskAt (nK K) (nC m C) n (i / 64) 4 : Nat) : Int)) := by rw [hb.cell (p := ⟨WB, i / 64 * 10 + 4, none⟩) hWl]; rw [hZ.wds.cell' (i / 64) 4 (o := i / 64 * 10 + 4) (by omega) (by omega) (by omega)]; simp [maskCell3, hi64]
                  have a5 : wr.cell? ⟨WB, i / 64 * 10 + 5, none⟩ = some (.int .u64 ((maskAt (nK K) (nC m C) n (i / 64) 5 : Nat) : Int)) := by rw [hb.cell (p := ⟨WB, i / 64 * 10 + 5, none⟩) hWl]; rw [hZ.wds.cell' (i / 64) 5 (o := i / 64 * 10 + 5) (by omega) (by omega) (by omega)]; simp [maskCell3, hi64]
                  have a6 : wr.cell? ⟨WB, i / 64 * 10 + 6, none⟩ = some (.int .u64 ((maskAt (nK K) (nC m C) n (i / 64) 6 : Nat) : Int)) := by rw [hb.cell (p := ⟨WB, i / 64 * 10 + 6, none⟩) hWl]; rw [hZ.wds.cell' (i / 64) 6 (o := i / 64 * 10 + 6) (by omega) (by omega) (by omega)]; simp [maskCell3, hi64]
                  have a7 : wr.cell? ⟨WB, i / 64 * 10 + 7, none⟩ = some (.int .u64 ((maskAt (nK K) (nC m C) n (i / 64) 7 : Nat) : Int)) := by rw [hb.cell (p := ⟨WB, i / 64 * 10 + 7, none⟩) hWl]; rw [hZ.wds.cell' (i / 64) 7 (o := i / 64 * 10 + 7) (by omega) (by omega) (by omega)]; simp [maskCell3, hi64]
                  have a8 : wr.cell? ⟨WB, i / 64 * 10 + 8, none⟩ = some (.int .i64 (barW (nK K) (nC m C) n (i / 64 + 1))) := by rw [hb.cell (p := ⟨WB, i / 64 * 10 + 8, none⟩) hWl]; rw [hZ.wds.cell' (i / 64) 8 (o := i / 64 * 10 + 8) (by omega) (by omega) (by omega)]; simp [maskCell3, hi64]
                  have a9 : wr.cell? ⟨WB, i / 64 * 10 + 9, none⟩ = some (.int .i64 (endW (nK K) (nC m C) n (i / 64 + 1))) := by rw [hb.cell (p := ⟨WB, i / 64 * 10 + 9, none⟩) hWl]; rw [hZ.wds.cell' (i / 64) 9 (o := i / 64 * 10 + 9) (by omega) (by omega) (by omega)]; simp [maskCell3, hi64]
                  have hbs := hb.size
                  have hne0 : w.heap.size < wr.heap.size := by omega
                  have hne1 : w.heap.size + 1 < wr.heap.size := by omega
                  have mb := maskAt_bit (nK K) (nC m C) n i
                  have t0 : Hid ((bits .and .u64 ((maskAt (nK K) (nC m C) n (i / 64) 0 : Nat) : Int) (IntKind.u64.wrap ((2 : Int) ^ (i % 64))) != 0) = (decide (i < n) && pRun (nK K) i)) := (bit_q _ i (maskAt_lt _ _ _ _ _)).trans mb.1
                  have t1 : Hid ((bits .and .u64 ((maskAt (nK K) (nC m C) n (i / 64) 1 : Nat) : Int) (IntKind.u64.wrap ((2 : Int) ^ (i % 64))) != 0) = (decide (i < n) && pDS (nK K) i)) := (bit_q _ i (maskAt_lt _ _ _ _ _)).trans mb.2.1
                  have t2 : Hid ((bits .and .u64 ((maskAt (nK K) (nC m C) n (i / 64) 2 : Nat) : Int) (IntKind.u64.wrap ((2 : Int) ^ (i % 64))) != 0) = (decide (i < n) && pSl (nK K) (nC m C) i)) := (bit_q _ i (maskAt_lt _ _ _ _ _)).trans mb.2.2.1
                  have t4 : Hid ((bits .and .u64 ((maskAt (nK K) (nC m C) n (i / 64) 4 : Nat) : Int) (IntKind.u64.wrap ((2 : Int) ^ (i % 64))) != 0) = (decide (i < n) && pAny (nK K) i)) := (bit_q _ i (maskAt_lt _ _ _ _ _)).trans mb.2.2.2.1
                  have t5 : Hid ((bits .and .u64 ((maskAt (nK K) (nC m C) n (i / 64) 5 : Nat) : Int) (IntKind.u64.wrap ((2 : Int) ^ (i % 64))) != 0) = (decide (i < n) && pCls (nK K) i)) := (bit_q _ i (maskAt_lt _ _ _ _ _)).trans mb.2.2.2.2.1
                  have t6 : Hid ((bits .and .u64 ((maskAt (nK K) (nC m C) n (i / 64) 6 : Nat) : Int) (IntKind.u64.wrap ((2 : Int) ^ (i % 64))) != 0) = (decide (i < n) && pEnd (nK K) i)) := (bit_q _ i (maskAt_lt _ _ _ _ _)).trans mb.2.2.2.2.2.1
                  have t7 : Hid ((bits .and .u64 ((maskAt (nK K) (nC m C) n (i / 64) 7 : Nat) : Int) (IntKind.u64.wrap ((2 : Int) ^ (i % 64))) != 0) = (decide (i < n - 1) && pEDS (nK K) i)) := (bit_q _ i (maskAt_lt _ _ _ _ _)).trans mb.2.2.2.2.2.2
                  have t3 : (bits .and .u64 ((maskAt (nK K) (nC m C) n (i / 64) 3 : Nat) : Int) (IntKind.u64.wrap ((2 : Int) ^ (i % 64))) != 0) = false := (bit_q _ i (maskAt_lt _ _ _ _ _)).trans (by simp [maskAt])
                  clear mb
                  generalize maskAt (nK K) (nC m C) n (i / 64) 0 = Y0 at a0 t0
                  generalize maskAt (nK K) (nC m C) n (i / 64) 1 = Y1 at a1 t1
                  generalize maskAt (nK K) (nC m C) n (i / 64) 2 = Y2 at a2 t2
                  generalize maskAt (nK K) (nC m C) n (i / 64) 3 = Y3 at a3 t3
                  generalize maskAt (nK K) (nC m C) n (i / 64) 4 = Y4 at a4 t4
                  generalize maskAt (nK K) (nC m C) n (i / 64) 5 = Y5 at a5 t5
                  generalize maskAt (nK K) (nC m C) n (i / 64) 6 = Y6 at a6 t6
                  generalize maskAt (nK K) (nC m C) n (i / 64) 7 = Y7 at a7 t7
                  generalize barW (nK K) (nC m C) n (i / 64 + 1) = Y8 at a8
                  generalize endW (nK K) (nC m C) n (i / 64 + 1) = Y9 at a9
                  by_cases hin : i < n
                  · have hd : decide (i < n) = true := decide_eq_true hin
                    have x0 : wr.cell? ⟨w.heap.size, i, none⟩ = some (.int .u8 (nK K i)) := by rw [hb.cell (p := ⟨w.heap.size, i, none⟩) (by show w.heap.size < w2.heap.size; omega)]; exact hkz i hin
                    have x1 : wr.cell? ⟨w.heap.size + 1, i, none⟩ = some (.int .i32 (nC m C i)) := by rw [hb.cell (p := ⟨w.heap.size + 1, i, none⟩) hsz0]; exact hcz i hin
                    have hk := hkr i hin
                    have hle : i < n - 1 → ¬ nK K i = 4 ∨ ¬ nK K (i + 1) = 5 → pEDS (nK K) i = false := fun _ h => by unfold pEDS; rcases h with h | h <;> simp [h]
                    rcases (by omega : nK K i = 0 ∨ nK K i = 1 ∨ nK K i = 2 ∨ nK K i = 3 ∨ nK K i = 4 ∨ nK K i = 5) with h | h | h | h | h | h
                    · have kk := kinds_of (C := nC m C) h
                      have u0 : (nK K i == 0) = true := by rw [h]; rfl
                      have u1 : (nK K i == 1) = false := by rw [h]; rfl
                      have u2 : (nK K i == 2) = false := by rw [h]; rfl
                      have u3 : (nK K i == 3) = false := by rw [h]; rfl
                      have u4 : (nK K i == 4) = false := by rw [h]; rfl
                      have u5 : (nK K i == 5) = false := by rw [h]; rfl
                      by_cases hc : nC m C i = 47
                      · have hcb : (nC m C i == 47) = true := by simpa using hc
                        have s0 : (bits .and .u64 (Y0 : Int) (IntKind.u64.wrap ((2 : Int) ^ (i % 64))) != 0) = false := by rw [t0.out, hd, kk.1]; rfl
                        have s1 : (bits .and .u64 (Y1 : Int) (IntKind.u64.wrap ((2 : Int) ^ (i % 64))) != 0) = false := by rw [t1.out, hd, kk.2.1]; rfl
                        have s2 : (bits .and .u64 (Y2 : Int) (IntKind.u64.wrap ((2 : Int) ^ (i % 64))) != 0) = true := by rw [t2.out, hd, kk.2.2.1, hcb]; rfl
                        have s4 : (bits .and .u64 (Y4 : Int) (IntKind.u64.wrap ((2 : Int) ^ (i % 64))) != 0) = false := by rw [t4.out, hd, kk.2.2.2.1]; rfl
                        have s5 : (bits .and .u64 (Y5 : Int) (IntKind.u64.wrap ((2 : Int) ^ (i % 64))) != 0) = false := by rw [t5.out, hd, kk.2.2.2.2.1]; rfl
                        have s6 : (bits .and .u64 (Y6 : Int) (IntKind.u64.wrap ((2 : Int) ^ (i % 64))) != 0) = false := by rw [t6.out, hd, kk.2.2.2.2.2.1]; rfl
                        have s7 : (bits .and .u64 (Y7 : Int) (IntKind.u64.wrap ((2 : Int) ^ (i % 64))) != 0) = false := by rw [t7.out, show pEDS (nK K) i = false by unfold pEDS; simp [h]]; simp
                        clear h hc kk hd hle
                        go_wp2
                        go_roundg (64 * ((n + 63) / 64) - (i + 1))
                        case measure => omega
                        case rel => exact ⟨i + 1, by omega, rfl, by go_num, hb.alloc (by omega) _⟩
                      · have hcb : (nC m C i == 47) = false := by simpa using hc
                        have s0 : (bits .and .u64 (Y0 : Int) (IntKind.u64.wrap ((2 : Int) ^ (i % 64))) != 0) = false := by rw [t0.out, hd, kk.1]; rfl
                        have s1 : (bits .and .u64 (Y1 : Int) (IntKind.u64.wrap ((2 : Int) ^ (i % 64))) != 0) = false := by rw [t1.out, hd, kk.2.1]; rfl
                        have s2 : (bits .and .u64 (Y2 : Int) (IntKind.u64.wrap ((2 : Int) ^ (i % 64))) != 0) = false := by rw [t2.out, hd, kk.2.2.1, hcb]; rfl
                        have s4 : (bits .and .u64 (Y4 : Int) (IntKind.u64.wrap ((2 : Int) ^ (i % 64))) != 0) = false := by rw [t4.out, hd, kk.2.2.2.1]; rfl
                        have s5 : (bits .and .u64 (Y5 : Int) (IntKind.u64.wrap ((2 : Int) ^ (i % 64))) != 0) = false := by rw [t5.out, hd, kk.2.2.2.2.1]; rfl
                        have s6 : (bits .and .u64 (Y6 : Int) (IntKind.u64.wrap ((2 : Int) ^ (i % 64))) != 0) = false := by rw [t6.out, hd, kk.2.2.2.2.2.1]; rfl
                        have s7 : (bits .and .u64 (Y7 : Int) (IntKind.u64.wrap ((2 : Int) ^ (i % 64))) != 0) = false := by rw [t7.out, show pEDS (nK K) i = false by unfold pEDS; simp [h]]; simp
                        clear h hc kk hd hle
                        go_wp2
                        go_roundg (64 * ((n + 63) / 64) - (i + 1))
                        case measure => omega
                        case rel => exact ⟨i + 1, by omega, rfl, by go_num, hb.alloc (by omega) _⟩
                    · have kk := kinds_of (C := nC m C) h
                      have u0 : (nK K i == 0) = false := by rw [h]; rfl
                      have u1 : (nK K i == 1) = true := by rw [h]; rfl
                      have u2 : (nK K i == 2) = false := by rw [h]; rfl
                      have u3 : (nK K i == 3) = false := by rw [h]; rfl
                      have u4 : (nK K i == 4) = false := by rw [h]; rfl
                      have u5 : (nK K i == 5) = false := by rw [h]; rfl
                      have s0 : (bits .and .u64 (Y0 : Int) (IntKind.u64.wrap ((2 : Int) ^ (i % 64))) != 0) = false := by rw [t0.out, hd, kk.1]; rfl
                      have s1 : (bits .and .u64 (Y1 : Int) (IntKind.u64.wrap ((2 : Int) ^ (i % 64))) != 0) = false := by rw [t1.out, hd, kk.2.1]; rfl
                      have s2 : (bits .and .u64 (Y2 : Int) (IntKind.u64.wrap ((2 : Int) ^ (i % 64))) != 0) = false := by rw [t2.out, hd, kk.2.2.1]; rfl
                      have s4 : (bits .and .u64 (Y4 : Int) (IntKind.u64.wrap ((2 : Int) ^ (i % 64))) != 0) = true := by rw [t4.out, hd, kk.2.2.2.1]; rfl
                      have s5 : (bits .and .u64 (Y5 : Int) (IntKind.u64.wrap ((2 : Int) ^ (i % 64))) != 0) = false := by rw [t5.out, hd, kk.2.2.2.2.1]; rfl
                      have s6 : (bits .and .u64 (Y6 : Int) (IntKind.u64.wrap ((2 : Int) ^ (i % 64))) != 0) = false := by rw [t6.out, hd, kk.2.2.2.2.2.1]; rfl
                      have s7 : (bits .and .u64 (Y7 : Int) (IntKind.u64.wrap ((2 : Int) ^ (i % 64))) != 0) = false := by rw [t7.out, show pEDS (nK K) i = false by unfold pEDS; simp [h]]; simp
                      clear h kk hd hle
                      go_wp2
                      go_roundg (64 * ((n + 63) / 64) - (i + 1))
                      case measure => omega
                      case rel => exact ⟨i + 1, by omega, rfl, by go_num, hb.alloc (by omega) _⟩
                    · have kk := kinds_of (C := nC m C) h
                      have u0 : (nK K i == 0) = false := by rw [h]; rfl
                      have u1 : (nK K i == 1) = false := by rw [h]; rfl
                      have u2 : (nK K i == 2) = true := by rw [h]; rfl
                      have u3 : (nK K i == 3) = false := by rw [h]; rfl
                      have u4 : (nK K i == 4) = false := by rw [h]; rfl
                      have u5 : (nK K i == 5) = false := by rw [h]; rfl
                      have s0 : (bits .and .u64 (Y0 : Int) (IntKind.u64.wrap ((2 : Int) ^ (i % 64))) != 0) = false := by rw [t0.out, hd, kk.1]; rfl
                      have s1 : (bits .and .u64 (Y1 : Int) (IntKind.u64.wrap ((2 : Int) ^ (i % 64))) != 0) = false := by rw [t1.out, hd, kk.2.1]; rfl
                      have s2 : (bits .and .u64 (Y2 : Int) (IntKind.u64.wrap ((2 : Int) ^ (i % 64))) != 0) = false := by rw [t2.out, hd, kk.2.2.1]; rfl
                      have s4 : (bits .and .u64 (Y4 : Int) (IntKind.u64.wrap ((2 : Int) ^ (i % 64))) != 0) = false := by rw [t4.out, hd, kk.2.2.2.1]; rfl
                      have s5 : (bits .and .u64 (Y5 : Int) (IntKind.u64.wrap ((2 : Int) ^ (i % 64))) != 0) = true := by rw [t5.out, hd, kk.2.2.2.2.1]; rfl
                      have s6 : (bits .and .u64 (Y6 : Int) (IntKind.u64.wrap ((2 : Int) ^ (i % 64))) != 0) = false := by rw [t6.out, hd, kk.2.2.2.2.2.1]; rfl
                      have s7 : (bits .and .u64 (Y7 : Int) (IntKind.u64.wrap ((2 : Int) ^ (i % 64))) != 0) = false := by rw [t7.out, show pEDS (nK K) i = false by unfold pEDS; simp [h]]; simp
                      clear h kk hd hle
                      go_wp2
                      go_roundg (64 * ((n + 63) / 64) - (i + 1))
                      case measure => omega
                      case rel => exact ⟨i + 1, by omega, rfl, by go_num, hb.alloc (by omega) _⟩
                    · have kk := kinds_of (C := nC m C) h
                      have u0 : (nK K i == 0) = false := by rw [h]; rfl
                      have u1 : (nK K i == 1) = false := by rw [h]; rfl
                      have u2 : (nK K i == 2) = false := by rw [h]; rfl
                      have u3 : (nK K i == 3) = true := by rw [h]; rfl
                      have u4 : (nK K i == 4) = false := by rw [h]; rfl
                      have u5 : (nK K i == 5) = false := by rw [h]; rfl
                      have s0 : (bits .and .u64 (Y0 : Int) (IntKind.u64.wrap ((2 : Int) ^ (i % 64))) != 0) = true := by rw [t0.out, hd, kk.1]; rfl
                      have s1 : (bits .and .u64 (Y1 : Int) (IntKind.u64.wrap ((2 : Int) ^ (i % 64))) != 0) = false := by rw [t1.out, hd, kk.2.1]; rfl
                      have s2 : (bits .and .u64 (Y2 : Int) (IntKind.u64.wrap ((2 : Int) ^ (i % 64))) != 0) = false := by rw [t2.out, hd, kk.2.2.1]; rfl
                      have s4 : (bits .and .u64 (Y4 : Int) (IntKind.u64.wrap ((2 : Int) ^ (i % 64))) != 0) = false := by rw [t4.out, hd, kk.2.2.2.1]; rfl
                      have s5 : (bits .and .u64 (Y5 : Int) (IntKind.u64.wrap ((2 : Int) ^ (i % 64))) != 0) = false := by rw [t5.out, hd, kk.2.2.2.2.1]; rfl
                      have s6 : (bits .and .u64 (Y6 : Int) (IntKind.u64.wrap ((2 : Int) ^ (i % 64))) != 0) = false := by rw [t6.out, hd, kk.2.2.2.2.2.1]; rfl
                      have s7 : (bits .and .u64 (Y7 : Int) (IntKind.u64.wrap ((2 : Int) ^ (i % 64))) != 0) = false := by rw [t7.out, show pEDS (nK K) i = false by unfold pEDS; simp [h]]; simp
                      clear h kk hd hle
                      go_wp2
                      go_roundg (64 * ((n + 63) / 64) - (i + 1))
                      case measure => omega
                      case rel => exact ⟨i + 1, by omega, rfl, by go_num, hb.alloc (by omega) _⟩
                    · have kk := kinds_of (C := nC m C) h
                      have u0 : (nK K i == 0) = false := by rw [h]; rfl
                      have u1 : (nK K i == 1) = false := by rw [h]; rfl
                      have u2 : (nK K i == 2) = false := by rw [h]; rfl
                      have u3 : (nK K i == 3) = false := by rw [h]; rfl
                      have u4 : (nK K i == 4) = true := by rw [h]; rfl
                      have u5 : (nK K i == 5) = false := by rw [h]; rfl
                      by_cases hl1 : i + 1 < n
                      · have x2 : wr.cell? ⟨w.heap.size, i + 1, none⟩ = some (.int .u8 (nK K (i + 1))) := by rw [hb.cell (p := ⟨w.heap.size, i + 1, none⟩) (by show w.heap.size < w2.heap.size; omega)]; exact hkz (i + 1) hl1
                        have hd1 : decide (i < n - 1) = true := decide_eq_true (by omega)
                        by_cases h5 : nK K (i + 1) = 5
                        · have h5b : (nK K (i + 1) == 5) = true := by simpa using h5
                          have s0 : (bits .and .u64 (Y0 : Int) (IntKind.u64.wrap ((2 : Int) ^ (i % 64))) != 0) = true := by rw [t0.out, hd, kk.1]; rfl
                          have s1 : (bits .and .u64 (Y1 : Int) (IntKind.u64.wrap ((2 : Int) ^ (i % 64))) != 0) = true := by rw [t1.out, hd, kk.2.1]; rfl
                          have s2 : (bits .and .u64 (Y2 : Int) (IntKind.u64.wrap ((2 : Int) ^ (i % 64))) != 0) = false := by rw [t2.out, hd, kk.2.2.1]; rfl
                          have s4 : (bits .and .u64 (Y4 : Int) (IntKind.u64.wrap ((2 : Int) ^ (i % 64))) != 0) = false := by rw [t4.out, hd, kk.2.2.2.1]; rfl
                          have s5 : (bits .and .u64 (Y5 : Int) (IntKind.u64.wrap ((2 : Int) ^ (i % 64))) != 0) = false := by rw [t5.out, hd, kk.2.2.2.2.1]; rfl
                          have s6 : (bits .and .u64 (Y6 : Int) (IntKind.u64.wrap ((2 : Int) ^ (i % 64))) != 0) = false := by rw [t6.out, hd, kk.2.2.2.2.2.1]; rfl
                          have s7 : (bits .and .u64 (Y7 : Int) (IntKind.u64.wrap ((2 : Int) ^ (i % 64))) != 0) = true := by rw [t7.out, hd1]; unfold pEDS; rw [h5b, h]; rfl
                          clear h h5 kk hd hd1 hle
                          go_wp2
                          go_roundg (64 * ((n + 63) / 64) - (i + 1))
                          case measure => omega
                          case rel => exact ⟨i + 1, by omega, rfl, by go_num, hb.alloc (by omega) _⟩
                        · have h5b : (nK K (i + 1) == 5) = false := by simpa using h5
                          have s0 : (bits .and .u64 (Y0 : Int) (IntKind.u64.wrap ((2 : Int) ^ (i % 64))) != 0) = true := by rw [t0.out, hd, kk.1]; rfl
                          have s1 : (bits .and .u64 (Y1 : Int) (IntKind.u64.wrap ((2 : Int) ^ (i % 64))) != 0) = true := by rw [t1.out, hd, kk.2.1]; rfl
                          have s2 : (bits .and .u64 (Y2 : Int) (IntKind.u64.wrap ((2 : Int) ^ (i % 64))) != 0) = false := by rw [t2.out, hd, kk.2.2.1]; rfl
                          have s4 : (bits .and .u64 (Y4 : Int) (IntKind.u64.wrap ((2 : Int) ^ (i % 64))) != 0) = false := by rw [t4.out, hd, kk.2.2.2.1]; rfl
                          have s5 : (bits .and .u64 (Y5 : Int) (IntKind.u64.wrap ((2 : Int) ^ (i % 64))) != 0) = false := by rw [t5.out, hd, kk.2.2.2.2.1]; rfl
                          have s6 : (bits .and .u64 (Y6 : Int) (IntKind.u64.wrap ((2 : Int) ^ (i % 64))) != 0) = false := by rw [t6.out, hd, kk.2.2.2.2.2.1]; rfl
                          have s7 : (bits .and .u64 (Y7 : Int) (IntKind.u64.wrap ((2 : Int) ^ (i % 64))) != 0) = false := by rw [t7.out, hd1]; unfold pEDS; rw [h5b, h]; rfl
                          clear h h5 kk hd hd1 hle
                          go_wp2
                          go_roundg (64 * ((n + 63) / 64) - (i + 1))
                          case measure => omega
                          case rel => exact ⟨i + 1, by omega, rfl, by go_num, hb.alloc (by omega) _⟩
                      · have hd1 : decide (i < n - 1) = false := decide_eq_false (by omega)
                        have s0 : (bits .and .u64 (Y0 : Int) (IntKind.u64.wrap ((2 : Int) ^ (i % 64))) != 0) = true := by rw [t0.out, hd, kk.1]; rfl
                        have s1 : (bits .and .u64 (Y1 : Int) (IntKind.u64.wrap ((2 : Int) ^ (i % 64))) != 0) = true := by rw [t1.out, hd, kk.2.1]; rfl
                        have s2 : (bits .and .u64 (Y2 : Int) (IntKind.u64.wrap ((2 : Int) ^ (i % 64))) != 0) = false := by rw [t2.out, hd, kk.2.2.1]; rfl
                        have s4 : (bits .and .u64 (Y4 : Int) (IntKind.u64.wrap ((2 : Int) ^ (i % 64))) != 0) = false := by rw [t4.out, hd, kk.2.2.2.1]; rfl
                        have s5 : (bits .and .u64 (Y5 : Int) (IntKind.u64.wrap ((2 : Int) ^ (i % 64))) != 0) = false := by rw [t5.out, hd, kk.2.2.2.2.1]; rfl
                        have s6 : (bits .and .u64 (Y6 : Int) (IntKind.u64.wrap ((2 : Int) ^ (i % 64))) != 0) = false := by rw [t6.out, hd, kk.2.2.2.2.2.1]; rfl
                        have s7 : (bits .and .u64 (Y7 : Int) (IntKind.u64.wrap ((2 : Int) ^ (i % 64))) != 0) = false := by rw [t7.out, hd1, Bool.false_and]
                        have hdz : decide ((i : Int) + 1 < (n : Int)) = false := decide_eq_false (by omega)
                        clear h kk hd hd1 hle
                        go_wp2
                        go_roundg (64 * ((n + 63) / 64) - (i + 1))
                        case measure => omega
                        case rel => exact ⟨i + 1, by omega, rfl, by go_num, hb.alloc (by omega) _⟩
                    · have kk := kinds_of (C := nC m C) h
                      have u0 : (nK K i == 0) = false := by rw [h]; rfl
                      have u1 : (nK K i == 1) = false := by rw [h]; rfl
                      have u2 : (nK K i == 2) = false := by rw [h]; rfl
                      have u3 : (nK K i == 3) = false := by rw [h]; rfl
                      have u4 : (nK K i == 4) = false := by rw [h]; rfl
                      have u5 : (nK K i == 5) = true := by rw [h]; rfl
                      have s0 : (bits .and .u64 (Y0 : Int) (IntKind.u64.wrap ((2 : Int) ^ (i % 64))) != 0) = false := by rw [t0.out, hd, kk.1]; rfl
                      have s1 : (bits .and .u64 (Y1 : Int) (IntKind.u64.wrap ((2 : Int) ^ (i % 64))) != 0) = false := by rw [t1.out, hd, kk.2.1]; rfl
                      have s2 : (bits .and .u64 (Y2 : Int) (IntKind.u64.wrap ((2 : Int) ^ (i % 64))) != 0) = false := by rw [t2.out, hd, kk.2.2.1]; rfl
                      have s4 : (bits .and .u64 (Y4 : Int) (IntKind.u64.wrap ((2 : Int) ^ (i % 64))) != 0) = false := by rw [t4.out, hd, kk.2.2.2.1]; rfl
                      have s5 : (bits .and .u64 (Y5 : Int) (IntKind.u64.wrap ((2 : Int) ^ (i % 64))) != 0) = false := by rw [t5.out, hd, kk.2.2.2.2.1]; rfl
                      have s6 : (bits .and .u64 (Y6 : Int) (IntKind.u64.wrap ((2 : Int) ^ (i % 64))) != 0) = true := by rw [t6.out, hd, kk.2.2.2.2.2.1]; rfl
                      have s7 : (bits .and .u64 (Y7 : Int) (IntKind.u64.wrap ((2 : Int) ^ (i % 64))) != 0) = false := by rw [t7.out, show pEDS (nK K) i = false by unfold pEDS; simp [h]]; simp
                      clear h kk hd hle
                      go_wp2
                      go_roundg (64 * ((n + 63) / 64) - (i + 1))
                      case measure => omega
                      case rel => exact ⟨i + 1, by omega, rfl, by go_num, hb.alloc (by omega) _⟩
                  · have hd : decide (i < n) = false := decide_eq_false hin
                    have hd1 : decide (i < n - 1) = false := decide_eq_false (by omega)
                    have s0 : (bits .and .u64 (Y0 : Int) (IntKind.u64.wrap ((2 : Int) ^ (i % 64))) != 0) = false := by rw [t0.out, hd, Bool.false_and]
                    have s1 : (bits .and .u64 (Y1 : Int) (IntKind.u64.wrap ((2 : Int) ^ (i % 64))) != 0) = false := by rw [t1.out, hd, Bool.false_and]
                    have s2 : (bits .and .u64 (Y2 : Int) (IntKind.u64.wrap ((2 : Int) ^ (i % 64))) != 0) = false := by rw [t2.out, hd, Bool.false_and]
                    have s4 : (bits .and .u64 (Y4 : Int) (IntKind.u64.wrap ((2 : Int) ^ (i % 64))) != 0) = false := by rw [t4.out, hd, Bool.false_and]
                    have s5 : (bits .and .u64 (Y5 : Int) (IntKind.u64.wrap ((2 : Int) ^ (i % 64))) != 0) = false := by rw [t5.out, hd, Bool.false_and]
                    have s6 : (bits .and .u64 (Y6 : Int) (IntKind.u64.wrap ((2 : Int) ^ (i % 64))) != 0) = false := by rw [t6.out, hd, Bool.false_and]
                    have s7 : (bits .and .u64 (Y7 : Int) (IntKind.u64.wrap ((2 : Int) ^ (i % 64))) != 0) = false := by rw [t7.out, hd1, Bool.false_and]
                    clear hd hd1
                    go_wp2
                    go_roundg (64 * ((n + 63) / 64) - (i + 1))
                    case measure => omega
                    case rel => exact ⟨i + 1, by omega, rfl, by go_num, hb.alloc (by omega) _⟩
                · go_wp2
                  go_ret
                  exact ⟨rfl, hN.bel.trans ((hZ.bel.mono (by have := hN.size; omega)).trans (hb.mono (by omega)))⟩
            · obtain rfl : n = 0 := by omega
              have hd0 : decide ((0 : Int) < ((0 : Nat) : Int)) = false := by simp
              have HC := Hid.mk' hcall
              clear hcall hkf hend hK0
              go_wp2_with fail
              refine HC.out.mono ?_
              rintro e w2 ⟨WB, EB, rfl, hZ⟩
              go_wp2
              go_loopg [10] 0 (fun g s10 wx => w2 = wx ∧ s10 = .int .i64 0)
              case atStart => exact ⟨rfl, rfl⟩
              case round =>
                obtain ⟨rfl, rfl⟩ := hrel
                go_wp2
                go_ret
                exact ⟨rfl, hN.bel.trans (hZ.bel.mono (by have := hN.size; omega))⟩
      · exfalso; omega
    · have hmz : (65536 : Int) < (m : Int) := by omega
      have hnz : ¬ (65536 : Int) < (n : Int) := by omega
      go_enter Try.func3, Try.ntmps3
      go_wp2_with fail
      refine (zz8 a0 n c0 a1 m c1 _).mono ?_
      rintro e w' ⟨⟨b, rfl⟩, rfl⟩
      cases b
      · go_wp2
        go_ret
        exact ⟨rfl, Below.refl _ _⟩
      · go_wp2
        go_ret
        exact ⟨rfl, Below.refl _ _⟩
  · have hnz : (65536 : Int) < (n : Int) := by omega
    go_enter Try.func3, Try.ntmps3
    go_wp2_with fail
    refine (zz8 a0 n c0 a1 m c1 _).mono ?_
    rintro e w' ⟨⟨b, rfl⟩, rfl⟩
    cases b
    · go_wp2
      go_ret
      exact ⟨rfl, Below.refl _ _⟩
    · go_wp2
      go_ret
      exact ⟨rfl, Below.refl _ _⟩

end Go.Proofs.Qxb6000847a
