import Derived.Test.Qxb6000847aTop
import Derived.Test.Qxb6000847aBar
namespace Go.Proofs.Qxb6000847a
open Go.RowKit
set_option linter.unusedSimpArgs false
set_option linter.unusedVariables false

theorem below_drewN {B : Nat} {a w : World} (h : Below B a w) (n : Nat) : Below B a (w.drewN n) := ⟨h.os, h.tape, h.output, h.size, h.block⟩

set_option maxHeartbeats 4000000 in
set_option maxRecDepth 100000 in
theorem barrier_calls (hm : SaidMasks) (a0 : Option Addr) (b0 o0 n c0 : Nat) (a1 : Option Addr) (b1 o1 m c1 : Nat) (K C : Nat → Int) (w : World)
    (h0 : 0 < n → a0 = some ⟨b0, o0, none⟩) (h1 : 0 < m → a1 = some ⟨b1, o1, none⟩)
    (hK : ∀ i, i < n → w.cell? ⟨b0, o0 + i, none⟩ = some (.int .u8 (K i))) (hC : ∀ i, i < m → w.cell? ⟨b1, o1 + i, none⟩ = some (.int .i32 (C i)))
    (hKr : ∀ i, i < n → 0 ≤ K i ∧ K i < 256) (hnx : n ≤ maxLen) (hmx : m ≤ maxLen) :
    Calls Try.prog 4 #[.slice a0 n c0, .slice a1 m c1] w fun e w' => e = .returned (.bool true) ∧ Below w.heap.size w w' := by
  unfold maxLen at hnx hmx
  by_cases hn : n ≤ 65536
  · by_cases hmm : m ≤ 65536
    · by_cases h4 : n + 4 * m ≤ 1048576
      · go_enter Try.func4, Try.ntmps4
        go_wp2_with fail
        refine (zz11 a0 n c0 a1 m c1 _).mono ?_
        rintro e w' ⟨⟨b, rfl⟩, rfl⟩
        cases b
        · go_wp2
          go_ret
          exact ⟨rfl, Below.refl _ _⟩
        · go_wp2_with fail
          refine (norm_calls a0 b0 o0 n c0 a1 b1 o1 m c1 K C _ h0 h1 hK hC hKr hn hmm).mono ?_
          rintro e w1 ⟨rfl, hN⟩
          have hk0 : w1.rowIs w.heap.size 5 n (fun i => .int .u8 (nK K i)) := hN.ks.congr (fun i hi => by rw [if_pos hi]; rfl)
          have hc0 : w1.rowIs (w.heap.size + 1) 21 n (fun i => .int .i32 (nC m C i)) := hN.cs.congr (fun i hi => by simp [nC, hi])
          have hkr : ∀ i, i < n → 0 ≤ nK K i ∧ nK K i ≤ 5 := fun i hi => by unfold nK; omega
          have hkf : 0 < n → w1.cell? ⟨w.heap.size, 0, none⟩ = some (.int .u8 (nK K 0)) := fun h => hk0.cell h
          by_cases hend : 0 < n ∧ nK K 0 = 5
          · obtain ⟨hn0, h5⟩ := hend
            have hkf0 := hkf hn0
            have h5b : (nK K 0 == 5) = true := by rw [h5]; rfl
            have hn0z : (0 : Int) < (n : Int) := by omega
            clear h5
            go_wp2
            go_ret
            exact ⟨rfl, hN.bel⟩
          · have hK0 : 0 < n → nK K 0 ≠ 5 := fun h e => hend ⟨h, e⟩
            have hcall := zmasks_calls hm w.heap.size (w.heap.size + 1) n (nK K) (nC m C) w1 hk0 hc0 hn hkr hK0
            have hreach : ∃ bb : Bool, (if 0 < n then (nK K 0 == 5) else false) = bb := ⟨_, rfl⟩
            clear hreach
            by_cases hn0 : 0 < n
            · have hkf0 := hkf hn0
              have h5b : (nK K 0 == 5) = false := by simpa using hK0 hn0
              have hn0z : (0 : Int) < (n : Int) := by omega
              have HC := Hid.mk' hcall
              clear hcall hkf hend hK0
              go_wp2_with fail
              refine HC.out.mono ?_
              rintro e w2 ⟨WB, EB, rfl, hZ⟩
              have e64 : (((n + 63) / 64 : Nat) : Int) = ((n : Int) + 63) / 64 := by omega
              go_wp2
              have hkz : ∀ i, i < n → w2.cell? ⟨w.heap.size, i, none⟩ = some (.int .u8 (nK K i)) := fun i hi => by rw [hZ.bel.cell (p := ⟨w.heap.size, i, none⟩) hk0.lt]; exact hk0.cell hi
              have hcz : ∀ i, i < n → w2.cell? ⟨w.heap.size + 1, i, none⟩ = some (.int .i32 (nC m C i)) := fun i hi => by rw [hZ.bel.cell (p := ⟨w.heap.size + 1, i, none⟩) hc0.lt]; exact hc0.cell hi
              have hWl := hZ.wds.lt
              have hsz0 : w.heap.size + 1 < w2.heap.size := Nat.lt_of_lt_of_le hc0.lt hZ.bel.size
              clear hk0 hc0 hkf0 h5b
              go_loopg [10, 11, 12, 13] ((n + 63) / 64) (fun g s10 s11 s12 s13 wx => ∃ t : Nat, t ≤ (n + 63) / 64 ∧ g = (n + 63) / 64 - t ∧ s13 = .int .i64 t ∧ s12 = .int .i64 ((min n (64 * t) : Nat) : Int) ∧ s10 = .int .i64 (lastP (pBar (nK K) (nC m C)) (min n (64 * t))) ∧ s11 = .int .i64 (lastP (pEnd (nK K)) (min n (64 * t))) ∧ Below w2.heap.size w2 wx)
              case atStart => exact ⟨0, Nat.zero_le _, rfl, rfl, by simp, by simp [lastP], by simp [lastP], Below.refl _ _⟩
              case round =>
                obtain ⟨t, ht, rfl, rfl, rfl, rfl, rfl, hb⟩ := hrel
                by_cases htl : t < (n + 63) / 64
                · have hbs := hb.size
                  have hne0 : w.heap.size < wr.heap.size := by omega
                  have hne1 : w.heap.size + 1 < wr.heap.size := by omega
                  have hWw : WB < wr.heap.size := by omega
                  have hdt : decide ((t : Int) < ((n : Int) + 63) / 64) = true := decide_eq_true (by omega)
                  go_wp2

                  go_loopg [10, 11, 12] (n - min n (64 * t)) (fun g s10 s11 s12 wx => wr = wx ∧ ∃ i : Nat, min n (64 * t) ≤ i ∧ i ≤ min n (64 * (t + 1)) ∧ g = n - i ∧ s12 = .int .i64 i ∧ s10 = .int .i64 (lastP (pBar (nK K) (nC m C)) i) ∧ s11 = .int .i64 (lastP (pEnd (nK K)) i))
                  case atStart => exact ⟨rfl, min n (64 * t), Nat.le_refl _, by omega, rfl, rfl, rfl, rfl⟩
                  case round =>
                    obtain ⟨rfl, i, hi0, hi1, rfl, rfl, rfl, rfl⟩ := hrel
                    have lb := lastP_bd (pBar (nK K) (nC m C)) i
                    have le := lastP_bd (pEnd (nK K)) i
                    by_cases hin : i < min n (64 * (t + 1))
                    · have hin' : i < n := by omega
                      have hd1 : decide ((i : Int) < (n : Int)) = true := decide_eq_true (by omega)
                      have hd2 : decide ((i : Int) < 64 * ((t : Int) + 1)) = true := decide_eq_true (by omega)
                      have x0 : wr.cell? ⟨w.heap.size, i, none⟩ = some (.int .u8 (nK K i)) := by rw [hb.cell (p := ⟨w.heap.size, i, none⟩) (by show w.heap.size < w2.heap.size; omega)]; exact hkz i hin'
                      have x1 : wr.cell? ⟨w.heap.size + 1, i, none⟩ = some (.int .i32 (nC m C i)) := by rw [hb.cell (p := ⟨w.heap.size + 1, i, none⟩) hsz0]; exact hcz i hin'
                      have pe : pEnd (nK K) i = (nK K i == 5) := rfl
                      have pb : pBar (nK K) (nC m C) i = (nK K i == 5 || (nK K i == 4 || (nK K i == 0 && nC m C i == 47))) := rfl
                      have ob : ∀ v : Bool, pBar (nK K) (nC m C) i = v → lastP (pBar (nK K) (nC m C)) (i + 1) = if v then (i : Int) else lastP (pBar (nK K) (nC m C)) i := fun v hv => by rw [lastP, hv]
                      have oe : ∀ v : Bool, pEnd (nK K) i = v → lastP (pEnd (nK K)) (i + 1) = if v then (i : Int) else lastP (pEnd (nK K)) i := fun v hv => by rw [lastP, hv]
                      rcases (by omega : nK K i = 5 ∨ nK K i = 4 ∨ nK K i = 0 ∨ (nK K i ≠ 5 ∧ nK K i ≠ 4 ∧ nK K i ≠ 0)) with h | h | h | h
                      · have u5 : (nK K i == 5) = true := by rw [h]; rfl
                        have u4 : (nK K i == 4) = false := by rw [h]; rfl
                        have u0 : (nK K i == 0) = false := by rw [h]; rfl
                        have HB := Hid.mk' (ob true (by rw [pb, u5]; rfl))
                        have HE := Hid.mk' (oe true (by rw [pe, u5]))
                        clear h pe pb ob oe
                        go_wp2
                        go_roundg (n - (i + 1))
                        case measure => omega
                        case rel => exact ⟨rfl, i + 1, by omega, by omega, rfl, by go_num, by rw [HB.out]; rfl, by rw [HE.out]; rfl⟩
                      · have u5 : (nK K i == 5) = false := by rw [h]; rfl
                        have u4 : (nK K i == 4) = true := by rw [h]; rfl
                        have u0 : (nK K i == 0) = false := by rw [h]; rfl
                        have HB := Hid.mk' (ob true (by rw [pb, u5, u4]; rfl))
                        have HE := Hid.mk' (oe false (by rw [pe, u5]))
                        clear h pe pb ob oe
                        go_wp2
                        go_roundg (n - (i + 1))
                        case measure => omega
                        case rel => exact ⟨rfl, i + 1, by omega, by omega, rfl, by go_num, by rw [HB.out]; rfl, by rw [HE.out]; rfl⟩
                      · by_cases hc : nC m C i = 47
                        · have u5 : (nK K i == 5) = false := by rw [h]; rfl
                          have u4 : (nK K i == 4) = false := by rw [h]; rfl
                          have u0 : (nK K i == 0) = true := by rw [h]; rfl
                          have uc : (nC m C i == 47) = true := by simpa using hc
                          have HB := Hid.mk' (ob true (by rw [pb, u5, u4, u0, uc]; rfl))
                          have HE := Hid.mk' (oe false (by rw [pe, u5]))
                          clear h pe pb ob oe
                          go_wp2
                          go_roundg (n - (i + 1))
                          case measure => omega
                          case rel => exact ⟨rfl, i + 1, by omega, by omega, rfl, by go_num, by rw [HB.out]; rfl, by rw [HE.out]; rfl⟩
                        · have u5 : (nK K i == 5) = false := by rw [h]; rfl
                          have u4 : (nK K i == 4) = false := by rw [h]; rfl
                          have u0 : (nK K i == 0) = true := by rw [h]; rfl
                          have uc : (nC m C i == 47) = false := by simpa using hc
                          have HB := Hid.mk' (ob false (by rw [pb, u5, u4, u0, uc]; rfl))
                          have HE := Hid.mk' (oe false (by rw [pe, u5]))
                          clear h pe pb ob oe
                          go_wp2
                          go_roundg (n - (i + 1))
                          case measure => omega
                          case rel => exact ⟨rfl, i + 1, by omega, by omega, rfl, by go_num, by rw [HB.out]; rfl, by rw [HE.out]; rfl⟩
                      · have u5 : (nK K i == 5) = false := by simp [h]
                        have u4 : (nK K i == 4) = false := by simp [h]
                        have u0 : (nK K i == 0) = false := by simp [h]
                        have HB := Hid.mk' (ob false (by rw [pb, u5, u4, u0]; rfl))
                        have HE := Hid.mk' (oe false (by rw [pe, u5]))
                        clear h pe pb ob oe
                        go_wp2
                        go_roundg (n - (i + 1))
                        case measure => omega
                        case rel => exact ⟨rfl, i + 1, by omega, by omega, rfl, by go_num, by rw [HB.out]; rfl, by rw [HE.out]; rfl⟩
                    · obtain rfl : i = min n (64 * (t + 1)) := by omega
                      have hd1 : decide (((min n (64 * (t + 1)) : Nat) : Int) < (n : Int)) = decide (64 * (t + 1) < n) := by
                        by_cases h : 64 * (t + 1) < n
                        · rw [decide_eq_true h, decide_eq_true (by omega)]
                        · rw [decide_eq_false h, decide_eq_false (by omega)]
                      have hd2 : decide (64 * (t + 1) < n) = true → decide (((min n (64 * (t + 1)) : Nat) : Int) < 64 * ((t : Int) + 1)) = false := fun h => decide_eq_false (by have := of_decide_eq_true h; omega)
                      have a0 : wr.cell? ⟨WB, t * 10, none⟩ = some (.int .u64 ((maskAt (nK K) (nC m C) n t 0 : Nat) : Int)) := by rw [hb.cell (p := ⟨WB, t * 10, none⟩) hWl]; rw [hZ.wds.cell' t 0 (o := t * 10) (by omega) (by omega) (by omega)]; simp [maskCell3, htl]
                      have a1 : wr.cell? ⟨WB, t * 10 + 1, none⟩ = some (.int .u64 ((maskAt (nK K) (nC m C) n t 1 : Nat) : Int)) := by rw [hb.cell (p := ⟨WB, t * 10 + 1, none⟩) hWl]; rw [hZ.wds.cell' t 1 (o := t * 10 + 1) (by omega) (by omega) (by omega)]; simp [maskCell3, htl]
                      have a2 : wr.cell? ⟨WB, t * 10 + 2, none⟩ = some (.int .u64 ((maskAt (nK K) (nC m C) n t 2 : Nat) : Int)) := by rw [hb.cell (p := ⟨WB, t * 10 + 2, none⟩) hWl]; rw [hZ.wds.cell' t 2 (o := t * 10 + 2) (by omega) (by omega) (by omega)]; simp [maskCell3, htl]
                      have a3 : wr.cell? ⟨WB, t * 10 + 3, none⟩ = some (.int .u64 ((maskAt (nK K) (nC m C) n t 3 : Nat) : Int)) := by rw [hb.cell (p := ⟨WB, t * 10 + 3, none⟩) hWl]; rw [hZ.wds.cell' t 3 (o := t * 10 + 3) (by omega) (by omega) (by omega)]; simp [maskCell3, htl]
                      have a4 : wr.cell? ⟨WB, t * 10 + 4, none⟩ = some (.int .u64 ((maskAt (nK K) (nC m C) n t 4 : Nat) : Int)) := by rw [hb.cell (p := ⟨WB, t * 10 + 4, none⟩) hWl]; rw [hZ.wds.cell' t 4 (o := t * 10 + 4) (by omega) (by omega) (by omega)]; simp [maskCell3, htl]
                      have a5 : wr.cell? ⟨WB, t * 10 + 5, none⟩ = some (.int .u64 ((maskAt (nK K) (nC m C) n t 5 : Nat) : Int)) := by rw [hb.cell (p := ⟨WB, t * 10 + 5, none⟩) hWl]; rw [hZ.wds.cell' t 5 (o := t * 10 + 5) (by omega) (by omega) (by omega)]; simp [maskCell3, htl]
                      have a6 : wr.cell? ⟨WB, t * 10 + 6, none⟩ = some (.int .u64 ((maskAt (nK K) (nC m C) n t 6 : Nat) : Int)) := by rw [hb.cell (p := ⟨WB, t * 10 + 6, none⟩) hWl]; rw [hZ.wds.cell' t 6 (o := t * 10 + 6) (by omega) (by omega) (by omega)]; simp [maskCell3, htl]
                      have a7 : wr.cell? ⟨WB, t * 10 + 7, none⟩ = some (.int .u64 ((maskAt (nK K) (nC m C) n t 7 : Nat) : Int)) := by rw [hb.cell (p := ⟨WB, t * 10 + 7, none⟩) hWl]; rw [hZ.wds.cell' t 7 (o := t * 10 + 7) (by omega) (by omega) (by omega)]; simp [maskCell3, htl]
                      have a8 : wr.cell? ⟨WB, t * 10 + 8, none⟩ = some (.int .i64 (barW (nK K) (nC m C) n (t + 1))) := by rw [hb.cell (p := ⟨WB, t * 10 + 8, none⟩) hWl]; rw [hZ.wds.cell' t 8 (o := t * 10 + 8) (by omega) (by omega) (by omega)]; simp [maskCell3, htl]
                      have a9 : wr.cell? ⟨WB, t * 10 + 9, none⟩ = some (.int .i64 (endW (nK K) (nC m C) n (t + 1))) := by rw [hb.cell (p := ⟨WB, t * 10 + 9, none⟩) hWl]; rw [hZ.wds.cell' t 9 (o := t * 10 + 9) (by omega) (by omega) (by omega)]; simp [maskCell3, htl]
                      have bw := barW_eq (nK K) (nC m C) n (t + 1) (by omega)
                      have bm := barW_mono (nK K) (nC m C) n t
                      have bl := endW_le (nK K) (nC m C) n (t + 1)
                      unfold wordP at bw
                      generalize hLB : lastP (pBar (nK K) (nC m C)) (min n (64 * (t + 1))) = LB at lb bw ⊢
                      generalize hLE : lastP (pEnd (nK K)) (min n (64 * (t + 1))) = LE at le bw ⊢
                      generalize hMN : min n (64 * (t + 1)) = MN at lb le hd1 hd2 ⊢
                      have HLB := Hid.mk' hLB
                      have HLE := Hid.mk' hLE
                      have HMN := Hid.mk' hMN
                      clear hLB hLE
                      rcases (by omega : (0 ≤ LB ∧ 0 ≤ LE) ∨ (0 ≤ LB ∧ LE = -1) ∨ (LB = -1 ∧ LE = -1) ∨ (LB = -1 ∧ 0 ≤ LE)) with ⟨c1, c2⟩ | ⟨c1, c2⟩ | ⟨c1, c2⟩ | ⟨c1, c2⟩
                      · rw [if_pos c1, if_pos c2] at bw
                        rw [bw.1] at a8 bm bl
                        rw [bw.2] at a9 bm bl
                        have g1 : decide ((LB / 64 : Int) < LE / 64) = false := decide_eq_false (by omega)
                        have g2 : decide ((t : Int) < LB / 64) = false := decide_eq_false (by omega)
                        by_cases h0 : t = 0
                        · subst h0
                          have g3 : decide ((0 : Int) < ((0 : Nat) : Int)) = false := by simp
                          by_cases h : 64 * (0 + 1) < n
                          · have e1 := hd1.trans (decide_eq_true h)
                            have e2 := hd2 (decide_eq_true h)
                            clear hd1 hd2 bw bm bl
                            go_wp2
                            go_quiet (fail)
                            go_wp2
                            go_roundg ((n + 63) / 64 - (0 + 1))
                            case measure => omega
                            case rel => exact ⟨0 + 1, by omega, rfl, by go_num, by rw [HMN.out], by rw [HLB.out], by rw [HLE.out], below_drewN (hb.alloc (by omega) _) _⟩
                          · have e1 := hd1.trans (decide_eq_false h)
                            clear hd1 hd2 bw bm bl
                            go_wp2
                            go_quiet (fail)
                            go_wp2
                            go_roundg ((n + 63) / 64 - (0 + 1))
                            case measure => omega
                            case rel => exact ⟨0 + 1, by omega, rfl, by go_num, by rw [HMN.out], by rw [HLB.out], by rw [HLE.out], below_drewN (hb.alloc (by omega) _) _⟩
                        · obtain ⟨t', rfl⟩ : ∃ t', t = t' + 1 := ⟨t - 1, by omega⟩
                          have z8 : wr.cell? ⟨WB, t' * 10 + 8, none⟩ = some (.int .i64 (barW (nK K) (nC m C) n (t' + 1))) := by rw [hb.cell (p := ⟨WB, t' * 10 + 8, none⟩) hWl]; rw [hZ.wds.cell' t' 8 (o := t' * 10 + 8) (by omega) (by omega) (by omega)]; simp [maskCell3, show t' < (n + 63) / 64 by omega]
                          have z9 : wr.cell? ⟨WB, t' * 10 + 9, none⟩ = some (.int .i64 (endW (nK K) (nC m C) n (t' + 1))) := by rw [hb.cell (p := ⟨WB, t' * 10 + 9, none⟩) hWl]; rw [hZ.wds.cell' t' 9 (o := t' * 10 + 9) (by omega) (by omega) (by omega)]; simp [maskCell3, show t' < (n + 63) / 64 by omega]
                          have g4 : decide ((LB / 64 : Int) < barW (nK K) (nC m C) n (t' + 1)) = false := decide_eq_false (by omega)
                          have g5 : decide ((LE / 64 : Int) < endW (nK K) (nC m C) n (t' + 1)) = false := decide_eq_false (by omega)
                          have g3 : decide ((0 : Int) < ((t' + 1 : Nat) : Int)) = true := decide_eq_true (by omega)
                          have ht' : t' < (n + 63) / 64 := by omega
                          have hti : (t' : Int) < ((n : Int) + 63) / 64 := by omega
                          have gw : IntKind.i64.wrap ((t' : Nat) : Int) = (t' : Int) := by rw [IntKind.wrap_i64]; omega
                          by_cases h : 64 * (t' + 1 + 1) < n
                          · have e1 := hd1.trans (decide_eq_true h)
                            have e2 := hd2 (decide_eq_true h)
                            clear hd1 hd2 bw bm bl
                            go_wp2
                            go_quiet (fail)
                            go_wp2
                            go_roundg ((n + 63) / 64 - (t' + 1 + 1))
                            case measure => omega
                            case rel => exact ⟨t' + 1 + 1, by omega, rfl, by go_num, by rw [HMN.out], by rw [HLB.out], by rw [HLE.out], below_drewN (hb.alloc (by omega) _) _⟩
                          · have e1 := hd1.trans (decide_eq_false h)
                            clear hd1 hd2 bw bm bl
                            go_wp2
                            go_quiet (fail)
                            go_wp2
                            go_roundg ((n + 63) / 64 - (t' + 1 + 1))
                            case measure => omega
                            case rel => exact ⟨t' + 1 + 1, by omega, rfl, by go_num, by rw [HMN.out], by rw [HLB.out], by rw [HLE.out], below_drewN (hb.alloc (by omega) _) _⟩
                      · subst c2
                        rw [if_pos c1, if_neg (by omega)] at bw
                        rw [bw.1] at a8 bm bl
                        rw [bw.2] at a9 bm bl
                        have g1 : decide ((LB / 64 : Int) < -1) = false := decide_eq_false (by omega)
                        have g2 : decide ((t : Int) < LB / 64) = false := decide_eq_false (by omega)
                        by_cases h0 : t = 0
                        · subst h0
                          have g3 : decide ((0 : Int) < ((0 : Nat) : Int)) = false := by simp
                          by_cases h : 64 * (0 + 1) < n
                          · have e1 := hd1.trans (decide_eq_true h)
                            have e2 := hd2 (decide_eq_true h)
                            clear hd1 hd2 bw bm bl
                            go_wp2
                            go_quiet (fail)
                            go_wp2
                            go_roundg ((n + 63) / 64 - (0 + 1))
                            case measure => omega
                            case rel => exact ⟨0 + 1, by omega, rfl, by go_num, by rw [HMN.out], by rw [HLB.out], by rw [HLE.out], below_drewN (hb.alloc (by omega) _) _⟩
                          · have e1 := hd1.trans (decide_eq_false h)
                            clear hd1 hd2 bw bm bl
                            go_wp2
                            go_quiet (fail)
                            go_wp2
                            go_roundg ((n + 63) / 64 - (0 + 1))
                            case measure => omega
                            case rel => exact ⟨0 + 1, by omega, rfl, by go_num, by rw [HMN.out], by rw [HLB.out], by rw [HLE.out], below_drewN (hb.alloc (by omega) _) _⟩
                        · obtain ⟨t', rfl⟩ : ∃ t', t = t' + 1 := ⟨t - 1, by omega⟩
                          have z8 : wr.cell? ⟨WB, t' * 10 + 8, none⟩ = some (.int .i64 (barW (nK K) (nC m C) n (t' + 1))) := by rw [hb.cell (p := ⟨WB, t' * 10 + 8, none⟩) hWl]; rw [hZ.wds.cell' t' 8 (o := t' * 10 + 8) (by omega) (by omega) (by omega)]; simp [maskCell3, show t' < (n + 63) / 64 by omega]
                          have z9 : wr.cell? ⟨WB, t' * 10 + 9, none⟩ = some (.int .i64 (endW (nK K) (nC m C) n (t' + 1))) := by rw [hb.cell (p := ⟨WB, t' * 10 + 9, none⟩) hWl]; rw [hZ.wds.cell' t' 9 (o := t' * 10 + 9) (by omega) (by omega) (by omega)]; simp [maskCell3, show t' < (n + 63) / 64 by omega]
                          have g4 : decide ((LB / 64 : Int) < barW (nK K) (nC m C) n (t' + 1)) = false := decide_eq_false (by omega)
                          have g5 : decide ((-1 : Int) < endW (nK K) (nC m C) n (t' + 1)) = false := decide_eq_false (by omega)
                          have g3 : decide ((0 : Int) < ((t' + 1 : Nat) : Int)) = true := decide_eq_true (by omega)
                          have ht' : t' < (n + 63) / 64 := by omega
                          have hti : (t' : Int) < ((n : Int) + 63) / 64 := by omega
                          have gw : IntKind.i64.wrap ((t' : Nat) : Int) = (t' : Int) := by rw [IntKind.wrap_i64]; omega
                          by_cases h : 64 * (t' + 1 + 1) < n
                          · have e1 := hd1.trans (decide_eq_true h)
                            have e2 := hd2 (decide_eq_true h)
                            clear hd1 hd2 bw bm bl
                            go_wp2
                            go_quiet (fail)
                            go_wp2
                            go_roundg ((n + 63) / 64 - (t' + 1 + 1))
                            case measure => omega
                            case rel => exact ⟨t' + 1 + 1, by omega, rfl, by go_num, by rw [HMN.out], by rw [HLB.out], by rw [HLE.out], below_drewN (hb.alloc (by omega) _) _⟩
                          · have e1 := hd1.trans (decide_eq_false h)
                            clear hd1 hd2 bw bm bl
                            go_wp2
                            go_quiet (fail)
                            go_wp2
                            go_roundg ((n + 63) / 64 - (t' + 1 + 1))
                            case measure => omega
                            case rel => exact ⟨t' + 1 + 1, by omega, rfl, by go_num, by rw [HMN.out], by rw [HLB.out], by rw [HLE.out], below_drewN (hb.alloc (by omega) _) _⟩
                      · subst c1
                        subst c2
                        rw [if_neg (by omega)] at bw
                        rw [bw.1] at a8 bm bl
                        rw [bw.2] at a9 bm bl
                        have g1 : decide ((-1 : Int) < -1) = false := decide_eq_false (by omega)
                        have g2 : decide ((t : Int) < -1) = false := decide_eq_false (by omega)
                        by_cases h0 : t = 0
                        · subst h0
                          have g3 : decide ((0 : Int) < ((0 : Nat) : Int)) = false := by simp
                          by_cases h : 64 * (0 + 1) < n
                          · have e1 := hd1.trans (decide_eq_true h)
                            have e2 := hd2 (decide_eq_true h)
                            clear hd1 hd2 bw bm bl
                            go_wp2
                            go_quiet (fail)
                            go_wp2
                            go_roundg ((n + 63) / 64 - (0 + 1))
                            case measure => omega
                            case rel => exact ⟨0 + 1, by omega, rfl, by go_num, by rw [HMN.out], by rw [HLB.out], by rw [HLE.out], below_drewN (hb.alloc (by omega) _) _⟩
                          · have e1 := hd1.trans (decide_eq_false h)
                            clear hd1 hd2 bw bm bl
                            go_wp2
                            go_quiet (fail)
                            go_wp2
                            go_roundg ((n + 63) / 64 - (0 + 1))
                            case measure => omega
                            case rel => exact ⟨0 + 1, by omega, rfl, by go_num, by rw [HMN.out], by rw [HLB.out], by rw [HLE.out], below_drewN (hb.alloc (by omega) _) _⟩
                        · obtain ⟨t', rfl⟩ : ∃ t', t = t' + 1 := ⟨t - 1, by omega⟩
                          have z8 : wr.cell? ⟨WB, t' * 10 + 8, none⟩ = some (.int .i64 (barW (nK K) (nC m C) n (t' + 1))) := by rw [hb.cell (p := ⟨WB, t' * 10 + 8, none⟩) hWl]; rw [hZ.wds.cell' t' 8 (o := t' * 10 + 8) (by omega) (by omega) (by omega)]; simp [maskCell3, show t' < (n + 63) / 64 by omega]
                          have z9 : wr.cell? ⟨WB, t' * 10 + 9, none⟩ = some (.int .i64 (endW (nK K) (nC m C) n (t' + 1))) := by rw [hb.cell (p := ⟨WB, t' * 10 + 9, none⟩) hWl]; rw [hZ.wds.cell' t' 9 (o := t' * 10 + 9) (by omega) (by omega) (by omega)]; simp [maskCell3, show t' < (n + 63) / 64 by omega]
                          have g4 : decide ((-1 : Int) < barW (nK K) (nC m C) n (t' + 1)) = false := decide_eq_false (by omega)
                          have g5 : decide ((-1 : Int) < endW (nK K) (nC m C) n (t' + 1)) = false := decide_eq_false (by omega)
                          have g3 : decide ((0 : Int) < ((t' + 1 : Nat) : Int)) = true := decide_eq_true (by omega)
                          have ht' : t' < (n + 63) / 64 := by omega
                          have hti : (t' : Int) < ((n : Int) + 63) / 64 := by omega
                          have gw : IntKind.i64.wrap ((t' : Nat) : Int) = (t' : Int) := by rw [IntKind.wrap_i64]; omega
                          by_cases h : 64 * (t' + 1 + 1) < n
                          · have e1 := hd1.trans (decide_eq_true h)
                            have e2 := hd2 (decide_eq_true h)
                            clear hd1 hd2 bw bm bl
                            go_wp2
                            go_quiet (fail)
                            go_wp2
                            go_roundg ((n + 63) / 64 - (t' + 1 + 1))
                            case measure => omega
                            case rel => exact ⟨t' + 1 + 1, by omega, rfl, by go_num, by rw [HMN.out], by rw [HLB.out], by rw [HLE.out], below_drewN (hb.alloc (by omega) _) _⟩
                          · have e1 := hd1.trans (decide_eq_false h)
                            clear hd1 hd2 bw bm bl
                            go_wp2
                            go_quiet (fail)
                            go_wp2
                            go_roundg ((n + 63) / 64 - (t' + 1 + 1))
                            case measure => omega
                            case rel => exact ⟨t' + 1 + 1, by omega, rfl, by go_num, by rw [HMN.out], by rw [HLB.out], by rw [HLE.out], below_drewN (hb.alloc (by omega) _) _⟩
                      · exfalso
                        rw [if_neg (by omega), if_pos c2] at bw
                        omega
                · go_wp2
                  go_ret
                  exact ⟨rfl, hN.bel.trans ((hZ.bel.mono (by have := hN.size; omega)).trans (hb.mono (by omega)))⟩
            · obtain rfl : n = 0 := by omega
              have hd0 : decide ((0 : Int) < ((0 : Nat) : Int)) = false := by simp
              have HC := Hid.mk' hcall
              clear hcall hkf hend hK0
              go_wp2_with fail
              refine HC.out.mono ?_
              rintro e w2 ⟨WB, EB, rfl, hZ⟩
              go_wp2
              go_loopg [13] 0 (fun g s13 wx => w2 = wx ∧ s13 = .int .i64 0)
              case atStart => exact ⟨rfl, rfl⟩
              case round =>
                obtain ⟨rfl, rfl⟩ := hrel
                go_wp2
                go_ret
                exact ⟨rfl, hN.bel.trans (hZ.bel.mono (by have := hN.size; omega))⟩
      · exfalso; omega
    · have hmz : (65536 : Int) < (m : Int) := by omega
      have hnz : ¬ (65536 : Int) < (n : Int) := by omega
      go_enter Try.func4, Try.ntmps4
      go_wp2_with fail
      refine (zz11 a0 n c0 a1 m c1 _).mono ?_
      rintro e w' ⟨⟨b, rfl⟩, rfl⟩
      cases b
      · go_wp2
        go_ret
        exact ⟨rfl, Below.refl _ _⟩
      · go_wp2
        go_ret
        exact ⟨rfl, Below.refl _ _⟩
  · have hnz : (65536 : Int) < (n : Int) := by omega
    go_enter Try.func4, Try.ntmps4
    go_wp2_with fail
    refine (zz11 a0 n c0 a1 m c1 _).mono ?_
    rintro e w' ⟨⟨b, rfl⟩, rfl⟩
    cases b
    · go_wp2
      go_ret
      exact ⟨rfl, Below.refl _ _⟩
    · go_wp2
      go_ret
      exact ⟨rfl, Below.refl _ _⟩

end Go.Proofs.Qxb6000847a
