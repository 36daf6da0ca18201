import Derived.Test.Qxb6000847aTop
import Derived.Test.Qxb6000847aPar
namespace Go.Proofs.Qxb6000847a
open Go.RowKit
set_option linter.unusedSimpArgs false
set_option linter.unusedVariables false

/-- the world inside the law's loop over a group's words. -/
def Jn (w2 wx : World) (HB EB e : Nat) (l : List Int) : Prop :=
  Below w2.heap.size w2 wx ∧ HB < wx.heap.size ∧ wx.cell? ⟨HB, 0, none⟩ = some (.int .i32 (chAt l l.length e))
    ∧ wx.cell? ⟨HB, 1, none⟩ = some (.slice (some ⟨EB + 2 + 3 * e, 0, none⟩) (cnt l e) (cnt l e))
    ∧ wx.cell? ⟨HB, 2, none⟩ = some (.slice (some ⟨EB + 3 + 3 * e, 0, none⟩) (cnt l e) (cnt l e))
theorem below_drewN {B : Nat} {a w : World} (h : Below B a w) (n : Nat) : Below B a (w.drewN n) := ⟨h.os, h.tape, h.output, h.size, h.block⟩
theorem Jn.drewN {w2 wx : World} {HB EB e : Nat} {l : List Int} (h : Jn w2 wx HB EB e l) (q : Nat) : Jn w2 (wx.drewN q) HB EB e l :=
  ⟨below_drewN h.1 q, h.2.1, h.2.2.1, h.2.2.2.1, h.2.2.2.2⟩
theorem jn_start {w2 wr : World} {EB e : Nat} {l : List Int} (hb : Below w2.heap.size w2 wr) (hs : w2.heap.size ≤ wr.heap.size) (q : Nat) :
    Jn w2 ((wr.alloc (.cells #[.int .i32 (chAt l l.length e), .slice (some ⟨EB + 2 + 3 * e, 0, none⟩) (cnt l e) (cnt l e), .slice (some ⟨EB + 3 + 3 * e, 0, none⟩) (cnt l e) (cnt l e)] 38)).drewN q) wr.heap.size EB e l := by
  refine Jn.drewN ⟨hb.alloc hs _, ?_, ?_, ?_, ?_⟩ q
  · simp [go_sem]
  · simp [go_sem]
  · simp [go_sem]
  · simp [go_sem]

theorem shr_bit (B b : Nat) (h : B < 18446744073709551616) : (bits .and .u64 ((B : Int) / 2 ^ b) 1 == 0) = !B.testBit b := by
  have e : (B : Int) / 2 ^ b = ((B / 2 ^ b : Nat) : Int) := by simp
  have hl : B / 2 ^ b < 18446744073709551616 := Nat.lt_of_le_of_lt (Nat.div_le_self _ _) h
  have := and_bit (B / 2 ^ b) 0 hl (by omega)
  rw [e]
  simp only [Nat.pow_zero] at this
  have h2 : (B / 2 ^ b).testBit 0 = B.testBit b := by
    rw [← Nat.shiftRight_eq_div_pow, Nat.testBit_shiftRight, Nat.add_zero]
  rw [← h2, ← this]
  simp [bne]

theorem nC_range {m n : Nat} {C : Nat → Int} (h : ∀ i, i < m → -2147483648 ≤ C i ∧ C i < 2147483648) : ∀ i, i < n → -2147483648 ≤ nC m C i ∧ nC m C i < 2147483648 := by
  intro i _
  unfold nC
  by_cases hi : i < m
  · rw [if_pos hi]; exact h i hi
  · rw [if_neg hi]; omega

set_option maxHeartbeats 4000000 in
set_option maxRecDepth 100000 in
theorem chars_calls (hm : SaidMasks) (a0 : Option Addr) (b0 o0 n c0 : Nat) (a1 : Option Addr) (b1 o1 m c1 : Nat) (K C : Nat → Int) (w : World)
    (h0 : 0 < n → a0 = some ⟨b0, o0, none⟩) (h1 : 0 < m → a1 = some ⟨b1, o1, none⟩)
    (hK : ∀ i, i < n → w.cell? ⟨b0, o0 + i, none⟩ = some (.int .u8 (K i))) (hC : ∀ i, i < m → w.cell? ⟨b1, o1 + i, none⟩ = some (.int .i32 (C i)))
    (hKr : ∀ i, i < n → 0 ≤ K i ∧ K i < 256) (hCr : ∀ i, i < m → -2147483648 ≤ C i ∧ C i < 2147483648) (hnx : n ≤ maxLen) (hmx : m ≤ maxLen) :
    Calls Try.prog 5 #[.slice a0 n c0, .slice a1 m c1] w fun e w' => e = .returned (.bool true) ∧ Below w.heap.size w w' := by
  unfold maxLen at hnx hmx
  by_cases hn : n ≤ 65536
  · by_cases hmm : m ≤ 65536
    · by_cases h4 : n + 4 * m ≤ 1048576
      · go_enter Try.func5, Try.ntmps5
        go_wp2_with fail
        refine (zz12 a0 n c0 a1 m c1 _).mono ?_
        rintro e w' ⟨⟨b, rfl⟩, rfl⟩
        cases b
        · go_wp2
          go_ret
          exact ⟨rfl, Below.refl _ _⟩
        · go_wp2_with fail
          refine (norm_calls a0 b0 o0 n c0 a1 b1 o1 m c1 K C _ h0 h1 hK hC hKr hn hmm).mono ?_
          rintro e w1 ⟨rfl, hN⟩
          have hk0 : w1.rowIs w.heap.size 5 n (fun i => .int .u8 (nK K i)) := hN.ks.congr (fun i hi => by rw [if_pos hi]; rfl)
          have hc0 : w1.rowIs (w.heap.size + 1) 21 n (fun i => .int .i32 (nC m C i)) := hN.cs.congr (fun i hi => by simp [nC, hi])
          have hkr : ∀ i, i < n → 0 ≤ nK K i ∧ nK K i ≤ 5 := fun i hi => by unfold nK; omega
          have hkf : 0 < n → w1.cell? ⟨w.heap.size, 0, none⟩ = some (.int .u8 (nK K 0)) := fun h => hk0.cell h
          by_cases hend : 0 < n ∧ nK K 0 = 5
          · obtain ⟨hn0, h5⟩ := hend
            have hkf0 := hkf hn0
            have h5b : (nK K 0 == 5) = true := by rw [h5]; rfl
            have hn0z : (0 : Int) < (n : Int) := by omega
            clear h5
            go_wp2
            go_ret
            exact ⟨rfl, hN.bel⟩
          · have hK0 : 0 < n → nK K 0 ≠ 5 := fun h e => hend ⟨h, e⟩
            have hcall := zmasks_calls hm w.heap.size (w.heap.size + 1) n (nK K) (nC m C) w1 hk0 hc0 hn hkr hK0
            have hreach : ∃ bb : Bool, (if 0 < n then (nK K 0 == 5) else false) = bb := ⟨_, rfl⟩
            clear hreach
            by_cases hn0 : 0 < n
            · have hkf0 := hkf hn0
              have h5b : (nK K 0 == 5) = false := by simpa using hK0 hn0
              have hn0z : (0 : Int) < (n : Int) := by omega
              have HC := Hid.mk' hcall
              clear hcall hkf hend hK0
              go_wp2_with fail
              refine HC.out.mono ?_
              rintro e w2 ⟨WB, EB, rfl, hZ⟩
              have hP := parts (nK K) (nC m C) n hn (nC_range hCr)
              generalize (chList (nK K) (nC m C) n).mergeSort (fun x y => decide (x ≤ y)) = l at hZ hP ⊢
              have HP := Hid.mk' hP
              clear hP
              have e64 : (((n + 63) / 64 : Nat) : Int) = ((n : Int) + 63) / 64 := by omega
              go_wp2
              have hkz : ∀ i, i < n → w2.cell? ⟨w.heap.size, i, none⟩ = some (.int .u8 (nK K i)) := fun i hi => by rw [hZ.bel.cell (p := ⟨w.heap.size, i, none⟩) hk0.lt]; exact hk0.cell hi
              have hcz : ∀ i, i < n → w2.cell? ⟨w.heap.size + 1, i, none⟩ = some (.int .i32 (nC m C i)) := fun i hi => by rw [hZ.bel.cell (p := ⟨w.heap.size + 1, i, none⟩) hc0.lt]; exact hc0.cell hi
              have hWl := hZ.wds.lt
              have hsz0 : w.heap.size + 1 < w2.heap.size := Nat.lt_of_lt_of_le hc0.lt hZ.bel.size
              clear hk0 hc0 hkf0 h5b
              go_loopg [10, 11] n (fun g s10 s11 wx => w2 = wx ∧ ∃ i : Nat, i ≤ n ∧ g = n - i ∧ s11 = .int .i64 i ∧ s10 = .int .i64 ((chList (nK K) (nC m C) i).length : Nat))
              case atStart => exact ⟨rfl, 0, Nat.zero_le _, rfl, rfl, rfl⟩
              case round =>
                obtain ⟨rfl, i, hi, rfl, rfl, rfl⟩ := hrel
                have hcl := chList_le (nK K) (nC m C) i
                by_cases hin : i < n
                · have x0 := hkz i hin
                  have x1 := hcz i hin
                  by_cases hk : nK K i = 0
                  · have u0 : (nK K i == 0) = true := by simpa using hk
                    by_cases hc : nC m C i = 47
                    · have uc : (nC m C i != 47) = false := by simpa using hc
                      have HL := Hid.mk' (chList_no (nK K) (nC m C) i (by unfold chStep; simp [hc]))
                      clear hk hc
                      go_wp2
                      go_roundg (n - (i + 1))
                      case measure => omega
                      case rel => exact ⟨rfl, i + 1, by omega, rfl, by go_num, by rw [HL.out]⟩
                    · have uc : (nC m C i != 47) = true := by simpa using hc
                      have HL := Hid.mk' (chList_yes (nK K) (nC m C) i (by unfold chStep; simp [hc, hk]))
                      clear hk hc
                      go_wp2
                      go_roundg (n - (i + 1))
                      case measure => omega
                      case rel => exact ⟨rfl, i + 1, by omega, rfl, by go_num, by rw [HL.out, List.length_append]; go_num⟩
                  · have u0 : (nK K i == 0) = false := by simpa using hk
                    have HL := Hid.mk' (chList_no (nK K) (nC m C) i (by unfold chStep; simp [hk]))
                    clear hk
                    go_wp2
                    go_roundg (n - (i + 1))
                    case measure => omega
                    case rel => exact ⟨rfl, i + 1, by omega, rfl, by go_num, by rw [HL.out]⟩
                · obtain rfl : i = n := by omega
                  have hlc := chList_le (nK K) (nC m C) i
                  have hli : l.length ≤ i := by have := HP.out.len; omega
                  have hEl := hZ.ent.lt
                  have hgl := gl_len l l.length
                  go_wp2
                  go_loopg [12, 13] (gl l l.length).length (fun g s12 s13 wx => ∃ e : Nat, e ≤ (gl l l.length).length ∧ g = (gl l l.length).length - e ∧ s13 = .int .i64 e ∧ s12 = .int .i64 ((sumTo (fun t => popTo (wordsOf l l.length t).2 64) (stAt l l.length e) : Nat) : Int) ∧ Below w2.heap.size w2 wx)
                  case atStart => exact ⟨0, Nat.zero_le _, rfl, rfl, by rw [HP.out.beg]; rfl, Below.refl _ _⟩
                  case round =>
                    obtain ⟨e, he, rfl, rfl, rfl, hb⟩ := hrel
                    have hbs := hb.size
                    by_cases hel : e < (gl l l.length).length
                    · have c0 : wr.cell? ⟨EB, e * 3, none⟩ = some (.int .i32 (chAt l l.length e)) := by rw [hb.cell (p := ⟨EB, e * 3, none⟩) hEl]; exact hZ.ent.cell' e 0 (by omega) hel (by omega)
                      have c1 : wr.cell? ⟨EB, e * 3 + 1, none⟩ = some (.slice (some ⟨EB + 2 + 3 * e, 0, none⟩) (cnt l e) (cnt l e)) := by rw [hb.cell (p := ⟨EB, e * 3 + 1, none⟩) hEl]; exact hZ.ent.cell' e 1 (by omega) hel (by omega)
                      have c2 : wr.cell? ⟨EB, e * 3 + 2, none⟩ = some (.slice (some ⟨EB + 3 + 3 * e, 0, none⟩) (cnt l e) (cnt l e)) := by rw [hb.cell (p := ⟨EB, e * 3 + 2, none⟩) hEl]; exact hZ.ent.cell' e 2 (by omega) hel (by omega)
                      have hEw : EB < wr.heap.size := by omega
                      have hei : (e : Int) < ((gl l l.length).length : Int) := by omega
                      have hat := hZ.ats e hel
                      have hbt := hZ.bts e hel
                      have hal := hat.lt
                      have hbl := hbt.lt
                      have hcn : 0 < cnt l e := by have := HP.out.pos e hel; unfold cnt; omega
                      have hcb : cnt l e ≤ 65536 := by have := HP.out.top e hel; have := szOf_le l l.length; unfold cnt; omega
                      have hsl : (chAt l l.length e == 47) = false := by simpa using HP.out.slash e hel
                      have z1 : ((cnt l e : Int) == 0) = false := by simp; omega
                      by_cases he0 : e = 0
                      · have g0 : decide (0 < e) = false := decide_eq_false (by omega)
                        have hde : decide ((e : Int) < ((gl l l.length).length : Int)) = true := decide_eq_true (by omega)
                        clear he0
                        go_wp2
                        go_quiet (fail)
                        have hJ : Jn w2 ((wr.alloc (.cells #[.int .i32 (chAt l l.length e), .slice (some ⟨EB + 2 + 3 * e, 0, none⟩) (cnt l e) (cnt l e), .slice (some ⟨EB + 3 + 3 * e, 0, none⟩) (cnt l e) (cnt l e)] 38)).drewN nq) wr.heap.size EB e l := jn_start hb (by omega) nq
                        clear c0 c1 c2 hEw hei
                        go_wp2
                        generalize (wr.alloc (.cells #[.int .i32 (chAt l l.length e), .slice (some ⟨EB + 2 + 3 * e, 0, none⟩) (cnt l e) (cnt l e), .slice (some ⟨EB + 3 + 3 * e, 0, none⟩) (cnt l e) (cnt l e)] 38)).drewN nq = wq at hJ ⊢
                        generalize wr.heap.size = HB at hJ ⊢
                        clear hb hbs
                        go_loopg [12, 15] (cnt l e) (fun g s12 s15 wx => ∃ j : Nat, j ≤ cnt l e ∧ g = cnt l e - j ∧ s15 = .int .i64 j ∧ s12 = .int .i64 ((sumTo (fun t => popTo (wordsOf l l.length t).2 64) (stAt l l.length e + j) : Nat) : Int) ∧ Jn w2 wx HB EB e l)
                        case atStart => exact ⟨0, Nat.zero_le _, rfl, rfl, rfl, hJ⟩
                        case round =>
                          clear hJ
                          obtain ⟨j, hj, rfl, rfl, rfl, hJ⟩ := hrel
                          obtain ⟨hb, hHB, q0, q1, q2⟩ := hJ
                          by_cases hjl : j < cnt l e
                          · have hT1 : stAt l l.length e ≤ stAt l l.length e + j := Nat.le_add_right _ _
                            have hT2 : stAt l l.length e + j < stAt l l.length (e + 1) := by have := HP.out.pos e hel; unfold cnt at hjl; omega
                            have hT3 : stAt l l.length e + j < szOf l l.length := Nat.lt_of_lt_of_le hT2 (HP.out.top e hel)
                            have hat0 : w2.cell? ⟨EB + 2 + 3 * e, j, none⟩ = some (.int .i64 ((wordsOf l l.length (stAt l l.length e + j)).1 : Nat)) := hat.cell hjl
                            have hbt0 : w2.cell? ⟨EB + 3 + 3 * e, j, none⟩ = some (.int .u64 ((wordsOf l l.length (stAt l l.length e + j)).2 : Nat)) := hbt.cell hjl
                            have HAP : Hid (∀ j', j = j' + 1 → ∃ A', A' < (wordsOf l l.length (stAt l l.length e + j)).1 ∧ wr.cell? ⟨EB + 2 + 3 * e, j', none⟩ = some (.int .i64 ((A' : Nat) : Int))) := by
                              intro j' hj'
                              subst hj'
                              refine ⟨(wordsOf l l.length (stAt l l.length e + j')).1, HP.out.at_up e _ hel (by omega) hT2, ?_⟩
                              rw [hb.cell (p := ⟨EB + 2 + 3 * e, j', none⟩) hal]
                              exact hat.cell (by omega)
                            have hA := HP.out.at_lt e _ hel hT1 hT2
                            have hB := HP.out.nz e _ hel hT1 hT2
                            have hBl := HP.out.lt _ hT3
                            have HBIT := Hid.mk' (fun b => HP.out.bit e (stAt l l.length e + j) b hel hT1 hT2)
                            have HSUM : Hid (sumTo (fun t => popTo (wordsOf l l.length t).2 64) (stAt l l.length e + (j + 1)) = sumTo (fun t => popTo (wordsOf l l.length t).2 64) (stAt l l.length e + j) + popTo (wordsOf l l.length (stAt l l.length e + j)).2 64) := rfl
                            have hTop : sumTo (fun t => popTo (wordsOf l l.length t).2 64) (stAt l l.length e + j) + popTo (wordsOf l l.length (stAt l l.length e + j)).2 64 ≤ l.length := by
                              have h := sumTo_mono (fun t => popTo (wordsOf l l.length t).2 64) (a := stAt l l.length e + j + 1) (b := szOf l l.length) hT3
                              rw [HP.out.sum] at h
                              exact h
                            clear hT1 hT2 hT3
                            generalize wordsOf l l.length (stAt l l.length e + j) = AB at hat0 hbt0 HAP hA hB hBl HBIT HSUM hTop
                            obtain ⟨A, B⟩ := AB
                            simp only at hat0 hbt0 HAP hA hB hBl HBIT HSUM hTop
                            generalize sumTo (fun t => popTo (wordsOf l l.length t).2 64) (stAt l l.length e + j) = SN at HSUM hTop ⊢
                            have a0 : wr.cell? ⟨EB + 2 + 3 * e, j, none⟩ = some (.int .i64 (A : Int)) := by rw [hb.cell (p := ⟨EB + 2 + 3 * e, j, none⟩) hal]; exact hat0
                            have b0 : wr.cell? ⟨EB + 3 + 3 * e, j, none⟩ = some (.int .u64 (B : Int)) := by rw [hb.cell (p := ⟨EB + 3 + 3 * e, j, none⟩) hbl]; exact hbt0
                            have hbs := hb.size
                            have hne1 : EB + 2 + 3 * e < wr.heap.size := by omega
                            have hne2 : EB + 3 + 3 * e < wr.heap.size := by omega
                            have f1 : decide ((A : Int) < 0) = false := decide_eq_false (by omega)
                            have f2 : decide (((i : Int) + 63) / 64 ≤ (A : Int)) = false := decide_eq_false (by omega)
                            have zB : ((B : Int) == 0) = false := by simp; omega
                            have hdj : decide ((j : Int) < (cnt l e : Int)) = true := decide_eq_true (by omega)
                            by_cases hj0 : j = 0
                            · have f3 : decide (0 < j) = false := decide_eq_false (by omega)
                              clear hj0 HAP
                              go_wp2
                              go_loopg [12, 17] 64 (fun g s12 s17 wx => ∃ b : Nat, b ≤ 64 ∧ g = 64 - b ∧ s17 = .int .i64 b ∧ s12 = .int .i64 ((SN + popTo B b : Nat) : Int) ∧ Jn w2 wx HB EB e l)
                              case atStart => exact ⟨0, by omega, rfl, rfl, rfl, ⟨hb, hHB, q0, q1, q2⟩⟩
                              case round =>
                                clear hb hHB q0 q1 q2 a0 b0 hbs hne1 hne2
                                obtain ⟨b, hb64, rfl, rfl, rfl, hJ⟩ := hrel
                                obtain ⟨hb, hHB, q0, q1, q2⟩ := hJ
                                have hbs := hb.size
                                have hpm := popTo_mono B hb64
                                by_cases hb6 : b < 64
                                · have b0 : wr.cell? ⟨EB + 3 + 3 * e, j, none⟩ = some (.int .u64 (B : Int)) := by rw [hb.cell (p := ⟨EB + 3 + 3 * e, j, none⟩) hbl]; exact hbt0
                                  have hne2 : EB + 3 + 3 * e < wr.heap.size := by omega
                                  have hne3 : w.heap.size < wr.heap.size := by omega
                                  have hne4 : w.heap.size + 1 < wr.heap.size := by omega
                                  have hdb : decide ((b : Int) < 64) = true := decide_eq_true (by omega)
                                  have hsp := shr_bit B b hBl
                                  cases hbit : B.testBit b with
                                  | false =>
                                    rw [hbit] at hsp
                                    have HPO : Hid (popTo B (b + 1) = popTo B b) := by simp [Hid, popTo, hbit]
                                    clear hbit
                                    go_wp2
                                    go_roundg (64 - (b + 1))
                                    case measure => omega
                                    case rel => exact ⟨b + 1, by omega, rfl, by go_num, by rw [HPO.out], ⟨hb, hHB, q0, q1, q2⟩⟩
                                  | true =>
                                    rw [hbit] at hsp
                                    have HPO : Hid (popTo B (b + 1) = popTo B b + 1) := by simp [Hid, popTo, hbit]
                                    have hpm1 := popTo_mono B (show b + 1 ≤ 64 by omega)
                                    rw [HPO.out] at hpm1
                                    obtain ⟨p1, p2, p3⟩ := HBIT.out b hbit
                                    have x0 : wr.cell? ⟨w.heap.size, 64 * A + b, none⟩ = some (.int .u8 0) := by rw [hb.cell (p := ⟨w.heap.size, 64 * A + b, none⟩) (by show w.heap.size < w2.heap.size; omega), hkz _ p1, p2]
                                    have x1 : wr.cell? ⟨w.heap.size + 1, 64 * A + b, none⟩ = some (.int .i32 (chAt l l.length e)) := by rw [hb.cell (p := ⟨w.heap.size + 1, 64 * A + b, none⟩) hsz0, hcz _ p1, p3]
                                    have d1 : decide ((i : Int) ≤ 64 * (A : Int) + (b : Int)) = false := decide_eq_false (by omega)
                                    have d2 : (64 * (A : Int) + (b : Int)) < (i : Int) := by omega
                                    clear hbit p2 p3
                                    go_wp2
                                    go_quiet (fail)
                                    go_wp2
                                    go_roundg (64 - (b + 1))
                                    case measure => omega
                                    case rel => exact ⟨b + 1, by omega, rfl, by go_num, by rw [HPO.out]; go_num, Jn.drewN ⟨hb, hHB, q0, q1, q2⟩ _⟩
                                · obtain rfl : b = 64 := by omega
                                  go_wp2
                                  go_roundg (cnt l e - (j + 1))
                                  case measure => omega
                                  case rel => exact ⟨j + 1, by omega, rfl, by go_num, by rw [HSUM.out], ⟨hb, hHB, q0, q1, q2⟩⟩
                            · obtain ⟨j', rfl⟩ : ∃ j', j = j' + 1 := ⟨j - 1, by omega⟩
                              obtain ⟨A', hA', hc'⟩ := HAP.out j' rfl
                              have g3 : decide ((0 : Int) < ((j' + 1 : Nat) : Int)) = true := decide_eq_true (by omega)
                              have g4 : decide ((A : Int) ≤ (A' : Int)) = false := decide_eq_false (by omega)
                              have g5 : decide (A ≤ A') = false := decide_eq_false (by omega)
                              have gw2 : IntKind.i64.wrap ((j' : Nat) : Int) = (j' : Int) := by rw [IntKind.wrap_i64]; omega
                              have hjt : j' < cnt l e := by omega
                              have hdj2 : decide ((j' : Int) + 1 < (cnt l e : Int)) = true := decide_eq_true (by omega)
                              clear HAP hA'
                              go_wp2
                              go_loopg [12, 17] 64 (fun g s12 s17 wx => ∃ b : Nat, b ≤ 64 ∧ g = 64 - b ∧ s17 = .int .i64 b ∧ s12 = .int .i64 ((SN + popTo B b : Nat) : Int) ∧ Jn w2 wx HB EB e l)
                              case atStart => exact ⟨0, by omega, rfl, rfl, rfl, ⟨hb, hHB, q0, q1, q2⟩⟩
                              case round =>
                                clear hb hHB q0 q1 q2 a0 b0 hc' hbs hne1 hne2
                                obtain ⟨b, hb64, rfl, rfl, rfl, hJ⟩ := hrel
                                obtain ⟨hb, hHB, q0, q1, q2⟩ := hJ
                                have hbs := hb.size
                                have hpm := popTo_mono B hb64
                                by_cases hb6 : b < 64
                                · have b0 : wr.cell? ⟨EB + 3 + 3 * e, j' + 1, none⟩ = some (.int .u64 (B : Int)) := by rw [hb.cell (p := ⟨EB + 3 + 3 * e, j' + 1, none⟩) hbl]; exact hbt0
                                  have hne2 : EB + 3 + 3 * e < wr.heap.size := by omega
                                  have hne3 : w.heap.size < wr.heap.size := by omega
                                  have hne4 : w.heap.size + 1 < wr.heap.size := by omega
                                  have hdb : decide ((b : Int) < 64) = true := decide_eq_true (by omega)
                                  have hsp := shr_bit B b hBl
                                  cases hbit : B.testBit b with
                                  | false =>
                                    rw [hbit] at hsp
                                    have HPO : Hid (popTo B (b + 1) = popTo B b) := by simp [Hid, popTo, hbit]
                                    clear hbit
                                    go_wp2
                                    go_roundg (64 - (b + 1))
                                    case measure => omega
                                    case rel => exact ⟨b + 1, by omega, rfl, by go_num, by rw [HPO.out], ⟨hb, hHB, q0, q1, q2⟩⟩
                                  | true =>
                                    rw [hbit] at hsp
                                    have HPO : Hid (popTo B (b + 1) = popTo B b + 1) := by simp [Hid, popTo, hbit]
                                    have hpm1 := popTo_mono B (show b + 1 ≤ 64 by omega)
                                    rw [HPO.out] at hpm1
                                    obtain ⟨p1, p2, p3⟩ := HBIT.out b hbit
                                    have x0 : wr.cell? ⟨w.heap.size, 64 * A + b, none⟩ = some (.int .u8 0) := by rw [hb.cell (p := ⟨w.heap.size, 64 * A + b, none⟩) (by show w.heap.size < w2.heap.size; omega), hkz _ p1, p2]
                                    have x1 : wr.cell? ⟨w.heap.size + 1, 64 * A + b, none⟩ = some (.int .i32 (chAt l l.length e)) := by rw [hb.cell (p := ⟨w.heap.size + 1, 64 * A + b, none⟩) hsz0, hcz _ p1, p3]
                                    have d1 : decide ((i : Int) ≤ 64 * (A : Int) + (b : Int)) = false := decide_eq_false (by omega)
                                    have d2 : (64 * (A : Int) + (b : Int)) < (i : Int) := by omega
                                    clear hbit p2 p3
                                    go_wp2
                                    go_quiet (fail)
                                    go_wp2
                                    go_roundg (64 - (b + 1))
                                    case measure => omega
                                    case rel => exact ⟨b + 1, by omega, rfl, by go_num, by rw [HPO.out]; go_num, Jn.drewN ⟨hb, hHB, q0, q1, q2⟩ _⟩
                                · obtain rfl : b = 64 := by omega
                                  go_wp2
                                  go_roundg (cnt l e - (j' + 1 + 1))
                                  case measure => omega
                                  case rel => exact ⟨j' + 1 + 1, by omega, rfl, by go_num, by rw [HSUM.out], ⟨hb, hHB, q0, q1, q2⟩⟩
                          · obtain rfl : j = cnt l e := by omega
                            have he1 : stAt l l.length e + cnt l e = stAt l l.length (e + 1) := by have := HP.out.pos e hel; unfold cnt; omega
                            have hdj : decide ((cnt l e : Int) < (cnt l e : Int)) = false := by simp
                            rw [he1]
                            clear he1
                            go_wp2
                            go_roundg ((gl l l.length).length - (e + 1))
                            case measure => omega
                            case rel => exact ⟨e + 1, by omega, rfl, by go_num, rfl, hb⟩
                      · obtain ⟨e', rfl⟩ : ∃ e', e = e' + 1 := ⟨e - 1, by omega⟩
                        have y0 : wr.cell? ⟨EB, e' * 3, none⟩ = some (.int .i32 (chAt l l.length e')) := by rw [hb.cell (p := ⟨EB, e' * 3, none⟩) hEl]; exact hZ.ent.cell' e' 0 (by omega) (by omega) (by omega)
                        have g0 : decide ((0 : Int) < ((e' + 1 : Nat) : Int)) = true := decide_eq_true (by omega)
                        have gw : IntKind.i64.wrap ((e' : Nat) : Int) = (e' : Int) := by rw [IntKind.wrap_i64]; omega
                        have hti : (e' : Int) < ((gl l l.length).length : Int) := by omega
                        have htn : e' < (gl l l.length).length := by omega
                        have up := HP.out.up e' (by omega)
                        have ug : decide (chAt l l.length (e' + 1) % 4294967296 ≤ chAt l l.length e' % 4294967296) = false := decide_eq_false (by omega)
                        have hde : decide ((e' : Int) + 1 < ((gl l l.length).length : Int)) = true := decide_eq_true (by omega)
                        clear up
                        go_wp2
                        go_quiet (fail)
                        have hJ : Jn w2 ((wr.alloc (.cells #[.int .i32 (chAt l l.length (e' + 1)), .slice (some ⟨EB + 2 + 3 * (e' + 1), 0, none⟩) (cnt l (e' + 1)) (cnt l (e' + 1)), .slice (some ⟨EB + 3 + 3 * (e' + 1), 0, none⟩) (cnt l (e' + 1)) (cnt l (e' + 1))] 38)).drewN nq) wr.heap.size EB (e' + 1) l := jn_start hb (by omega) nq
                        clear c0 c1 c2 hEw hei
                        go_wp2
                        generalize (wr.alloc (.cells #[.int .i32 (chAt l l.length (e' + 1)), .slice (some ⟨EB + 2 + 3 * (e' + 1), 0, none⟩) (cnt l (e' + 1)) (cnt l (e' + 1)), .slice (some ⟨EB + 3 + 3 * (e' + 1), 0, none⟩) (cnt l (e' + 1)) (cnt l (e' + 1))] 38)).drewN nq = wq at hJ ⊢
                        generalize wr.heap.size = HB at hJ ⊢
                        clear hb hbs
                        go_loopg [12, 15] (cnt l (e' + 1)) (fun g s12 s15 wx => ∃ j : Nat, j ≤ cnt l (e' + 1) ∧ g = cnt l (e' + 1) - j ∧ s15 = .int .i64 j ∧ s12 = .int .i64 ((sumTo (fun t => popTo (wordsOf l l.length t).2 64) (stAt l l.length (e' + 1) + j) : Nat) : Int) ∧ Jn w2 wx HB EB (e' + 1) l)
                        case atStart => exact ⟨0, Nat.zero_le _, rfl, rfl, rfl, hJ⟩
                        case round =>
                          clear hJ
                          obtain ⟨j, hj, rfl, rfl, rfl, hJ⟩ := hrel
                          obtain ⟨hb, hHB, q0, q1, q2⟩ := hJ
                          by_cases hjl : j < cnt l (e' + 1)
                          · have hT1 : stAt l l.length (e' + 1) ≤ stAt l l.length (e' + 1) + j := Nat.le_add_right _ _
                            have hT2 : stAt l l.length (e' + 1) + j < stAt l l.length (e' + 1 + 1) := by have := HP.out.pos (e' + 1) hel; unfold cnt at hjl; omega
                            have hT3 : stAt l l.length (e' + 1) + j < szOf l l.length := Nat.lt_of_lt_of_le hT2 (HP.out.top (e' + 1) hel)
                            have hat0 : w2.cell? ⟨EB + 2 + 3 * (e' + 1), j, none⟩ = some (.int .i64 ((wordsOf l l.length (stAt l l.length (e' + 1) + j)).1 : Nat)) := hat.cell hjl
                            have hbt0 : w2.cell? ⟨EB + 3 + 3 * (e' + 1), j, none⟩ = some (.int .u64 ((wordsOf l l.length (stAt l l.length (e' + 1) + j)).2 : Nat)) := hbt.cell hjl
                            have HAP : Hid (∀ j', j = j' + 1 → ∃ A', A' < (wordsOf l l.length (stAt l l.length (e' + 1) + j)).1 ∧ wr.cell? ⟨EB + 2 + 3 * (e' + 1), j', none⟩ = some (.int .i64 ((A' : Nat) : Int))) := by
                              intro j' hj'
                              subst hj'
                              refine ⟨(wordsOf l l.length (stAt l l.length (e' + 1) + j')).1, HP.out.at_up (e' + 1) _ hel (by omega) hT2, ?_⟩
                              rw [hb.cell (p := ⟨EB + 2 + 3 * (e' + 1), j', none⟩) hal]
                              exact hat.cell (by omega)
                            have hA := HP.out.at_lt (e' + 1) _ hel hT1 hT2
                            have hB := HP.out.nz (e' + 1) _ hel hT1 hT2
                            have hBl := HP.out.lt _ hT3
                            have HBIT := Hid.mk' (fun b => HP.out.bit (e' + 1) (stAt l l.length (e' + 1) + j) b hel hT1 hT2)
                            have HSUM : Hid (sumTo (fun t => popTo (wordsOf l l.length t).2 64) (stAt l l.length (e' + 1) + (j + 1)) = sumTo (fun t => popTo (wordsOf l l.length t).2 64) (stAt l l.length (e' + 1) + j) + popTo (wordsOf l l.length (stAt l l.length (e' + 1) + j)).2 64) := rfl
                            have hTop : sumTo (fun t => popTo (wordsOf l l.length t).2 64) (stAt l l.length (e' + 1) + j) + popTo (wordsOf l l.length (stAt l l.length (e' + 1) + j)).2 64 ≤ l.length := by
                              have h := sumTo_mono (fun t => popTo (wordsOf l l.length t).2 64) (a := stAt l l.length (e' + 1) + j + 1) (b := szOf l l.length) hT3
                              rw [HP.out.sum] at h
                              exact h
                            clear hT1 hT2 hT3
                            generalize wordsOf l l.length (stAt l l.length (e' + 1) + j) = AB at hat0 hbt0 HAP hA hB hBl HBIT HSUM hTop
                            obtain ⟨A, B⟩ := AB
                            simp only at hat0 hbt0 HAP hA hB hBl HBIT HSUM hTop
                            generalize sumTo (fun t => popTo (wordsOf l l.length t).2 64) (stAt l l.length (e' + 1) + j) = SN at HSUM hTop ⊢
                            have a0 : wr.cell? ⟨EB + 2 + 3 * (e' + 1), j, none⟩ = some (.int .i64 (A : Int)) := by rw [hb.cell (p := ⟨EB + 2 + 3 * (e' + 1), j, none⟩) hal]; exact hat0
                            have b0 : wr.cell? ⟨EB + 3 + 3 * (e' + 1), j, none⟩ = some (.int .u64 (B : Int)) := by rw [hb.cell (p := ⟨EB + 3 + 3 * (e' + 1), j, none⟩) hbl]; exact hbt0
                            have hbs := hb.size
                            have hne1 : EB + 2 + 3 * (e' + 1) < wr.heap.size := by omega
                            have hne2 : EB + 3 + 3 * (e' + 1) < wr.heap.size := by omega
                            have f1 : decide ((A : Int) < 0) = false := decide_eq_false (by omega)
                            have f2 : decide (((i : Int) + 63) / 64 ≤ (A : Int)) = false := decide_eq_false (by omega)
                            have zB : ((B : Int) == 0) = false := by simp; omega
                            have hdj : decide ((j : Int) < (cnt l (e' + 1) : Int)) = true := decide_eq_true (by omega)
                            by_cases hj0 : j = 0
                            · have f3 : decide (0 < j) = false := decide_eq_false (by omega)
                              clear hj0 HAP
                              go_wp2
                              go_loopg [12, 17] 64 (fun g s12 s17 wx => ∃ b : Nat, b ≤ 64 ∧ g = 64 - b ∧ s17 = .int .i64 b ∧ s12 = .int .i64 ((SN + popTo B b : Nat) : Int) ∧ Jn w2 wx HB EB (e' + 1) l)
                              case atStart => exact ⟨0, by omega, rfl, rfl, rfl, ⟨hb, hHB, q0, q1, q2⟩⟩
                              case round =>
                                clear hb hHB q0 q1 q2 a0 b0 hbs hne1 hne2
                                obtain ⟨b, hb64, rfl, rfl, rfl, hJ⟩ := hrel
                                obtain ⟨hb, hHB, q0, q1, q2⟩ := hJ
                                have hbs := hb.size
                                have hpm := popTo_mono B hb64
                                by_cases hb6 : b < 64
                                · have b0 : wr.cell? ⟨EB + 3 + 3 * (e' + 1), j, none⟩ = some (.int .u64 (B : Int)) := by rw [hb.cell (p := ⟨EB + 3 + 3 * (e' + 1), j, none⟩) hbl]; exact hbt0
                                  have hne2 : EB + 3 + 3 * (e' + 1) < wr.heap.size := by omega
                                  have hne3 : w.heap.size < wr.heap.size := by omega
                                  have hne4 : w.heap.size + 1 < wr.heap.size := by omega
                                  have hdb : decide ((b : Int) < 64) = true := decide_eq_true (by omega)
                                  have hsp := shr_bit B b hBl
                                  cases hbit : B.testBit b with
                                  | false =>
                                    rw [hbit] at hsp
                                    have HPO : Hid (popTo B (b + 1) = popTo B b) := by simp [Hid, popTo, hbit]
                                    clear hbit
                                    go_wp2
                                    go_roundg (64 - (b + 1))
                                    case measure => omega
                                    case rel => exact ⟨b + 1, by omega, rfl, by go_num, by rw [HPO.out], ⟨hb, hHB, q0, q1, q2⟩⟩
                                  | true =>
                                    rw [hbit] at hsp
                                    have HPO : Hid (popTo B (b + 1) = popTo B b + 1) := by simp [Hid, popTo, hbit]
                                    have hpm1 := popTo_mono B (show b + 1 ≤ 64 by omega)
                                    rw [HPO.out] at hpm1
                                    obtain ⟨p1, p2, p3⟩ := HBIT.out b hbit
                                    have x0 : wr.cell? ⟨w.heap.size, 64 * A + b, none⟩ = some (.int .u8 0) := by rw [hb.cell (p := ⟨w.heap.size, 64 * A + b, none⟩) (by show w.heap.size < w2.heap.size; omega), hkz _ p1, p2]
                                    have x1 : wr.cell? ⟨w.heap.size + 1, 64 * A + b, none⟩ = some (.int .i32 (chAt l l.length (e' + 1))) := by rw [hb.cell (p := ⟨w.heap.size + 1, 64 * A + b, none⟩) hsz0, hcz _ p1, p3]
                                    have d1 : decide ((i : Int) ≤ 64 * (A : Int) + (b : Int)) = false := decide_eq_false (by omega)
                                    have d2 : (64 * (A : Int) + (b : Int)) < (i : Int) := by omega
                                    clear hbit p2 p3
                                    go_wp2
                                    go_quiet (fail)
                                    go_wp2
                                    go_roundg (64 - (b + 1))
                                    case measure => omega
                                    case rel => exact ⟨b + 1, by omega, rfl, by go_num, by rw [HPO.out]; go_num, Jn.drewN ⟨hb, hHB, q0, q1, q2⟩ _⟩
                                · obtain rfl : b = 64 := by omega
                                  go_wp2
                                  go_roundg (cnt l (e' + 1) - (j + 1))
                                  case measure => omega
                                  case rel => exact ⟨j + 1, by omega, rfl, by go_num, by rw [HSUM.out], ⟨hb, hHB, q0, q1, q2⟩⟩
                            · obtain ⟨j', rfl⟩ : ∃ j', j = j' + 1 := ⟨j - 1, by omega⟩
                              obtain ⟨A', hA', hc'⟩ := HAP.out j' rfl
                              have g3 : decide ((0 : Int) < ((j' + 1 : Nat) : Int)) = true := decide_eq_true (by omega)
                              have g4 : decide ((A : Int) ≤ (A' : Int)) = false := decide_eq_false (by omega)
                              have g5 : decide (A ≤ A') = false := decide_eq_false (by omega)
                              have gw2 : IntKind.i64.wrap ((j' : Nat) : Int) = (j' : Int) := by rw [IntKind.wrap_i64]; omega
                              have hjt : j' < cnt l (e' + 1) := by omega
                              have hdj2 : decide ((j' : Int) + 1 < (cnt l (e' + 1) : Int)) = true := decide_eq_true (by omega)
                              clear HAP hA'
                              go_wp2
                              go_loopg [12, 17] 64 (fun g s12 s17 wx => ∃ b : Nat, b ≤ 64 ∧ g = 64 - b ∧ s17 = .int .i64 b ∧ s12 = .int .i64 ((SN + popTo B b : Nat) : Int) ∧ Jn w2 wx HB EB (e' + 1) l)
                              case atStart => exact ⟨0, by omega, rfl, rfl, rfl, ⟨hb, hHB, q0, q1, q2⟩⟩
                              case round =>
                                clear hb hHB q0 q1 q2 a0 b0 hc' hbs hne1 hne2
                                obtain ⟨b, hb64, rfl, rfl, rfl, hJ⟩ := hrel
                                obtain ⟨hb, hHB, q0, q1, q2⟩ := hJ
                                have hbs := hb.size
                                have hpm := popTo_mono B hb64
                                by_cases hb6 : b < 64
                                · have b0 : wr.cell? ⟨EB + 3 + 3 * (e' + 1), j' + 1, none⟩ = some (.int .u64 (B : Int)) := by rw [hb.cell (p := ⟨EB + 3 + 3 * (e' + 1), j' + 1, none⟩) hbl]; exact hbt0
                                  have hne2 : EB + 3 + 3 * (e' + 1) < wr.heap.size := by omega
                                  have hne3 : w.heap.size < wr.heap.size := by omega
                                  have hne4 : w.heap.size + 1 < wr.heap.size := by omega
                                  have hdb : decide ((b : Int) < 64) = true := decide_eq_true (by omega)
                                  have hsp := shr_bit B b hBl
                                  cases hbit : B.testBit b with
                                  | false =>
                                    rw [hbit] at hsp
                                    have HPO : Hid (popTo B (b + 1) = popTo B b) := by simp [Hid, popTo, hbit]
                                    clear hbit
                                    go_wp2
                                    go_roundg (64 - (b + 1))
                                    case measure => omega
                                    case rel => exact ⟨b + 1, by omega, rfl, by go_num, by rw [HPO.out], ⟨hb, hHB, q0, q1, q2⟩⟩
                                  | true =>
                                    rw [hbit] at hsp
                                    have HPO : Hid (popTo B (b + 1) = popTo B b + 1) := by simp [Hid, popTo, hbit]
                                    have hpm1 := popTo_mono B (show b + 1 ≤ 64 by omega)
                                    rw [HPO.out] at hpm1
                                    obtain ⟨p1, p2, p3⟩ := HBIT.out b hbit
                                    have x0 : wr.cell? ⟨w.heap.size, 64 * A + b, none⟩ = some (.int .u8 0) := by rw [hb.cell (p := ⟨w.heap.size, 64 * A + b, none⟩) (by show w.heap.size < w2.heap.size; omega), hkz _ p1, p2]
                                    have x1 : wr.cell? ⟨w.heap.size + 1, 64 * A + b, none⟩ = some (.int .i32 (chAt l l.length (e' + 1))) := by rw [hb.cell (p := ⟨w.heap.size + 1, 64 * A + b, none⟩) hsz0, hcz _ p1, p3]
                                    have d1 : decide ((i : Int) ≤ 64 * (A : Int) + (b : Int)) = false := decide_eq_false (by omega)
                                    have d2 : (64 * (A : Int) + (b : Int)) < (i : Int) := by omega
                                    clear hbit p2 p3
                                    go_wp2
                                    go_quiet (fail)
                                    go_wp2
                                    go_roundg (64 - (b + 1))
                                    case measure => omega
                                    case rel => exact ⟨b + 1, by omega, rfl, by go_num, by rw [HPO.out]; go_num, Jn.drewN ⟨hb, hHB, q0, q1, q2⟩ _⟩
                                · obtain rfl : b = 64 := by omega
                                  go_wp2
                                  go_roundg (cnt l (e' + 1) - (j' + 1 + 1))
                                  case measure => omega
                                  case rel => exact ⟨j' + 1 + 1, by omega, rfl, by go_num, by rw [HSUM.out], ⟨hb, hHB, q0, q1, q2⟩⟩
                          · obtain rfl : j = cnt l (e' + 1) := by omega
                            have he1 : stAt l l.length (e' + 1) + cnt l (e' + 1) = stAt l l.length (e' + 1 + 1) := by have := HP.out.pos (e' + 1) hel; unfold cnt; omega
                            have hdj : decide ((cnt l (e' + 1) : Int) < (cnt l (e' + 1) : Int)) = false := by simp
                            rw [he1]
                            clear he1
                            go_wp2
                            go_roundg ((gl l l.length).length - (e' + 1 + 1))
                            case measure => omega
                            case rel => exact ⟨e' + 1 + 1, by omega, rfl, by go_num, rfl, hb⟩
                    · obtain rfl : e = (gl l l.length).length := by omega
                      have hs : sumTo (fun t => popTo (wordsOf l l.length t).2 64) (stAt l l.length (gl l l.length).length) = (chList (nK K) (nC m C) i).length := by rw [HP.out.fin, HP.out.sum, HP.out.len]
                      rw [hs]
                      go_wp2
                      go_ret
                      exact ⟨by simp, hN.bel.trans ((hZ.bel.mono (by have := hN.size; omega)).trans (hb.mono (by omega)))⟩
            · obtain rfl : n = 0 := by omega
              have hd0 : decide ((0 : Int) < ((0 : Nat) : Int)) = false := by simp
              have HC := Hid.mk' hcall
              clear hcall hkf hend hK0
              go_wp2_with fail
              refine HC.out.mono ?_
              rintro e w2 ⟨WB, EB, rfl, hZ⟩
              have hl0 : ((chList (nK K) (nC m C) 0).mergeSort fun x y => decide (x ≤ y)) = [] := by simp [chList]
              rw [hl0] at hZ ⊢
              have hg0 : (gl [] ([] : List Int).length).length = 0 := rfl
              rw [hg0]
              go_wp2
              go_loopg [10, 11] 0 (fun g s10 s11 wx => w2 = wx ∧ s10 = .int .i64 0 ∧ s11 = .int .i64 0)
              case atStart => exact ⟨rfl, rfl, rfl⟩
              case round =>
                obtain ⟨rfl, rfl, rfl⟩ := hrel
                go_wp2
                go_loopg [12, 13] 0 (fun g s12 s13 wx => w2 = wx ∧ s12 = .int .i64 0 ∧ s13 = .int .i64 0)
                case atStart => exact ⟨rfl, rfl, rfl⟩
                case round =>
                  obtain ⟨rfl, rfl, rfl⟩ := hrel
                  go_wp2
                  go_ret
                  exact ⟨rfl, hN.bel.trans (hZ.bel.mono (by have := hN.size; omega))⟩
      · exfalso; omega
    · have hmz : (65536 : Int) < (m : Int) := by omega
      have hnz : ¬ (65536 : Int) < (n : Int) := by omega
      go_enter Try.func5, Try.ntmps5
      go_wp2_with fail
      refine (zz12 a0 n c0 a1 m c1 _).mono ?_
      rintro e w' ⟨⟨b, rfl⟩, rfl⟩
      cases b
      · go_wp2
        go_ret
        exact ⟨rfl, Below.refl _ _⟩
      · go_wp2
        go_ret
        exact ⟨rfl, Below.refl _ _⟩
  · have hnz : (65536 : Int) < (n : Int) := by omega
    go_enter Try.func5, Try.ntmps5
    go_wp2_with fail
    refine (zz12 a0 n c0 a1 m c1 _).mono ?_
    rintro e w' ⟨⟨b, rfl⟩, rfl⟩
    cases b
    · go_wp2
      go_ret
      exact ⟨rfl, Below.refl _ _⟩
    · go_wp2
      go_ret
      exact ⟨rfl, Below.refl _ _⟩

end Go.Proofs.Qxb6000847a
