import Derived.Test.Qxb6000847aPr4
import Derived.Test.Qxb6000847aIdm
import Derived.Test.Qxb6000847aTop
import Derived.Test.Qxb6000847aPr7
import Derived.Test.Qxb6000847aPr8
namespace Go.Proofs.Qxb6000847a
open Go.RowKit
set_option linter.unusedSimpArgs false
set_option linter.unusedVariables false

set_option maxHeartbeats 4000000 in
set_option maxRecDepth 100000 in
theorem drops_calls (hm : SaidMasks) (a0 : Option Addr) (b0 o0 n c0 : Nat) (a1 : Option Addr) (b1 o1 m c1 : Nat) (a2 : Option Addr) (b2 o2 l2 c2 : Nat) (a3 : Option Addr) (b3 o3 l3 c3 : Nat) (K C T U : Nat → Int) (w : World)
    (h0 : 0 < n → a0 = some ⟨b0, o0, none⟩) (h1 : 0 < m → a1 = some ⟨b1, o1, none⟩) (h2 : 0 < l2 → a2 = some ⟨b2, o2, none⟩) (h3 : 0 < l3 → a3 = some ⟨b3, o3, none⟩)
    (hK : ∀ i, i < n → w.cell? ⟨b0, o0 + i, none⟩ = some (.int .u8 (K i))) (hC : ∀ i, i < m → w.cell? ⟨b1, o1 + i, none⟩ = some (.int .i32 (C i)))
    (hT : ∀ i, i < l2 → w.cell? ⟨b2, o2 + i, none⟩ = some (.int .i64 (T i))) (hU : ∀ i, i < l3 → w.cell? ⟨b3, o3 + i, none⟩ = some (.int .u64 (U i)))
    (hKr : ∀ i, i < n → 0 ≤ K i ∧ K i < 256) (hUr : ∀ i, i < l3 → 0 ≤ U i ∧ U i < 18446744073709551616) (hnx : n ≤ maxLen) (hmx : m ≤ maxLen) (hlx : l2 ≤ maxLen) (hly : l3 ≤ maxLen) :
    Calls Try.prog 6 #[.slice a0 n c0, .slice a1 m c1, .slice a2 l2 c2, .slice a3 l3 c3] w fun e w' => e = .returned (.bool true) ∧ Below w.heap.size w w' := by
  unfold maxLen at hnx hmx hlx hly
  by_cases hn : n ≤ 65536
  · by_cases hmm : m ≤ 65536
    · by_cases hll : l2 ≤ 65536
      · by_cases hlk : l3 ≤ 65536
        · have q1 : decide ((65536 : Int) < (n : Int)) = false := decide_eq_false (by omega)
          have q2 : decide ((65536 : Int) < (m : Int)) = false := decide_eq_false (by omega)
          have q3 : decide ((65536 : Int) < (l2 : Int)) = false := decide_eq_false (by omega)
          have q4 : decide ((65536 : Int) < (l3 : Int)) = false := decide_eq_false (by omega)
          by_cases hsum : n + 4 * m + 8 * l2 + 8 * l3 ≤ 1048576
          · have q5 : decide ((1048576 : Int) < (n : Int) + 4 * (m : Int) + 8 * (l2 : Int) + 8 * (l3 : Int)) = false := decide_eq_false (by omega)
            go_enter Try.func6, Try.ntmps6
            go_wp2_with fail
            refine (zz13 a0 n c0 a1 m c1 a2 l2 c2 a3 l3 c3 _ (by omega) (by omega) (by omega) (by omega)).mono ?_
            rintro e w' ⟨⟨b, rfl⟩, rfl⟩
            cases b
            · go_wp2
              go_ret
              exact ⟨rfl, Below.refl _ _⟩
            · go_wp2_with fail
              refine (norm_calls a0 b0 o0 n c0 a1 b1 o1 m c1 K C _ h0 h1 hK hC hKr hn hmm).mono ?_
              rintro e w1 ⟨rfl, hN⟩
              have hk0 : w1.rowIs w'.heap.size 5 n (fun i => .int .u8 (nK K i)) := hN.ks.congr (fun i hi => by rw [if_pos hi]; rfl)
              have hc0 : w1.rowIs (w'.heap.size + 1) 21 n (fun i => .int .i32 (nC m C i)) := hN.cs.congr (fun i hi => by simp [nC, hi])
              have hkr : ∀ i, i < n → 0 ≤ nK K i ∧ nK K i ≤ 5 := fun i hi => by unfold nK; omega
              have hkf : 0 < n → w1.cell? ⟨w'.heap.size, 0, none⟩ = some (.int .u8 (nK K 0)) := fun h => hk0.cell h
              have hsz1 := hN.size
              have hT1 : ∀ i, i < l2 → w1.cell? ⟨b2, o2 + i, none⟩ = some (.int .i64 (T i)) := fun i hi => by rw [hN.bel.cell (p := ⟨b2, o2 + i, none⟩) (World.block_lt_of_cell? _ _ (hT i hi))]; exact hT i hi
              have hU1 : ∀ i, i < l3 → w1.cell? ⟨b3, o3 + i, none⟩ = some (.int .u64 (U i)) := fun i hi => by rw [hN.bel.cell (p := ⟨b3, o3 + i, none⟩) (World.block_lt_of_cell? _ _ (hU i hi))]; exact hU i hi
              have hrc := reached_calls a2 b2 o2 l2 c2 a3 b3 o3 l3 c3 ((n + 63) / 64) T U w1 h2 h3 hT1 hU1 hll hlk (by omega)
              have e64 : (((n + 63) / 64 : Nat) : Int) = ((n : Int) + 63) / 64 := by omega
              rw [e64] at hrc
              have HRC := Hid.mk' hrc
              clear hrc hT1 hU1 hT hU hK hC e64
              by_cases hend : 0 < n ∧ nK K 0 = 5
              · obtain ⟨hn0, h5⟩ := hend
                have hkf0 := hkf hn0
                have h5b : (nK K 0 == 5) = true := by rw [h5]; rfl
                have hn0z : (0 : Int) < (n : Int) := by omega
                clear h5
                go_wp2
                go_ret
                exact ⟨rfl, hN.bel⟩
              · have hK0 : 0 < n → nK K 0 ≠ 5 := fun h e => hend ⟨h, e⟩
                have HK0 := Hid.mk' hK0
                by_cases hn0 : 0 < n
                · have hkf0 := hkf hn0
                  have h5b : (nK K 0 == 5) = false := by simpa using hK0 hn0
                  have hn0z : (0 : Int) < (n : Int) := by omega
                  clear hkf hend hK0
                  go_wp2_with fail
                  refine HRC.out.mono ?_
                  rintro e w2 (⟨x, y, rfl, hb2⟩ | ⟨rfl, hR, hok⟩)
                  · go_wp2
                    go_ret
                    exact ⟨rfl, hN.bel.trans (hb2.mono (by omega))⟩
                  · have hinc := okk_inc hok
                    have hsz2 := hR.size
                    have hk2 := hk0.of_block (hR.bel.block _ hk0.lt)
                    have hc2 := hc0.of_block (hR.bel.block _ hc0.lt)
                    have hx2 : w2.rowIs (w'.heap.size + 2) 3 (min l2 l3) (fun i => .int .i64 ((T i).toNat : Nat)) := by rw [← hsz1]; exact hR.xs.congr (fun i hi => by rw [if_pos hi, show (((T i).toNat : Nat) : Int) = T i by have := hok.1 i hi; omega])
                    have hy2 : w2.rowIs (w'.heap.size + 2 + 1) 31 (min l2 l3) (fun i => .int .u64 ((U i).toNat : Nat)) := by rw [← hsz1]; exact hR.ys.congr (fun i hi => by rw [if_pos hi, show (((U i).toNat : Nat) : Int) = U i by have := hUr i (by omega); omega])
                    have hUl : ∀ i, i < min l2 l3 → (U i).toNat < 18446744073709551616 := fun i hi => by have := hUr i (by omega); omega
                    have hbel2 : Below w'.heap.size w' w2 := hN.bel.trans (hR.bel.mono (by omega))
                    have hMb := hinc.len
                    clear hok hR hk0 hc0
                    generalize hM : min l2 l3 = M at hinc hx2 hy2 hUl hMb ⊢
                    clear hM
                    obtain ⟨A, hA⟩ : ∃ A : Nat → Nat, A = fun i => (T i).toNat := ⟨_, rfl⟩
                    obtain ⟨B, hB⟩ : ∃ B : Nat → Nat, B = fun i => (U i).toNat := ⟨_, rfl⟩
                    have hx3 : w2.rowIs (w'.heap.size + 2) 3 M (fun i => .int .i64 (A i : Nat)) := by rw [hA]; exact hx2
                    have hy3 : w2.rowIs (w'.heap.size + 2 + 1) 31 M (fun i => .int .u64 (B i : Nat)) := by rw [hB]; exact hy2
                    have hinc' : Inc A M ((n + 63) / 64) := by rw [hA]; exact hinc
                    have hBl' : ∀ i, i < M → B i < 18446744073709551616 := by rw [hB]; exact hUl
                    clear hA hB hx2 hy2 hinc hUl
                    go_wp2_with fail
                    refine (zzprune_calls hm w'.heap.size (w'.heap.size + 1) (w'.heap.size + 2) (w'.heap.size + 2 + 1) n M (nK K) (nC m C) A B w2 hk2 hc2 hn hkr HK0.out hx3 hy3 hinc' hBl').mono ?_
                    rintro e w3 ⟨OB, OC, rfl, hZ0⟩
                    have hZ : ZP w2 w3 (mOf (nK K) (nC m C) n M A B) (aOf (nK K) (nC m C) n M A B) (bOf (nK K) (nC m C) n M A B) OB OC := hZ0
                    clear hZ0
                    have ea : (cmp (fun i => keepW (nK K) (nC m C) n M A B (A i)) M).length = mOf (nK K) (nC m C) n M A B := rfl
                    rw [ea]
                    clear ea
                    have hml := mOf_le (nK K) (nC m C) n M A B
                    have hk3 := hk2.of_block (hZ.bel.block _ hk2.lt)
                    have hc3 := hc2.of_block (hZ.bel.block _ hc2.lt)
                    have hx4 := hx3.of_block (hZ.bel.block _ hx3.lt)
                    have hy4 := hy3.of_block (hZ.bel.block _ hy3.lt)
                    have hmc := model_calls w'.heap.size (w'.heap.size + 1) (w'.heap.size + 2) (w'.heap.size + 2 + 1) n M (nK K) (nC m C) A B w3 hk3 hc3 hn hkr hx4 hy4 hinc' hBl'
                    have e64 : (((n + 63) / 64 : Nat) : Int) = ((n : Int) + 63) / 64 := by omega
                    rw [e64] at hmc
                    have HMC := Hid.mk' hmc
                    clear hmc e64
                    go_wp2_with fail
                    refine HMC.out.mono ?_
                    rintro e w4 ⟨rfl, hW⟩
                    clear HMC
                    have g1 : ∀ j, j < mOf (nK K) (nC m C) n M A B → w4.cell? ⟨w3.heap.size + 2, j, none⟩ = some (.int .i64 (aOf (nK K) (nC m C) n M A B j : Nat)) := hW.1
                    have g2 : ∀ j, j < mOf (nK K) (nC m C) n M A B → w4.cell? ⟨w3.heap.size + 3, j, none⟩ = some (.int .u64 (bOf (nK K) (nC m C) n M A B j : Nat)) := hW.2.1
                    have g3 : Below w3.heap.size w3 w4 := hW.2.2
                    have g4 := (hZ.ats.of_block (g3.block _ hZ.ats.lt))
                    have g5 := (hZ.bts.of_block (g3.block _ hZ.bts.lt))
                    go_wp2_with fail
                    refine (same_cells OB OC (w3.heap.size + 2) (w3.heap.size + 3) (mOf (nK K) (nC m C) n M A B) _ _ _ _ (aOf (nK K) (nC m C) n M A B) (bOf (nK K) (nC m C) n M A B) w4 (by omega) (fun j hj => g4.cell hj) (fun j hj => g5.cell hj) g1 g2).mono ?_
                    rintro e w5 ⟨rfl, q, rfl⟩
                    have hs2 := hbel2.size
                    have hs3 := hZ.bel.size
                    go_wp2
                    go_ret
                    exact ⟨rfl, hbel2.trans ((hZ.bel.mono (by omega)).trans ((below_dn g3 q).mono (by omega)))⟩
                · have hd0 : decide ((0 : Int) < (n : Int)) = false := decide_eq_false (by omega)
                  have hd1 : decide (0 < n) = false := decide_eq_false hn0
                  clear hkf hend hK0
                  go_wp2_with fail
                  refine HRC.out.mono ?_
                  rintro e w2 (⟨x, y, rfl, hb2⟩ | ⟨rfl, hR, hok⟩)
                  · go_wp2
                    go_ret
                    exact ⟨rfl, hN.bel.trans (hb2.mono (by omega))⟩
                  · have hinc := okk_inc hok
                    have hsz2 := hR.size
                    have hk2 := hk0.of_block (hR.bel.block _ hk0.lt)
                    have hc2 := hc0.of_block (hR.bel.block _ hc0.lt)
                    have hx2 : w2.rowIs (w'.heap.size + 2) 3 (min l2 l3) (fun i => .int .i64 ((T i).toNat : Nat)) := by rw [← hsz1]; exact hR.xs.congr (fun i hi => by rw [if_pos hi, show (((T i).toNat : Nat) : Int) = T i by have := hok.1 i hi; omega])
                    have hy2 : w2.rowIs (w'.heap.size + 2 + 1) 31 (min l2 l3) (fun i => .int .u64 ((U i).toNat : Nat)) := by rw [← hsz1]; exact hR.ys.congr (fun i hi => by rw [if_pos hi, show (((U i).toNat : Nat) : Int) = U i by have := hUr i (by omega); omega])
                    have hUl : ∀ i, i < min l2 l3 → (U i).toNat < 18446744073709551616 := fun i hi => by have := hUr i (by omega); omega
                    have hbel2 : Below w'.heap.size w' w2 := hN.bel.trans (hR.bel.mono (by omega))
                    have hMb := hinc.len
                    clear hok hR hk0 hc0
                    generalize hM : min l2 l3 = M at hinc hx2 hy2 hUl hMb ⊢
                    clear hM
                    obtain ⟨A, hA⟩ : ∃ A : Nat → Nat, A = fun i => (T i).toNat := ⟨_, rfl⟩
                    obtain ⟨B, hB⟩ : ∃ B : Nat → Nat, B = fun i => (U i).toNat := ⟨_, rfl⟩
                    have hx3 : w2.rowIs (w'.heap.size + 2) 3 M (fun i => .int .i64 (A i : Nat)) := by rw [hA]; exact hx2
                    have hy3 : w2.rowIs (w'.heap.size + 2 + 1) 31 M (fun i => .int .u64 (B i : Nat)) := by rw [hB]; exact hy2
                    have hinc' : Inc A M ((n + 63) / 64) := by rw [hA]; exact hinc
                    have hBl' : ∀ i, i < M → B i < 18446744073709551616 := by rw [hB]; exact hUl
                    clear hA hB hx2 hy2 hinc hUl
                    go_wp2_with fail
                    refine (zzprune_calls hm w'.heap.size (w'.heap.size + 1) (w'.heap.size + 2) (w'.heap.size + 2 + 1) n M (nK K) (nC m C) A B w2 hk2 hc2 hn hkr HK0.out hx3 hy3 hinc' hBl').mono ?_
                    rintro e w3 ⟨OB, OC, rfl, hZ0⟩
                    have hZ : ZP w2 w3 (mOf (nK K) (nC m C) n M A B) (aOf (nK K) (nC m C) n M A B) (bOf (nK K) (nC m C) n M A B) OB OC := hZ0
                    clear hZ0
                    have ea : (cmp (fun i => keepW (nK K) (nC m C) n M A B (A i)) M).length = mOf (nK K) (nC m C) n M A B := rfl
                    rw [ea]
                    clear ea
                    have hml := mOf_le (nK K) (nC m C) n M A B
                    have hk3 := hk2.of_block (hZ.bel.block _ hk2.lt)
                    have hc3 := hc2.of_block (hZ.bel.block _ hc2.lt)
                    have hx4 := hx3.of_block (hZ.bel.block _ hx3.lt)
                    have hy4 := hy3.of_block (hZ.bel.block _ hy3.lt)
                    have hmc := model_calls w'.heap.size (w'.heap.size + 1) (w'.heap.size + 2) (w'.heap.size + 2 + 1) n M (nK K) (nC m C) A B w3 hk3 hc3 hn hkr hx4 hy4 hinc' hBl'
                    have e64 : (((n + 63) / 64 : Nat) : Int) = ((n : Int) + 63) / 64 := by omega
                    rw [e64] at hmc
                    have HMC := Hid.mk' hmc
                    clear hmc e64
                    go_wp2_with fail
                    refine HMC.out.mono ?_
                    rintro e w4 ⟨rfl, hW⟩
                    clear HMC
                    have g1 : ∀ j, j < mOf (nK K) (nC m C) n M A B → w4.cell? ⟨w3.heap.size + 2, j, none⟩ = some (.int .i64 (aOf (nK K) (nC m C) n M A B j : Nat)) := hW.1
                    have g2 : ∀ j, j < mOf (nK K) (nC m C) n M A B → w4.cell? ⟨w3.heap.size + 3, j, none⟩ = some (.int .u64 (bOf (nK K) (nC m C) n M A B j : Nat)) := hW.2.1
                    have g3 : Below w3.heap.size w3 w4 := hW.2.2
                    have g4 := (hZ.ats.of_block (g3.block _ hZ.ats.lt))
                    have g5 := (hZ.bts.of_block (g3.block _ hZ.bts.lt))
                    go_wp2_with fail
                    refine (same_cells OB OC (w3.heap.size + 2) (w3.heap.size + 3) (mOf (nK K) (nC m C) n M A B) _ _ _ _ (aOf (nK K) (nC m C) n M A B) (bOf (nK K) (nC m C) n M A B) w4 (by omega) (fun j hj => g4.cell hj) (fun j hj => g5.cell hj) g1 g2).mono ?_
                    rintro e w5 ⟨rfl, q, rfl⟩
                    have hs2 := hbel2.size
                    have hs3 := hZ.bel.size
                    go_wp2
                    go_ret
                    exact ⟨rfl, hbel2.trans ((hZ.bel.mono (by omega)).trans ((below_dn g3 q).mono (by omega)))⟩
          · have q5 : decide ((1048576 : Int) < (n : Int) + 4 * (m : Int) + 8 * (l2 : Int) + 8 * (l3 : Int)) = true := decide_eq_true (by omega)
            go_enter Try.func6, Try.ntmps6
            go_wp2_with fail
            refine (zz13 a0 n c0 a1 m c1 a2 l2 c2 a3 l3 c3 _ (by omega) (by omega) (by omega) (by omega)).mono ?_
            rintro e w' ⟨⟨b, rfl⟩, rfl⟩
            cases b
            all_goals
              go_wp2
              go_ret
              exact ⟨rfl, Below.refl _ _⟩
        · have q4 : decide ((65536 : Int) < (l3 : Int)) = true := decide_eq_true (by omega)
          have p0 : decide ((65536 : Int) < (n : Int)) = false := decide_eq_false (by omega)
          have p1 : decide ((65536 : Int) < (m : Int)) = false := decide_eq_false (by omega)
          have p2 : decide ((65536 : Int) < (l2 : Int)) = false := decide_eq_false (by omega)
          go_enter Try.func6, Try.ntmps6
          go_wp2_with fail
          refine (zz13 a0 n c0 a1 m c1 a2 l2 c2 a3 l3 c3 _ (by omega) (by omega) (by omega) (by omega)).mono ?_
          rintro e w' ⟨⟨b, rfl⟩, rfl⟩
          cases b
          all_goals
            go_wp2
            go_ret
            exact ⟨rfl, Below.refl _ _⟩
      · have q3 : decide ((65536 : Int) < (l2 : Int)) = true := decide_eq_true (by omega)
        have p0 : decide ((65536 : Int) < (n : Int)) = false := decide_eq_false (by omega)
        have p1 : decide ((65536 : Int) < (m : Int)) = false := decide_eq_false (by omega)
        go_enter Try.func6, Try.ntmps6
        go_wp2_with fail
        refine (zz13 a0 n c0 a1 m c1 a2 l2 c2 a3 l3 c3 _ (by omega) (by omega) (by omega) (by omega)).mono ?_
        rintro e w' ⟨⟨b, rfl⟩, rfl⟩
        cases b
        all_goals
          go_wp2
          go_ret
          exact ⟨rfl, Below.refl _ _⟩
    · have q2 : decide ((65536 : Int) < (m : Int)) = true := decide_eq_true (by omega)
      have p0 : decide ((65536 : Int) < (n : Int)) = false := decide_eq_false (by omega)
      go_enter Try.func6, Try.ntmps6
      go_wp2_with fail
      refine (zz13 a0 n c0 a1 m c1 a2 l2 c2 a3 l3 c3 _ (by omega) (by omega) (by omega) (by omega)).mono ?_
      rintro e w' ⟨⟨b, rfl⟩, rfl⟩
      cases b
      all_goals
        go_wp2
        go_ret
        exact ⟨rfl, Below.refl _ _⟩
  · have q1 : decide ((65536 : Int) < (n : Int)) = true := decide_eq_true (by omega)
    go_enter Try.func6, Try.ntmps6
    go_wp2_with fail
    refine (zz13 a0 n c0 a1 m c1 a2 l2 c2 a3 l3 c3 _ (by omega) (by omega) (by omega) (by omega)).mono ?_
    rintro e w' ⟨⟨b, rfl⟩, rfl⟩
    cases b
    all_goals
      go_wp2
      go_ret
      exact ⟨rfl, Below.refl _ _⟩

end Go.Proofs.Qxb6000847a
