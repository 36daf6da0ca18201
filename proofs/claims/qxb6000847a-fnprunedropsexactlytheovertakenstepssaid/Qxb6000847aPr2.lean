import Derived.Test.Qxb6000847aPr1
import Derived.Test.Qxb6000847aPru
import Derived.Laws.BitsAllLaws
namespace Go.Proofs.Qxb6000847a
open Go.RowKit
set_option linter.unusedSimpArgs false
set_option linter.unusedVariables false

theorem notW_sub (b : Nat) (h : b < 18446744073709551616) : 18446744073709551615 - b = notW b := by
  refine word_ext (by omega) (notW_lt b h) fun i hi => ?_
  rw [notW_bit b i hi, show (18446744073709551615 : Nat) - b = 2 ^ 64 - (b + 1) by omega, Nat.testBit_two_pow_sub_succ (by simpa using h), decide_eq_true hi, Bool.true_and]
theorem andNot_nat (a b : Nat) (ha : a < 18446744073709551616) (hb : b < 18446744073709551616) : bits .andNot .u64 (a : Int) (b : Int) = ((a &&& notW b : Nat) : Int) := by
  rw [u64_andNot_nat a b ha hb, notW_sub b hb]
theorem not_nat (b : Nat) (hb : b < 18446744073709551616) : bits .xor .u64 (if IntKind.u64.signed = true then -1 else IntKind.u64.max) (b : Int) = ((notW b : Nat) : Int) := by
  have e : (if IntKind.u64.signed = true then -1 else IntKind.u64.max : Int) = ((18446744073709551615 : Nat) : Int) := by decide
  rw [e, bits_xor_u64_nat _ _ (by omega) hb, Nat.xor_comm]
  rfl
theorem from_eq (G P : Nat) (s : Bool) (hG : G < 18446744073709551616) (hP : P < 18446744073709551616) :
    bits .and .u64 (if s then bits .or .u64 ((G : Int) / 2) 9223372036854775808 else (G : Int) / 2) (P : Int) = (((G >>> 1 ||| top s) &&& P : Nat) : Int) := by
  have e : (G : Int) / (2 : Int) = ((G >>> 1 : Nat) : Int) := by rw [Nat.shiftRight_eq_div_pow]; omega
  have hl := shr_lt 1 hG
  cases s with
  | false =>
    simp only [Bool.false_eq_true, if_false, top, Nat.or_zero]
    rw [e, bits_and_u64_nat _ _ hl hP]
  | true =>
    simp only [if_true, top]
    have h9 : (9223372036854775808 : Int) = ((9223372036854775808 : Nat) : Int) := rfl
    rw [e, h9, bits_or_u64_nat _ _ hl (by omega), bits_and_u64_nat _ _ (Nat.or_lt_two_pow (n := 64) hl (by decide)) hP]
theorem low_bit (a b : Nat) (ha : a < 18446744073709551616) (hb : b < 18446744073709551616) : (bits .and .u64 (bits .or .u64 (a : Int) (b : Int)) 1 == 1) = (a ||| b).testBit 0 := by
  have h1 : (1 : Int) = ((1 : Nat) : Int) := rfl
  rw [bits_or_u64_nat _ _ ha hb, h1, bits_and_u64_nat _ _ (Nat.or_lt_two_pow (n := 64) ha hb) (by omega)]
  rw [Nat.and_one_is_mod, Nat.testBit_zero]
  generalize (a ||| b) = x
  rw [Bool.eq_iff_iff, beq_iff_eq, decide_eq_true_iff]
  omega

/-- the cells of the reached words: place and bits. -/
def rCell (A B : Nat → Nat) (i j : Nat) : Value := if j = 0 then .int .i64 (A i : Nat) else .int .u64 (B i : Nat)
/-- the place of the word looked at before. -/
def abv (n M : Nat) (A : Nat → Nat) (r : Nat) : Nat := if r < M then A r else (n + 63) / 64

/-- prune's first loop, the words from r on done. -/
structure PrS (w wr : World) (RB M r : Nat) (A B Z : Nat → Nat) : Prop where
  bel : Below RB w wr
  row : Grid wr RB 61 2 M (rCell A fun i => if i < r then B i else Z i)

/-- the places of the words that are not empty. -/
def cmp (Z : Nat → Nat) : Nat → List Nat
  | 0 => []
  | r + 1 => if Z r = 0 then cmp Z r else cmp Z r ++ [r]
theorem cmp_le (Z : Nat → Nat) (r : Nat) : (cmp Z r).length ≤ r := by
  induction r with
  | zero => exact Nat.le_refl _
  | succ r ih =>
    rw [cmp]
    split
    · omega
    · rw [List.length_append, List.length_singleton]; omega
/-- prune's second loop, i words done. -/
structure PrT (w wr : World) (RB M i : Nat) (A Z : Nat → Nat) : Prop where
  bel : Below RB w wr
  row : Grid wr RB 61 2 M (fun a j => if a < (cmp Z i).length then rCell A Z ((cmp Z i).getD a 0) j else rCell A Z a j)
theorem prt_start {w wr : World} {RB M : Nat} {A B Z : Nat → Nat} (h : PrS w wr RB M 0 A B Z) : PrT w wr RB M 0 A Z :=
  ⟨h.bel, h.row.congr fun i j hi hj => by simp [rCell, cmp]⟩

theorem prt_no {w wr : World} {RB M i : Nat} {A Z : Nat → Nat} (h : PrT w wr RB M i A Z) (hc : cmp Z (i + 1) = cmp Z i) (o : Obj) : PrT w (wr.alloc o) RB M (i + 1) A Z := by
  refine ⟨h.bel.alloc (Nat.le_of_lt h.row.lt) _, ?_⟩
  rw [hc]
  exact h.row.alloc o
theorem prt_yes {w wr : World} {RB M i : Nat} {A Z : Nat → Nat} (h : PrT w wr RB M i A Z) (hc : cmp Z (i + 1) = cmp Z i ++ [i]) (o : Obj) :
    PrT w (((wr.setCell ⟨RB, (cmp Z i).length * 2, none⟩ (.int .i64 (A i : Nat))).setCell ⟨RB, (cmp Z i).length * 2 + 1, none⟩ (.int .u64 (Z i : Nat))).alloc o) RB M (i + 1) A Z := by
  have hb1 := (h.bel.setCell (p := ⟨RB, (cmp Z i).length * 2, none⟩) (Nat.le_refl _) (.int .i64 (A i : Nat))).setCell (p := ⟨RB, (cmp Z i).length * 2 + 1, none⟩) (Nat.le_refl _) (.int .u64 (Z i : Nat))
  have hr1 := (h.row.set (cmp Z i).length 0 (by omega) (.int .i64 (A i : Nat)) (o := (cmp Z i).length * 2) (by omega)).set (cmp Z i).length 1 (by omega) (.int .u64 (Z i : Nat)) (o := (cmp Z i).length * 2 + 1) (by omega)
  refine ⟨hb1.alloc (Nat.le_of_lt hr1.lt) _, (hr1.alloc o).congr (fun a j ha hj => ?_)⟩
  rw [hc, List.length_append, List.length_singleton]
  by_cases h1 : a < (cmp Z i).length
  · have e1 : ¬ (a = (cmp Z i).length ∧ j = 1) := by omega
    have e2 : ¬ (a = (cmp Z i).length ∧ j = 0) := by omega
    rw [if_neg e1, if_neg e2, if_pos h1, if_pos (by omega)]
    rw [List.getD_eq_getElem?_getD, List.getD_eq_getElem?_getD, List.getElem?_append_left h1]
  · by_cases h2 : a = (cmp Z i).length
    · subst h2
      rw [if_pos (Nat.lt_succ_self _)]
      have e3 : (cmp Z i ++ [i]).getD (cmp Z i).length 0 = i := by simp
      rw [e3]
      unfold rCell
      by_cases hj0 : j = 0
      · subst hj0; simp
      · obtain rfl : j = 1 := by omega
        simp
    · rw [if_neg (by omega), if_neg (by omega), if_neg h1, if_neg (by omega)]

theorem Inc.ge {A : Nat → Nat} {M nw : Nat} (h : Inc A M nw) (i : Nat) (hi : i < M) : i ≤ A i := by
  induction i with
  | zero => exact Nat.zero_le _
  | succ i ih =>
    have := ih (by omega)
    have := h.2 i hi
    omega
theorem Inc.len {A : Nat → Nat} {M nw : Nat} (h : Inc A M nw) : M ≤ nw := by
  rcases Nat.eq_zero_or_pos M with h0 | h0
  · omega
  · have h1 := h.ge (M - 1) (by omega)
    have h2 := h.1 (M - 1) (by omega)
    omega

theorem prs_step {w wr : World} {RB M r : Nat} {A B : Nat → Nat} {kW : Nat → Nat} {t : Nat} (h : PrS w wr RB M (r + 1) A B (fun i => kW (A i))) (ht : A r = t) (hr : r < M) (q1 : Nat) :
    PrS w ((wr.drewN q1).setCell ⟨RB, r * 2 + 1, none⟩ (.int .u64 ((kW t : Nat) : Int))) RB M r A B (fun i => kW (A i)) := by
  refine ⟨?_, ?_⟩
  · have hb : Below RB w (wr.drewN q1) := ⟨h.bel.os, h.bel.tape, h.bel.output, h.bel.size, h.bel.block⟩
    exact hb.setCell (p := ⟨RB, r * 2 + 1, none⟩) (Nat.le_refl _) _
  · refine ((h.row.drewN q1).set r 1 (by omega) _ rfl).congr (fun i j hi hj => ?_)
    unfold rCell
    by_cases hj0 : j = 0
    · subst hj0; simp
    · obtain rfl : j = 1 := by omega
      by_cases e : i = r
      · subst e; subst ht; simp
      · have e2 : (i < r + 1) ↔ (i < r) := by omega
        simp [e, e2]

set_option maxHeartbeats 4000000 in
set_option maxRecDepth 100000 in
theorem prune_calls (K C : Nat → Int) (n M : Nat) (A B : Nat → Nat) (PB WB RB : Nat) (w : World) (hn : n ≤ 65536) (hinc : Inc A M ((n + 63) / 64)) (hB : ∀ i, i < M → B i < 18446744073709551616)
    (hP : PB < RB) (hW : WB < RB) (hs : w.cell? ⟨PB, 1, none⟩ = some (.slice (some ⟨WB, 0, none⟩) ((n + 63) / 64) ((n + 63) / 64)))
    (hm : Grid w WB 55 10 ((n + 63) / 64) (maskCell3 K C n ((n + 63) / 64))) (hr : Grid w RB 61 2 M (rCell A B)) :
    Calls Try.prog 21 #[.pointer (some ⟨PB, 0, none⟩), .slice (some ⟨RB, 0, none⟩) M M] w fun e w' => e = .returned (.slice (some ⟨RB, 0, none⟩) (cmp (fun i => keepW K C n M A B (A i)) M).length M) ∧ PrT w w' RB M M A (fun i => keepW K C n M A B (A i)) := by
  have hMn : M ≤ 65536 := by have := hinc.len; omega
  have hPw : PB < w.heap.size := by have := hr.lt; omega
  go_enter Try.func21, Try.ntmps21
  go_wp2
  go_loopg [6, 7, 8, 9] M (fun g s6 s7 s8 s9 wx => ∃ r : Nat, r ≤ M ∧ r = g ∧ s9 = .int .i64 ((r : Int) - 1) ∧ s8 = .int .i64 (abv n M A r : Nat) ∧ s6 = .bool (swS K C n M A B (abv n M A r)) ∧ s7 = .bool (swD K n M A B (abv n M A r)) ∧ PrS w wx RB M r A B (fun i => keepW K C n M A B (A i)))
  case atStart =>
    have ha : abv n M A M = (n + 63) / 64 := by unfold abv; rw [if_neg (by omega)]
    refine ⟨M, Nat.le_refl _, rfl, by go_num, by rw [ha]; go_num, by rw [ha, (swS_top K C n M A B).1], by rw [ha, (swS_top K C n M A B).2], Below.refl _ _, hr.congr (fun i j hi hj => ?_)⟩
    unfold rCell
    simp [hi]
  case round =>
    obtain ⟨r, hr0, rfl, rfl, rfl, rfl, rfl, hO⟩ := hrel
    cases r with
    | zero =>
      have hO2 : PrT w wr RB M 0 A (fun i => keepW K C n M A B (A i)) := prt_start hO
      clear hO
      have hdn : decide ((0 : Int) ≤ ((0 : Nat) : Int) - 1) = false := by decide
      go_wp2
      go_loopg [21, 156] M (fun g s21 s156 wx => ∃ i : Nat, i ≤ M ∧ g = M - i ∧ s156 = .int .i64 i ∧ s21 = .int .i64 ((cmp (fun i => keepW K C n M A B (A i)) i).length : Nat) ∧ PrT w wx RB M i A (fun i => keepW K C n M A B (A i)))
      case atStart => exact ⟨0, Nat.zero_le _, rfl, rfl, rfl, hO2⟩
      case round =>
        clear hO2
        obtain ⟨i, hi, rfl, rfl, rfl, hO⟩ := hrel
        have hcl := cmp_le (fun i => keepW K C n M A B (A i)) i
        by_cases him : i < M
        · have c0 : wr.cell? ⟨RB, i * 2, none⟩ = some (.int .i64 (A i : Nat)) := by rw [hO.row.cell' i 0 (o := i * 2) (by omega) him (by omega), if_neg (by omega)]; rfl
          have c1 : wr.cell? ⟨RB, i * 2 + 1, none⟩ = some (.int .u64 (keepW K C n M A B (A i) : Nat)) := by rw [hO.row.cell' i 1 (o := i * 2 + 1) (by omega) him (by omega), if_neg (by omega)]; rfl
          have hlt := hO.row.lt
          have z0 := hO.row.frozen ((cmp (fun i => keepW K C n M A B (A i)) i).length * 2)
          have z1 := hO.row.frozen ((cmp (fun i => keepW K C n M A B (A i)) i).length * 2 + 1)
          have hdi : decide ((i : Int) < (M : Int)) = true := decide_eq_true (by omega)
          by_cases hz : keepW K C n M A B (A i) = 0
          · have hzb : ((keepW K C n M A B (A i) : Int) != 0) = false := by simp [hz]
            have HC : Hid (cmp (fun i => keepW K C n M A B (A i)) (i + 1) = cmp (fun i => keepW K C n M A B (A i)) i) := by unfold Hid; rw [cmp, if_pos hz]
            clear hz
            go_wp2
            go_roundg (M - (i + 1))
            case measure => omega
            case rel => exact ⟨i + 1, by omega, rfl, by go_num, by rw [HC.out], prt_no hO HC.out _⟩
          · have hzb : ((keepW K C n M A B (A i) : Int) != 0) = true := by simp [hz]
            have HC : Hid (cmp (fun i => keepW K C n M A B (A i)) (i + 1) = cmp (fun i => keepW K C n M A B (A i)) i ++ [i]) := by unfold Hid; rw [cmp, if_neg hz]
            clear hz
            have d0 : ∃ v, wr.cell? ⟨RB, (cmp (fun i => keepW K C n M A B (A i)) i).length * 2, none⟩ = some v := ⟨_, hO.row.cell' (cmp (fun i => keepW K C n M A B (A i)) i).length 0 (by omega) (by omega) (by omega)⟩
            have d1 : ∃ v, wr.cell? ⟨RB, (cmp (fun i => keepW K C n M A B (A i)) i).length * 2 + 1, none⟩ = some v := ⟨_, hO.row.cell' (cmp (fun i => keepW K C n M A B (A i)) i).length 1 (by omega) (by omega) (by omega)⟩
            obtain ⟨v0, d0⟩ := d0
            obtain ⟨v1, d1⟩ := d1
            have hcm' : (cmp (fun i => keepW K C n M A B (A i)) i).length < M := by omega
            have hcmi : ((cmp (fun i => keepW K C n M A B (A i)) i).length : Int) < (M : Int) := by omega
            go_wp2
            go_roundg (M - (i + 1))
            case measure => omega
            case rel => exact ⟨i + 1, by omega, rfl, by go_num, by rw [HC.out, List.length_append]; go_num, prt_yes hO HC.out _⟩
        · obtain rfl : i = M := by omega
          go_wp2
          go_ret
          exact ⟨rfl, hO⟩
    | succ r =>
      have e9 : ((r + 1 : Nat) : Int) - 1 = (r : Int) := by omega
      rw [e9]
      clear e9
      have hA := hinc.1 r (by omega)
      have hX := hB r (by omega)
      have c0 : wr.cell? ⟨RB, r * 2, none⟩ = some (.int .i64 (A r : Nat)) := by rw [hO.row.cell' r 0 (o := r * 2) (by omega) (by omega) (by omega)]; rfl
      have c1 : wr.cell? ⟨RB, r * 2 + 1, none⟩ = some (.int .u64 (B r : Nat)) := by rw [hO.row.cell' r 1 (o := r * 2 + 1) (by omega) (by omega) (by omega)]; simp [rCell]
      have hu : A r < abv n M A (r + 1) ∧ abv n M A (r + 1) ≤ (n + 63) / 64 := by
        unfold abv
        split
        · rename_i h; exact ⟨hinc.2 r h, Nat.le_of_lt (hinc.1 _ h)⟩
        · exact ⟨hA, Nat.le_refl _⟩
      have hbt := prune_between K C n M A B (A r) (abv n M A (r + 1)) hu.1 hu.2 (fun i hi => by
        rcases Nat.lt_or_ge r i with h | h
        · right
          unfold abv
          rw [if_pos (by omega)]
          by_cases e : i = r + 1
          · subst e; exact Nat.le_refl _
          · exact Nat.le_of_lt (hinc.lt (by omega) hi)
        · left
          by_cases e : i = r
          · subst e; exact Nat.le_refl _
          · exact Nat.le_of_lt (hinc.lt (by omega) (by omega)))
      have hpw := prune_word K C n M A B hinc r (by omega) hX
      have HBT := Hid.mk' hbt
      have HPW := Hid.mk' hpw
      clear hbt hpw
      have HAB : Hid (abv n M A r = A r) := by unfold abv; rw [if_pos (by omega)]; exact rfl
      generalize hT : A r = t at c0 hA hu HBT HPW HAB
      generalize hU : abv n M A (r + 1) = u at hu HBT ⊢
      have HT := Hid.mk' hT
      clear hT hU
      have mw : ∀ i j, i < (n + 63) / 64 → j < 10 → wr.cell? ⟨WB, i * 10 + j, none⟩ = some (maskCell3 K C n ((n + 63) / 64) i j) := fun i j hi hj => by rw [hO.bel.cell (p := ⟨WB, i * 10 + j, none⟩) hW]; exact hm.cell hi hj
      go_upto_if 46 with fail
      go_cut [6, 7] from 34 to 153 (fun s6 s7 wx => wr = wx ∧ s6 = .bool (swS K C n M A B (t + 1)) ∧ s7 = .bool (swD K n M A B (t + 1)))
      case first =>
        obtain ⟨u', rfl⟩ : ∃ u', u = u' + 1 := ⟨u - 1, by omega⟩
        generalize hS6 : swS K C n M A B (u' + 1) = b6 at HBT ⊢
        generalize hD7 : swD K n M A B (u' + 1) = b7 at HBT ⊢
        have HSE := Hid.mk' hS6
        have HDE := Hid.mk' hD7
        clear hS6 hD7
        by_cases htu : t < u'
        · have hd : decide ((t : Int) < (u' : Int)) = true := decide_eq_true (by omega)
          have hu0 : u' < (n + 63) / 64 := by omega
          have w8 : wr.cell? ⟨WB, u' * 10 + 8, none⟩ = some (.int .i64 (barW K C n (u' + 1))) := by rw [mw u' 8 hu0 (by omega)]; simp [maskCell3, hu0]
          have w9 : wr.cell? ⟨WB, u' * 10 + 9, none⟩ = some (.int .i64 (endW K C n (u' + 1))) := by rw [mw u' 9 hu0 (by omega)]; simp [maskCell3, hu0]
          generalize barW K C n (u' + 1) = bw at w8 HBT
          generalize endW K C n (u' + 1) = ew at w9 HBT
          clear mw
          cases b6 <;> cases b7
          all_goals
            go_wp2
            go_meet
            case rel => exact ⟨rfl, by rw [HBT.out.1]; rfl, by rw [HBT.out.2]; rfl⟩
        · obtain rfl : t = u' := by omega
          go_wp2
          go_meet
          case rel => exact ⟨rfl, by rw [HSE.out], by rw [HDE.out]⟩
      case rest =>
        obtain ⟨rfl, rfl, rfl⟩ := hcut
        have a0 : wr.cell? ⟨WB, t * 10, none⟩ = some (.int .u64 ((maskAt K C n t 0 : Nat) : Int)) := by have := mw t 0 hA (by omega); simpa [maskCell3, hA] using this
        have a1 : wr.cell? ⟨WB, t * 10 + 1, none⟩ = some (.int .u64 ((maskAt K C n t 1 : Nat) : Int)) := by have := mw t 1 hA (by omega); simpa [maskCell3, hA] using this
        have a2 : wr.cell? ⟨WB, t * 10 + 2, none⟩ = some (.int .u64 ((maskAt K C n t 2 : Nat) : Int)) := by have := mw t 2 hA (by omega); simpa [maskCell3, hA] using this
        have a6 : wr.cell? ⟨WB, t * 10 + 6, none⟩ = some (.int .u64 ((maskAt K C n t 6 : Nat) : Int)) := by have := mw t 6 hA (by omega); simpa [maskCell3, hA] using this
        have i1 : (t : Int) < ((n : Int) + 63) / 64 := by omega
        have i2 : r < M := by omega
        have i3 : (r : Int) < (M : Int) := by omega
        clear mw
        have eG : bits .andNot .u64 (bits .and .u64 (B r : Int) ((maskAt K C n t 0 : Nat) : Int)) ((maskAt K C n t 1 : Nat) : Int) = ((wG K C n (B r) t : Nat) : Int) := by
          rw [bits_and_u64_nat _ _ hX (maskAt_lt _ _ _ _ _), andNot_nat _ _ (Nat.lt_of_le_of_lt Nat.and_le_left hX) (maskAt_lt _ _ _ _ _)]; rfl
        have eH : bits .and .u64 (B r : Int) ((maskAt K C n t 1 : Nat) : Int) = ((wH K C n (B r) t : Nat) : Int) := by
          rw [bits_and_u64_nat _ _ hX (maskAt_lt _ _ _ _ _)]; rfl
        have eP : bits .xor .u64 (if IntKind.u64.signed = true then -1 else IntKind.u64.max) (bits .or .u64 (bits .or .u64 ((maskAt K C n t 2 : Nat) : Int) ((maskAt K C n t 1 : Nat) : Int)) ((maskAt K C n t 6 : Nat) : Int)) = ((wP K C n t : Nat) : Int) := by
          rw [bits_or_u64_nat _ _ (maskAt_lt _ _ _ _ _) (maskAt_lt _ _ _ _ _), bits_or_u64_nat _ _ (Nat.or_lt_two_pow (n := 64) (maskAt_lt _ _ _ _ _) (maskAt_lt _ _ _ _ _)) (maskAt_lt _ _ _ _ _), not_nat _ (Nat.or_lt_two_pow (n := 64) (Nat.or_lt_two_pow (n := 64) (maskAt_lt _ _ _ _ _) (maskAt_lt _ _ _ _ _)) (maskAt_lt _ _ _ _ _))]; rfl
        have eQ : bits .xor .u64 (if IntKind.u64.signed = true then -1 else IntKind.u64.max) ((maskAt K C n t 6 : Nat) : Int) = ((wQ K C n t : Nat) : Int) := by
          rw [not_nat _ (maskAt_lt _ _ _ _ _)]; rfl
        have lG := wG_lt K C n (B r) t hX
        have lH := wH_lt K C n (B r) t hX
        have lP := wP_lt K C n t
        have lQ := wQ_lt K C n t
        have EG := Hid.mk' eG
        have EH := Hid.mk' eH
        have EP := Hid.mk' eP
        have EQ := Hid.mk' eQ
        clear eG eH eP eQ
        go_wp2
        go_quiet (fail)
        go_wp2
        go_quiet (fail)
        go_wp2
        go_quiet (fail)
        rw [EG.out, EH.out, EP.out, EQ.out]
        clear EG EH EP EQ
        obtain ⟨q1, q2, q3, q4, q5⟩ := HPW.out
        unfold wS at q1 q3 q4
        unfold wD at q2 q3 q5
        generalize wG K C n (B r) t = G at lG q1 q2 q3 q4 q5 ⊢
        generalize wH K C n (B r) t = H at lH q1 q2 q3 q4 q5 ⊢
        generalize wP K C n t = P at lP q1 q2 q3 q4 q5 ⊢
        generalize wQ K C n t = Q at lQ q1 q2 q3 q4 q5 ⊢
        generalize swS K C n M A B (t + 1) = s at q1 q2 q3 q4 q5 ⊢
        generalize swD K n M A B (t + 1) = d at q1 q2 q3 q4 q5 ⊢
        have f1 := from_eq G P s lG lP
        have f2 := from_eq H Q d lH lQ
        have lF : (G >>> 1 ||| top s) &&& P < 18446744073709551616 := Nat.lt_of_le_of_lt Nat.and_le_right lP
        have lF2 : (H >>> 1 ||| top d) &&& Q < 18446744073709551616 := Nat.lt_of_le_of_lt Nat.and_le_right lQ
        generalize (G >>> 1 ||| top s) &&& P = F at f1 lF q1 q3 q4
        generalize (H >>> 1 ||| top d) &&& Q = F2 at f2 lF2 q2 q3 q5
        have k1 := low_bit _ _ q1 lG
        have k2 := low_bit _ _ q2 lH
        rw [q4] at k1
        rw [q5] at k2
        have k3 : bits .andNot .u64 (B r : Int) (bits .or .u64 ((fd F P : Nat) : Int) ((fd F2 Q : Nat) : Int)) = ((keepW K C n M A B t : Nat) : Int) := by
          rw [bits_or_u64_nat _ _ q1 q2, andNot_nat _ _ hX (Nat.or_lt_two_pow (n := 64) q1 q2), q3]
        have z1 : wr.frozen? ⟨RB, r * 2 + 1, none⟩ = false := hO.row.frozen _
        clear q1 q2 q3 q4 q5 HPW
        cases s <;> cases d
        all_goals
          simp only [Bool.false_eq_true, if_false, if_true] at f1 f2
          go_wp2_with fail
          refine (fillDown_calls F P _ lF lP).mono ?_
          rintro e w1 ⟨rfl, rfl⟩
          go_wp2_with fail
          refine (fillDown_calls F2 Q _ lF2 lQ).mono ?_
          rintro e w1 ⟨rfl, rfl⟩
          go_wp2
          go_roundg r
          case measure => omega
          case rel => exact ⟨r, by omega, rfl, rfl, by rw [HAB.out], by rw [HAB.out], by rw [HAB.out], prs_step hO HT.out i2 _⟩
end Go.Proofs.Qxb6000847a
