import Derived.Test.Qxb6000847aFil
namespace Go.Proofs.Qxb6000847a
set_option linter.unusedVariables false

/-! What prune computes, word by word. No Go here. -/
/-- the reached words' places ascend strictly below nw. -/
def Inc (A : Nat → Nat) (M nw : Nat) : Prop := (∀ i, i < M → A i < nw) ∧ ∀ i, i + 1 < M → A i < A (i + 1)
theorem Inc.lt {A : Nat → Nat} {M nw : Nat} (h : Inc A M nw) {i j : Nat} (hij : i < j) (hj : j < M) : A i < A j := by
  induction j with
  | zero => omega
  | succ j ih =>
    have h1 := h.2 j hj
    by_cases e : i = j
    · subst e; exact h1
    · exact Nat.lt_trans (ih (by omega) (by omega)) h1
theorem Inc.inj {A : Nat → Nat} {M nw : Nat} (h : Inc A M nw) {i j : Nat} (hi : i < M) (hj : j < M) (e : A i = A j) : i = j := by
  rcases Nat.lt_trichotomy i j with h1 | h1 | h1
  · have := h.lt h1 hj; omega
  · exact h1
  · have := h.lt h1 hi; omega

/-- the steps reached. -/
def rch (M : Nat) (A B : Nat → Nat) (p : Nat) : Bool := (List.range M).any fun i => A i == p / 64 && (B i).testBit (p % 64)
theorem rch_iff (M : Nat) (A B : Nat → Nat) (p : Nat) : rch M A B p = true ↔ ∃ i, i < M ∧ A i = p / 64 ∧ (B i).testBit (p % 64) = true := by
  simp [rch]
theorem rch_at {M nw : Nat} {A B : Nat → Nat} (h : Inc A M nw) {i b : Nat} (hi : i < M) (hb : b < 64) : rch M A B (64 * A i + b) = (B i).testBit b := by
  rw [Bool.eq_iff_iff, rch_iff, show (64 * A i + b) / 64 = A i by omega, show (64 * A i + b) % 64 = b by omega]
  constructor
  · rintro ⟨j, h1, h2, h3⟩
    rw [← h.inj h1 hi h2]; exact h3
  · intro h1
    exact ⟨i, hi, rfl, h1⟩
theorem rch_none {M : Nat} {A B : Nat → Nat} {p : Nat} (h : ∀ i, i < M → A i ≠ p / 64) : rch M A B p = false := by
  cases e : rch M A B p with
  | false => rfl
  | true =>
    obtain ⟨i, h1, h2, _⟩ := (rch_iff M A B p).1 e
    exact absurd h2 (h i h1)

section
variable (K C : Nat → Int) (n M : Nat) (A B : Nat → Nat)
def bSt (p : Nat) : Bool := decide (p < n) && pBar K C p
def bEn (p : Nat) : Bool := decide (p < n) && pEnd K p
def gSt (p : Nat) : Bool := rch M A B p && (decide (p < n) && K p == 3)
def gDs (p : Nat) : Bool := rch M A B p && (decide (p < n) && pDS K p)
def NN : Nat := 64 * ((n + 63) / 64)
def onS (p : Nat) : Bool := onAt (bSt K C n) (gSt K n M A B) (NN n) p
def onD (p : Nat) : Bool := onAt (bEn K n) (gDs K n M A B) (NN n) p
/-- kept: reached, and not overtaken. -/
def keepP (p : Nat) : Bool := rch M A B p && !((onS K C n M A B p && !bSt K C n p) || (onD K n M A B p && !bEn K n p))
def keepW (t : Nat) : Nat := mk (keepP K C n M A B) t (64 * (t + 1))
/-- the states behind all words from t on. -/
def swS (t : Nat) : Bool := sw (bSt K C n) (gSt K n M A B) (NN n) (NN n - 64 * t)
def swD (t : Nat) : Bool := sw (bEn K n) (gDs K n M A B) (NN n) (NN n - 64 * t)
end

theorem keepW_bit (K C : Nat → Int) (n M : Nat) (A B : Nat → Nat) (t b : Nat) (hb : b < 64) : (keepW K C n M A B t).testBit b = keepP K C n M A B (64 * t + b) := by
  unfold keepW
  rw [mk_testBit _ _ _ _ hb, decide_eq_true (by omega), Bool.true_and]
theorem keepW_lt (K C : Nat → Int) (n M : Nat) (A B : Nat → Nat) (t : Nat) : keepW K C n M A B t < 18446744073709551616 := mk_lt _ _ _

theorem word_ext {x y : Nat} (hx : x < 18446744073709551616) (hy : y < 18446744073709551616) (h : ∀ b, b < 64 → x.testBit b = y.testBit b) : x = y := by
  apply Nat.eq_of_testBit_eq
  intro b
  by_cases hb : b < 64
  · exact h b hb
  · rw [bit_high hx (by omega), bit_high hy (by omega)]

/-- the bits that are not set. -/
def notW (x : Nat) : Nat := x ^^^ 18446744073709551615
theorem notW_bit (x b : Nat) (hb : b < 64) : (notW x).testBit b = !x.testBit b := by
  unfold notW
  rw [Nat.testBit_xor, show (18446744073709551615 : Nat) = 2 ^ 64 - 1 by decide, Nat.testBit_two_pow_sub_one, decide_eq_true hb]
  cases x.testBit b <;> rfl
theorem notW_lt (x : Nat) (h : x < 18446744073709551616) : notW x < 18446744073709551616 := by
  unfold notW
  exact Nat.xor_lt_two_pow (n := 64) h (by decide)

/-- one word of prune, for stars or for double stars. -/
theorem one_word (stop go : Nat → Bool) (N t G P F : Nat) (ht : 64 * (t + 1) ≤ N) (hG : ∀ b, b < 64 → G.testBit b = go (64 * t + b)) (hGl : G < 18446744073709551616) (hP : ∀ b, b < 64 → P.testBit b = !stop (64 * t + b))
    (hPl : P < 18446744073709551616) (hF : F = (G >>> 1) ||| (if sw stop go N (N - 64 * (t + 1)) then 9223372036854775808 else 0)) :
    (∀ b, b < 64 → (fd (F &&& P) P).testBit b = (!stop (64 * t + b) && onAt stop go N (64 * t + b))) ∧ fd (F &&& P) P < 18446744073709551616
    ∧ (fd (F &&& P) P ||| G).testBit 0 = sw stop go N (N - 64 * t) := by
  have e63 : onAt stop go N (64 * t + 63) = sw stop go N (N - 64 * (t + 1)) := by
    unfold onAt; congr 1; omega
  have hFl : F < 18446744073709551616 := by
    rw [hF]
    refine Nat.or_lt_two_pow (n := 64) ?_ ?_
    · rw [Nat.shiftRight_eq_div_pow]; exact Nat.lt_of_le_of_lt (Nat.div_le_self _ _) hGl
    · split <;> decide
  have hb9 : ∀ b, (9223372036854775808 : Nat).testBit b = decide (63 = b) := fun b => by
    rw [show (9223372036854775808 : Nat) = 2 ^ 63 by decide, Nat.testBit_two_pow]
  have hFb : ∀ b, b < 63 → F.testBit b = go (64 * t + b + 1) := by
    intro b hb
    rw [hF, Nat.testBit_or, Nat.testBit_shiftRight, Nat.add_comm 1 b, hG _ (by omega)]
    have : (if sw stop go N (N - 64 * (t + 1)) then 9223372036854775808 else 0 : Nat).testBit b = false := by
      split
      · rw [hb9, decide_eq_false (by omega)]
      · exact Nat.zero_testBit _
    rw [this, Bool.or_false, Nat.add_assoc]
  have hF63 : F.testBit 63 = onAt stop go N (64 * t + 63) := by
    rw [hF, e63, Nat.testBit_or, Nat.testBit_shiftRight, bit_high hGl (by omega), Bool.false_or]
    split
    · rename_i h; rw [h, hb9]; rfl
    · rename_i h; rw [Nat.zero_testBit]; simpa using h
  have hw := word_sweep stop go N t F P ht hFb hF63 hFl hP
  refine ⟨hw, fd_lt _ _ (Nat.lt_of_le_of_lt Nat.and_le_left hFl) hPl, ?_⟩
  rw [Nat.testBit_or, hw 0 (by omega), hG 0 (by omega), Nat.add_zero]
  have e : sw stop go N (N - 64 * t) = ((onAt stop go N (64 * t) && !stop (64 * t)) || go (64 * t)) := by
    rw [show N - 64 * t = (N - 1 - 64 * t) + 1 by omega, sw, show N - 1 - (N - 1 - 64 * t) = 64 * t by omega]
    rfl
  rw [e, Bool.and_comm]

/-- over the words between, which hold no reached step. -/
theorem between (stop go : Nat → Bool) (N t u : Nat) (v : Bool) (htu : t < u) (hu : 64 * u ≤ N) (hg : ∀ p, 64 * (t + 1) ≤ p → p < 64 * u → go p = false)
    (hv : v = true ↔ ∀ p, 64 * (t + 1) ≤ p → p < 64 * u → stop p = false) : sw stop go N (N - 64 * (t + 1)) = (sw stop go N (N - 64 * u) && v) := by
  have e1 : sw stop go N (N - 64 * (t + 1)) = onAt stop go N (64 * (t + 1) - 1) := by unfold onAt; congr 1; omega
  have e2 : sw stop go N (N - 64 * u) = onAt stop go N (64 * u - 1) := by unfold onAt; congr 1; omega
  rw [e1, e2]
  cases v with
  | true => rw [Bool.and_true]; exact skip_yes stop go N _ _ (by omega) (by omega) hu hg (hv.1 rfl)
  | false =>
    rw [Bool.and_false]
    refine skip_no stop go N _ (64 * u) (by omega) hu hg (Classical.byContradiction fun h => ?_)
    have : (false : Bool) = true := hv.2 fun p h1 h2 => by
      cases e : stop p with
      | false => rfl
      | true => exact absurd ⟨p, h1, h2, e⟩ h
    cases this

/-- the word of the last stop, against a place. -/
theorem word_le (p : Nat → Bool) (n t u : Nat) (htu : t < u) (hu : u ≤ (n + 63) / 64) : decide (wordP p (min n (64 * u)) ≤ (t : Int)) = true ↔ ∀ q, 64 * (t + 1) ≤ q → q < 64 * u → (decide (q < n) && p q) = false := by
  have hb := lastP_bd p (min n (64 * u))
  rw [decide_eq_true_iff]
  constructor
  · intro h q h1 h2
    cases e : decide (q < n) && p q with
    | false => rfl
    | true =>
      simp at e
      have := lastP_hit p (64 * (t + 1)) (min n (64 * u)) ⟨q, h1, by omega, e.2⟩
      unfold wordP at h
      rw [if_pos (by omega)] at h
      omega
  · intro h
    unfold wordP
    split
    · rename_i h0
      by_cases hlt : lastP p (min n (64 * u)) < (64 * (t + 1) : Nat)
      · omega
      · exfalso
        have key : ∀ m, m ≤ min n (64 * u) → ¬ lastP p m < ((64 * (t + 1) : Nat) : Int) → False := by
          intro m
          induction m with
          | zero => intro _ hm; simp [lastP] at hm; omega
          | succ m ih =>
            intro hm hn'
            cases e : p m with
            | true =>
              rw [lastP_yes p m e] at hn'
              have := h m (by omega) (by omega)
              rw [e, decide_eq_true (by omega)] at this
              cases this
            | false =>
              rw [lastP_no p m e] at hn'
              exact ih (by omega) hn'
        exact key _ (Nat.le_refl _) hlt
    · omega

/-- the stars, the double stars, and what does not stop them, in the word of the reached word i. -/
def wG (K C : Nat → Int) (n X t : Nat) : Nat := (X &&& maskAt K C n t 0) &&& notW (maskAt K C n t 1)
def wH (K C : Nat → Int) (n X t : Nat) : Nat := X &&& maskAt K C n t 1
def wP (K C : Nat → Int) (n t : Nat) : Nat := notW (maskAt K C n t 2 ||| maskAt K C n t 1 ||| maskAt K C n t 6)
def wQ (K C : Nat → Int) (n t : Nat) : Nat := notW (maskAt K C n t 6)
def top (b : Bool) : Nat := if b then 9223372036854775808 else 0
def wS (K C : Nat → Int) (n X t : Nat) (b : Bool) : Nat := fd (((wG K C n X t >>> 1) ||| top b) &&& wP K C n t) (wP K C n t)
def wD (K C : Nat → Int) (n X t : Nat) (b : Bool) : Nat := fd (((wH K C n X t >>> 1) ||| top b) &&& wQ K C n t) (wQ K C n t)

theorem wG_lt (K C : Nat → Int) (n X t : Nat) (h : X < 18446744073709551616) : wG K C n X t < 18446744073709551616 := Nat.lt_of_le_of_lt Nat.and_le_left (Nat.lt_of_le_of_lt Nat.and_le_left h)
theorem wH_lt (K C : Nat → Int) (n X t : Nat) (h : X < 18446744073709551616) : wH K C n X t < 18446744073709551616 := Nat.lt_of_le_of_lt Nat.and_le_left h
theorem wP_lt (K C : Nat → Int) (n t : Nat) : wP K C n t < 18446744073709551616 := notW_lt _ (Nat.or_lt_two_pow (n := 64) (Nat.or_lt_two_pow (n := 64) (maskAt_lt _ _ _ _ _) (maskAt_lt _ _ _ _ _)) (maskAt_lt _ _ _ _ _))
theorem wQ_lt (K C : Nat → Int) (n t : Nat) : wQ K C n t < 18446744073709551616 := notW_lt _ (maskAt_lt _ _ _ _ _)

theorem mask_bits (K C : Nat → Int) (n t b : Nat) (hb : b < 64) : (maskAt K C n t 0).testBit b = (decide (64 * t + b < n) && pRun K (64 * t + b)) ∧ (maskAt K C n t 1).testBit b = (decide (64 * t + b < n) && pDS K (64 * t + b))
    ∧ (maskAt K C n t 2).testBit b = (decide (64 * t + b < n) && pSl K C (64 * t + b)) ∧ (maskAt K C n t 6).testBit b = (decide (64 * t + b < n) && pEnd K (64 * t + b)) := by
  simp only [maskAt, Nat.reduceEqDiff, if_true, if_false]
  exact ⟨mk_testBit _ _ _ _ hb, mk_testBit _ _ _ _ hb, mk_testBit _ _ _ _ hb, mk_testBit _ _ _ _ hb⟩

theorem prune_word (K C : Nat → Int) (n M : Nat) (A B : Nat → Nat) (hinc : Inc A M ((n + 63) / 64)) (i : Nat) (hi : i < M) (hX : B i < 18446744073709551616) :
    let t := A i
    let dS := wS K C n (B i) t (swS K C n M A B (t + 1))
    let dD := wD K C n (B i) t (swD K n M A B (t + 1))
    dS < 18446744073709551616 ∧ dD < 18446744073709551616 ∧ (B i) &&& notW (dS ||| dD) = keepW K C n M A B t
    ∧ (dS ||| wG K C n (B i) t).testBit 0 = swS K C n M A B t ∧ (dD ||| wH K C n (B i) t).testBit 0 = swD K n M A B t := by
  intro t dS dD
  have ht : 64 * (t + 1) ≤ NN n := by have := hinc.1 i hi; unfold NN; show 64 * (A i + 1) ≤ _; omega
  have hr : ∀ b, b < 64 → rch M A B (64 * t + b) = (B i).testBit b := fun b hb => rch_at hinc hi hb
  obtain ⟨s1, s2, s3⟩ := one_word (bSt K C n) (gSt K n M A B) (NN n) t (wG K C n (B i) t) (wP K C n t) ((wG K C n (B i) t >>> 1) ||| top (swS K C n M A B (t + 1))) ht
    (fun b hb => by
      obtain ⟨m0, m1, m2, m6⟩ := mask_bits K C n t b hb
      unfold wG gSt
      rw [Nat.testBit_and, Nat.testBit_and, notW_bit _ _ hb, m0, m1, hr b hb]
      unfold pRun pDS
      have hx : ¬ ((K (64 * t + b) == 3) = true ∧ (K (64 * t + b) == 4) = true) := by
        rintro ⟨h1, h2⟩
        rw [beq_iff_eq] at h1 h2
        omega
      cases h1 : (K (64 * t + b) == 3) <;> cases h2 : (K (64 * t + b) == 4) <;> simp [h1, h2] at hx ⊢ <;> cases (B i).testBit b <;> cases decide (64 * t + b < n) <;> rfl)
    (wG_lt _ _ _ _ _ hX)
    (fun b hb => by
      obtain ⟨m0, m1, m2, m6⟩ := mask_bits K C n t b hb
      unfold wP bSt
      rw [notW_bit _ _ hb, Nat.testBit_or, Nat.testBit_or, m1, m2, m6]
      unfold pBar pSl pDS pEnd
      cases decide (64 * t + b < n) <;> cases K (64 * t + b) == 5 <;> cases K (64 * t + b) == 4 <;> cases K (64 * t + b) == 0 <;> cases C (64 * t + b) == 47 <;> rfl)
    (wP_lt _ _ _ _) rfl
  obtain ⟨d1, d2, d3⟩ := one_word (bEn K n) (gDs K n M A B) (NN n) t (wH K C n (B i) t) (wQ K C n t) ((wH K C n (B i) t >>> 1) ||| top (swD K n M A B (t + 1))) ht
    (fun b hb => by
      obtain ⟨m0, m1, m2, m6⟩ := mask_bits K C n t b hb
      unfold wH gDs
      rw [Nat.testBit_and, m1, hr b hb])
    (wH_lt _ _ _ _ _ hX)
    (fun b hb => by
      obtain ⟨m0, m1, m2, m6⟩ := mask_bits K C n t b hb
      unfold wQ bEn
      rw [notW_bit _ _ hb, m6])
    (wQ_lt _ _ _ _) rfl
  refine ⟨s2, d2, ?_, s3, d3⟩
  apply word_ext (Nat.lt_of_le_of_lt Nat.and_le_left hX) (keepW_lt _ _ _ _ _ _ _)
  intro b hb
  have h1 : dS.testBit b = _ := s1 b hb
  have h2 : dD.testBit b = _ := d1 b hb
  rw [Nat.testBit_and, notW_bit _ _ hb, Nat.testBit_or, h1, h2, keepW_bit _ _ _ _ _ _ _ _ hb]
  unfold keepP onS onD
  rw [hr b hb, Bool.and_comm (!bSt K C n (64 * t + b)), Bool.and_comm (!bEn K n (64 * t + b))]

/-- the states ahead of the word of place t, from those behind place u. -/
theorem prune_between (K C : Nat → Int) (n M : Nat) (A B : Nat → Nat) (t u : Nat) (htu : t < u) (hu : u ≤ (n + 63) / 64) (hno : ∀ i, i < M → A i ≤ t ∨ u ≤ A i) :
    swS K C n M A B (t + 1) = (swS K C n M A B u && decide (barW K C n u ≤ (t : Int))) ∧ swD K n M A B (t + 1) = (swD K n M A B u && decide (endW K C n u ≤ (t : Int))) := by
  have hg : ∀ p, 64 * (t + 1) ≤ p → p < 64 * u → rch M A B p = false := fun p h1 h2 => rch_none fun i hi e => by
    rcases hno i hi with h | h <;> omega
  obtain ⟨e1, e2⟩ := barW_eq K C n u hu
  rw [e1, e2]
  constructor
  · exact between (bSt K C n) (gSt K n M A B) (NN n) t u _ htu (by unfold NN; omega) (fun p h1 h2 => by unfold gSt; rw [hg p h1 h2]; rfl) (word_le (pBar K C) n t u htu hu)
  · exact between (bEn K n) (gDs K n M A B) (NN n) t u _ htu (by unfold NN; omega) (fun p h1 h2 => by unfold gDs; rw [hg p h1 h2]; rfl) (word_le (pEnd K) n t u htu hu)

theorem swS_top (K C : Nat → Int) (n M : Nat) (A B : Nat → Nat) : swS K C n M A B ((n + 63) / 64) = false ∧ swD K n M A B ((n + 63) / 64) = false := by
  unfold swS swD NN
  rw [Nat.sub_self]
  exact ⟨rfl, rfl⟩

end Go.Proofs.Qxb6000847a
