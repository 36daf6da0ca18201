import Derived.Test.Qxb6000847aMst3
namespace Go.Proofs.Qxb6000847a

/-- the last place below r at which p holds, or -1. -/
def lastP (p : Nat → Bool) : Nat → Int
  | 0 => -1
  | r + 1 => if p r then (r : Int) else lastP p r

theorem lastP_yes (p : Nat → Bool) (r : Nat) (h : p r = true) : lastP p (r + 1) = r := by rw [lastP, if_pos h]
theorem lastP_no (p : Nat → Bool) (r : Nat) (h : p r = false) : lastP p (r + 1) = lastP p r := by rw [lastP, if_neg (by simp [h])]
theorem lastP_bd (p : Nat → Bool) (r : Nat) : -1 ≤ lastP p r ∧ lastP p r < r := by
  induction r with
  | zero => simp [lastP]
  | succ r ih => unfold lastP; split <;> omega
theorem lastP_skip (p : Nat → Bool) (a b : Nat) (hab : a ≤ b) (h : ∀ i, a ≤ i → i < b → p i = false) : lastP p b = lastP p a := by
  induction b with
  | zero => obtain rfl : a = 0 := by omega
            rfl
  | succ b ih =>
    by_cases e : a = b + 1
    · rw [e]
    · rw [lastP_no p b (h b (by omega) (by omega)), ih (by omega) (fun i h1 h2 => h i h1 (by omega))]
theorem lastP_hit (p : Nat → Bool) (a b : Nat) (h : ∃ i, a ≤ i ∧ i < b ∧ p i = true) : (a : Int) ≤ lastP p b := by
  induction b with
  | zero => obtain ⟨i, _, h2, _⟩ := h; omega
  | succ b ih =>
    by_cases hp : p b = true
    · rw [lastP_yes p b hp]
      obtain ⟨i, h1, h2, _⟩ := h
      omega
    · rw [lastP_no p b (by simpa using hp)]
      obtain ⟨i, h1, h2, h3⟩ := h
      refine ih ⟨i, h1, ?_, h3⟩
      rcases Nat.lt_or_ge i b with h | h
      · exact h
      · obtain rfl : i = b := by omega
        exact absurd h3 hp

/-- the word of it. -/
def wordP (p : Nat → Bool) (r : Nat) : Int := if 0 ≤ lastP p r then lastP p r / 64 else -1

/-- a word of a mask is empty just where p holds nowhere in it. -/
theorem word_zero (X : Nat) (p : Nat → Bool) (n t : Nat) (hX : X < 18446744073709551616) (h : ∀ b, b < 64 → X.testBit b = (decide (64 * t + b < n) && p (64 * t + b))) :
    X = 0 ↔ ∀ i, 64 * t ≤ i → i < 64 * (t + 1) → i < n → p i = false := by
  constructor
  · intro h0 i h1 h2 h3
    have hb := h (i - 64 * t) (by omega)
    rw [h0, Nat.zero_testBit, show 64 * t + (i - 64 * t) = i by omega] at hb
    simp [h3] at hb
    exact hb
  · intro h0
    apply Nat.eq_of_testBit_eq
    intro b
    rw [Nat.zero_testBit]
    by_cases hb : b < 64
    · rw [h b hb]
      by_cases hn : 64 * t + b < n
      · rw [h0 (64 * t + b) (by omega) (by omega) hn]; simp
      · simp [hn]
    · exact Nat.testBit_lt_two_pow (Nat.lt_of_lt_of_le hX (by
        have : (2 : Nat) ^ 64 ≤ 2 ^ b := Nat.pow_le_pow_right (by decide) (by omega)
        simpa using this))

theorem wordP_step (X : Nat) (p : Nat → Bool) (n t : Nat) (hX : X < 18446744073709551616) (h : ∀ b, b < 64 → X.testBit b = (decide (64 * t + b < n) && p (64 * t + b))) (ht : 64 * t ≤ n) :
    wordP p (min n (64 * (t + 1))) = if X = 0 then wordP p (min n (64 * t)) else (t : Int) := by
  have hz := word_zero X p n t hX h
  by_cases h0 : X = 0
  · rw [if_pos h0]
    have := hz.1 h0
    unfold wordP
    rw [lastP_skip p (min n (64 * t)) (min n (64 * (t + 1))) (by omega) (fun i h1 h2 => this i (by omega) (by omega) (by omega))]
  · rw [if_neg h0]
    have hex : ∃ i, 64 * t ≤ i ∧ i < min n (64 * (t + 1)) ∧ p i = true := by
      refine Classical.byContradiction fun hne => h0 (hz.2 fun i h1 h2 h3 => ?_)
      cases hp : p i
      · rfl
      · exact absurd ⟨i, h1, by omega, hp⟩ hne
    have h1 := lastP_hit p (64 * t) (min n (64 * (t + 1))) hex
    have h2 := lastP_bd p (min n (64 * (t + 1)))
    unfold wordP
    rw [if_pos (by omega)]
    omega

def pBar (K C : Nat → Int) (i : Nat) : Bool := K i == 5 || (K i == 4 || (K i == 0 && C i == 47))

theorem barW_eq (K C : Nat → Int) (n t : Nat) (ht : t ≤ (n + 63) / 64) : barW K C n t = wordP (pBar K C) (min n (64 * t)) ∧ endW K C n t = wordP (pEnd K) (min n (64 * t)) := by
  induction t with
  | zero => simp [barW, endW, wordP, lastP]
  | succ t ih =>
    obtain ⟨i1, i2⟩ := ih (by omega)
    constructor
    · rw [wordP_step (maskAt K C n t 2 ||| maskAt K C n t 1 ||| maskAt K C n t 6) (pBar K C) n t (Nat.or_lt_two_pow (n := 64) (Nat.or_lt_two_pow (n := 64) (maskAt_lt _ _ _ _ _) (maskAt_lt _ _ _ _ _)) (maskAt_lt _ _ _ _ _)) (fun b hb => ?_) (by omega), barW, i1]
      rw [Nat.testBit_or, Nat.testBit_or]
      simp only [maskAt, Nat.reduceEqDiff, if_true, if_false]
      rw [mk_testBit _ _ _ _ hb, mk_testBit _ _ _ _ hb, mk_testBit _ _ _ _ hb]
      unfold pBar pSl pDS pEnd
      cases decide (64 * t + b < n) <;> cases K (64 * t + b) == 5 <;> cases K (64 * t + b) == 4 <;> cases K (64 * t + b) == 0 <;> cases C (64 * t + b) == 47 <;> rfl
    · rw [wordP_step (maskAt K C n t 6) (pEnd K) n t (maskAt_lt _ _ _ _ _) (fun b hb => ?_) (by omega), endW, i2]
      simp only [maskAt, Nat.reduceEqDiff, if_true, if_false]
      rw [mk_testBit _ _ _ _ hb]

theorem barW_mono (K C : Nat → Int) (n t : Nat) : barW K C n t ≤ barW K C n (t + 1) ∧ endW K C n t ≤ endW K C n (t + 1) := by
  have h1 := barW_bd K C n t
  have h2 := endW_bd K C n t
  constructor
  · rw [barW]; split <;> omega
  · rw [endW]; split <;> omega
theorem endW_le (K C : Nat → Int) (n t : Nat) : endW K C n t ≤ barW K C n t := by
  induction t with
  | zero => simp [barW, endW]
  | succ t ih =>
    have h1 := endW_bd K C n t
    have h2 := barW_mono K C n t
    rw [endW]
    split
    · omega
    · rename_i h
      rw [barW, if_neg (fun e => h (Nat.or_eq_zero_iff.1 e).2)]
      omega

end Go.Proofs.Qxb6000847a
