import Derived.Test.Qxb6000847aBar
namespace Go.Proofs.Qxb6000847a

/-! fillDown and the sweep over the steps from the last down. No Go here. -/
def fdF (f p : Nat) : Nat → Nat × Nat
  | 0 => (f, p)
  | i + 1 => ((fdF f p i).1 ||| ((fdF f p i).2 &&& ((fdF f p i).1 >>> 2 ^ i)), (fdF f p i).2 &&& ((fdF f p i).2 >>> 2 ^ i))

theorem fdF_bits (f p i : Nat) : ∀ b, ((fdF f p i).1.testBit b = true ↔ ∃ c, b ≤ c ∧ c < b + 2 ^ i ∧ f.testBit c = true ∧ ∀ r, b ≤ r → r < c → p.testBit r = true)
    ∧ ((fdF f p i).2.testBit b = true ↔ ∀ r, b ≤ r → r < b + 2 ^ i → p.testBit r = true) := by
  induction i with
  | zero =>
    intro b
    constructor
    · constructor
      · intro h
        exact ⟨b, Nat.le_refl _, by simp, h, fun r h1 h2 => by omega⟩
      · rintro ⟨c, h1, h2, h3, _⟩
        obtain rfl : c = b := by simp at h2; omega
        exact h3
    · constructor
      · intro h r h1 h2
        obtain rfl : r = b := by simp at h2; omega
        exact h
      · intro h
        exact h b (Nat.le_refl _) (by simp)
  | succ i ih =>
    intro b
    have e2 : 2 ^ (i + 1) = 2 ^ i + 2 ^ i := by rw [Nat.pow_succ]; omega
    have hs : ∀ x : Nat, (x >>> 2 ^ i).testBit b = x.testBit (b + 2 ^ i) := fun x => by rw [Nat.testBit_shiftRight, Nat.add_comm]
    obtain ⟨a1, a2⟩ := ih b
    obtain ⟨b1, b2⟩ := ih (b + 2 ^ i)
    constructor
    · rw [fdF]
      simp only [Nat.testBit_or, Nat.testBit_and, hs, Bool.or_eq_true, Bool.and_eq_true, a1, a2, b1]
      constructor
      · rintro (⟨c, h1, h2, h3, h4⟩ | ⟨h5, c, h1, h2, h3, h4⟩)
        · exact ⟨c, h1, by omega, h3, h4⟩
        · refine ⟨c, by omega, by omega, h3, fun r h6 h7 => ?_⟩
          by_cases h8 : r < b + 2 ^ i
          · exact h5 r h6 h8
          · exact h4 r (by omega) h7
      · rintro ⟨c, h1, h2, h3, h4⟩
        by_cases h8 : c < b + 2 ^ i
        · exact .inl ⟨c, h1, h8, h3, h4⟩
        · exact .inr ⟨fun r h6 h7 => h4 r h6 (by omega), c, by omega, by omega, h3, fun r h6 h7 => h4 r (by omega) h7⟩
    · rw [fdF]
      simp only [Nat.testBit_and, hs, Bool.and_eq_true, a2, b2]
      constructor
      · rintro ⟨h1, h2⟩ r h3 h4
        by_cases h8 : r < b + 2 ^ i
        · exact h1 r h3 h8
        · exact h2 r (by omega) (by omega)
      · intro h
        exact ⟨fun r h1 h2 => h r h1 (by omega), fun r h1 h2 => h r (by omega) (by omega)⟩

theorem fdF_lt (f p i : Nat) (hf : f < 18446744073709551616) (hp : p < 18446744073709551616) : (fdF f p i).1 < 18446744073709551616 ∧ (fdF f p i).2 < 18446744073709551616 := by
  induction i with
  | zero => exact ⟨hf, hp⟩
  | succ i ih =>
    obtain ⟨h1, h2⟩ := ih
    rw [fdF]
    exact ⟨Nat.or_lt_two_pow (n := 64) h1 (Nat.lt_of_le_of_lt Nat.and_le_left h2), Nat.lt_of_le_of_lt Nat.and_le_left h2⟩

/-- what fillDown returns. -/
def fd (f p : Nat) : Nat := (fdF f p 6).1

theorem fd_lt (f p : Nat) (hf : f < 18446744073709551616) (hp : p < 18446744073709551616) : fd f p < 18446744073709551616 := (fdF_lt f p 6 hf hp).1

theorem bit_high {x b : Nat} (h : x < 18446744073709551616) (hb : 64 ≤ b) : x.testBit b = false :=
  Nat.testBit_lt_two_pow (Nat.lt_of_lt_of_le h (by have : (2 : Nat) ^ 64 ≤ 2 ^ b := Nat.pow_le_pow_right (by decide) hb; simpa using this))

theorem fd_step (f p b : Nat) (hf : f < 18446744073709551616) : (fd f p).testBit b = (f.testBit b || (p.testBit b && (fd f p).testBit (b + 1))) := by
  rw [Bool.eq_iff_iff]
  simp only [Bool.or_eq_true, Bool.and_eq_true]
  unfold fd
  rw [(fdF_bits f p 6 b).1, (fdF_bits f p 6 (b + 1)).1]
  constructor
  · rintro ⟨c, h1, h2, h3, h4⟩
    by_cases e : c = b
    · subst e; exact .inl h3
    · exact .inr ⟨h4 b (Nat.le_refl _) (by omega), c, by omega, by omega, h3, fun r h5 h6 => h4 r (by omega) h6⟩
  · rintro (h | ⟨h0, c, h1, h2, h3, h4⟩)
    · exact ⟨b, Nat.le_refl _, by omega, h, fun r h1 h2 => by omega⟩
    · have hc : c < 64 := by
        rcases Nat.lt_or_ge c 64 with h | h
        · exact h
        · rw [bit_high hf h] at h3; cases h3
      refine ⟨c, by omega, by omega, h3, fun r h5 h6 => ?_⟩
      by_cases e : r = b
      · subst e; exact h0
      · exact h4 r (by omega) h6

/-- the state of a sweep from position N - 1 down, behind d positions: 'stop' ends it, 'go' begins it. -/
def sw (stop go : Nat → Bool) (N : Nat) : Nat → Bool
  | 0 => false
  | d + 1 => (sw stop go N d && !stop (N - 1 - d)) || go (N - 1 - d)
/-- the state in which position p is met. -/
def onAt (stop go : Nat → Bool) (N p : Nat) : Bool := sw stop go N (N - 1 - p)

theorem onAt_top (stop go : Nat → Bool) (N : Nat) : onAt stop go N (N - 1) = false := by
  unfold onAt; rw [Nat.sub_self]; rfl
theorem onAt_step (stop go : Nat → Bool) (N p : Nat) (h : p + 1 < N) : onAt stop go N p = ((onAt stop go N (p + 1) && !stop (p + 1)) || go (p + 1)) := by
  unfold onAt
  rw [show N - 1 - p = (N - 1 - (p + 1)) + 1 by omega, sw, show N - 1 - (N - 1 - (p + 1)) = p + 1 by omega]

theorem word_sweep (stop go : Nat → Bool) (N t F P : Nat) (ht : 64 * (t + 1) ≤ N) (hF : ∀ b, b < 63 → F.testBit b = go (64 * t + b + 1)) (hF63 : F.testBit 63 = onAt stop go N (64 * t + 63))
    (hFl : F < 18446744073709551616) (hP : ∀ b, b < 64 → P.testBit b = !stop (64 * t + b)) (b : Nat) (hb : b < 64) :
    (fd (F &&& P) P).testBit b = (!stop (64 * t + b) && onAt stop go N (64 * t + b)) := by
  have hl : F &&& P < 18446744073709551616 := Nat.lt_of_le_of_lt Nat.and_le_left hFl
  have key : ∀ d, d < 64 → (fd (F &&& P) P).testBit (63 - d) = (!stop (64 * t + (63 - d)) && onAt stop go N (64 * t + (63 - d))) := by
    intro d
    induction d with
    | zero =>
      intro _
      have h64 : (fd (F &&& P) P).testBit 64 = false := by
        unfold fd
        cases h : (fdF (F &&& P) P 6).1.testBit 64 with
        | false => rfl
        | true =>
          obtain ⟨c, h1, _, h3, _⟩ := (fdF_bits (F &&& P) P 6 64).1.1 h
          rw [bit_high hl h1] at h3
          cases h3
      rw [fd_step _ _ _ hl, Nat.sub_zero, h64, Nat.testBit_and, hF63, hP 63 (by omega)]
      cases stop (64 * t + 63) <;> cases onAt stop go N (64 * t + 63) <;> rfl
    | succ d ih =>
      intro hd
      have i0 := ih (by omega)
      rw [show 63 - d = 63 - (d + 1) + 1 by omega] at i0
      rw [fd_step _ _ _ hl, i0, Nat.testBit_and, hF _ (by omega), hP _ (by omega), onAt_step stop go N (64 * t + (63 - (d + 1))) (by omega)]
      rw [show 64 * t + (63 - (d + 1) + 1) = 64 * t + (63 - (d + 1)) + 1 by omega]
      cases stop (64 * t + (63 - (d + 1))) <;> cases go (64 * t + (63 - (d + 1)) + 1) <;> cases stop (64 * t + (63 - (d + 1)) + 1) <;> cases onAt stop go N (64 * t + (63 - (d + 1)) + 1) <;> rfl
  have := key (63 - b) (by omega)
  rw [show 63 - (63 - b) = b by omega] at this
  exact this

/-- words without a reached step. -/
theorem skip_yes (stop go : Nat → Bool) (N x y : Nat) (hx : 0 < x) (hxy : x ≤ y) (hy : y ≤ N) (hg : ∀ p, x ≤ p → p < y → go p = false) (hs : ∀ p, x ≤ p → p < y → stop p = false) :
    onAt stop go N (x - 1) = onAt stop go N (y - 1) := by
  induction y with
  | zero => omega
  | succ y ih =>
    by_cases e : x = y + 1
    · subst e; rfl
    · rw [ih (by omega) (by omega) (fun p h1 h2 => hg p h1 (by omega)) (fun p h1 h2 => hs p h1 (by omega))]
      rw [show y + 1 - 1 = y - 1 + 1 by omega, onAt_step stop go N (y - 1) (by omega), show y - 1 + 1 = y by omega, hg y (by omega) (by omega), hs y (by omega) (by omega)]
      simp
theorem skip_no (stop go : Nat → Bool) (N x y : Nat) (hx : 0 < x) (hy : y ≤ N) (hg : ∀ p, x ≤ p → p < y → go p = false) (hs : ∃ p, x ≤ p ∧ p < y ∧ stop p = true) :
    onAt stop go N (x - 1) = false := by
  obtain ⟨p, h1, h2, h3⟩ := hs
  -- the lowest such position is not needed: below p the state is false and stays false
  have key : ∀ d, x ≤ p - d → d ≤ p - x → onAt stop go N (p - d - 1) = false := by
    intro d
    induction d with
    | zero =>
      intro _ _
      rw [onAt_step stop go N (p - 0 - 1) (by omega), show p - 0 - 1 + 1 = p by omega, h3, hg p h1 h2]
      simp
    | succ d ih =>
      intro h4 h5
      have i0 := ih (by omega) (by omega)
      rw [onAt_step stop go N (p - (d + 1) - 1) (by omega), show p - (d + 1) - 1 + 1 = p - d - 1 by omega, i0, hg (p - d - 1) (by omega) (by omega)]
      simp
  have := key (p - x) (by omega) (Nat.le_refl _)
  rw [show p - (p - x) - 1 = x - 1 by omega] at this
  exact this

/-- a sweep's state grows with what begins it. -/
theorem sw_mono (stop go go' : Nat → Bool) (N d : Nat) (h : ∀ p, go' p = true → go p = true) (hd : sw stop go' N d = true) : sw stop go N d = true := by
  induction d with
  | zero => exact hd
  | succ d ih =>
    rw [sw] at hd ⊢
    simp only [Bool.or_eq_true, Bool.and_eq_true] at hd ⊢
    rcases hd with ⟨h1, h2⟩ | h1
    · exact .inl ⟨ih h1, h2⟩
    · exact .inr (h _ h1)

end Go.Proofs.Qxb6000847a
