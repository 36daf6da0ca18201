import Derived.Test.Qxb6000847aZwalk
namespace Go.Proofs.Qxb6000847a
open Go.RowKit

theorem zz8 (a0 : Option Addr) (n c0 : Nat) (a1 : Option Addr) (m c1 : Nat) (w : World) :
    Calls Try.prog 8 #[.slice a0 n c0, .slice a1 m c1] w fun e w' => (∃ b, e = .returned (.bool b)) ∧ w = w' := by
  go_enter Try.func8, Try.ntmps8
  go_wp2
  all_goals (go_ret; exact ⟨⟨_, rfl⟩, rfl⟩)
theorem zz11 (a0 : Option Addr) (n c0 : Nat) (a1 : Option Addr) (m c1 : Nat) (w : World) :
    Calls Try.prog 11 #[.slice a0 n c0, .slice a1 m c1] w fun e w' => (∃ b, e = .returned (.bool b)) ∧ w = w' := by
  go_enter Try.func11, Try.ntmps11
  go_wp2
  all_goals (go_ret; exact ⟨⟨_, rfl⟩, rfl⟩)
theorem zz12 (a0 : Option Addr) (n c0 : Nat) (a1 : Option Addr) (m c1 : Nat) (w : World) :
    Calls Try.prog 12 #[.slice a0 n c0, .slice a1 m c1] w fun e w' => (∃ b, e = .returned (.bool b)) ∧ w = w' := by
  go_enter Try.func12, Try.ntmps12
  go_wp2
  all_goals (go_ret; exact ⟨⟨_, rfl⟩, rfl⟩)

theorem and_bit (Y b : Nat) (hY : Y < 18446744073709551616) (hb : b < 64) : (bits .and .u64 (Y : Int) ((2 ^ b : Nat) : Int) != 0) = Y.testBit b := by
  rw [bits_and_u64_nat _ _ hY (by have := Nat.pow_lt_pow_right (a := 2) (by decide) hb; simpa using this)]
  rw [Bool.eq_iff_iff, bne_iff_ne]
  cases h : Y.testBit b
  · have : Y &&& 2 ^ b = 0 := by
      apply Nat.eq_of_testBit_eq
      intro i
      rw [Nat.testBit_and, Nat.testBit_two_pow, Nat.zero_testBit]
      by_cases e : b = i
      · subst e; simp [h]
      · simp [e]
    simp [this]
  · have : Y &&& 2 ^ b ≠ 0 := by
      intro h0
      have h1 : (Y &&& 2 ^ b).testBit b = true := by rw [Nat.testBit_and, Nat.testBit_two_pow, h]; simp
      rw [h0, Nat.zero_testBit] at h1
      cases h1
    simp only [iff_true]
    omega

/-- what the masks say of step i. -/
theorem maskAt_bit (K C : Nat → Int) (n i : Nat) : (maskAt K C n (i / 64) 0).testBit (i % 64) = (decide (i < n) && pRun K i) ∧ (maskAt K C n (i / 64) 1).testBit (i % 64) = (decide (i < n) && pDS K i) ∧
    (maskAt K C n (i / 64) 2).testBit (i % 64) = (decide (i < n) && pSl K C i) ∧ (maskAt K C n (i / 64) 4).testBit (i % 64) = (decide (i < n) && pAny K i) ∧ (maskAt K C n (i / 64) 5).testBit (i % 64) = (decide (i < n) && pCls K i) ∧
    (maskAt K C n (i / 64) 6).testBit (i % 64) = (decide (i < n) && pEnd K i) ∧ (maskAt K C n (i / 64) 7).testBit (i % 64) = (decide (i < n - 1) && pEDS K i) := by
  have e : 64 * (i / 64) + i % 64 = i := by omega
  have h : i % 64 < 64 := by omega
  simp only [maskAt, Nat.reduceEqDiff, if_true, if_false]
  refine ⟨?_, ?_, ?_, ?_, ?_, ?_, ?_⟩ <;> (rw [mk_testBit _ _ _ _ h, e])

theorem bit_q (Y i : Nat) (hY : Y < 18446744073709551616) : (bits .and .u64 (Y : Int) (IntKind.u64.wrap ((2 : Int) ^ (i % 64))) != 0) = Y.testBit (i % 64) := by
  rw [wrap_pow]; exact and_bit Y (i % 64) hY (by omega)

/-- the steps as normSteps makes them. -/
def nK (K : Nat → Int) : Nat → Int := fun i => K i % 6
def nC (m : Nat) (C : Nat → Int) : Nat → Int := fun i => if i < m then C i else 0

end Go.Proofs.Qxb6000847a
