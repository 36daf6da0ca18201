import Derived.Test.Qxb6000847aPr4
import Derived.Test.Qxb6000847aIdm
namespace Go.Proofs.Qxb6000847a
open Go.RowKit
set_option linter.unusedSimpArgs false
set_option linter.unusedVariables false

/-- the dense words: the reached bits of word t. -/
def dnW (M : Nat) (A B : Nat → Nat) (t : Nat) : Nat := mk (rch M A B) t (64 * (t + 1))
theorem dnW_bit (M : Nat) (A B : Nat → Nat) (t b : Nat) (hb : b < 64) : (dnW M A B t).testBit b = rch M A B (64 * t + b) := by
  unfold dnW
  rw [mk_testBit _ _ _ _ hb, decide_eq_true (by omega), Bool.true_and]
theorem dnW_lt (M : Nat) (A B : Nat → Nat) (t : Nat) : dnW M A B t < 18446744073709551616 := mk_lt _ _ _
theorem dnW_at {M nw : Nat} {A B : Nat → Nat} (h : Inc A M nw) {i : Nat} (hi : i < M) (hB : B i < 18446744073709551616) : dnW M A B (A i) = B i :=
  word_ext (dnW_lt _ _ _ _) hB fun b hb => by rw [dnW_bit _ _ _ _ _ hb, rch_at h hi hb]
theorem dnW_none {M : Nat} {A B : Nat → Nat} {t : Nat} (h : ∀ i, i < M → A i ≠ t) : dnW M A B t = 0 :=
  word_ext (dnW_lt _ _ _ _) (by decide) fun b hb => by
    rw [dnW_bit _ _ _ _ _ hb, Nat.zero_testBit]
    exact rch_none fun i hi => by rw [show (64 * t + b) / 64 = t by omega]; exact h i hi

/-- keep, when the sweep has come down to position p: the positions from p on are pruned. -/
def kpP (K C : Nat → Int) (n M : Nat) (A B : Nat → Nat) (p q : Nat) : Bool := if p ≤ q then keepP K C n M A B q else rch M A B q
def kpW (K C : Nat → Int) (n M : Nat) (A B : Nat → Nat) (p t : Nat) : Nat := mk (kpP K C n M A B p) t (64 * (t + 1))
theorem kpW_bit (K C : Nat → Int) (n M : Nat) (A B : Nat → Nat) (p t b : Nat) (hb : b < 64) : (kpW K C n M A B p t).testBit b = kpP K C n M A B p (64 * t + b) := by
  unfold kpW
  rw [mk_testBit _ _ _ _ hb, decide_eq_true (by omega), Bool.true_and]
theorem kpW_lt (K C : Nat → Int) (n M : Nat) (A B : Nat → Nat) (p t : Nat) : kpW K C n M A B p t < 18446744073709551616 := mk_lt _ _ _
theorem kpW_top (K C : Nat → Int) (n M : Nat) (A B : Nat → Nat) (t : Nat) (ht : t < (n + 63) / 64) : kpW K C n M A B (NN n) t = dnW M A B t :=
  word_ext (kpW_lt _ _ _ _ _ _ _ _) (dnW_lt _ _ _ _) fun b hb => by
    rw [kpW_bit _ _ _ _ _ _ _ _ _ hb, dnW_bit _ _ _ _ _ hb]
    unfold kpP NN
    rw [if_neg (by omega)]
theorem kpW_zero (K C : Nat → Int) (n M : Nat) (A B : Nat → Nat) (t : Nat) : kpW K C n M A B 0 t = keepW K C n M A B t :=
  word_ext (kpW_lt _ _ _ _ _ _ _ _) (keepW_lt _ _ _ _ _ _ _) fun b hb => by
    rw [kpW_bit _ _ _ _ _ _ _ _ _ hb, keepW_bit _ _ _ _ _ _ _ _ hb]
    unfold kpP
    rw [if_pos (Nat.zero_le _)]
/-- one position: another word stays. -/
theorem kpW_other (K C : Nat → Int) (n M : Nat) (A B : Nat → Nat) (p t : Nat) (h : t ≠ p / 64) : kpW K C n M A B p t = kpW K C n M A B (p + 1) t :=
  word_ext (kpW_lt _ _ _ _ _ _ _ _) (kpW_lt _ _ _ _ _ _ _ _) fun b hb => by
    rw [kpW_bit _ _ _ _ _ _ _ _ _ hb, kpW_bit _ _ _ _ _ _ _ _ _ hb]
    unfold kpP
    have : (p ≤ 64 * t + b) ↔ (p + 1 ≤ 64 * t + b) := by omega
    simp only [this]
/-- .. its own word stays where the step is not dropped. -/
theorem kpW_stay (K C : Nat → Int) (n M : Nat) (A B : Nat → Nat) (p : Nat) (h : keepP K C n M A B p = rch M A B p) : kpW K C n M A B p (p / 64) = kpW K C n M A B (p + 1) (p / 64) :=
  word_ext (kpW_lt _ _ _ _ _ _ _ _) (kpW_lt _ _ _ _ _ _ _ _) fun b hb => by
    rw [kpW_bit _ _ _ _ _ _ _ _ _ hb, kpW_bit _ _ _ _ _ _ _ _ _ hb]
    unfold kpP
    by_cases e : 64 * (p / 64) + b = p
    · rw [e, if_pos (Nat.le_refl _), if_neg (by omega), h]
    · have : (p ≤ 64 * (p / 64) + b) ↔ (p + 1 ≤ 64 * (p / 64) + b) := by omega
      simp only [this]
/-- .. loses the bit where it is. -/
theorem kpW_drop (K C : Nat → Int) (n M : Nat) (A B : Nat → Nat) (p : Nat) (h : keepP K C n M A B p = false) : kpW K C n M A B p (p / 64) = kpW K C n M A B (p + 1) (p / 64) &&& notW (2 ^ (p % 64)) :=
  word_ext (kpW_lt _ _ _ _ _ _ _ _) (Nat.lt_of_le_of_lt Nat.and_le_left (kpW_lt _ _ _ _ _ _ _ _)) fun b hb => by
    rw [kpW_bit _ _ _ _ _ _ _ _ _ hb, Nat.testBit_and, kpW_bit _ _ _ _ _ _ _ _ _ hb, notW_bit _ _ hb, Nat.testBit_two_pow]
    unfold kpP
    by_cases e : p % 64 = b
    · have e2 : 64 * (p / 64) + b = p := by omega
      rw [e2, if_pos (Nat.le_refl _), h, decide_eq_true e]
      simp
    · have : (p ≤ 64 * (p / 64) + b) ↔ (p + 1 ≤ 64 * (p / 64) + b) := by omega
      rw [decide_eq_false e]
      simp only [this, Bool.not_false, Bool.and_true]

end Go.Proofs.Qxb6000847a
