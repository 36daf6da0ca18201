import Derived.RowKit
import Derived.Laws.Bits64b
import Derived.Laws.BitsLemmas
namespace Go.Proofs.Qxb6000847a
open Go.RowKit

/-! The codes in ascending order: of each the character's half and the step's half; how they are gathered into words and groups. -/
def cd (l : List Int) (k : Nat) : Int := l.getD k 0
def hi (l : List Int) (k : Nat) : Int := cd l k / 4294967296
def ix (l : List Int) (k : Nat) : Nat := (cd l k % 4294967296).toNat
def chr (l : List Int) (k : Nat) : Int := wrap32 (hi l k)
/-- the code k begins a new word. -/
def trans (l : List Int) (k : Nat) : Bool := k == 0 || (!(hi l k == hi l (k - 1)) || !(ix l k / 64 == ix l (k - 1) / 64))
/-- .. a new group. -/
def newG (l : List Int) (k : Nat) : Bool := k == 0 || !(chr l k == chr l (k - 1))
def szOf (l : List Int) : Nat → Nat
  | 0 => 0
  | k + 1 => if trans l k then szOf l k + 1 else szOf l k
def wordsOf (l : List Int) : Nat → Nat → Nat × Nat
  | 0 => fun _ => (0, 0)
  | k + 1 => fun t => if trans l k then (if t = szOf l k then (ix l k / 64, 2 ^ (ix l k % 64)) else wordsOf l k t)
      else (if t + 1 = szOf l k then ((wordsOf l k t).1, (wordsOf l k t).2 ||| 2 ^ (ix l k % 64)) else wordsOf l k t)
def gl (l : List Int) : Nat → List (Int × Nat)
  | 0 => []
  | k + 1 => if newG l k then gl l k ++ [(chr l k, szOf l k)] else gl l k

theorem szOf_le (l : List Int) (k : Nat) : szOf l k ≤ k := by
  induction k with
  | zero => exact Nat.le_refl _
  | succ k ih => unfold szOf; split <;> omega
theorem szOf_mono (l : List Int) (k m : Nat) (h : k ≤ m) : szOf l k ≤ szOf l m := by
  induction m with
  | zero => obtain rfl : k = 0 := by omega
            exact Nat.le_refl _
  | succ m ih =>
    by_cases e : k = m + 1
    · subst e; exact Nat.le_refl _
    · have := ih (by omega)
      conv => rhs; unfold szOf
      split <;> omega
theorem szOf_yes (l : List Int) (k : Nat) (h : trans l k = true) : szOf l (k + 1) = szOf l k + 1 := by rw [szOf, if_pos h]
theorem szOf_no (l : List Int) (k : Nat) (h : trans l k = false) : szOf l (k + 1) = szOf l k := by rw [szOf, if_neg (by simp [h])]

theorem trans_hi {l : List Int} {k : Nat} (_ : ¬ k = 0) (h : ¬ cd l k / 4294967296 = cd l (k - 1) / 4294967296) : trans l k = true := by
  unfold trans hi; simp [h]
theorem trans_ix {l : List Int} {k : Nat} (h : (cd l k % 4294967296 / 64 != cd l (k - 1) % 4294967296 / 64) = true) : trans l k = true := by
  have h' : cd l k % 4294967296 / 64 ≠ cd l (k - 1) % 4294967296 / 64 := by simpa using h
  have : ¬ ix l k / 64 = ix l (k - 1) / 64 := by unfold ix; omega
  unfold trans; simp [this]
theorem trans_not {l : List Int} {k : Nat} (h0 : ¬ k = 0) (h : cd l k / 4294967296 = cd l (k - 1) / 4294967296) (h2 : (cd l k % 4294967296 / 64 != cd l (k - 1) % 4294967296 / 64) = false) : trans l k = false := by
  have h' : cd l k % 4294967296 / 64 = cd l (k - 1) % 4294967296 / 64 := by simpa using h2
  have : ix l k / 64 = ix l (k - 1) / 64 := by unfold ix; omega
  unfold trans hi; simp [this, h, h0]

theorem trans_of_newG {l : List Int} {k : Nat} (h : newG l k = true) : trans l k = true := by
  unfold newG at h
  unfold trans
  by_cases h0 : k = 0
  · simp [h0]
  · have h1 : ¬ chr l k = chr l (k - 1) := by simpa [h0] using h
    have h2 : ¬ hi l k = hi l (k - 1) := fun e => h1 (by unfold chr; rw [e])
    simp [h2]
theorem szOf_lt_of (l : List Int) (k m : Nat) (h : k < m) (ht : trans l k = true) : szOf l k < szOf l m := by
  have := szOf_mono l (k + 1) m h
  rw [szOf_yes l k ht] at this
  omega
/-- where group e begins (the words' end behind the last). -/
def stAt (l : List Int) (k e : Nat) : Nat := ((gl l k).getD e (0, szOf l k)).2
def chAt (l : List Int) (k e : Nat) : Int := ((gl l k).getD e (0, szOf l k)).1

theorem newG_of {l : List Int} {k : Nat} (_ : 0 < k) (h : ¬ chr l k = chr l (k - 1)) : newG l k = true := by
  unfold newG; simp [h]
theorem wrap32_inj {x y : Int} (hx : 0 ≤ x ∧ x < 4294967296) (hy : 0 ≤ y ∧ y < 4294967296) (h : wrap32 x = wrap32 y) : x = y := by
  unfold wrap32 at h; omega

end Go.Proofs.Qxb6000847a
