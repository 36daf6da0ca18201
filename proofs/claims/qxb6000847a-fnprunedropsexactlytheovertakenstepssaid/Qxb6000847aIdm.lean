import Derived.Test.Qxb6000847aPr2
namespace Go.Proofs.Qxb6000847a
set_option linter.unusedVariables false

/-! Pruning what prune left changes nothing. No Go here. -/
theorem cmp_yes {Z : Nat → Nat} {r : Nat} (h : ¬ Z r = 0) : cmp Z (r + 1) = cmp Z r ++ [r] := by rw [cmp, if_neg h]
theorem cmp_no {Z : Nat → Nat} {r : Nat} (h : Z r = 0) : cmp Z (r + 1) = cmp Z r := by rw [cmp, if_pos h]

theorem cmp_get (Z : Nat → Nat) (r : Nat) : (∀ j, j < (cmp Z r).length → (cmp Z r).getD j 0 < r ∧ Z ((cmp Z r).getD j 0) ≠ 0) ∧ (∀ j, j + 1 < (cmp Z r).length → (cmp Z r).getD j 0 < (cmp Z r).getD (j + 1) 0) := by
  induction r with
  | zero => exact ⟨fun j hj => by simp [cmp] at hj, fun j hj => by simp [cmp] at hj⟩
  | succ r ih =>
    obtain ⟨i1, i2⟩ := ih
    by_cases h : Z r = 0
    · rw [cmp_no h]
      exact ⟨fun j hj => ⟨by have := (i1 j hj).1; omega, (i1 j hj).2⟩, i2⟩
    · rw [cmp_yes h]
      have e1 : ∀ j, j < (cmp Z r).length → (cmp Z r ++ [r]).getD j 0 = (cmp Z r).getD j 0 := fun j hj => by
        rw [List.getD_eq_getElem?_getD, List.getD_eq_getElem?_getD, List.getElem?_append_left hj]
      have e2 : (cmp Z r ++ [r]).getD (cmp Z r).length 0 = r := by simp
      refine ⟨fun j hj => ?_, fun j hj => ?_⟩
      · rw [List.length_append, List.length_singleton] at hj
        by_cases e : j = (cmp Z r).length
        · subst e; rw [e2]; exact ⟨Nat.lt_succ_self _, h⟩
        · rw [e1 j (by omega)]
          exact ⟨by have := (i1 j (by omega)).1; omega, (i1 j (by omega)).2⟩
      · rw [List.length_append, List.length_singleton] at hj
        rw [e1 j (by omega)]
        by_cases e : j + 1 = (cmp Z r).length
        · rw [e, e2]; exact (i1 j (by omega)).1
        · rw [e1 (j + 1) (by omega)]
          exact i2 j (by omega)

theorem cmp_full (Z : Nat → Nat) (r : Nat) (h : ∀ j, j < r → Z j ≠ 0) : (cmp Z r).length = r ∧ ∀ j, j < r → (cmp Z r).getD j 0 = j := by
  induction r with
  | zero => exact ⟨rfl, fun j hj => by omega⟩
  | succ r ih =>
    obtain ⟨i1, i2⟩ := ih (fun j hj => h j (by omega))
    rw [cmp_yes (h r (by omega))]
    refine ⟨by rw [List.length_append, i1]; rfl, fun j hj => ?_⟩
    by_cases e : j = r
    · have : (cmp Z r ++ [r]).getD (cmp Z r).length 0 = r := by simp
      rw [i1] at this
      rw [e]; exact this
    · rw [List.getD_eq_getElem?_getD, List.getElem?_append_left (by omega), ← List.getD_eq_getElem?_getD]
      exact i2 j (by omega)

section
variable (K C : Nat → Int) (n M : Nat) (A B : Nat → Nat)
/-- the bits kept of the reached word i. -/
def zOf (i : Nat) : Nat := keepW K C n M A B (A i)
def mOf : Nat := (cmp (zOf K C n M A B) M).length
def aOf (j : Nat) : Nat := A ((cmp (zOf K C n M A B) M).getD j 0)
def bOf (j : Nat) : Nat := zOf K C n M A B ((cmp (zOf K C n M A B) M).getD j 0)
end

theorem aOf_inc (K C : Nat → Int) (n M : Nat) (A B : Nat → Nat) (h : Inc A M ((n + 63) / 64)) : Inc (aOf K C n M A B) (mOf K C n M A B) ((n + 63) / 64) := by
  obtain ⟨g1, g2⟩ := cmp_get (zOf K C n M A B) M
  refine ⟨fun j hj => h.1 _ (g1 j hj).1, fun j hj => h.lt (g2 j hj) (g1 (j + 1) hj).1⟩

theorem rch_of (K C : Nat → Int) (n M : Nat) (A B : Nat → Nat) (p : Nat) (hp : rch (mOf K C n M A B) (aOf K C n M A B) (bOf K C n M A B) p = true) : keepP K C n M A B p = true := by
  obtain ⟨j, h1, h2, h3⟩ := (rch_iff _ _ _ p).1 hp
  have h4 : (keepW K C n M A B (A ((cmp (zOf K C n M A B) M).getD j 0))).testBit (p % 64) = true := h3
  have h5 : A ((cmp (zOf K C n M A B) M).getD j 0) = p / 64 := h2
  rw [h5, keepW_bit _ _ _ _ _ _ _ _ (Nat.mod_lt _ (by decide)), show 64 * (p / 64) + p % 64 = p by omega] at h4
  exact h4

theorem keep_again (K C : Nat → Int) (n M : Nat) (A B : Nat → Nat) (p : Nat) (hp : rch (mOf K C n M A B) (aOf K C n M A B) (bOf K C n M A B) p = true) :
    keepP K C n (mOf K C n M A B) (aOf K C n M A B) (bOf K C n M A B) p = true := by
  have hk := rch_of K C n M A B p hp
  have hr : ∀ q, rch (mOf K C n M A B) (aOf K C n M A B) (bOf K C n M A B) q = true → rch M A B q = true := fun q hq => by
    have := rch_of K C n M A B q hq
    unfold keepP at this
    simp only [Bool.and_eq_true] at this
    exact this.1
  have hS : onS K C n (mOf K C n M A B) (aOf K C n M A B) (bOf K C n M A B) p = true → onS K C n M A B p = true := fun h =>
    sw_mono _ _ _ _ _ (fun q hq => by
      unfold gSt at hq ⊢
      simp only [Bool.and_eq_true] at hq ⊢
      exact ⟨hr q hq.1, hq.2⟩) h
  have hD : onD K n (mOf K C n M A B) (aOf K C n M A B) (bOf K C n M A B) p = true → onD K n M A B p = true := fun h =>
    sw_mono _ _ _ _ _ (fun q hq => by
      unfold gDs at hq ⊢
      simp only [Bool.and_eq_true] at hq ⊢
      exact ⟨hr q hq.1, hq.2⟩) h
  unfold keepP at hk ⊢
  rw [hp]
  simp only [Bool.and_eq_true, Bool.not_eq_true', Bool.or_eq_false_iff, Bool.and_eq_false_iff, Bool.true_and] at hk ⊢
  refine ⟨?_, ?_⟩
  · rcases hk.2.1 with h | h
    · left
      cases e : onS K C n (mOf K C n M A B) (aOf K C n M A B) (bOf K C n M A B) p with
      | false => rfl
      | true => rw [hS e] at h; cases h
    · exact .inr h
  · rcases hk.2.2 with h | h
    · left
      cases e : onD K n (mOf K C n M A B) (aOf K C n M A B) (bOf K C n M A B) p with
      | false => rfl
      | true => rw [hD e] at h; cases h
    · exact .inr h

theorem z_again (K C : Nat → Int) (n M : Nat) (A B : Nat → Nat) (h : Inc A M ((n + 63) / 64)) (j : Nat) (hj : j < mOf K C n M A B) :
    zOf K C n (mOf K C n M A B) (aOf K C n M A B) (bOf K C n M A B) j = bOf K C n M A B j := by
  have hinc := aOf_inc K C n M A B h
  refine word_ext (keepW_lt _ _ _ _ _ _ _) (keepW_lt _ _ _ _ _ _ _) fun b hb => ?_
  unfold zOf
  rw [keepW_bit _ _ _ _ _ _ _ _ hb]
  have hr := rch_at (B := bOf K C n M A B) hinc hj hb
  cases e : (bOf K C n M A B j).testBit b with
  | false =>
    unfold keepP
    rw [hr, e]
    rfl
  | true =>
    exact keep_again K C n M A B _ (hr.trans e)

/-- the second pruning leaves what it finds. -/
theorem prune_again (K C : Nat → Int) (n M : Nat) (A B : Nat → Nat) (h : Inc A M ((n + 63) / 64)) :
    mOf K C n (mOf K C n M A B) (aOf K C n M A B) (bOf K C n M A B) = mOf K C n M A B
    ∧ ∀ j, j < mOf K C n M A B → aOf K C n (mOf K C n M A B) (aOf K C n M A B) (bOf K C n M A B) j = aOf K C n M A B j ∧ bOf K C n (mOf K C n M A B) (aOf K C n M A B) (bOf K C n M A B) j = bOf K C n M A B j := by
  have hnz : ∀ j, j < mOf K C n M A B → zOf K C n (mOf K C n M A B) (aOf K C n M A B) (bOf K C n M A B) j ≠ 0 := fun j hj => by
    rw [z_again K C n M A B h j hj]
    exact ((cmp_get (zOf K C n M A B) M).1 j hj).2
  obtain ⟨f1, f2⟩ := cmp_full _ _ hnz
  refine ⟨f1, fun j hj => ⟨?_, ?_⟩⟩
  · show aOf K C n M A B ((cmp (zOf K C n (mOf K C n M A B) (aOf K C n M A B) (bOf K C n M A B)) (mOf K C n M A B)).getD j 0) = _
    rw [f2 j hj]
  · show zOf K C n (mOf K C n M A B) (aOf K C n M A B) (bOf K C n M A B) ((cmp (zOf K C n (mOf K C n M A B) (aOf K C n M A B) (bOf K C n M A B)) (mOf K C n M A B)).getD j 0) = _
    rw [f2 j hj]
    exact z_again K C n M A B h j hj

end Go.Proofs.Qxb6000847a
