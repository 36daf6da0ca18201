import Derived.Test.Qxb6000847aMst3
namespace Go.Proofs.Qxb6000847a
open Go.RowKit

/-! The gathered words: what each bit of them stands for. No Go here. -/
def Asc (l : List Int) : Prop := ∀ q k, q < k → k < l.length → cd l q < cd l k

theorem chCode_inj {C : Nat → Int} {i j : Nat} (hi : i < 65536) (hj : j < 65536) (h : chCode C i = chCode C j) : i = j := by
  unfold chCode at h; omega

theorem chList_nodup (K C : Nat → Int) (n : Nat) (hn : n ≤ 65536) : (chList K C n).Nodup := by
  induction n with
  | zero => simp [chList]
  | succ r ih =>
    cases h : chStep K C r with
    | false => rw [chList_no K C r h]; exact ih (by omega)
    | true =>
      rw [chList_yes K C r h, List.nodup_append]
      refine ⟨ih (by omega), by simp, ?_⟩
      intro a ha b hb
      obtain ⟨i, hi, _, rfl⟩ := chList_mem K C r a ha
      obtain rfl : b = chCode C r := by simpa using hb
      intro e
      have := chCode_inj (by omega) (by omega) e
      omega

theorem asc_sorted (K C : Nat → Int) (n : Nat) (hn : n ≤ 65536) : Asc ((chList K C n).mergeSort fun x y => decide (x ≤ y)) := by
  have hp : (((chList K C n).mergeSort fun x y => decide (x ≤ y))).Pairwise (fun x y => decide (x ≤ y) = true) :=
    List.pairwise_mergeSort (le := fun x y : Int => decide (x ≤ y)) (fun a b c h1 h2 => by simp at h1 h2 ⊢; omega) (fun a b => by simp; omega) _
  have hd : ((chList K C n).mergeSort fun x y => decide (x ≤ y)).Nodup := (List.mergeSort_perm _ _).nodup_iff.2 (chList_nodup K C n hn)
  generalize (chList K C n).mergeSort (fun x y => decide (x ≤ y)) = l at hp hd ⊢
  intro q k hqk hk
  have hq : q < l.length := by omega
  have e1 : cd l q = l[q] := by simp [cd, hq]
  have e2 : cd l k = l[k] := by simp [cd, hk]
  rw [e1, e2]
  have h1 := List.pairwise_iff_getElem.1 hp q k hq hk hqk
  have h2 := List.pairwise_iff_getElem.1 hd q k hq hk hqk
  simp at h1
  omega

/-- the word that the code q goes to. -/
def wd (l : List Int) (q : Nat) : Nat := szOf l (q + 1) - 1

theorem szOf_pos (l : List Int) (q : Nat) : 0 < szOf l (q + 1) := by
  have h := szOf_mono l 1 (q + 1) (by omega)
  have : szOf l 1 = 1 := by rw [szOf_yes l 0 (by simp [trans])]; rfl
  omega

theorem not_trans {l : List Int} {k : Nat} (h : trans l k = false) : k ≠ 0 ∧ hi l k = hi l (k - 1) ∧ ix l k / 64 = ix l (k - 1) / 64 := by
  unfold trans at h
  simp at h
  exact ⟨h.1, h.2.1, h.2.2⟩

theorem same_word {l : List Int} {q k : Nat} (hqk : q ≤ k) (h : szOf l (q + 1) = szOf l (k + 1)) : hi l q = hi l k ∧ ix l q / 64 = ix l k / 64 := by
  induction k with
  | zero => obtain rfl : q = 0 := by omega
            exact ⟨rfl, rfl⟩
  | succ k ih =>
    by_cases e : q = k + 1
    · subst e; exact ⟨rfl, rfl⟩
    · have h1 := szOf_mono l (q + 1) (k + 1) (by omega)
      have h2 := szOf_mono l (k + 1) (k + 1 + 1) (by omega)
      have ht : trans l (k + 1) = false := by
        cases ht : trans l (k + 1) with
        | false => rfl
        | true => have := szOf_yes l (k + 1) ht; omega
      obtain ⟨_, h3, h4⟩ := not_trans ht
      obtain ⟨h5, h6⟩ := ih (by omega) (by omega)
      simp only [Nat.add_sub_cancel] at h3 h4
      exact ⟨h5.trans h3.symm, h6.trans h4.symm⟩

theorem wordsOf_yes {l : List Int} {k : Nat} (h : trans l k = true) (t : Nat) : wordsOf l (k + 1) t = if t = szOf l k then (ix l k / 64, 2 ^ (ix l k % 64)) else wordsOf l k t := by
  rw [wordsOf]
  simp only [h, if_true]
theorem wordsOf_no {l : List Int} {k : Nat} (h : trans l k = false) (t : Nat) : wordsOf l (k + 1) t = if t + 1 = szOf l k then ((wordsOf l k t).1, (wordsOf l k t).2 ||| 2 ^ (ix l k % 64)) else wordsOf l k t := by
  rw [wordsOf]
  simp only [h]
  rfl

theorem word_of (l : List Int) (k : Nat) : ∀ q, q < k → (wordsOf l k (wd l q)).1 = ix l q / 64 ∧ (wordsOf l k (wd l q)).2.testBit (ix l q % 64) = true := by
  induction k with
  | zero => intro q hq; omega
  | succ k ih =>
    intro q hq
    have hp := szOf_pos l q
    cases ht : trans l k with
    | true =>
      rw [wordsOf_yes ht]
      by_cases e : q = k
      · subst e
        have : wd l q = szOf l q := by unfold wd; rw [szOf_yes l q ht]; omega
        rw [if_pos this]
        simp
      · have h1 := szOf_mono l (q + 1) k (by omega)
        rw [if_neg (by unfold wd; omega)]
        exact ih q (by omega)
    | false =>
      rw [wordsOf_no ht]
      obtain ⟨h0, h3, h4⟩ := not_trans ht
      have hs := szOf_no l k ht
      by_cases e : q = k
      · subst e
        have hw : wd l q + 1 = szOf l q := by unfold wd; omega
        rw [if_pos hw]
        have hw' : wd l (q - 1) = wd l q := by unfold wd; rw [show q - 1 + 1 = q by omega]; omega
        have := (ih (q - 1) (by omega)).1
        rw [hw'] at this
        refine ⟨by simp only; rw [this, h4], ?_⟩
        simp [Nat.testBit_or]
      · obtain ⟨i1, i2⟩ := ih q (by omega)
        split
        · exact ⟨i1, by simp [Nat.testBit_or, i2]⟩
        · exact ⟨i1, i2⟩

theorem bit_of (l : List Int) (k : Nat) : ∀ t, t < szOf l k → ∀ b, (wordsOf l k t).2.testBit b = true → ∃ q, q < k ∧ wd l q = t ∧ ix l q % 64 = b := by
  induction k with
  | zero => intro t ht; simp [szOf] at ht
  | succ k ih =>
    intro t ht b hb
    cases htr : trans l k with
    | true =>
      rw [wordsOf_yes htr] at hb
      by_cases e : t = szOf l k
      · rw [if_pos e] at hb
        refine ⟨k, by omega, by unfold wd; rw [szOf_yes l k htr]; omega, ?_⟩
        simpa [Nat.testBit_two_pow] using hb
      · rw [if_neg e] at hb
        rw [szOf_yes l k htr] at ht
        obtain ⟨q, h1, h2, h3⟩ := ih t (by omega) b hb
        exact ⟨q, by omega, h2, h3⟩
    | false =>
      rw [wordsOf_no htr] at hb
      rw [szOf_no l k htr] at ht
      by_cases e : t + 1 = szOf l k
      · rw [if_pos e] at hb
        simp only [Nat.testBit_or, Bool.or_eq_true] at hb
        rcases hb with hb | hb
        · obtain ⟨q, h1, h2, h3⟩ := ih t ht b hb
          exact ⟨q, by omega, h2, h3⟩
        · refine ⟨k, by omega, by unfold wd; rw [szOf_no l k htr]; omega, ?_⟩
          simpa [Nat.testBit_two_pow] using hb
      · rw [if_neg e] at hb
        obtain ⟨q, h1, h2, h3⟩ := ih t ht b hb
        exact ⟨q, by omega, h2, h3⟩

/-- the set bits below b. -/
def popTo (X : Nat) : Nat → Nat
  | 0 => 0
  | b + 1 => popTo X b + if X.testBit b then 1 else 0
theorem popTo_zero (b : Nat) : popTo 0 b = 0 := by
  induction b with
  | zero => rfl
  | succ b ih => simp [popTo, ih]
theorem popTo_or (X c b : Nat) (h : X.testBit c = false) : popTo (X ||| 2 ^ c) b = popTo X b + if c < b then 1 else 0 := by
  induction b with
  | zero => simp [popTo]
  | succ b ih =>
    rw [popTo, popTo, ih, Nat.testBit_or, Nat.testBit_two_pow]
    by_cases e : c = b
    · subst e
      simp [h]
    · have e2 : (c < b + 1) ↔ c < b := by omega
      simp [e, e2]
      omega
theorem popTo_pow (c b : Nat) : popTo (2 ^ c) b = if c < b then 1 else 0 := by
  have := popTo_or 0 c b (by simp)
  rw [Nat.zero_or, popTo_zero, Nat.zero_add] at this
  exact this
def sumTo (f : Nat → Nat) : Nat → Nat
  | 0 => 0
  | t + 1 => sumTo f t + f t
theorem sumTo_congr {f g : Nat → Nat} {t : Nat} (h : ∀ i, i < t → f i = g i) : sumTo f t = sumTo g t := by
  induction t with
  | zero => rfl
  | succ t ih => rw [sumTo, sumTo, ih (fun i hi => h i (by omega)), h t (by omega)]

theorem sumTo_mono (f : Nat → Nat) {a b : Nat} (h : a ≤ b) : sumTo f a ≤ sumTo f b := by
  induction b with
  | zero => obtain rfl : a = 0 := by omega
            exact Nat.le_refl _
  | succ b ih =>
    by_cases e : a = b + 1
    · subst e; exact Nat.le_refl _
    · rw [sumTo]
      exact Nat.le_trans (ih (by omega)) (Nat.le_add_right _ _)
theorem popTo_mono (X : Nat) {a b : Nat} (h : a ≤ b) : popTo X a ≤ popTo X b := by
  induction b with
  | zero => obtain rfl : a = 0 := by omega
            exact Nat.le_refl _
  | succ b ih =>
    by_cases e : a = b + 1
    · subst e; exact Nat.le_refl _
    · rw [popTo]
      exact Nat.le_trans (ih (by omega)) (Nat.le_add_right _ _)

theorem cd_split (l : List Int) (q : Nat) : cd l q = hi l q * 4294967296 + (ix l q : Int) := by
  unfold hi ix; omega

theorem fresh_bit {l : List Int} (ha : Asc l) {k : Nat} (hk : k < l.length) (ht : trans l k = false) : (wordsOf l k (szOf l k - 1)).2.testBit (ix l k % 64) = false := by
  cases hb : (wordsOf l k (szOf l k - 1)).2.testBit (ix l k % 64) with
  | false => rfl
  | true =>
    exfalso
    obtain ⟨h0, h3, h4⟩ := not_trans ht
    have hs := szOf_no l k ht
    have hp := szOf_pos l k
    obtain ⟨q, h1, h2, h5⟩ := bit_of l k _ (by omega) _ hb
    have hq := szOf_pos l q
    obtain ⟨h6, h7⟩ := same_word (l := l) (q := q) (k := k) (by omega) (by unfold wd at h2; omega)
    have := ha q k h1 hk
    rw [cd_split l q, cd_split l k, h6] at this
    omega

theorem pops (l : List Int) (ha : Asc l) (k : Nat) (hk : k ≤ l.length) : sumTo (fun t => popTo (wordsOf l k t).2 64) (szOf l k) = k := by
  induction k with
  | zero => rfl
  | succ k ih =>
    have i0 := ih (by omega)
    cases ht : trans l k with
    | true =>
      rw [szOf_yes l k ht, sumTo]
      have e1 : sumTo (fun t => popTo (wordsOf l (k + 1) t).2 64) (szOf l k) = k := by
        exact (sumTo_congr fun i hi => by rw [wordsOf_yes ht, if_neg (by omega)]).trans i0
      rw [e1, wordsOf_yes ht, if_pos rfl]
      simp only
      rw [popTo_pow, if_pos (Nat.mod_lt _ (by decide))]
    | false =>
      have hs := szOf_no l k ht
      have hp := szOf_pos l k
      have hf := fresh_bit ha (by omega) ht
      rw [hs]
      obtain ⟨s, hs'⟩ : ∃ s, szOf l k = s + 1 := ⟨szOf l k - 1, by omega⟩
      rw [hs'] at i0 hf ⊢
      rw [sumTo] at i0 ⊢
      simp only [Nat.add_sub_cancel] at hf
      have e1 : sumTo (fun t => popTo (wordsOf l (k + 1) t).2 64) s = sumTo (fun t => popTo (wordsOf l k t).2 64) s :=
        sumTo_congr fun i hi => by rw [wordsOf_no ht, if_neg (by omega)]
      rw [e1, wordsOf_no ht, if_pos hs'.symm]
      simp only
      rw [popTo_or _ _ _ hf, if_pos (Nat.mod_lt _ (by decide))]
      omega

theorem gl_yes {l : List Int} {k : Nat} (h : newG l k = true) : gl l (k + 1) = gl l k ++ [(chr l k, szOf l k)] := by rw [gl, if_pos h]
theorem gl_no {l : List Int} {k : Nat} (h : newG l k = false) : gl l (k + 1) = gl l k := by rw [gl, if_neg (by simp [h])]
theorem glen_step (l : List Int) (k : Nat) : (gl l k).length ≤ (gl l (k + 1)).length := by
  cases h : newG l k with
  | true => rw [gl_yes h]; simp
  | false => rw [gl_no h]; exact Nat.le_refl _
theorem glen_mono {l : List Int} {q k : Nat} (h : q ≤ k) : (gl l q).length ≤ (gl l k).length := by
  induction k with
  | zero => obtain rfl : q = 0 := by omega
            exact Nat.le_refl _
  | succ k ih =>
    by_cases e : q = k + 1
    · subst e; exact Nat.le_refl _
    · exact Nat.le_trans (ih (by omega)) (glen_step l k)
theorem glen_new {l : List Int} {k : Nat} (h : newG l k = true) : (gl l (k + 1)).length = (gl l k).length + 1 := by rw [gl_yes h]; simp

theorem same_grp {l : List Int} {q k : Nat} (hqk : q ≤ k) (h : (gl l (q + 1)).length = (gl l (k + 1)).length) : chr l q = chr l k := by
  induction k with
  | zero => obtain rfl : q = 0 := by omega
            rfl
  | succ k ih =>
    by_cases e : q = k + 1
    · subst e; rfl
    · have h1 := glen_mono (l := l) (q := q + 1) (k := k + 1) (by omega)
      have h2 := glen_step l (k + 1)
      have hg : newG l (k + 1) = false := by
        cases hg : newG l (k + 1) with
        | false => rfl
        | true => have := glen_new hg; omega
      have h3 : chr l (k + 1) = chr l k := by
        unfold newG at hg
        simpa using hg
      rw [h3]
      exact ih (by omega) (by omega)

/-- where a group comes from. -/
theorem grp_of (l : List Int) (k : Nat) : ∀ e, e < (gl l k).length → ∀ d, ∃ q, q < k ∧ newG l q = true ∧ (gl l k).getD e d = (chr l q, szOf l q) ∧ (gl l q).length = e := by
  induction k with
  | zero => intro e he; simp [gl] at he
  | succ k ih =>
    intro e he d
    cases h : newG l k with
    | false =>
      rw [gl_no h] at he ⊢
      obtain ⟨q, h1, h2, h3, h4⟩ := ih e he d
      exact ⟨q, by omega, h2, h3, h4⟩
    | true =>
      rw [gl_yes h] at he ⊢
      rw [List.length_append] at he
      simp only [List.length_singleton] at he
      by_cases e0 : e < (gl l k).length
      · obtain ⟨q, h1, h2, h3, h4⟩ := ih e e0 d
        refine ⟨q, by omega, h2, ?_, h4⟩
        rw [← h3]
        simp [List.getD_eq_getElem?_getD, List.getElem?_append_left e0]
      · obtain rfl : e = (gl l k).length := by omega
        exact ⟨k, by omega, h, by simp, rfl⟩

theorem first_of (l : List Int) (k : Nat) : ∀ t, t < szOf l k → ∃ q, q < k ∧ trans l q = true ∧ szOf l q = t := by
  induction k with
  | zero => intro t ht; simp [szOf] at ht
  | succ k ih =>
    intro t ht
    cases h : trans l k with
    | false =>
      rw [szOf_no l k h] at ht
      obtain ⟨q, h1, h2, h3⟩ := ih t ht
      exact ⟨q, by omega, h2, h3⟩
    | true =>
      rw [szOf_yes l k h] at ht
      by_cases e : t < szOf l k
      · obtain ⟨q, h1, h2, h3⟩ := ih t e
        exact ⟨q, by omega, h2, h3⟩
      · exact ⟨k, by omega, h, by omega⟩

/-- a group's two ends. -/
theorem grp_ends (l : List Int) (e : Nat) (he : e < (gl l l.length).length) : ∃ k r, k < r ∧ r ≤ l.length ∧ newG l k = true ∧ chAt l l.length e = chr l k ∧ stAt l l.length e = szOf l k ∧ (gl l k).length = e
    ∧ stAt l l.length (e + 1) = szOf l r ∧ (gl l r).length = e + 1 := by
  obtain ⟨k, h1, h2, h3, h4⟩ := grp_of l l.length e he (0, szOf l l.length)
  have hr : ∃ r, r ≤ l.length ∧ stAt l l.length (e + 1) = szOf l r ∧ (gl l r).length = e + 1 := by
    by_cases h : e + 1 < (gl l l.length).length
    · obtain ⟨r, r1, r2, r3, r4⟩ := grp_of l l.length (e + 1) h (0, szOf l l.length)
      exact ⟨r, by omega, by unfold stAt; rw [r3], r4⟩
    · refine ⟨l.length, Nat.le_refl _, ?_, by omega⟩
      unfold stAt
      rw [List.getD_eq_getElem?_getD, List.getElem?_eq_none (by omega)]
      rfl
  obtain ⟨r, r1, r2, r3⟩ := hr
  refine ⟨k, r, ?_, r1, h2, by unfold chAt; rw [h3], by unfold stAt; rw [h3], h4, r2, r3⟩
  rcases Nat.lt_or_ge k r with h | h
  · exact h
  · have := glen_mono (l := l) h
    omega

/-- a word of a group: its first code. -/
theorem word_in (l : List Int) (e t : Nat) (he : e < (gl l l.length).length) (h1 : stAt l l.length e ≤ t) (h2 : t < stAt l l.length (e + 1)) :
    ∃ q, q < l.length ∧ trans l q = true ∧ szOf l q = t ∧ chr l q = chAt l l.length e ∧ (stAt l l.length e < t → 0 < q ∧ chr l (q - 1) = chr l q) := by
  obtain ⟨k, r, hkr, hr, hn, e1, e2, e3, e4, e5⟩ := grp_ends l e he
  have hm := szOf_mono l r l.length hr
  obtain ⟨q, q1, q2, q3⟩ := first_of l l.length t (by omega)
  have hy := szOf_yes l q q2
  have hkq : k ≤ q := by
    rcases Nat.lt_or_ge q k with h | h
    · have := szOf_mono l (q + 1) k h
      omega
    · exact h
  have hqr : q < r := by
    rcases Nat.lt_or_ge q r with h | h
    · exact h
    · have := szOf_mono l r q h
      omega
  have g1 := glen_new hn
  have g2 := glen_mono (l := l) (q := k + 1) (k := q + 1) (by omega)
  have g3 := glen_mono (l := l) (q := q + 1) (k := r) (by omega)
  refine ⟨q, q1, q2, q3, ?_, ?_⟩
  · rw [e1, same_grp hkq (by omega)]
  · intro hlt
    have hne : k ≠ q := by
      intro h
      subst h
      omega
    refine ⟨by omega, ?_⟩
    have g4 := glen_mono (l := l) (q := k + 1) (k := q - 1 + 1) (by omega)
    exact same_grp (by omega) (by rw [show q - 1 + 1 = q by omega] at g4 ⊢; have := glen_step l q; omega)

theorem wd_first {l : List Int} {q : Nat} (h : trans l q = true) : wd l q = szOf l q := by
  unfold wd; rw [szOf_yes l q h]; omega

theorem wordsOf_lt64 (l : List Int) (k t : Nat) (ht : t < szOf l k) : (wordsOf l k t).2 < 18446744073709551616 := by
  have : (wordsOf l k t).2 < 2 ^ 64 := by
    apply Nat.lt_pow_two_of_testBit
    intro b hb
    cases h : (wordsOf l k t).2.testBit b with
    | false => rfl
    | true =>
      obtain ⟨q, _, _, h3⟩ := bit_of l k t ht b h
      omega
  simpa using this

/-- what the law asks of the groups. -/
structure Parts (K C : Nat → Int) (n : Nat) (l : List Int) : Prop where
  len : l.length = (chList K C n).length
  up : ∀ e, e + 1 < (gl l l.length).length → chAt l l.length e % 4294967296 < chAt l l.length (e + 1) % 4294967296
  slash : ∀ e, e < (gl l l.length).length → chAt l l.length e ≠ 47
  pos : ∀ e, e < (gl l l.length).length → stAt l l.length e < stAt l l.length (e + 1)
  fin : stAt l l.length (gl l l.length).length = szOf l l.length
  beg : stAt l l.length 0 = 0
  top : ∀ e, e < (gl l l.length).length → stAt l l.length (e + 1) ≤ szOf l l.length
  at_lt : ∀ e t, e < (gl l l.length).length → stAt l l.length e ≤ t → t < stAt l l.length (e + 1) → (wordsOf l l.length t).1 < (n + 63) / 64
  at_up : ∀ e t, e < (gl l l.length).length → stAt l l.length e ≤ t → t + 1 < stAt l l.length (e + 1) → (wordsOf l l.length t).1 < (wordsOf l l.length (t + 1)).1
  nz : ∀ e t, e < (gl l l.length).length → stAt l l.length e ≤ t → t < stAt l l.length (e + 1) → (wordsOf l l.length t).2 ≠ 0
  lt : ∀ t, t < szOf l l.length → (wordsOf l l.length t).2 < 18446744073709551616
  bit : ∀ e t b, e < (gl l l.length).length → stAt l l.length e ≤ t → t < stAt l l.length (e + 1) → (wordsOf l l.length t).2.testBit b = true →
    64 * (wordsOf l l.length t).1 + b < n ∧ K (64 * (wordsOf l l.length t).1 + b) = 0 ∧ C (64 * (wordsOf l l.length t).1 + b) = chAt l l.length e
  sum : sumTo (fun t => popTo (wordsOf l l.length t).2 64) (szOf l l.length) = l.length

theorem parts (K C : Nat → Int) (n : Nat) (hn : n ≤ 65536) (hC : ∀ i, i < n → -2147483648 ≤ C i ∧ C i < 2147483648) :
    Parts K C n ((chList K C n).mergeSort fun x y => decide (x ≤ y)) := by
  have ha := asc_sorted K C n hn
  have hmem : ∀ x, x ∈ ((chList K C n).mergeSort fun x y => decide (x ≤ y)) → x ∈ chList K C n := fun x hx => (List.mergeSort_perm _ _).mem_iff.1 hx
  have hlen : ((chList K C n).mergeSort fun x y => decide (x ≤ y)).length = (chList K C n).length := List.length_mergeSort _
  generalize (chList K C n).mergeSort (fun x y => decide (x ≤ y)) = l at ha hmem hlen ⊢
  have src : ∀ q, q < l.length → ix l q < n ∧ K (ix l q) = 0 ∧ C (ix l q) = chr l q ∧ C (ix l q) ≠ 47 := by
    intro q hq
    obtain ⟨i, h1, h2, h3⟩ := chList_mem K C n _ (hmem _ (cd_mem hq))
    have hi' : ix l q = i := by unfold ix; rw [h3]; unfold chCode; omega
    have hh : hi l q = C i % 4294967296 := by unfold hi; rw [h3]; unfold chCode; omega
    have hc := hC i h1
    unfold chStep at h2
    simp at h2
    rw [hi']
    refine ⟨h1, h2.1, ?_, h2.2⟩
    unfold chr
    rw [hh]
    unfold wrap32
    omega
  have hir : ∀ q, q < l.length → 0 ≤ hi l q ∧ hi l q < 4294967296 := fun q hq => by
    have := cd_range hmem hn hq
    unfold hi
    omega
  have hchr : ∀ q, q < l.length → chr l q % 4294967296 = hi l q := fun q hq => by
    have := hir q hq
    unfold chr wrap32
    omega
  refine ⟨hlen, ?_, ?_, ?_, ?_, ?_, ?_, ?_, ?_, ?_, ?_, ?_, pops l ha l.length (Nat.le_refl _)⟩
  · intro e he
    obtain ⟨k, r, hkr, hr, hnw, e1, e2, e3, e4, e5⟩ := grp_ends l e (by omega)
    obtain ⟨k', r', hkr', hr', hnw', e1', e2', e3', e4', e5'⟩ := grp_ends l (e + 1) he
    have hkk : k < k' := by
      rcases Nat.lt_or_ge k k' with h | h
      · exact h
      · have := glen_mono (l := l) h
        omega
    have h1 := ha k k' hkk (by omega)
    rw [e1, e1', hchr k (by omega), hchr k' (by omega)]
    rw [cd_split l k, cd_split l k'] at h1
    have hne : hi l k ≠ hi l k' := by
      intro h
      have hc : chr l k = chr l k' := by unfold chr; rw [h]
      have g1 := glen_new hnw
      have g2 := glen_mono (l := l) (q := k + 1) (k := k' - 1 + 1) (by omega)
      rw [show k' - 1 + 1 = k' by omega] at g2
      have hs : chr l k = chr l (k' - 1) := same_grp (by omega) (by rw [show k' - 1 + 1 = k' by omega]; omega)
      unfold newG at hnw'
      have : ¬ chr l k' = chr l (k' - 1) := by
        have h0 : k' ≠ 0 := by omega
        simpa [h0] using hnw'
      exact this (hc.symm.trans hs)
    have x1 := (src k (by omega)).1
    have x2 := (src k' (by omega)).1
    omega
  · intro e he
    obtain ⟨k, r, hkr, hr, hnw, e1, _⟩ := grp_ends l e he
    obtain ⟨_, _, s3, s4⟩ := src k (by omega)
    rw [e1, ← s3]
    exact s4
  · intro e he
    obtain ⟨k, r, hkr, hr, hnw, e1, e2, e3, e4, e5⟩ := grp_ends l e he
    rw [e2, e4]
    exact szOf_lt_of l k r hkr (trans_of_newG hnw)
  · unfold stAt
    rw [List.getD_eq_getElem?_getD, List.getElem?_eq_none (Nat.le_refl _)]
    rfl
  · by_cases h0 : 0 < (gl l l.length).length
    · obtain ⟨k, r, hkr, hr, hnw, e1, e2, e3, _⟩ := grp_ends l 0 h0
      rw [e2]
      by_cases hk : k = 0
      · subst hk; rfl
      · exfalso
        have h1 := glen_new (l := l) (k := 0) (by simp [newG])
        have h2 := glen_mono (l := l) (q := 0 + 1) (k := k) (by omega)
        omega
    · have hz : l.length = 0 := by
        rcases Nat.eq_zero_or_pos l.length with h | h
        · exact h
        · have h1 := glen_new (l := l) (k := 0) (by simp [newG])
          have h2 := glen_mono (l := l) (q := 0 + 1) (k := l.length) (by omega)
          omega
      unfold stAt
      rw [List.getD_eq_getElem?_getD, List.getElem?_eq_none (by omega), hz]
      rfl
  · intro e he
    obtain ⟨k, r, hkr, hr, hnw, e1, e2, e3, e4, e5⟩ := grp_ends l e he
    rw [e4]
    exact szOf_mono l r l.length hr
  · intro e t he h1 h2
    obtain ⟨q, q1, q2, q3, q4, q5⟩ := word_in l e t he h1 h2
    have := (word_of l l.length q q1).1
    rw [wd_first q2, q3] at this
    rw [this]
    have := (src q q1).1
    omega
  · intro e t he h1 h2
    obtain ⟨q, q1, q2, q3, q4, q5⟩ := word_in l e (t + 1) he (by omega) h2
    obtain ⟨q6, q7⟩ := q5 (by omega)
    have w1 := (word_of l l.length q q1).1
    rw [wd_first q2, q3] at w1
    have w2 := (word_of l l.length (q - 1) (by omega)).1
    have : wd l (q - 1) = t := by unfold wd; rw [show q - 1 + 1 = q by omega]; omega
    rw [this] at w2
    rw [w1, w2]
    have hh : hi l (q - 1) = hi l q := by
      rw [← hchr q q1, ← hchr (q - 1) (by omega), q7]
    have hlt := ha (q - 1) q (by omega) q1
    rw [cd_split l (q - 1), cd_split l q, hh] at hlt
    have hne : ix l q / 64 ≠ ix l (q - 1) / 64 := by
      intro h
      unfold trans at q2
      have h0 : q ≠ 0 := by omega
      simp [h, hh, h0] at q2
    omega
  · intro e t he h1 h2 h0
    obtain ⟨q, q1, q2, q3, q4, q5⟩ := word_in l e t he h1 h2
    have := (word_of l l.length q q1).2
    rw [wd_first q2, q3, h0, Nat.zero_testBit] at this
    cases this
  · intro t ht
    exact wordsOf_lt64 l l.length t ht
  · intro e t b he h1 h2 hb
    obtain ⟨k, r, hkr, hr, hnw, e1, e2, e3, e4, e5⟩ := grp_ends l e he
    have hm := szOf_mono l r l.length hr
    obtain ⟨q, q1, q2, q3, q4, q5⟩ := word_in l e t he h1 h2
    obtain ⟨p, p1, p2, p3⟩ := bit_of l l.length t (by omega) b hb
    have hp := szOf_pos l p
    have hy := szOf_yes l q q2
    have hqp : q ≤ p := by
      rcases Nat.lt_or_ge p q with h | h
      · have := szOf_mono l (p + 1) q h
        unfold wd at p2
        omega
      · exact h
    have sw := same_word (l := l) hqp (by unfold wd at p2; omega)
    have w1 := (word_of l l.length p p1).1
    rw [p2] at w1
    have hx : 64 * (wordsOf l l.length t).1 + b = ix l p := by omega
    rw [hx]
    obtain ⟨s1, s2, s3, s4⟩ := src p p1
    refine ⟨s1, s2, ?_⟩
    rw [s3, ← q4]
    unfold chr
    rw [sw.1]
end Go.Proofs.Qxb6000847a
