import Derived.Test.Qxb6000847aOr
import Derived.Test.Qxb6000847aSoTop
import Derived.Test.Qxb6000847aMask
namespace Go.Proofs.Qxb6000847a
open Go.RowKit

theorem info55 : (Try.prog.info? 55).map (fun i => (i.zero, i.size, i.bytes)) = some (some (.agg #[.int .u64 0,.int .u64 0,.int .u64 0,.int .u64 0,.int .u64 0,.int .u64 0,.int .u64 0,.int .u64 0,.int .i64 0,.int .i64 0]), 10, 80) := by kernel_rfl

theorem info31 : (Try.prog.info? 31).map (fun i => (i.zero, i.size, i.bytes)) = some (some (.int .u64 0), 1, 8) := by kernel_rfl

/-- a character step that is no slash. -/
def chStep (K C : Nat → Int) (i : Nat) : Bool := K i == 0 && !(C i == 47)
/-- the character and the step in one number. -/
def chCode (C : Nat → Int) (i : Nat) : Int := (C i % 4294967296) * 4294967296 + (i : Int)
/-- of the first r steps the character steps. -/
def chList (K C : Nat → Int) : Nat → List Int
  | 0 => []
  | r + 1 => if chStep K C r then chList K C r ++ [chCode C r] else chList K C r
theorem chList_le (K C : Nat → Int) (r : Nat) : (chList K C r).length ≤ r := by
  induction r with
  | zero => exact Nat.le_refl _
  | succ r ih =>
    unfold chList
    split
    · simp; omega
    · omega
theorem chList_mono (K C : Nat → Int) (r n : Nat) (h : r ≤ n) : (chList K C r).length ≤ (chList K C n).length := by
  induction n with
  | zero => obtain rfl : r = 0 := by omega
            exact Nat.le_refl _
  | succ n ih =>
    by_cases e : r = n + 1
    · subst e; exact Nat.le_refl _
    · have := ih (by omega)
      conv => rhs; unfold chList
      split
      · simp; omega
      · omega

structure St (w wr : World) (nw : Nat) (words : Nat → Nat → Value) (mc : Value) : Prop where
  bel : Below w.heap.size w wr
  size : w.heap.size + 3 ≤ wr.heap.size
  res : Grid wr w.heap.size 50 2 1 (fun _ _ => .slice none 0 0)
  wds : Grid wr (w.heap.size + 1) 55 10 nw words
  m : Grid wr (w.heap.size + 2) 50 2 1 (fun _ j => if j = 0 then .slice (some ⟨w.heap.size + 1, 0, none⟩) nw nw else mc)

def zeroWord (j : Nat) : Value := if j < 8 then .int .u64 0 else .int .i64 0

theorem st_start (w : World) (nw : Nat) : St w (((w.alloc (Obj.cells #[Value.slice none 0 0, Value.slice none 0 0] 50)).alloc
          (Obj.cells (madeCells #[.int .u64 0, .int .u64 0, .int .u64 0, .int .u64 0, .int .u64 0, .int .u64 0, .int .u64 0, .int .u64 0, .int .i64 0, .int .i64 0] (nw * 10)) 55)).alloc
      (Obj.cells #[Value.slice (some { block := w.heap.size + 1, off := 0 }) nw nw, Value.slice none 0 0] 50)) nw (fun _ j => zeroWord j) (.slice none 0 0) := by
  refine ⟨(((Below.refl _ _).alloc (Nat.le_refl _) _).alloc (by simp) _).alloc (by simp; omega) _, by simp, ?_, ?_, ?_⟩
  · refine ((grid_alloc w _ 50 2 1 (fun _ _ => .slice none 0 0) rfl (fun i j hi hj => ?_)).alloc _).alloc _
    obtain rfl : i = 0 := by omega
    match j, hj with
    | 0, _ => rfl
    | 1, _ => rfl
  · have h := grid_made (w.alloc (Obj.cells #[Value.slice none 0 0, Value.slice none 0 0] 50)) #[.int .u64 0, .int .u64 0, .int .u64 0, .int .u64 0, .int .u64 0, .int .u64 0, .int .u64 0, .int .u64 0, .int .i64 0, .int .i64 0] 10 nw 55 rfl
    simp only [World.size_alloc] at h
    refine (h.alloc _).congr (fun i j _ hj => ?_)
    match j, hj with
    | 0, _ => rfl
    | 1, _ => rfl
    | 2, _ => rfl
    | 3, _ => rfl
    | 4, _ => rfl
    | 5, _ => rfl
    | 6, _ => rfl
    | 7, _ => rfl
    | 8, _ => rfl
    | 9, _ => rfl
  · have h := grid_alloc ((w.alloc (Obj.cells #[Value.slice none 0 0, Value.slice none 0 0] 50)).alloc (Obj.cells (madeCells #[.int .u64 0, .int .u64 0, .int .u64 0, .int .u64 0, .int .u64 0, .int .u64 0, .int .u64 0, .int .u64 0, .int .i64 0, .int .i64 0] (nw * 10)) 55))
      #[Value.slice (some { block := w.heap.size + 1, off := 0 }) nw nw, Value.slice none 0 0] 50 2 1 (fun _ j => if j = 0 then .slice (some ⟨w.heap.size + 1, 0, none⟩) nw nw else .slice none 0 0) rfl (fun i j hi hj => by
        obtain rfl : i = 0 := by omega
        match j, hj with
        | 0, _ => rfl
        | 1, _ => rfl)
    simpa using h

theorem St.alloc {w wr : World} {nw : Nat} {words : Nat → Nat → Value} {mc : Value} (h : St w wr nw words mc) (o : Obj) : St w (wr.alloc o) nw words mc :=
  ⟨h.bel.alloc (by have := h.size; omega) _, by have := h.size; simp; omega, h.res.alloc _, h.wds.alloc _, h.m.alloc _⟩
theorem St.drewN {w wr : World} {nw : Nat} {words : Nat → Nat → Value} {mc : Value} (h : St w wr nw words mc) (q : Nat) : St w (wr.drewN q) nw words mc :=
  ⟨⟨h.bel.os, h.bel.tape, h.bel.output, h.bel.size, h.bel.block⟩, h.size, h.res, h.wds, h.m⟩



def maskCell (K C : Nat → Int) (r i j : Nat) : Value := if j < 8 then .int .u64 (maskAt K C r i j) else .int .i64 0

structure St2 (w wr : World) (CB n r : Nat) (K C : Nat → Int) : Prop where
  st : St w wr ((n + 63) / 64) (maskCell K C r) (.slice none 0 0)
  cb : w.heap.size + 3 ≤ CB
  ch : Grid wr CB 31 1 (chList K C n).length (fun i _ => .int .u64 ((chList K C r).getD i 0))

theorem St2.alloc {w wr : World} {CB n r : Nat} {K C : Nat → Int} (h : St2 w wr CB n r K C) (o : Obj) : St2 w (wr.alloc o) CB n r K C := ⟨h.st.alloc _, h.cb, h.ch.alloc _⟩
theorem St2.drewN {w wr : World} {CB n r : Nat} {K C : Nat → Int} (h : St2 w wr CB n r K C) (q : Nat) : St2 w (wr.drewN q) CB n r K C := ⟨h.st.drewN _, h.cb, h.ch.drewN _⟩

theorem st_congr {w wr : World} {nw : Nat} {words words' : Nat → Nat → Value} {mc : Value} (h : St w wr nw words mc) (e : ∀ i j, i < nw → j < 10 → words i j = words' i j) : St w wr nw words' mc :=
  ⟨h.bel, h.size, h.res, h.wds.congr e, h.m⟩

theorem maskCell_zero (K C : Nat → Int) (i j : Nat) (hj : j < 10) : zeroWord j = maskCell K C 0 i j := by
  match j, hj with
  | 0, _ => rfl
  | 1, _ => rfl
  | 2, _ => rfl
  | 3, _ => rfl
  | 4, _ => rfl
  | 5, _ => rfl
  | 6, _ => rfl
  | 7, _ => rfl
  | 8, _ => rfl
  | 9, _ => rfl

theorem st2_start {w wr : World} {n : Nat} {K C : Nat → Int} (h : St w wr ((n + 63) / 64) (fun _ j => zeroWord j) (.slice none 0 0)) :
    St2 w (wr.alloc (Obj.cells (madeCells #[Value.int IntKind.u64 0] (chList K C n).length) 31)) wr.heap.size n 0 K C := by
  refine ⟨st_congr (h.alloc _) (fun i j _ hj => maskCell_zero K C i j hj), h.size, ?_⟩
  have g := grid_made wr #[Value.int IntKind.u64 0] 1 (chList K C n).length 31 rfl
  rw [Nat.mul_one] at g
  refine g.congr (fun i j _ hj => ?_)
  obtain rfl : j = 0 := by omega
  simp [chList]

theorem St.setw {w W : World} {nw : Nat} {words : Nat → Nat → Value} {mc : Value} (h : St w W nw words mc) (i j : Nat) (hj : j < 10) (v : Value) {o : Nat} (ho : o = i * 10 + j) :
    St w (W.setCell ⟨w.heap.size + 1, o, none⟩ v) nw (fun i' j' => if i' = i ∧ j' = j then v else words i' j') mc :=
  ⟨h.bel.setCell (by show w.heap.size ≤ w.heap.size + 1; omega) _, by have := h.size; simpa using this, h.res.setOther (by show w.heap.size ≠ w.heap.size + 1; omega) _,
    h.wds.set i j hj v ho, h.m.setOther (by show w.heap.size + 2 ≠ w.heap.size + 1; omega) _⟩

theorem chList_no (K C : Nat → Int) (r : Nat) (h : chStep K C r = false) : chList K C (r + 1) = chList K C r := by rw [chList, if_neg (by simp [h])]
theorem chList_yes (K C : Nat → Int) (r : Nat) (h : chStep K C r = true) : chList K C (r + 1) = chList K C r ++ [chCode C r] := by rw [chList, if_pos h]

theorem maskCell_of (K C : Nat → Int) (r i j : Nat) {v : Value} (_ : j < 10) (h : j < 8 → v = .int .u64 (maskAt K C (r + 1) i j)) (h' : ¬ j < 8 → v = .int .i64 0) : v = maskCell K C (r + 1) i j := by
  unfold maskCell
  by_cases e : j < 8
  · rw [if_pos e]; exact h e
  · rw [if_neg e]; exact h' e

/-- one mask gets the bit. -/
theorem st2_one {w W : World} {CB n r : Nat} {K C : Nat → Int} (h : St2 w W CB n r K C) (f X B : Nat) (hf : f < 8) (hX : X = maskAt K C r (r / 64) f) (hB : 2 ^ (r % 64) = B) (hch : chStep K C r = false)
    (hyes : maskAt K C (r + 1) (r / 64) f = maskAt K C r (r / 64) f ||| 2 ^ (r % 64)) (hno : ∀ i j, j < 8 → ¬ (i = r / 64 ∧ j = f) → maskAt K C (r + 1) i j = maskAt K C r i j) :
    St2 w (W.setCell ⟨w.heap.size + 1, r / 64 * 10 + f, none⟩ (.int .u64 ((X ||| B : Nat) : Int))) CB n (r + 1) K C := by
  refine ⟨st_congr (h.st.setw (r / 64) f (by omega) _ rfl) (fun i j _ hj => ?_), h.cb, ?_⟩
  · refine maskCell_of K C r i j hj (fun h8 => ?_) (fun h8 => ?_)
    · by_cases e : i = r / 64 ∧ j = f
      · rw [if_pos e, e.1, e.2, hyes, hX, hB]
      · rw [if_neg e, hno i j h8 e]; unfold maskCell; rw [if_pos h8]
    · rw [if_neg (by omega)]; unfold maskCell; rw [if_neg h8]
  · rw [chList_no K C r hch]
    exact h.ch.setOther (by show CB ≠ w.heap.size + 1; have := h.cb; omega) _

/-- two masks get the bit. -/
theorem st2_two {w W : World} {CB n r : Nat} {K C : Nat → Int} (h : St2 w W CB n r K C) (X0 X1 B : Nat) (hX0 : X0 = maskAt K C r (r / 64) 0) (hX1 : X1 = maskAt K C r (r / 64) 1) (hB : 2 ^ (r % 64) = B) (hch : chStep K C r = false)
    (hyes0 : maskAt K C (r + 1) (r / 64) 0 = maskAt K C r (r / 64) 0 ||| 2 ^ (r % 64)) (hyes1 : maskAt K C (r + 1) (r / 64) 1 = maskAt K C r (r / 64) 1 ||| 2 ^ (r % 64))
    (hno : ∀ i j, j < 8 → ¬ (i = r / 64 ∧ (j = 0 ∨ j = 1)) → maskAt K C (r + 1) i j = maskAt K C r i j) :
    St2 w ((W.setCell ⟨w.heap.size + 1, r / 64 * 10, none⟩ (.int .u64 ((X0 ||| B : Nat) : Int))).setCell ⟨w.heap.size + 1, r / 64 * 10 + 1, none⟩ (.int .u64 ((X1 ||| B : Nat) : Int))) CB n (r + 1) K C := by
  refine ⟨st_congr ((h.st.setw (r / 64) 0 (by omega) _ rfl).setw (r / 64) 1 (by omega) _ rfl) (fun i j _ hj => ?_), h.cb, ?_⟩
  · refine maskCell_of K C r i j hj (fun h8 => ?_) (fun h8 => ?_)
    · by_cases e : i = r / 64 ∧ j = 1
      · rw [if_pos e, e.1, e.2, hyes1, hX1, hB]
      · rw [if_neg e]
        by_cases e' : i = r / 64 ∧ j = 0
        · rw [if_pos e', e'.1, e'.2, hyes0, hX0, hB]
        · rw [if_neg e', hno i j h8 (by omega)]; unfold maskCell; rw [if_pos h8]
    · rw [if_neg (by omega), if_neg (by omega)]; unfold maskCell; rw [if_neg h8]
  · rw [chList_no K C r hch]
    exact (h.ch.setOther (by show CB ≠ w.heap.size + 1; have := h.cb; omega) _).setOther (by show CB ≠ w.heap.size + 1; have := h.cb; omega) _

theorem kinds_of {K C : Nat → Int} {r : Nat} {k : Int} (h : K r = k) : pRun K r = (k == 3 || k == 4) ∧ pDS K r = (k == 4) ∧ pSl K C r = (k == 0 && C r == 47) ∧ pAny K r = (k == 1) ∧ pCls K r = (k == 2) ∧ pEnd K r = (k == 5) ∧ chStep K C r = (k == 0 && !(C r == 47)) := by
  simp [pRun, pDS, pSl, pAny, pCls, pEnd, chStep, h]

theorem st2_k1 {w W : World} {CB n r : Nat} {K C : Nat → Int} (h : St2 w W CB n r K C) (X B : Nat) (hX : X = maskAt K C r (r / 64) 4) (hB : 2 ^ (r % 64) = B) (hk : K r = 1) :
    St2 w (W.setCell ⟨w.heap.size + 1, r / 64 * 10 + 4, none⟩ (.int .u64 ((X ||| B : Nat) : Int))) CB n (r + 1) K C := by
  obtain ⟨k0, k1, k2, k4, k5, k6, kc⟩ := kinds_of (C := C) hk
  refine st2_one h 4 X B (by omega) hX hB kc (by simp [maskAt, mk_yes _ _ _ k4]) (fun i j hj hne => maskAt_same K C r i j hj ?_)
  by_cases e : j = 4
  · exact .inr ⟨fun h => hne ⟨h.symm, e⟩, by omega⟩
  · exact .inl ⟨fun _ => k0, fun _ => k1, fun _ => k2, fun h => absurd h e, fun _ => k5, fun _ => k6, fun _ => .inl (by omega)⟩

theorem st2_k2 {w W : World} {CB n r : Nat} {K C : Nat → Int} (h : St2 w W CB n r K C) (X B : Nat) (hX : X = maskAt K C r (r / 64) 5) (hB : 2 ^ (r % 64) = B) (hk : K r = 2) :
    St2 w (W.setCell ⟨w.heap.size + 1, r / 64 * 10 + 5, none⟩ (.int .u64 ((X ||| B : Nat) : Int))) CB n (r + 1) K C := by
  obtain ⟨k0, k1, k2, k4, k5, k6, kc⟩ := kinds_of (C := C) hk
  refine st2_one h 5 X B (by omega) hX hB kc (by simp [maskAt, mk_yes _ _ _ k5]) (fun i j hj hne => maskAt_same K C r i j hj ?_)
  by_cases e : j = 5
  · exact .inr ⟨fun h => hne ⟨h.symm, e⟩, by omega⟩
  · exact .inl ⟨fun _ => k0, fun _ => k1, fun _ => k2, fun _ => k4, fun h => absurd h e, fun _ => k6, fun _ => .inl (by omega)⟩

theorem st2_k3 {w W : World} {CB n r : Nat} {K C : Nat → Int} (h : St2 w W CB n r K C) (X B : Nat) (hX : X = maskAt K C r (r / 64) 0) (hB : 2 ^ (r % 64) = B) (hk : K r = 3) :
    St2 w (W.setCell ⟨w.heap.size + 1, r / 64 * 10, none⟩ (.int .u64 ((X ||| B : Nat) : Int))) CB n (r + 1) K C := by
  obtain ⟨k0, k1, k2, k4, k5, k6, kc⟩ := kinds_of (C := C) hk
  refine st2_one h 0 X B (by omega) hX hB kc (by simp [maskAt, mk_yes _ _ _ k0]) (fun i j hj hne => maskAt_same K C r i j hj ?_)
  by_cases e : j = 0
  · exact .inr ⟨fun h => hne ⟨h.symm, e⟩, by omega⟩
  · exact .inl ⟨fun h => absurd h e, fun _ => k1, fun _ => k2, fun _ => k4, fun _ => k5, fun _ => k6, fun _ => .inl (by omega)⟩

theorem st2_k0 {w W : World} {CB n r : Nat} {K C : Nat → Int} (h : St2 w W CB n r K C) (X B : Nat) (hX : X = maskAt K C r (r / 64) 2) (hB : 2 ^ (r % 64) = B) (hk : K r = 0) (hc : C r = 47) :
    St2 w (W.setCell ⟨w.heap.size + 1, r / 64 * 10 + 2, none⟩ (.int .u64 ((X ||| B : Nat) : Int))) CB n (r + 1) K C := by
  obtain ⟨k0, k1, k2, k4, k5, k6, kc⟩ := kinds_of (C := C) hk
  have k2' : pSl K C r = true := by rw [k2, hc]; rfl
  refine st2_one h 2 X B (by omega) hX hB (by rw [kc, hc]; rfl) (by simp [maskAt, mk_yes _ _ _ k2']) (fun i j hj hne => maskAt_same K C r i j hj ?_)
  by_cases e : j = 2
  · exact .inr ⟨fun h => hne ⟨h.symm, e⟩, by omega⟩
  · exact .inl ⟨fun _ => k0, fun _ => k1, fun h => absurd h e, fun _ => k4, fun _ => k5, fun _ => k6, fun _ => .inl (by omega)⟩

theorem st2_k4 {w W : World} {CB n r : Nat} {K C : Nat → Int} (h : St2 w W CB n r K C) (X0 X1 B : Nat) (hX0 : X0 = maskAt K C r (r / 64) 0) (hX1 : X1 = maskAt K C r (r / 64) 1) (hB : 2 ^ (r % 64) = B) (hk : K r = 4) :
    St2 w ((W.setCell ⟨w.heap.size + 1, r / 64 * 10, none⟩ (.int .u64 ((X0 ||| B : Nat) : Int))).setCell ⟨w.heap.size + 1, r / 64 * 10 + 1, none⟩ (.int .u64 ((X1 ||| B : Nat) : Int))) CB n (r + 1) K C := by
  obtain ⟨k0, k1, k2, k4, k5, k6, kc⟩ := kinds_of (C := C) hk
  refine st2_two h X0 X1 B hX0 hX1 hB kc (by simp [maskAt, mk_yes _ _ _ k0]) (by simp [maskAt, mk_yes _ _ _ k1]) (fun i j hj hne => maskAt_same K C r i j hj ?_)
  by_cases e : j = 0 ∨ j = 1
  · exact .inr ⟨fun h => hne ⟨h.symm, e⟩, by omega⟩
  · exact .inl ⟨fun h => absurd (.inl h) e, fun h => absurd (.inr h) e, fun _ => k2, fun _ => k4, fun _ => k5, fun _ => k6, fun _ => .inl (by omega)⟩

/-- an end, the step ahead of it no '**'. -/
theorem st2_k5 {w W : World} {CB n r : Nat} {K C : Nat → Int} (h : St2 w W CB n r K C) (X B : Nat) (hX : X = maskAt K C r (r / 64) 6) (hB : 2 ^ (r % 64) = B) (hk : K r = 5) (hp : K (r - 1) ≠ 4) :
    St2 w (W.setCell ⟨w.heap.size + 1, r / 64 * 10 + 6, none⟩ (.int .u64 ((X ||| B : Nat) : Int))) CB n (r + 1) K C := by
  obtain ⟨k0, k1, k2, k4, k5, k6, kc⟩ := kinds_of (C := C) hk
  refine st2_one h 6 X B (by omega) hX hB kc (by simp [maskAt, mk_yes _ _ _ k6]) (fun i j hj hne => maskAt_same K C r i j hj ?_)
  by_cases e : j = 6
  · exact .inr ⟨fun h => hne ⟨h.symm, e⟩, by omega⟩
  · exact .inl ⟨fun _ => k0, fun _ => k1, fun _ => k2, fun _ => k4, fun _ => k5, fun h => absurd h e, fun _ => .inr (.inl hp)⟩

/-- an end behind a '**'. -/
theorem st2_k54 {w W : World} {CB n r : Nat} {K C : Nat → Int} (h : St2 w W CB n r K C) (X B Y D : Nat) (hX : X = maskAt K C r (r / 64) 6) (hB : 2 ^ (r % 64) = B) (hY : Y = maskAt K C r ((r - 1) / 64) 7) (hD : 2 ^ ((r - 1) % 64) = D) (hk : K r = 5) (hp : K (r - 1) = 4) (hr : 0 < r) (q : Nat) :
    St2 w (((W.setCell ⟨w.heap.size + 1, r / 64 * 10 + 6, none⟩ (.int .u64 ((X ||| B : Nat) : Int))).setCell ⟨w.heap.size + 1, (r - 1) / 64 * 10 + 7, none⟩ (.int .u64 ((Y ||| D : Nat) : Int))).drewN q) CB n (r + 1) K C := by
  obtain ⟨k0, k1, k2, k4, k5, k6, kc⟩ := kinds_of (C := C) hk
  refine St2.drewN ⟨st_congr ((h.st.setw (r / 64) 6 (by omega) _ rfl).setw ((r - 1) / 64) 7 (by omega) _ rfl) (fun i j _ hj => ?_), h.cb, ?_⟩ q
  · refine maskCell_of K C r i j hj (fun h8 => ?_) (fun h8 => ?_)
    · by_cases e : i = (r - 1) / 64 ∧ j = 7
      · rw [if_pos e, e.1, e.2, hY, ← hD]
        have := eds_yes K r ((r - 1) / 64) hr hk hp rfl
        simp [maskAt, this]
      · rw [if_neg e]
        by_cases e' : i = r / 64 ∧ j = 6
        · rw [if_pos e', e'.1, e'.2, hX, ← hB]
          simp [maskAt, mk_yes _ _ _ k6]
        · rw [if_neg e']
          unfold maskCell
          rw [if_pos h8]
          by_cases e7 : j = 7
          · subst e7
            have := eds_other K r i (fun h => e ⟨h.symm, rfl⟩)
            simp [maskAt, this]
          · by_cases e6 : j = 6
            · rw [maskAt_same K C r i j h8 (.inr ⟨fun h => e' ⟨h.symm, e6⟩, e7⟩)]
            · rw [maskAt_same K C r i j h8 (.inl ⟨fun _ => k0, fun _ => k1, fun _ => k2, fun _ => k4, fun _ => k5, fun h => absurd h e6, fun h => absurd h e7⟩)]
    · rw [if_neg (by omega), if_neg (by omega)]; unfold maskCell; rw [if_neg h8]
  · rw [chList_no K C r kc]
    exact (h.ch.setOther (by show CB ≠ w.heap.size + 1; have := h.cb; omega) _).setOther (by show CB ≠ w.heap.size + 1; have := h.cb; omega) _

theorem chCode_bits (C : Nat → Int) (r : Nat) (h : r < 4294967296) : bits .or .u64 (IntKind.u64.wrap (IntKind.u64.wrap (C r) * 4294967296)) (r : Int) = chCode C r := by
  obtain ⟨A, hA⟩ : ∃ A : Nat, (A : Int) = C r % 4294967296 := ⟨(C r % 4294967296).toNat, by omega⟩
  have e : IntKind.u64.wrap (IntKind.u64.wrap (C r) * 4294967296) = ((A * 4294967296 : Nat) : Int) := by
    rw [IntKind.wrap_u64, IntKind.wrap_u64]; omega
  have hA2 : A < 4294967296 := by omega
  rw [e, bits_or_u64_nat _ _ (by omega) (by omega)]
  have e2 : A * 4294967296 ||| r = A * 4294967296 + r := by
    have := Nat.shiftLeft_add_eq_or_of_lt (i := 32) (b := r) h A
    rw [Nat.shiftLeft_eq] at this
    exact this.symm
  rw [e2]
  unfold chCode
  omega

theorem chCode_nonneg (C : Nat → Int) (r : Nat) : 0 ≤ chCode C r := by unfold chCode; omega

theorem st2_ch {w W : World} {CB n r : Nat} {K C : Nat → Int} (h : St2 w W CB n r K C) (hk : K r = 0) (hc : C r ≠ 47) (hr : r < n) :
    St2 w ((W.alloc (Obj.cells #[.int .u64 (chCode C r)] 31)).setCells CB (chList K C r).length [.int .u64 (chCode C r)]) CB n (r + 1) K C := by
  obtain ⟨k0, k1, k2, k4, k5, k6, kc⟩ := kinds_of (C := C) hk
  have hs : chStep K C r = true := by rw [kc]; simp [hc]
  have k2' : pSl K C r = false := by rw [k2]; simp [hc]
  have h1 := h.alloc (Obj.cells #[.int .u64 (chCode C r)] 31)
  have hcb := h.cb
  have hlen : (chList K C r).length < (chList K C n).length := by
    have := chList_mono K C (r + 1) n hr
    rw [chList_yes K C r hs] at this
    simp at this
    omega
  show St2 w ((W.alloc (Obj.cells #[.int .u64 (chCode C r)] 31)).setCell ⟨CB, (chList K C r).length, none⟩ (.int .u64 (chCode C r))) CB n (r + 1) K C
  refine ⟨st_congr (words := maskCell K C r) ⟨h1.st.bel.setCell (by show w.heap.size ≤ CB; omega) _, by have := h1.st.size; simpa using this, h1.st.res.setOther (by show w.heap.size ≠ CB; omega) _, h1.st.wds.setOther (by show w.heap.size + 1 ≠ CB; omega) _, h1.st.m.setOther (by show w.heap.size + 2 ≠ CB; omega) _⟩ (fun i j _ hj => ?_), hcb, ?_⟩
  · refine maskCell_of K C r i j hj (fun h8 => ?_) (fun h8 => ?_)
    · rw [maskAt_same K C r i j h8 (.inl ⟨fun _ => k0, fun _ => k1, fun _ => k2', fun _ => k4, fun _ => k5, fun _ => k6, fun _ => .inl (by omega)⟩)]; unfold maskCell; rw [if_pos h8]
    · unfold maskCell; rw [if_neg h8]
  · refine (h1.ch.set (chList K C r).length 0 (by omega) _ (by omega)).congr (fun i j hi hj => ?_)
    obtain rfl : j = 0 := by omega
    rw [chList_yes K C r hs]
    by_cases e : i = (chList K C r).length
    · subst e; simp
    · rw [if_neg (fun h => e h.1)]
      congr 1
      by_cases hl : i < (chList K C r).length
      · simp [List.getD_eq_getElem?_getD, List.getElem?_append_left hl]
      · simp [List.getD_eq_getElem?_getD, List.getElem?_eq_none (l := chList K C r) (i := i) (by omega), List.getElem?_eq_none (l := chList K C r ++ [chCode C r]) (i := i) (by simp; omega)]

theorem wrap_pow (r : Nat) : IntKind.u64.wrap ((2 : Int) ^ (r % 64)) = ((2 ^ (r % 64) : Nat) : Int) := by
  have h := two_pow_lt64 r
  rw [IntKind.wrap_u64, show ((2 : Int) ^ (r % 64)) = ((2 ^ (r % 64) : Nat) : Int) by push_cast; rfl]
  generalize (2 : Nat) ^ (r % 64) = p at h
  omega

end Go.Proofs.Qxb6000847a
