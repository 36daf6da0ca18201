import Derived.Test.Qxb6601244aRows
import Derived.WalkKit
import Derived.ProofKit
import Derived.WalkLawsBesides
import Derived.RowKit3
import Derived.Deep.LoopGhost
import Derived.BigGuard
import Derived.BigQuiet
import Derived.Deep.QuietTactic
namespace Go.Proofs.Qxb6601244a
open Go.RowKit
set_option linter.unusedVariables false

/-- The name of the 'n'-th column, counted from one: bijective base 26; 'f' rounds at most. -/
def nmF : Nat → Nat → List UInt8
  | 0, _ => []
  | f + 1, n => if n = 0 then [] else nmF f ((n - 1) / 26) ++ [UInt8.ofNat (65 + (n - 1) % 26)]
def nm (n : Nat) : List UInt8 := nmF n n

theorem nmF_fuel : ∀ (f g n : Nat), n ≤ f → n ≤ g → nmF f n = nmF g n := by
  intro f
  induction f with
  | zero =>
    intro g n hf hg
    obtain rfl : n = 0 := by omega
    cases g <;> simp [nmF]
  | succ f ih =>
    intro g n hf hg
    cases g with
    | zero =>
      obtain rfl : n = 0 := by omega
      simp [nmF]
    | succ g =>
      simp only [nmF]
      by_cases h : n = 0
      · simp [h]
      · rw [if_neg h, if_neg h, ih g ((n - 1) / 26) (by omega) (by omega)]

theorem nm_zero : nm 0 = [] := rfl
theorem nm_succ (n : Nat) : nm (n + 1) = nm (n / 26) ++ [UInt8.ofNat (65 + n % 26)] := by
  have h : nm (n + 1) = nmF n (n / 26) ++ [UInt8.ofNat (65 + n % 26)] := by
    unfold nm
    rw [nmF, if_neg (by omega)]
    rfl
  rw [h, nmF_fuel n (n / 26) (n / 26) (by omega) (Nat.le_refl _)]
  rfl

theorem nm_len (n : Nat) : (nm n).length ≤ n := by
  induction n using Nat.strongRecOn with
  | ind n ih =>
    cases n with
    | zero => rw [nm_zero]; exact Nat.le_refl _
    | succ m =>
      have := ih (m / 26) (by omega)
      rw [nm_succ, List.length_append]
      simp only [List.length_singleton]
      omega

theorem encode_cap (k : Nat) (h : k < 128) : Utf8.encode (k : Int) = ⟨#[UInt8.ofNat k]⟩ := by
  have hv : Utf8.valid (k : Int) = true := by
    simp [Utf8.valid]; omega
  simp [Utf8.encode, hv, h]

theorem append_mk (a : UInt8) (l : List UInt8) : (⟨#[a]⟩ : ByteArray) ++ (⟨l.toArray⟩ : ByteArray) = ⟨(a :: l).toArray⟩ := by
  apply ByteArray.ext
  simp [ByteArray.data_append]

set_option maxHeartbeats 800000 in
theorem columnName_calls (N : Nat) (w : World) (hN : N < 9223372036854775807) :
    Calls Try.prog 10 #[.int .i64 N] w fun e w' => e = .returned (.string ⟨(nm (N + 1)).toArray⟩) ∧ w' = w := by
  have hlen := nm_len (N + 1)
  go_enter Try.func10, Try.ntmps10
  go_wp2
  go_loop [3, 4] (fun s i => ∃ (k : Nat) (suf : List UInt8), k ≤ N + 1 ∧ i = .int .i64 k ∧ s = .string ⟨suf.toArray⟩ ∧ nm (N + 1) = nm k ++ suf) (fun _ i => (intOf i).toNat)
  case atStart => exact ⟨N + 1, [], Nat.le_refl _, by go_num, rfl, by simp⟩
  case round =>
    obtain ⟨k, suf, hk, rfl, rfl, he⟩ := hrel
    have hl := congrArg List.length he
    rw [List.length_append] at hl
    have HE : Hid (nm (N + 1) = nm k ++ suf) := he
    clear he
    cases k with
    | zero =>
      go_wp2
      go_ret
      rw [HE.out, nm_zero, List.nil_append]
      exact ⟨rfl, rfl⟩
    | succ m =>
      have hm := nm_succ m
      have hml := congrArg List.length hm
      rw [List.length_append] at hml
      simp only [List.length_singleton] at hml
      have HM : Hid (nm (m + 1) = nm (m / 26) ++ [UInt8.ofNat (65 + m % 26)]) := hm
      clear hm
      have henc : Utf8.encode (65 + (m : Int) % 26) = ⟨#[UInt8.ofNat (65 + m % 26)]⟩ := by
        have := encode_cap (65 + m % 26) (by omega)
        rw [← this]
        congr 1
      have hsz : (Utf8.encode (65 + (m : Int) % 26)).size = 1 := by rw [henc]; rfl
      have HC : Hid (Utf8.encode (65 + (m : Int) % 26) = ⟨#[UInt8.ofNat (65 + m % 26)]⟩) := henc
      clear henc
      go_wp2
      go_round
      case rel => exact ⟨m / 26, UInt8.ofNat (65 + m % 26) :: suf, by omega, by go_num, by rw [HC.out, append_mk], by rw [HE.out, HM.out, List.append_assoc]; rfl⟩
      case measure => simp [intOf]; omega

theorem zz_calls (N : Nat) (w : World) (hN : N < 9223372036854775807) :
    Calls Try.prog 6 #[.int .i64 N] w fun e w' => e = .returned (.string ⟨(nm (N + 1)).toArray⟩) ∧ w' = w := by
  have hc := columnName_calls N w hN
  go_enter Try.func6, Try.ntmps6
  go_wp2_with fail
  refine hc.mono ?_
  rintro e w' ⟨rfl, rfl⟩
  go_wp2
  go_ret
  exact ⟨rfl, rfl⟩

/-- The number that a name reads as. -/
def val (l : List UInt8) : Nat := l.foldl (fun v c => v * 26 + (c.toNat - 64)) 0

theorem val_snoc (l : List UInt8) (c : UInt8) : val (l ++ [c]) = val l * 26 + (c.toNat - 64) := by
  simp [val]

theorem ofNat_cap (m : Nat) : (UInt8.ofNat (65 + m % 26)).toNat = 65 + m % 26 := by
  simp; omega

theorem val_nm (n : Nat) : val (nm n) = n := by
  induction n using Nat.strongRecOn with
  | ind n ih =>
    cases n with
    | zero => rw [nm_zero]; rfl
    | succ m =>
      rw [nm_succ, val_snoc, ih (m / 26) (by omega), ofNat_cap]
      omega

theorem nm_letters (n : Nat) : ∀ c ∈ nm n, 65 ≤ c.toNat ∧ c.toNat ≤ 90 := by
  induction n using Nat.strongRecOn with
  | ind n ih =>
    cases n with
    | zero => rw [nm_zero]; intro c hc; cases hc
    | succ m =>
      intro c hc
      rw [nm_succ, List.mem_append, List.mem_singleton] at hc
      rcases hc with h | h
      · exact ih (m / 26) (by omega) c h
      · subst h
        rw [ofNat_cap]
        omega

/-- Reading on from 'a'. -/
def from' (a : Nat) (l : List UInt8) : Nat := l.foldl (fun v c => v * 26 + (c.toNat - 64)) a

theorem val_append (a b : List UInt8) : val (a ++ b) = from' (val a) b := by
  simp [val, from']

/-- 1 + 26 + 26^2 + .. : 'n' terms. -/
def rep : Nat → Nat
  | 0 => 0
  | n + 1 => rep n + 26 ^ n

theorem rep_next (n : Nat) : 26 * rep n + 1 = rep n + 26 ^ n := by
  induction n with
  | zero => rfl
  | succ n ih => rw [rep, Nat.pow_succ]; omega

theorem rep_mono {a b : Nat} (h : a ≤ b) : rep a ≤ rep b := by
  induction b with
  | zero => obtain rfl : a = 0 := by omega
            exact Nat.le_refl _
  | succ b ih =>
    by_cases hb : a = b + 1
    · subst hb; exact Nat.le_refl _
    · have := ih (by omega)
      rw [rep]
      exact Nat.le_trans this (Nat.le_add_right _ _)

theorem from_bounds (l : List UInt8) : ∀ (a : Nat), (∀ c ∈ l, 65 ≤ c.toNat ∧ c.toNat ≤ 90) →
    a * 26 ^ l.length + rep l.length ≤ from' a l ∧ from' a l ≤ a * 26 ^ l.length + 26 * rep l.length := by
  induction l with
  | nil => intro a _; simp [from', rep]
  | cons c l ih =>
    intro a h
    have hc := h c (by simp)
    have := ih (a * 26 + (c.toNat - 64)) (fun d hd => h d (by simp [hd]))
    have e : from' a (c :: l) = from' (a * 26 + (c.toNat - 64)) l := by simp [from']
    rw [e, List.length_cons, rep, Nat.pow_succ]
    have h1 : (a * 26 + (c.toNat - 64)) * 26 ^ l.length = a * (26 ^ l.length * 26) + (c.toNat - 64) * 26 ^ l.length := by
      rw [Nat.add_mul, Nat.mul_assoc, Nat.mul_comm 26]
    rw [h1] at this
    have h2 : 1 * 26 ^ l.length ≤ (c.toNat - 64) * 26 ^ l.length := Nat.mul_le_mul_right _ (by omega)
    have h3 : (c.toNat - 64) * 26 ^ l.length ≤ 26 * 26 ^ l.length := Nat.mul_le_mul_right _ (by omega)
    omega

def Caps (l : List UInt8) : Prop := ∀ c ∈ l, 65 ≤ c.toNat ∧ c.toNat ≤ 90

theorem val_short {x y : List UInt8} (hx : Caps x) (hy : Caps y) (h : x.length < y.length) : val x < val y := by
  have h1 := (from_bounds x 0 hx).2
  have h2 := (from_bounds y 0 hy).1
  have h3 := rep_next x.length
  have h4 : rep (x.length + 1) ≤ rep y.length := rep_mono h
  rw [rep] at h4
  have e1 : from' 0 x = val x := rfl
  have e2 : from' 0 y = val y := rfl
  omega

theorem val_first {p s t : List UInt8} {c d : UInt8} (hs : Caps s) (ht : Caps t) (hl : s.length = t.length) (hc : 65 ≤ c.toNat) (h : c.toNat < d.toNat) :
    val (p ++ c :: s) < val (p ++ d :: t) := by
  rw [val_append, val_append]
  have e1 : from' (val p) (c :: s) = from' (val p * 26 + (c.toNat - 64)) s := by simp [from']
  have e2 : from' (val p) (d :: t) = from' (val p * 26 + (d.toNat - 64)) t := by simp [from']
  rw [e1, e2]
  have h1 := (from_bounds s (val p * 26 + (c.toNat - 64)) hs).2
  have h2 := (from_bounds t (val p * 26 + (d.toNat - 64)) ht).1
  have h3 := rep_next s.length
  rw [← hl] at h2
  have h4 : (val p * 26 + (c.toNat - 64) + 1) * 26 ^ s.length ≤ (val p * 26 + (d.toNat - 64)) * 26 ^ s.length := Nat.mul_le_mul_right _ (by omega)
  rw [Nat.add_mul _ 1] at h4
  omega

theorem split_at {x : List UInt8} {k : Nat} (hk : k < x.length) : x = x.take k ++ x[k] :: x.drop (k + 1) := by
  rw [List.getElem_cons_drop, List.take_append_drop]

theorem val_at {x y : List UInt8} (hx : Caps x) (hy : Caps y) (hl : x.length = y.length) {k : Nat} (hk : k < x.length) (hk' : k < y.length) (he : x.take k = y.take k)
    (h : x[k].toNat < y[k].toNat) : val x < val y := by
  rw [split_at hk, split_at hk', he]
  exact val_first (fun c hc => hx c (List.mem_of_mem_drop hc)) (fun c hc => hy c (List.mem_of_mem_drop hc)) (by simp; omega) (hx _ (List.getElem_mem hk)).1 h

theorem val_take (l : List UInt8) (hl : Caps l) (k : Nat) : val (l.take k) ≤ val l := by
  rcases Nat.lt_or_ge k l.length with h | h
  · exact Nat.le_of_lt (val_short (fun c hc => hl c (List.mem_of_mem_take hc)) hl (by simp; omega))
  · rw [List.take_of_length_le h]
    exact Nat.le_refl _

theorem caps_nm (n : Nat) : Caps (nm n) := nm_letters n

theorem size_mk (l : List UInt8) : (⟨l.toArray⟩ : ByteArray).size = l.length := by simp [ByteArray.size]
theorem get_mk (l : List UInt8) (k : Nat) (h : k < (⟨l.toArray⟩ : ByteArray).size) (h' : k < l.length) : (⟨l.toArray⟩ : ByteArray)[k]'h = l[k] := rfl

/-- The law's reading of a name of capital letters whose number fits. -/
theorem base26_calls (N : Nat) (w : World) (hN : N < 9223372036854775807) :
    Calls Try.prog 3 #[.int .i64 N] w fun e w' => e = .returned (.bool true) ∧ w' = w := by
  have hc := zz_calls N w hN
  have hv : val (nm (N + 1)) = N + 1 := val_nm _
  have hcap := caps_nm (N + 1)
  have hlen := nm_len (N + 1)
  have hpos : 0 < (nm (N + 1)).length := by rw [nm_succ]; simp
  go_enter Try.func3, Try.ntmps3
  have hf1 : decide ((N : Int) < 0) = false := decide_eq_false (by omega)
  have hf2 : ((N : Int) == 9223372036854775807) = false := by simp; omega
  go_wp2_with fail
  refine hc.mono ?_
  rintro e w' ⟨rfl, rfl⟩
  clear hc
  generalize nm (N + 1) = l at hv hcap hlen hpos ⊢
  have HV : Hid (val l = N + 1) := hv
  have HC : Hid (Caps l) := hcap
  clear hcap
  have hsz := size_mk l
  go_wp2
  go_loop [4, 5] (fun v i => ∃ k : Nat, k ≤ l.length ∧ i = .int .i64 k ∧ v = .int .i64 (val (l.take k))) (fun _ i => l.length - (intOf i).toNat)
  case atStart => exact ⟨0, Nat.zero_le _, rfl, rfl⟩
  case round =>
    obtain ⟨k, hk, rfl, rfl⟩ := hrel
    by_cases hlt : k < l.length
    · have hcap := HC.out l[k] (List.getElem_mem hlt)
      have hx : k < (⟨l.toArray⟩ : ByteArray).size := by rw [hsz]; exact hlt
      have h1 : 65 ≤ ((⟨l.toArray⟩ : ByteArray)[k]'hx).toNat := hcap.1
      have h2 : ((⟨l.toArray⟩ : ByteArray)[k]'hx).toNat ≤ 90 := hcap.2
      clear hcap
      have hs : val (l.take (k + 1)) = val (l.take k) * 26 + (((⟨l.toArray⟩ : ByteArray)[k]'hx).toNat - 64) := by
        rw [List.take_succ_eq_append_getElem hlt, val_snoc]
        rfl
      have hle := val_take l HC.out (k + 1)
      go_wp2
      go_round
      case rel => exact ⟨_, _, _, ⟨k + 1, by omega, rfl, rfl⟩, rfl, by rw [hs]; go_num, by go_num⟩
      case measure => simp [intOf]; omega
    · obtain rfl : k = l.length := by omega
      have e : val (l.take l.length) = N + 1 := by rw [List.take_length]; exact HV.out
      rw [e]
      go_wp2
      go_ret
      refine ⟨?_, rfl⟩
      simp

theorem grown_drewN {w w' : World} (h : Grown w w') (n : Nat) : Grown w (w'.drewN n) := by
  exact h

theorem less_calls (x y : List UInt8) (w : World) (hx : Caps x) (hy : Caps y) (lx : x.length < 9223372036854775807) (ly : y.length < 9223372036854775807) :
    Calls Try.prog 7 #[.string ⟨x.toArray⟩, .string ⟨y.toArray⟩] w fun e w' => e = .returned (.bool (decide (val x < val y))) ∧ Grown w w' := by
  have HX : Hid (Caps x) := hx
  have HY : Hid (Caps y) := hy
  clear hx hy
  have sx := size_mk x
  have sy := size_mk y
  by_cases hl : x.length = y.length
  · go_enter Try.func7, Try.ntmps7
    go_wp2
    go_loopg [5] x.length (fun g s5 wx => ∃ k : Nat, k ≤ x.length ∧ g = x.length - k ∧ s5 = .int .i64 k ∧ x.take k = y.take k ∧ Grown w wx)
    case atStart => exact ⟨0, Nat.zero_le _, rfl, rfl, rfl, Grown.refl _⟩
    case round =>
      obtain ⟨k, hk, rfl, rfl, he, hg⟩ := hrel
      have HE : Hid (x.take k = y.take k) := he
      clear he
      by_cases hlt : k < x.length
      · have hx : k < (⟨x.toArray⟩ : ByteArray).size := by rw [sx]; exact hlt
        have hy : k < (⟨y.toArray⟩ : ByteArray).size := by rw [sy]; omega
        have hly : k < y.length := by omega
        by_cases hne : ((⟨x.toArray⟩ : ByteArray)[k]'hx).toNat = ((⟨y.toArray⟩ : ByteArray)[k]'hy).toNat
        · have hb : ((((⟨x.toArray⟩ : ByteArray)[k]'hx).toNat : Int) != (((⟨y.toArray⟩ : ByteArray)[k]'hy).toNat : Int)) = false := by rw [hne]; simp
          have hn : x.take (k + 1) = y.take (k + 1) := by
            have e : x[k] = y[k] := UInt8.toNat_inj.1 hne
            rw [List.take_succ_eq_append_getElem hlt, List.take_succ_eq_append_getElem hly, HE.out, e]
          clear hne
          go_wp2
          go_quiet (fail)
          go_wp2
          go_roundg (x.length - (k + 1))
          case measure => omega
          case rel => exact ⟨k + 1, by omega, rfl, by go_num, hn, grown_drewN hg _⟩
        · have hb : ((((⟨x.toArray⟩ : ByteArray)[k]'hx).toNat : Int) != (((⟨y.toArray⟩ : ByteArray)[k]'hy).toNat : Int)) = true := by rw [bne_iff_ne]; omega
          have hv : decide (((⟨x.toArray⟩ : ByteArray)[k]'hx).toNat < ((⟨y.toArray⟩ : ByteArray)[k]'hy).toNat) = decide (val x < val y) := by
            rcases Nat.lt_or_gt_of_ne hne with h | h
            · rw [decide_eq_true (val_at HX.out HY.out hl hlt hly HE.out h), decide_eq_true h]
            · have := val_at HY.out HX.out hl.symm hly hlt HE.out.symm h
              rw [decide_eq_false (by omega), decide_eq_false (by omega)]
          clear hne
          have HV : Hid (decide (((⟨x.toArray⟩ : ByteArray)[k]'hx).toNat < ((⟨y.toArray⟩ : ByteArray)[k]'hy).toNat) = decide (val x < val y)) := hv
          clear hv
          go_wp2
          go_quiet (fail)
          go_wp2
          go_quiet (fail)
          go_wp2
          go_ret
          exact ⟨by rw [← HV.out]; rfl, grown_drewN (grown_drewN hg _) _⟩
      · obtain rfl : k = x.length := by omega
        have e : x = y := by
          have := HE.out
          rw [List.take_length, hl, List.take_length] at this
          exact this
        have hv : decide (val x < val y) = false := by rw [e]; simp
        go_wp2
        go_ret
        exact ⟨by rw [hv]; rfl, hg⟩
  · have hv : decide (x.length < y.length) = decide (val x < val y) := by
      rcases Nat.lt_or_gt_of_ne hl with h | h
      · rw [decide_eq_true (val_short HX.out HY.out h), decide_eq_true h]
      · have := val_short HY.out HX.out h
        rw [decide_eq_false (by omega), decide_eq_false (by omega)]
    have HV : Hid (decide (x.length < y.length) = decide (val x < val y)) := hv
    clear hv
    go_enter Try.func7, Try.ntmps7
    go_wp2
    go_ret
    exact ⟨by rw [← HV.out]; rfl, Grown.refl _⟩

theorem caps_len (n : Nat) (h : n < 9223372036854775807) : (nm n).length < 9223372036854775807 := by
  have := nm_len n
  omega

theorem nm_len_lt (n : Nat) (h : n ≤ 9223372036854775807) : (nm n).length < 9223372036854775807 := by
  by_cases hn : n < 9223372036854775807
  · exact caps_len n hn
  · obtain rfl : n = 9223372036854775806 + 1 := by omega
    have h1 := nm_len (9223372036854775806 / 26)
    rw [nm_succ, List.length_append, List.length_singleton]
    omega

theorem orders_calls (A B : Nat) (w : World) (hA : A < 9223372036854775807) (hB : B < 9223372036854775807) :
    Calls Try.prog 4 #[.int .i64 A, .int .i64 B] w fun e w' => e = .returned (.bool true) ∧ Grown w w' := by
  have hcA := zz_calls A w hA
  have hcB := zz_calls B w hB
  have hl := less_calls (nm (A + 1)) (nm (B + 1)) w (caps_nm _) (caps_nm _) (nm_len_lt _ (by omega)) (nm_len_lt _ (by omega))
  rw [val_nm, val_nm] at hl
  have f1 : decide ((A : Int) < 0) = false := decide_eq_false (by omega)
  have f2 : ((A : Int) == 9223372036854775807) = false := by simp; omega
  have f3 : decide ((B : Int) < 0) = false := decide_eq_false (by omega)
  have f4 : ((B : Int) == 9223372036854775807) = false := by simp; omega
  go_enter Try.func4, Try.ntmps4
  go_wp2_with fail
  refine hcA.mono ?_
  rintro e w1 ⟨rfl, rfl⟩
  go_wp2_with fail
  refine hcB.mono ?_
  rintro e w2 ⟨rfl, rfl⟩
  go_wp2_with fail
  refine hl.mono ?_
  rintro e w3 ⟨rfl, hg⟩
  go_wp2
  go_ret
  refine ⟨?_, hg⟩
  simp

theorem i64_of_wf {z : Int} (h : (Lit.int .i64 z).wf = true) : -9223372036854775808 ≤ z ∧ z ≤ 9223372036854775807 := by
  simp [Lit.wf, IntKind.min, IntKind.max, IntKind.signed, IntKind.bits] at h
  omega

theorem base26_any (a : Int) (h : (Lit.int .i64 a).wf = true) (w : World) :
    Calls Try.prog 3 #[.int .i64 a] w fun e w' => e = .returned (.bool true) ∧ Grown w w' := by
  have hr := i64_of_wf h
  by_cases h0 : 0 ≤ a ∧ a < 9223372036854775807
  · obtain ⟨N, rfl⟩ : ∃ N : Nat, a = N := ⟨a.toNat, by omega⟩
    refine (base26_calls N w (by omega)).mono ?_
    rintro e w' ⟨rfl, rfl⟩
    exact ⟨rfl, Grown.refl _⟩
  · have f : (decide (a < 0) || (a == 9223372036854775807)) = true := by
      simp; omega
    by_cases h1 : a < 0
    · go_enter Try.func3, Try.ntmps3
      go_wp2
      go_ret
      exact ⟨rfl, Grown.refl _⟩
    · obtain rfl : a = 9223372036854775807 := by omega
      go_enter Try.func3, Try.ntmps3
      go_wp2
      go_ret
      exact ⟨rfl, Grown.refl _⟩

theorem orders_any (a b : Int) (ha : (Lit.int .i64 a).wf = true) (hb : (Lit.int .i64 b).wf = true) (w : World) :
    Calls Try.prog 4 #[.int .i64 a, .int .i64 b] w fun e w' => e = .returned (.bool true) ∧ Grown w w' := by
  have hr := i64_of_wf ha
  have hr' := i64_of_wf hb
  by_cases h0 : 0 ≤ a ∧ a < 9223372036854775807
  · by_cases h1 : 0 ≤ b ∧ b < 9223372036854775807
    · obtain ⟨A, rfl⟩ : ∃ N : Nat, a = N := ⟨a.toNat, by omega⟩
      obtain ⟨B, rfl⟩ : ∃ N : Nat, b = N := ⟨b.toNat, by omega⟩
      exact orders_calls A B w (by omega) (by omega)
    · have f1 : decide (a < 0) = false := decide_eq_false (by omega)
      have f2 : (a == 9223372036854775807) = false := by simp; omega
      by_cases h2 : b < 0
      · go_enter Try.func4, Try.ntmps4
        go_wp2
        go_ret
        exact ⟨rfl, Grown.refl _⟩
      · obtain rfl : b = 9223372036854775807 := by omega
        go_enter Try.func4, Try.ntmps4
        go_wp2
        go_ret
        exact ⟨rfl, Grown.refl _⟩
  · by_cases h2 : a < 0
    · go_enter Try.func4, Try.ntmps4
      go_wp2
      go_ret
      exact ⟨rfl, Grown.refl _⟩
    · obtain rfl : a = 9223372036854775807 := by omega
      go_enter Try.func4, Try.ntmps4
      go_wp2
      go_ret
      exact ⟨rfl, Grown.refl _⟩
end Go.Proofs.Qxb6601244a
