import Derived.Test.Qxb6001726aRows
import Derived.WalkKit
import Derived.ProofKit
import Derived.RowKit3
import Derived.Deep.LoopGhost
namespace Go.Proofs.Qxb6001726a
open Go.RowKit
set_option linter.unusedVariables false

/-- Is the byte an ASCII digit? -/
def dg (c : Int) : Bool := decide (48 ≤ c ∧ c ≤ 57)

theorem isDigit_calls (c : Int) (w : World) : Calls Try.prog 21 #[.int .u8 c] w fun e w' => e = .returned (.bool (dg c)) ∧ w' = w := by
  by_cases h1 : 48 ≤ c
  · have f : dg c = decide (c ≤ 57) := by simp [dg, h1]
    rw [f]
    go_enter Try.func21, Try.ntmps21
    go_wp2
    go_ret
    exact ⟨rfl, rfl⟩
  · have f : dg c = false := by simp [dg, h1]
    rw [f]
    go_enter Try.func21, Try.ntmps21
    go_wp2
    go_ret
    exact ⟨rfl, rfl⟩

theorem isDigitByte_calls (c : Int) (w : World) : Calls Try.prog 11 #[.int .u8 c] w fun e w' => e = .returned (.bool (dg c)) ∧ w' = w := by
  by_cases h1 : 48 ≤ c
  · have f : dg c = decide (c ≤ 57) := by simp [dg, h1]
    rw [f]
    go_enter Try.func11, Try.ntmps11
    go_wp2
    go_ret
    exact ⟨rfl, rfl⟩
  · have f : dg c = false := by simp [dg, h1]
    rw [f]
    go_enter Try.func11, Try.ntmps11
    go_wp2
    go_ret
    exact ⟨rfl, rfl⟩

/-- 'n' is the length of the longest run of digits at the head. -/
structure Pre (s : ByteArray) (n : Nat) : Prop where
  le : n ≤ s.size
  all : ∀ i (h : i < s.size), i < n → dg (s[i].toNat : Int) = true
  stop : ∀ h : n < s.size, dg (s[n].toNat : Int) = false

theorem countDigits_calls (s : ByteArray) (w : World) (hs : s.size ≤ 1048576) :
    Calls Try.prog 19 #[.string s] w fun e w' => ∃ n : Nat, e = .returned (.int .i64 n) ∧ Pre s n ∧ w' = w := by
  go_enter Try.func19, Try.ntmps19
  go_wp2
  go_loop [3] (fun i => ∃ k : Nat, k ≤ s.size ∧ i = .int .i64 k ∧ ∀ i (h : i < s.size), i < k → dg (s[i].toNat : Int) = true) (fun i => s.size - (intOf i).toNat)
  case atStart => exact ⟨0, Nat.zero_le _, rfl, fun i _ h => absurd h (by omega)⟩
  case round =>
    obtain ⟨k, hk, rfl, ha⟩ := hrel
    have HA : Hid (∀ i (h : i < s.size), i < k → dg (s[i].toNat : Int) = true) := ha
    clear ha
    by_cases hlt : k < s.size
    · have hc := isDigit_calls (s[k].toNat : Int) w
      cases hd : dg (s[k].toNat : Int) with
      | false =>
        rw [hd] at hc
        go_wp2_with fail
        refine hc.mono ?_
        rintro e w' ⟨rfl, rfl⟩
        go_wp2
        go_ret
        exact ⟨k, rfl, ⟨hk, HA.out, fun _ => hd⟩, rfl⟩
      | true =>
        rw [hd] at hc
        go_wp2_with fail
        refine hc.mono ?_
        rintro e w' ⟨rfl, rfl⟩
        go_wp2
        go_round
        case rel =>
          refine ⟨k + 1, by omega, by go_num, ?_⟩
          intro i h hi
          by_cases hik : i = k
          · subst hik; exact hd
          · exact HA.out i h (by omega)
        case measure => simp [intOf]; omega
    · go_wp2
      go_ret
      exact ⟨k, rfl, ⟨hk, HA.out, fun h => absurd h hlt⟩, rfl⟩

theorem zzCount_calls (s : ByteArray) (w : World) (hs : s.size ≤ 1048576) :
    Calls Try.prog 10 #[.string s] w fun e w' => ∃ n : Nat, e = .returned (.int .i64 n) ∧ Pre s n ∧ w' = w := by
  go_enter Try.func10, Try.ntmps10
  go_wp2_with fail
  refine (countDigits_calls s w hs).mono ?_
  rintro e w' ⟨n, rfl, hp, rfl⟩
  go_wp2
  go_ret
  exact ⟨n, rfl, hp, rfl⟩

theorem zzBytes_calls (s : ByteArray) (w : World) :
    Calls Try.prog 9 #[.string s] w fun e w' => e = .returned (.bool (decide (s.size ≤ 1048576))) ∧ w' = w := by
  by_cases h : s.size ≤ 1048576
  · rw [decide_eq_true h]
    go_enter Try.func9, Try.ntmps9
    go_wp2
    go_ret
    exact ⟨rfl, rfl⟩
  · rw [decide_eq_false h]
    go_enter Try.func9, Try.ntmps9
    go_wp2
    go_ret
    exact ⟨rfl, rfl⟩

theorem law_calls (s : ByteArray) (w : World) (hx : s.size ≤ maxLen) :
    Calls Try.prog 3 #[.string s] w fun e w' => e = .returned (.bool true) ∧ Grown w w' := by
  have hb := zzBytes_calls s w
  by_cases h : s.size ≤ 1048576
  · rw [decide_eq_true h] at hb
    go_enter Try.func3, Try.ntmps3
    go_wp2_with fail
    refine hb.mono ?_
    rintro e w' ⟨rfl, rfl⟩
    have f0 : decide ((1048576 : Int) < (s.size : Int)) = false := decide_eq_false (by omega)
    go_wp2_with fail
    refine (zzCount_calls s _ h).mono ?_
    rintro e w' ⟨n, rfl, hp, rfl⟩
    have hle := hp.le
    have HP : Hid (Pre s n) := hp
    clear hp
    have f1 : decide ((n : Int) < 0) = false := decide_eq_false (by omega)
    have f2 : decide (s.size < n) = false := decide_eq_false (by omega)
    have f3 : decide ((1048576 : Int) < (s.size : Int)) = false := decide_eq_false (by omega)
    go_wp2
    go_loopg [4] n (fun g i wx => w' = wx ∧ ∃ k : Nat, k ≤ n ∧ g = n - k ∧ i = .int .i64 k)
    case atStart => exact ⟨rfl, 0, Nat.zero_le _, rfl, rfl⟩
    case round =>
      obtain ⟨rfl, k, hk, rfl, rfl⟩ := hrel
      by_cases hlt : k < n
      · have hks : k < s.size := by omega
        have hc := isDigitByte_calls (s[k].toNat : Int) w'
        rw [HP.out.all k hks hlt] at hc
        go_wp2_with fail
        refine hc.mono ?_
        rintro e w1 ⟨rfl, rfl⟩
        go_wp2
        go_roundg (n - (k + 1))
        case measure => omega
        case rel => exact ⟨rfl, k + 1, by omega, rfl, by go_num⟩
      · obtain rfl : k = n := by omega
        by_cases he : k = s.size
        · have f : ((k : Int) == (s.size : Int)) = true := by simp; omega
          go_wp2
          go_ret
          exact ⟨rfl, Grown.refl _⟩
        · have f : ((k : Int) == (s.size : Int)) = false := by simp; omega
          have hks : k < s.size := by omega
          have hc := isDigitByte_calls (s[k].toNat : Int) w'
          rw [HP.out.stop hks] at hc
          go_wp2_with fail
          refine hc.mono ?_
          rintro e w1 ⟨rfl, rfl⟩
          go_wp2
          go_ret
          exact ⟨rfl, Grown.refl _⟩
  · rw [decide_eq_false h] at hb
    go_enter Try.func3, Try.ntmps3
    go_wp2_with fail
    refine hb.mono ?_
    rintro e w' ⟨rfl, rfl⟩
    go_wp2
    go_ret
    exact ⟨rfl, Grown.refl _⟩
end Go.Proofs.Qxb6001726a
