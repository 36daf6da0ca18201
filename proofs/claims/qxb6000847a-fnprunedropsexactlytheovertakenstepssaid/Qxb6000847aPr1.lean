import Derived.Test.Qxb6000847aFil
import Derived.Test.Qxb6000847aTop
namespace Go.Proofs.Qxb6000847a
open Go.RowKit
set_option linter.unusedSimpArgs false
set_option linter.unusedVariables false

theorem shr_nat (x s : Nat) : (x : Int) / 2 ^ s = ((x >>> s : Nat) : Int) := by
  rw [Nat.shiftRight_eq_div_pow]; simp

theorem shr_lt {x : Nat} (s : Nat) (h : x < 18446744073709551616) : x >>> s < 18446744073709551616 := by
  rw [Nat.shiftRight_eq_div_pow]
  exact Nat.lt_of_le_of_lt (Nat.div_le_self _ _) h
theorem shr_eq (x s d : Nat) (h : 2 ^ s = d) : (x : Int) / (d : Int) = ((x >>> s : Nat) : Int) := by
  rw [Nat.shiftRight_eq_div_pow, h]; simp
theorem fd_and (Y s d : Nat) (h : 2 ^ s = d) (l : Y < 18446744073709551616) : bits .and .u64 (Y : Int) ((Y : Int) / (d : Int)) = ((Y &&& (Y >>> s) : Nat) : Int) := by
  rw [shr_eq Y s d h, bits_and_u64_nat _ _ l (shr_lt s l)]
theorem fd_or (X Y s d : Nat) (h : 2 ^ s = d) (l1 : X < 18446744073709551616) (l2 : Y < 18446744073709551616) :
    bits .or .u64 (X : Int) (bits .and .u64 (Y : Int) ((X : Int) / (d : Int))) = ((X ||| (Y &&& (X >>> s)) : Nat) : Int) := by
  rw [shr_eq X s d h, bits_and_u64_nat _ _ l2 (shr_lt s l1), bits_or_u64_nat _ _ l1 (Nat.lt_of_le_of_lt Nat.and_le_left l2)]

theorem fillDown_calls (f p : Nat) (w : World) (hf : f < 18446744073709551616) (hp : p < 18446744073709551616) :
    Calls Try.prog 24 #[.int .u64 f, .int .u64 p] w fun e w' => e = .returned (.int .u64 (fd f p : Nat)) ∧ w' = w := by
  go_enter Try.func24, Try.ntmps24
  go_wp2
  go_loopg [0, 1, 5] 6 (fun g s0 s1 s5 wx => w = wx ∧ ∃ i : Nat, i ≤ 6 ∧ g = 6 - i ∧ s5 = .int .i64 ((2 ^ i : Nat) : Int) ∧ s0 = .int .u64 ((fdF f p i).1 : Nat) ∧ s1 = .int .u64 ((fdF f p i).2 : Nat))
  case atStart => exact ⟨rfl, 0, by omega, rfl, rfl, rfl, rfl⟩
  case round =>
    obtain ⟨rfl, i, hi, rfl, rfl, rfl, rfl⟩ := hrel
    by_cases h6 : i < 6
    · obtain ⟨l1, l2⟩ := fdF_lt f p i hf hp
      have HF : Hid ((fdF f p (i + 1)).1 = (fdF f p i).1 ||| ((fdF f p i).2 &&& ((fdF f p i).1 >>> 2 ^ i))) := rfl
      have HP : Hid ((fdF f p (i + 1)).2 = (fdF f p i).2 &&& ((fdF f p i).2 >>> 2 ^ i)) := rfl
      generalize (fdF f p i).1 = X at l1 HF HP ⊢
      generalize (fdF f p i).2 = Y at l2 HF HP ⊢
      rcases (by omega : i = 0 ∨ i = 1 ∨ i = 2 ∨ i = 3 ∨ i = 4 ∨ i = 5) with rfl | rfl | rfl | rfl | rfl | rfl
      · go_wp2
        go_roundg (6 - (0 + 1))
        case measure => omega
        case rel => exact ⟨rfl, 0 + 1, by omega, rfl, rfl, by rw [HF.out]; exact congrArg (Value.int .u64) (fd_or X Y 1 2 rfl l1 l2), by rw [HP.out]; exact congrArg (Value.int .u64) (fd_and Y 1 2 rfl l2)⟩
      · go_wp2
        go_roundg (6 - (1 + 1))
        case measure => omega
        case rel => exact ⟨rfl, 1 + 1, by omega, rfl, rfl, by rw [HF.out]; exact congrArg (Value.int .u64) (fd_or X Y 2 4 rfl l1 l2), by rw [HP.out]; exact congrArg (Value.int .u64) (fd_and Y 2 4 rfl l2)⟩
      · go_wp2
        go_roundg (6 - (2 + 1))
        case measure => omega
        case rel => exact ⟨rfl, 2 + 1, by omega, rfl, rfl, by rw [HF.out]; exact congrArg (Value.int .u64) (fd_or X Y 4 16 rfl l1 l2), by rw [HP.out]; exact congrArg (Value.int .u64) (fd_and Y 4 16 rfl l2)⟩
      · go_wp2
        go_roundg (6 - (3 + 1))
        case measure => omega
        case rel => exact ⟨rfl, 3 + 1, by omega, rfl, rfl, by rw [HF.out]; exact congrArg (Value.int .u64) (fd_or X Y 8 256 rfl l1 l2), by rw [HP.out]; exact congrArg (Value.int .u64) (fd_and Y 8 256 rfl l2)⟩
      · go_wp2
        go_roundg (6 - (4 + 1))
        case measure => omega
        case rel => exact ⟨rfl, 4 + 1, by omega, rfl, rfl, by rw [HF.out]; exact congrArg (Value.int .u64) (fd_or X Y 16 65536 rfl l1 l2), by rw [HP.out]; exact congrArg (Value.int .u64) (fd_and Y 16 65536 rfl l2)⟩
      · go_wp2
        go_roundg (6 - (5 + 1))
        case measure => omega
        case rel => exact ⟨rfl, 5 + 1, by omega, rfl, rfl, by rw [HF.out]; exact congrArg (Value.int .u64) (fd_or X Y 32 4294967296 rfl l1 l2), by rw [HP.out]; exact congrArg (Value.int .u64) (fd_and Y 32 4294967296 rfl l2)⟩
    · obtain rfl : i = 6 := by omega
      go_wp2
      go_ret
      exact ⟨rfl, rfl⟩
end Go.Proofs.Qxb6000847a
