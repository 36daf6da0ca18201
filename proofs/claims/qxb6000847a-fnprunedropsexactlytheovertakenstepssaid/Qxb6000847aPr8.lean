import Derived.Test.Qxb6000847aPr4
import Derived.Test.Qxb6000847aIdm
namespace Go.Proofs.Qxb6000847a
open Go.RowKit
set_option linter.unusedSimpArgs false
set_option linter.unusedVariables false

theorem mOf_le (K C : Nat → Int) (n M : Nat) (A B : Nat → Nat) : mOf K C n M A B ≤ M := cmp_le _ M

set_option maxHeartbeats 2000000 in
/-- sameWords of slices of any capacity. -/
theorem same_cells (x1 y1 x2 y2 m k1 k2 k3 k4 : Nat) (A Z : Nat → Nat) (w : World) (hm : m ≤ 65536)
    (h1 : ∀ j, j < m → w.cell? ⟨x1, j, none⟩ = some (.int .i64 (A j : Nat))) (h2 : ∀ j, j < m → w.cell? ⟨y1, j, none⟩ = some (.int .u64 (Z j : Nat)))
    (h3 : ∀ j, j < m → w.cell? ⟨x2, j, none⟩ = some (.int .i64 (A j : Nat))) (h4 : ∀ j, j < m → w.cell? ⟨y2, j, none⟩ = some (.int .u64 (Z j : Nat))) :
    Calls Try.prog 17 #[.slice (some ⟨x1, 0, none⟩) m k1, .slice (some ⟨y1, 0, none⟩) m k2, .slice (some ⟨x2, 0, none⟩) m k3, .slice (some ⟨y2, 0, none⟩) m k4] w fun e w' => e = .returned (.bool true) ∧ ∃ q, w' = w.drewN q := by
  go_enter Try.func17, Try.ntmps17
  go_wp2
  go_loopg [9] m (fun g s9 wx => ∃ k : Nat, k ≤ m ∧ g = m - k ∧ s9 = .int .i64 k ∧ ∃ q, wx = w.drewN q)
  case atStart => exact ⟨0, Nat.zero_le _, rfl, rfl, 0, rfl⟩
  case round =>
    obtain ⟨k, hk, rfl, rfl, q, rfl⟩ := hrel
    by_cases hkm : k < m
    · have c1 := h1 k hkm
      have c2 := h2 k hkm
      have c3 := h3 k hkm
      have c4 := h4 k hkm
      have hdk : decide ((k : Int) < (m : Int)) = true := decide_eq_true (by omega)
      have hki : (k : Int) < (m : Int) := by omega
      clear h1 h2 h3 h4
      go_wp2
      go_quiet (fail)
      go_wp2
      go_roundg (m - (k + 1))
      case measure => omega
      case rel => exact ⟨k + 1, by omega, rfl, by go_num, _, rfl⟩
    · go_wp2
      go_ret
      exact ⟨rfl, _, rfl⟩
end Go.Proofs.Qxb6000847a
