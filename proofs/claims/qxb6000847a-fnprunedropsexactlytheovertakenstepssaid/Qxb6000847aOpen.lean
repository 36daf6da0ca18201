import Derived.WalkKit
import Derived.OpenShut
import Derived.ProofKit
namespace Go.Proofs.Qxb6000847a
open Go.RowKit

/-- A row of integers that came in, opened for the walk. -/
theorem row_open {k : IntKind} {w : World} {a : Option Addr} {len cap : Nat} {zs : List Int}
    (h : (a = none ∧ len = 0 ∧ cap = 0 ∧ zs = []) ∨
      ∃ x, a = some x ∧ len ≤ cap ∧ cap ≤ maxLen ∧ zs.length = cap ∧ (∀ i, i < zs.length → w.cell? (x.add i) = some (.int k (zs.getD i 0))) ∧ ∀ n ∈ zs, (Lit.int k n).wf = true) :
    ∃ b o, (0 < len → a = some ⟨b, o, none⟩) ∧ (∀ i, i < len → w.cell? ⟨b, o + i, none⟩ = some (.int k (zs.getD i 0))) ∧ len ≤ maxLen ∧ ∀ i, i < len → (Lit.int k (zs.getD i 0)).wf = true := by
  rcases h with ⟨rfl, rfl, rfl, rfl⟩ | ⟨x, rfl, hl, hc, hz, hcell, hw⟩
  · exact ⟨0, 0, fun h => absurd h (by omega), fun i hi => absurd hi (by omega), Nat.zero_le _, fun i hi => absurd hi (by omega)⟩
  · obtain ⟨b, o, s⟩ := x
    refine ⟨b, o, fun hp => ?_, fun i hi => ?_, Nat.le_trans hl hc, fun i hi => ?_⟩
    · have hspot : s = none := by simpa [Addr.add] using World.cell?_spot (hcell 0 (by omega))
      rw [hspot]
    · have hc := hcell i (by omega)
      have hspot : s = none := by simpa [Addr.add] using World.cell?_spot (hcell 0 (by omega))
      subst hspot
      by_cases h0 : i = 0
      · subst h0
        simpa [Addr.add] using hc
      · simpa [Addr.add, h0] using hc
    · have hi' : i < zs.length := by omega
      have : zs.getD i 0 ∈ zs := by
        rw [List.getD_eq_getElem?_getD, List.getElem?_eq_getElem hi']
        exact List.getElem_mem hi'
      exact hw _ this

theorem u8_of_wf {z : Int} (h : (Lit.int .u8 z).wf = true) : 0 ≤ z ∧ z < 256 := by
  simp [Lit.wf, IntKind.min, IntKind.max, IntKind.signed, IntKind.bits] at h
  omega
theorem i32_of_wf {z : Int} (h : (Lit.int .i32 z).wf = true) : -2147483648 ≤ z ∧ z < 2147483648 := by
  simp [Lit.wf, IntKind.min, IntKind.max, IntKind.signed, IntKind.bits] at h
  omega
end Go.Proofs.Qxb6000847a
