/- slices.Sort at uint64, walked over this program: turned by program from the kit's own walks at int and string (other numbers, another element kind). -/
import Derived.Test.Qxb6000847aSoA
import Derived.Test.Qxb6000847aSo7
import Derived.Test.Qxb6000847aSoC5
import Derived.Test.Qxb6000847aSoC4
import Derived.Test.Qxb6000847aSo11
import Derived.Test.Qxb6000847aSo13
namespace Go.Proofs.Qxb6000847a
open Go.RowKit Go.Sort

def soPdqWalk : Prop := ∀ (blk off cap a b limit : Nat) (d : Array Int) (w : World), Holds (Value.int .u64) w blk off d → blk < w.heap.size → a ≤ b → b ≤ d.size → d.size < 4611686018427387904 → limit < 4611686018427387904 → Below ltInt a b d →
  Calls Try.prog 25 #[.slice (some ⟨blk, off, none⟩) d.size cap, .int .i64 a, .int .i64 b, .int .i64 limit] w fun e w' =>
    e = .returned (.tuple #[]) ∧ ∃ n os, w' = grow (putRow (Value.int .u64) (Sort.ahead w n) blk off (Sort.pdq ltInt d a b limit true true)) os

set_option maxRecDepth 100000 in
theorem so_Sort0 (hpdq : soPdqWalk) (blk off cap : Nat) (d : Array Int) (w : World) (hH : Holds (Value.int .u64) w blk off d) (hblk : blk < w.heap.size) (hsz : d.size < 4611686018427387904) :
    Calls Try.prog 22 #[.slice (some ⟨blk, off, none⟩) d.size cap] w fun e w' => e = .returned (.tuple #[]) ∧ ∃ n os, w' = grow (putRow (Value.int .u64) (Sort.ahead w n) blk off (Sort.sort ltInt d)) os := by
  have HH : Hid (Holds (Value.int .u64) w blk off d) := hH
  clear hH
  have hLen : ∀ w, Calls Try.prog 26 #[.int .u64 (d.size : Int)] w fun e w' => e = .returned (.int .i64 (bitsLen d.size : Nat)) ∧ w' = w := fun w => by
    have h := so_bits_Len (d.size : Int) w (by omega) (by omega)
    rwa [Int.toNat_natCast, bitLen_eq _ (by omega)] at h
  have hk : bitsLen d.size ≤ 62 := (bitsLen_le_iff d.size 62).2 (by omega)
  go_enter Try.func22, Try.ntmps22
  go_wp2_with (first
    | (go_at_call 26; refine (hLen _).mono ?_; rintro e w' ⟨rfl, rfl⟩)
    | (go_at_call 25; refine (hpdq blk off cap 0 d.size (bitsLen d.size) d _ (by exact HH.out) (by exact hblk) (Nat.zero_le _) (Nat.le_refl _) hsz (by omega) (Or.inl rfl)).mono ?_; rintro e w' ⟨rfl, n, os, rfl⟩))
  go_end0
  exact ⟨rfl, n, os, rfl⟩


theorem soPlain : SoPlain where
  swo := swo_ltInt
  ins := insertionSort_holds
  par := partialInsertionSort_holds
  prt := partition_holds _
  peq := partitionEqual_holds _
  pdq := pdq_sorts _

theorem soCallees : SoCallees where
  ins := so_insertionSort
  brk := so_breakPatterns
  piv := so_choosePivot
  par := so_partialInsertionSort
  peq := so_partitionEqual
  prt := so_partition

theorem soPdq : soPdqWalk := fun blk off cap a b limit d w hH hb hab hbd hsz hl hB =>
  so_pdqsort soCallees soPlain (b - a + 1) blk off cap a b limit d w (by omega) hH hb hab hbd hsz hl hB

/-- slices.Sort at []uint64: the cells then hold the numbers in ascending order. -/
theorem so_Sort (blk off cap : Nat) (zs : List Int) (w : World) (hH : Holds (Value.int .u64) w blk off zs.toArray) (hblk : blk < w.heap.size) (hsz : zs.length < 4611686018427387904) :
    Calls Try.prog 22 #[.slice (some ⟨blk, off, none⟩) zs.length cap] w fun e w' =>
      e = .returned (.tuple #[]) ∧ ∃ n os, w' = grow (putRow (Value.int .u64) (Sort.ahead w n) blk off (zs.mergeSort fun x y => decide (x ≤ y)).toArray) os := by
  have h := so_Sort0 soPdq blk off cap zs.toArray w hH hblk (by simpa using hsz)
  rw [show Sort.sort ltInt zs.toArray = (zs.mergeSort fun x y => decide (x ≤ y)).toArray from by rw [← sortInt zs]] at h
  simpa using h
#print axioms so_Sort

end Go.Proofs.Qxb6000847a
