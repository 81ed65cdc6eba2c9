import Derived.Test.YbulkajnySortLen
import Derived.Test.YbulkajnySort1
import Derived.Test.YbulkajnySortA6
import Derived.Test.YbulkajnySortB3
import Derived.Test.YbulkajnySortC
import Derived.Test.YbulkajnySortC4
import Derived.Test.YbulkajnySort7
import Derived.Test.YbulkajnySort11
import Derived.Test.YbulkajnySort13
import Derived.Sort.WalkA14
import Derived.Sort.AssemblyPlain
import Derived.WalkKit
import Derived.BigGuard
import Derived.BigCall
import Derived.CellFam
import Derived.Deep.Draws
import Derived.Deep.QuietTactic
import Derived.BigQuiet
import Derived.RegionTactic
namespace Go.Proofs.Ybulkajny
open Go.RowKit Go.Sort

def pdqWalk_32 : Prop := ∀ (blk off cap a b limit : Nat) (d : Array Int) (w : World), Holds (Value.int .i32) w blk off d → blk < w.heap.size → a ≤ b → b ≤ d.size → d.size < 4611686018427387904 → limit < 4611686018427387904 → Below ltInt a b d →
  Calls Yba.prog 21 #[.slice (some ⟨blk, off, none⟩) d.size cap, .int .i64 a, .int .i64 b, .int .i64 limit] w fun e w' =>
    e = .returned (.tuple #[]) ∧ ∃ n os, w' = grow (putRow (Value.int .i32) (Sort.ahead w n) blk off (Sort.pdq ltInt d a b limit true true)) os

set_option maxRecDepth 100000 in
theorem s32_Sort (hpdq : pdqWalk_32) (blk off cap : Nat) (d : Array Int) (w : World) (hH : Holds (Value.int .i32) w blk off d) (hblk : blk < w.heap.size) (hsz : d.size < 4611686018427387904) :
    Calls Yba.prog 10 #[.slice (some ⟨blk, off, none⟩) d.size cap] w fun e w' => e = .returned (.tuple #[]) ∧ ∃ n os, w' = grow (putRow (Value.int .i32) (Sort.ahead w n) blk off (Sort.sort ltInt d)) os := by
  have HH : Hid (Holds (Value.int .i32) w blk off d) := hH
  clear hH
  have hLen : ∀ w, Calls Yba.prog 22 #[.int .u64 (d.size : Int)] w fun e w' => e = .returned (.int .i64 (bitsLen d.size : Nat)) ∧ w' = w := fun w => by
    have h := s32_bits_Len (d.size : Int) w (by omega) (by omega)
    rwa [Int.toNat_natCast, bitLen_eq _ (by omega)] at h
  have hk : bitsLen d.size ≤ 62 := (bitsLen_le_iff d.size 62).2 (by omega)
  go_enter Yba.func10, Yba.ntmps10
  go_wp2_with (first
    | (go_at_call 22; refine (hLen _).mono ?_; rintro e w' ⟨rfl, rfl⟩)
    | (go_at_call 21; refine (hpdq blk off cap 0 d.size (bitsLen d.size) d _ (by exact HH.out) (by exact hblk) (Nat.zero_le _) (Nat.le_refl _) hsz (by omega) (Or.inl rfl)).mono ?_; rintro e w' ⟨rfl, n, os, rfl⟩))
  go_end0
  exact ⟨rfl, n, os, rfl⟩

theorem s32_insertionSort_int_nil (p : Option Addr) (cap : Nat) (w : World) :
    Calls Yba.prog 29 #[.slice p 0 cap, .int .i64 0, .int .i64 0] w fun e w' => e = .returned (.tuple #[]) ∧ w' = w := by
  go_enter Yba.func29, Yba.ntmps29
  go_wp2
  refine wp_loop_rounds 1 ?_
  rw [rounds_succ]
  go_wp2
  go_end0
  exact ⟨rfl, rfl⟩

set_option maxRecDepth 100000 in
theorem s32_pdqsort_int_nil (p : Option Addr) (cap : Nat) (w : World) :
    Calls Yba.prog 21 #[.slice p 0 cap, .int .i64 0, .int .i64 0, .int .i64 0] w fun e w' => e = .returned (.tuple #[]) ∧ w' = w := by
  go_enter Yba.func21, Yba.ntmps21
  go_wp2
  refine wp_loop_rounds 1 ?_
  rw [rounds_succ]
  go_wp2_with (first | (go_at_call 29; refine (s32_insertionSort_int_nil p cap _).mono ?_; rintro e w' ⟨rfl, rfl⟩))
  refine bodyPost_ret (results_none rfl _ _ _) rfl ?_
  exact ⟨rfl, rfl⟩

set_option maxRecDepth 100000 in
theorem s32_Sort_int_nil (p : Option Addr) (cap : Nat) (w : World) :
    Calls Yba.prog 10 #[.slice p 0 cap] w fun e w' => e = .returned (.tuple #[]) ∧ w' = w := by
  have hLen : ∀ w, Calls Yba.prog 22 #[.int .u64 0] w fun e w' => e = .returned (.int .i64 0) ∧ w' = w := fun w => s32_bits_Len 0 w (by omega) (by omega)
  go_enter Yba.func10, Yba.ntmps10
  go_wp2_with (first
    | (go_at_call 22; refine (hLen _).mono ?_; rintro e w' ⟨rfl, rfl⟩)
    | (go_at_call 21; refine (s32_pdqsort_int_nil p cap _).mono ?_; rintro e w' ⟨rfl, rfl⟩))
  go_end0
  exact ⟨rfl, rfl⟩

theorem callees32 : Callees13 where
  ins := s32_insertionSort
  brk := s32_breakPatterns
  piv := s32_choosePivot
  par := s32_partialInsertionSort
  peq := s32_partitionEqualOrdered
  prt := s32_partitionOrdered

theorem plain32 : Plain13 where
  swo := swo_ltInt
  ins := insertionSort_holds
  par := partialInsertionSort_holds
  prt := partition_holds _
  peq := partitionEqual_holds _
  pdq := pdq_sorts _

theorem pdqWalk32 : pdqWalk_32 := fun blk off cap a b limit d w hH hb hab hbd hsz hl hB =>
  s32_pdqsort callees32 plain32 (b - a + 1) blk off cap a b limit d w (by omega) hH hb hab hbd hsz hl hB

theorem sort_32_eq (zs : List Int) : Sort.sort ltInt zs.toArray = (zs.mergeSort fun x y => decide (x ≤ y)).toArray := by
  rw [← sortInt zs]

/-- slices.Sort at []int32: the cells then hold the sorted list; all else is as it was but for draws and new blocks behind the heap. -/
theorem s32_slices_Sort (blk off cap : Nat) (zs : List Int) (w : World) (hH : Holds (Value.int .i32) w blk off zs.toArray) (hblk : blk < w.heap.size) (hsz : zs.length < 4611686018427387904) :
    Calls Yba.prog 10 #[.slice (some ⟨blk, off, none⟩) zs.length cap] w fun e w' =>
      e = .returned (.tuple #[]) ∧ ∃ n os, w' = grow (putRow (Value.int .i32) (Sort.ahead w n) blk off (zs.mergeSort fun x y => decide (x ≤ y)).toArray) os := by
  have h := s32_Sort pdqWalk32 blk off cap zs.toArray w hH hblk (by simpa using hsz)
  rw [sort_32_eq] at h
  simpa using h
#print axioms s32_slices_Sort

end Go.Proofs.Ybulkajny
