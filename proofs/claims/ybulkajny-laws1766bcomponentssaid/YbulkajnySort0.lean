import Derived.Test.YbulkajnyRows
import Derived.Lib.Walk
import Derived.Sort.Row
import Derived.Sort.WalkB12
import Derived.WalkKit
import Derived.Deep.LoopGhost
namespace Go.Proofs.Ybulkajny
open Go.RowKit Go.Sort

set_option maxHeartbeats 1000000 in
theorem s32_cmp_isNaN (x : Int) (w : World) : Calls Yba.prog 46 #[.int .i32 x] w fun e w' => e = .returned (.bool false) ∧ w' = w := by
  go_enter Yba.func46, Yba.ntmps46
  go_wp2
  go_ret
  exact ⟨by simp, rfl⟩

set_option maxHeartbeats 1000000 in
theorem s32_cmp_Less (x y : Int) (w : World) : Calls Yba.prog 35 #[.int .i32 x, .int .i32 y] w fun e w' => e = .returned (.bool (Sort.ltInt x y)) ∧ w' = w := by
  go_enter Yba.func35, Yba.ntmps35
  go_wp2_with (go_at_call 46; refine (s32_cmp_isNaN _ _).mono ?_; rintro e w' ⟨rfl, rfl⟩)
  go_ret
  exact ⟨rfl, rfl⟩

abbrev encJ : Int → Value := fun x => Value.int .i32 x

set_option maxHeartbeats 1600000 in
set_option maxRecDepth 1000000 in
theorem s32_reverseRange (blk off cap : Nat) (d : Array Int) (a b : Nat) (w : World) (hH : Holds encJ w blk off d) (hab : a ≤ b) (hb : b ≤ d.size) (hsz : d.size < 4611686018427387904) :
    Calls Yba.prog 33 #[.slice (some ⟨blk, off, none⟩) d.size cap, .int .i64 a, .int .i64 b] w fun e w' => e = .returned (.tuple #[]) ∧ ∃ n, w' = putRow encJ (Sort.ahead w n) blk off (reverseRange d a b) := by
  go_enter Yba.func33, Yba.ntmps33
  go_wp2
  go_loopg [6, 7] (b - a) (fun k s6 s7 wr => ∃ (i jn : Nat) (jz : Int) (dk : Array Int) (n : Nat), s6 = .int .i64 i ∧ s7 = .int .i64 jz ∧ ((i : Int) < jz → jz = jn ∧ jn < d.size) ∧ (¬ (i : Int) < jz → ¬ i < jn) ∧ jn - i ≤ k ∧
    dk.size = d.size ∧ wr = putRow encJ (Sort.ahead w n) blk off dk ∧ reverseLoop i jn dk = reverseLoop a (b - 1) d)
  case atStart => exact ⟨a, b - 1, (b : Int) - 1, d, 0, rfl, rfl, fun h => ⟨by omega, by omega⟩, fun h => by omega, by omega, rfl, (putRow_self encJ w blk off d hH).symm, rfl⟩
  case round =>
    obtain ⟨i, jn, jz, dk, n, rfl, rfl, h1, h2, hk, hds, hwr, heq⟩ := hrel
    by_cases hlt : (i : Int) < jz
    · obtain ⟨rfl, hjn⟩ := h1 hlt
      have hij : i < jn := by omega
      have hHk : Holds encJ wr blk off dk := by rw [hwr]; exact holds_putRow encJ _ blk off d dk (holds_ahead encJ w n blk off d hH) hds
      obtain ⟨ci, fi⟩ := hHk i (by omega)
      obtain ⟨cj, fj⟩ := hHk jn (by omega)
      have A : Aside (wr = putRow encJ (Sort.ahead w n) blk off dk) := hwr
      clear hwr hHk hH h1 h2
      go_wp2_with fail
      go_region
      go_wp2
      go_roundg (jn - 1 - (i + 1))
      case measure => omega
      case rel =>
        rw [reverseLoop, if_pos hij] at heq
        exact ⟨i + 1, jn - 1, (jn : Int) - 1, swp dk i jn, n + 1, by simp, rfl, fun h => ⟨by omega, by omega⟩, fun h => by omega, Nat.le_refl _, by rw [size_swp]; exact hds,
          swap_world encJ (by omega) (by omega) A.out (by simp [encJ, getElem!_pos, show jn < dk.size by omega]) rfl, heq⟩
    · have hnot := h2 hlt
      go_wp2
      go_end0
      refine ⟨rfl, n, ?_⟩
      rw [reverseLoop, if_neg hnot] at heq
      rw [reverseRange, ← heq]

end Go.Proofs.Ybulkajny
