import Derived.Test.YbulkajnyArg
import Derived.Test.YbulkajnyHeapPush
namespace Go.Proofs.Ybulkajny
open Go.RowKit Go.Sort

/-- 'make([]T, n)' at this program. -/
theorem run_make_n (t e : TypeId) (z : Value) (size bytes : Nat) (ht : Yba.prog.underlying t = some (.slice e)) (hinfo : (Yba.prog.info? e).map (fun i => (i.zero, i.size, i.bytes)) = some (some z, size, bytes)) (hb : bytes ≤ 100) (n : Nat) (hn : n ≤ 1000000) (w : World) :
    (Instr.makeSlice t (.int .i64 (n : Int)) (.int .i64 (n : Int))).run Yba.prog w = .ok (.slice (some ⟨w.heap.size, 0, none⟩) n n) (w.alloc (.cells (madeCells z.cells (n * size)) e)) := by
  obtain ⟨i, hi, hz, hs, hby⟩ := info_parts hinfo
  have hb' : (i.bytes : Int) * (n : Int) ≤ 281474976710656 := by
    have h1 : bytes * n ≤ 100 * 1000000 := Nat.mul_le_mul hb hn
    have h2 : ((bytes * n : Nat) : Int) ≤ 281474976710656 := by omega
    rw [hby]
    rwa [Int.natCast_mul] at h2
  have hr := run_make (P := Yba.prog) w t e i z ht hi hz .i64 .i64 n n (by omega) (Int.le_refl _) hb' (by omega)
  simp only [Int.toNat_natCast] at hr
  rw [hs] at hr
  exact hr
theorem made_toList (z : Array Value) (m : Nat) : (madeCells z m).toList = tab m (fun i => z[i % z.size]!) := by
  simp [madeCells, tab]

theorem info70 : (Yba.prog.info? 70).map (fun i => (i.zero, i.size, i.bytes)) = some (some (.agg #[.string ⟨#[]⟩, .slice none 0 0, .slice none 0 0, .slice none 0 0]), 4, 88) := by kernel_rfl
theorem info65 : (Yba.prog.info? 65).map (fun i => (i.zero, i.size, i.bytes)) = some (some (.agg #[.string ⟨#[]⟩, .pointer none]), 2, 24) := by kernel_rfl
theorem info68 : (Yba.prog.info? 68).map (fun i => (i.zero, i.size, i.bytes)) = some (some (.agg #[.string ⟨#[]⟩, .string ⟨#[]⟩, .bool false]), 3, 40) := by kernel_rfl
theorem info4 : (Yba.prog.info? 4).map (fun i => (i.zero, i.size, i.bytes)) = some (some (.bool false), 1, 1) := by kernel_rfl
end Go.Proofs.Ybulkajny
