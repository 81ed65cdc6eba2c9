import Derived.Test.YbulkajnyRows
import Derived.WalkKit
import Derived.Deep.OwnRows
import Derived.Laws.CopyOwn
import Derived.Deep.QuietTactic
import Derived.BigQuiet
namespace Go.Proofs.Ybulkajny
open Go.RowKit

theorem info21 : (Yba.prog.info? 21).map (fun i => (i.zero, i.size, i.bytes)) = some (some (.int .i32 0), 1, 4) := by kernel_rfl

/-- The heap's own Pop: the last element, cut off. -/
theorem pop_any (B g off n c : Nat) (z : Int) (w : World) (hn : n + 1 ≤ c) (hc : c ≤ 9223372036854775807) (hbox : w.cell? ⟨B, 0, none⟩ = some (.slice (some ⟨g, off, none⟩) (n + 1) c))
    (hfz : w.frozen? ⟨B, 0, none⟩ = false) (hz : w.cell? ⟨g, off + n, none⟩ = some (.int .i32 z)) :
    Calls Yba.prog 7 #[.pointer (some ⟨B, 0, none⟩)] w fun e w' => e = .returned (.iface 21 (.int .i32 z)) ∧ w' = w.setCell ⟨B, 0, none⟩ (.slice (some ⟨g, off, none⟩) n c) := by
  go_enter Yba.func7, Yba.ntmps7
  go_wp2
  go_ret
  exact ⟨rfl, rfl⟩
end Go.Proofs.Ybulkajny
