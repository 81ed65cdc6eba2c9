import Derived.Test.YbulkajnyNp1
import Derived.Test.YbulkajnyCyc0
namespace Go.Proofs.Ybulkajny
open Go.RowKit Go.Sort
theorem info22b : (Yba.prog.info? 22).map (fun i => (i.zero, i.size, i.bytes)) = some (some (.slice none 0 0), 1, 24) := by kernel_rfl

set_option maxRecDepth 100000 in
set_option maxHeartbeats 8000000 in
/-- newPrecedence, from what follows its first statement. -/
theorem np_of_tail {w0 w : World} {R : Nat → Row} {n z qs : Nat} {ps : Option Nat} {set : List Nat} {Post : Ending → World → Prop} (h : Fam w0 w R none) (hn : n ≤ 64)
    (HT : Hid (∀ (ra wa ba ma G : Nat) (u24 u25 u27 u28 u30 u31 u33 u34 u36 : Value) (w' : World), (∃ R', Fam w0 w' R' none ∧ R' 0 = ⟨some G, 1, 49, 15, 1, (#[.slice (some ⟨ra, 0, none⟩) n n, .slice (some ⟨wa, 0, none⟩) n n, .slice (some ⟨ba, 0, none⟩) n n, .slice none 0 0, .slice none 0 0, .slice none 0 0, .int .i32 0, .slice (some ⟨ma, 0, none⟩) n n, .slice none 0 0, .slice none 0 0, .slice none 0 0, .slice none 0 0, .slice none 0 0, .slice none 0 0, .slice none 0 0] : Array Value).toList⟩ ∧ R' 1 = ⟨some ra, n, 22, 1, n, tab n (fun _ => .slice none 0 0)⟩ ∧ R' 2 = ⟨some wa, n, 22, 1, n, tab n (fun _ => .slice none 0 0)⟩ ∧ R' 47 = ⟨some ba, n, 21, 1, n, tab n (fun _ => i32 0)⟩ ∧ R' 7 = ⟨some ma, n, 21, 1, n, tab n (fun _ => i32 0)⟩ ∧ ∀ i, i ≠ 0 → i ≠ 1 → i ≠ 2 → i ≠ 47 → i ≠ 7 → R' i = R i) →
      Code.wp Yba.prog (nav [1, 1] (Yba.f15.body.getD .skip)) (bodyPost Yba.prog Yba.f15 Post) ⟨#[.slice (some ⟨z, 0, none⟩) n n, .slice (ps.map fun b => ⟨b, 0, none⟩) set.length qs, undef, undef, .pointer none, .pointer (some ⟨G, 0, none⟩), undef, undef, undef, undef, undef, undef, undef, undef, undef, undef, undef, undef, undef, undef, undef, undef, undef, undef, u24, u25, .slice (some ⟨ra, 0, none⟩) n n, u27, u28, .slice (some ⟨wa, 0, none⟩) n n, u30, u31, .slice (some ⟨ba, 0, none⟩) n n, u33, u34, .slice (some ⟨ma, 0, none⟩) n n, u36, .pointer (some ⟨G, 0, none⟩), undef, undef, undef, undef, undef, undef, undef, undef, undef, undef, undef, undef, undef, undef, undef, undef, undef, undef, undef, undef, undef, undef, undef, undef, undef, undef, undef, undef, undef, undef, undef, undef, undef, undef, undef, undef, undef, undef, undef, undef, undef, undef, undef, undef, undef, undef, undef, undef, undef, undef, undef, undef, undef, undef, undef, undef, undef, undef, undef, undef, undef, undef, undef, undef, undef, undef, undef, undef, undef, undef, undef, undef, undef, undef, undef, undef, undef, undef, undef, undef, undef, undef, undef, undef, undef, undef, undef, undef, undef, undef, undef, undef, undef, undef, undef, undef, undef, undef, undef, undef, undef, undef, undef, undef, undef, undef, undef, undef, undef, undef, undef, undef, undef, undef, undef, undef, undef, undef, undef, undef, undef, undef, undef, undef, undef, undef, undef, undef, undef, undef, undef, undef, undef, undef, undef, undef, undef, undef, undef, undef, undef, undef, undef, undef, undef, undef, undef, undef, undef, undef, undef, undef, undef, undef, undef, undef, undef, undef, undef, undef, undef, undef, undef, undef, undef, undef, undef, undef, undef, undef, undef, undef, undef, undef, undef, undef, undef, undef, undef, undef, undef, undef, undef, undef, undef, undef, undef, undef, undef, undef, undef, undef, undef, undef, undef, undef, undef, undef, undef, undef, undef, undef, undef, undef, undef, undef, undef, undef, undef, undef, undef, undef, undef, undef, undef, undef, undef, undef, undef, undef, undef, undef, undef, undef, undef, undef, undef, undef, undef], []⟩ w')) :
    Calls Yba.prog 15 #[.slice (some ⟨z, 0, none⟩) n n, .slice (ps.map fun b => ⟨b, 0, none⟩) set.length qs] w Post := by
  have m46 := run_make_n 46 22 _ 1 24 Yba.underlying46 info22b (by omega) n (by omega)
  have m22 := run_make_n 22 21 _ 1 4 Yba.underlying22 info21 (by omega) n (by omega)
  go_enter Yba.func15, Yba.ntmps15
  refine wp_seq_k (fun K1 hK => ?_)
  have HK1 : Hid _ := hK
  clear hK
  go_wp2_with fail
  refine HK1.out _ _ ?_
  clear HK1
  refine wp_seq_k (fun K1 hK => ?_)
  have HK1 : Hid _ := hK
  clear hK
  go_region
  all_goals
    refine HK1.out _ _ (HT.out _ _ _ _ _ _ _ _ _ _ _ _ _ _ _ ?_)
    refine np_start h (five w _ _ _ _ _).2.2.2.2.2 hn ?_ ?_ ?_ ?_ ?_ rfl (by omega) (by omega) (by omega) (by omega) (by omega) (by omega) (by omega)
    all_goals (first | exact (five w _ _ _ _ _).1 | exact (five w _ _ _ _ _).2.1 | exact (five w _ _ _ _ _).2.2.1 | exact (five w _ _ _ _ _).2.2.2.1 | exact (five w _ _ _ _ _).2.2.2.2.1)
end Go.Proofs.Ybulkajny
