import Derived.Test.YbulkajqcFmtTypes
import Derived.OwnWalk
namespace Go.Proofs.YbulkajqcFmt
open Go.RowKit Go.Sort

/-- The law's own table. -/
def tbl (s : Int) : Int := [127, 126, 125, 124, 112, 111, 123, 0].getD (s % 8).toNat 0

theorem tbl_at (s : Int) (m : Nat) (h : s % 8 = (m : Int)) : m < 8 ∧ (m = 0 ∧ tbl s = 127 ∨ m = 1 ∧ tbl s = 126 ∨ m = 2 ∧ tbl s = 125 ∨ m = 3 ∧ tbl s = 124 ∨ m = 4 ∧ tbl s = 112 ∨ m = 5 ∧ tbl s = 111 ∨ m = 6 ∧ tbl s = 123 ∨ m = 7 ∧ tbl s = 0) := by
  have hm : m < 8 := by omega
  refine ⟨hm, ?_⟩
  unfold tbl
  rw [h, Int.toNat_natCast]
  match m, hm with
  | 0, _ => simp
  | 1, _ => simp
  | 2, _ => simp
  | 3, _ => simp
  | 4, _ => simp
  | 5, _ => simp
  | 6, _ => simp
  | 7, _ => simp

theorem tbl_ok (s : Int) (m : Nat) (h : s % 8 = (m : Int)) : okT (tbl s) = decide (m < 6) ∧ (okT (tbl s) = true ∨ tbl s = 123 ∨ tbl s = 0) := by
  obtain ⟨_, h⟩ := tbl_at s m h
  rcases h with ⟨rfl, e⟩ | ⟨rfl, e⟩ | ⟨rfl, e⟩ | ⟨rfl, e⟩ | ⟨rfl, e⟩ | ⟨rfl, e⟩ | ⟨rfl, e⟩ | ⟨rfl, e⟩ <;> rw [e] <;> simp [okT]

theorem take_tbl (S : List Int) (k : Nat) (hk : k < S.length) : (S.take (k + 1)).map tbl = (S.take k).map tbl ++ [tbl (S.getD k 0)] := by
  have e : S.getD k 0 = S[k] := by simp [hk]
  rw [List.take_succ_eq_append_getElem hk, List.map_append, e]; rfl

def tabCells : Array Value := #[.int .u8 127, .int .u8 126, .int .u8 125, .int .u8 124, .int .u8 112, .int .u8 111, .int .u8 123, .int .u8 0]

theorem tab_cell {w : World} {T : Nat} {t : TypeId} (h : w.heap[T]? = some (.cells tabCells t (0, 0))) (s : Int) (m : Nat) (hm : s % 8 = (m : Int)) : w.cell? ⟨T, m, none⟩ = some (.int .u8 (tbl s)) := by
  obtain ⟨_, h2⟩ := tbl_at s m hm
  rcases h2 with ⟨rfl, e⟩ | ⟨rfl, e⟩ | ⟨rfl, e⟩ | ⟨rfl, e⟩ | ⟨rfl, e⟩ | ⟨rfl, e⟩ | ⟨rfl, e⟩ | ⟨rfl, e⟩ <;> rw [e] <;> simp [World.cell?, h, tabCells]

/-- The buffer as it is built: its bytes xs lie in the block behind the table's. -/
structure Built (w : World) (cap : Nat) (xs : List Int) (wr : World) : Prop where
  own : wr.ownsRow (w.heap.size + 1) 5 1 (.slice (some ⟨w.heap.size + 1, 0, none⟩) xs.length cap) xs.length (xs.map e8)
  tab : wr.heap[w.heap.size]? = some (.cells tabCells 23 (0, 0))
  below : Below w.heap.size w wr

theorem Built.grown {w wr w1 w2 : World} {cap : Nat} {xs ys : List Int} (h : Built w cap xs wr) (ho : Only (fun _ => False) wr w1) (hg : w1.grownBy w2 (some (w.heap.size + 1)))
    (hown : w2.ownsRow (w.heap.size + 1) 5 1 (.slice (some ⟨w.heap.size + 1, 0, none⟩) ys.length cap) ys.length (ys.map e8)) : Built w cap ys w2 := by
  have hsz : w.heap.size < wr.heap.size := (Array.getElem?_eq_some_iff.1 h.tab).1
  have o : Only (fun k => some k = some (w.heap.size + 1)) wr w2 := (ho.mono (fun _ _ hf => hf.elim)).step (only_grownBy hg) (fun _ _ hk => hk)
  exact ⟨hown, o.at_block h.tab (by simp), h.below.trans (o.below (by omega) (fun k _ hk => by simp at hk; omega))⟩

def bsOf (P H S : List Int) : Array Int := (P ++ H ++ S.map tbl).toArray

theorem bsOf_size (P H S : List Int) : (bsOf P H S).size = P.length + H.length + S.length := by simp [bsOf]; omega
theorem bsOf_hdr (P H S : List Int) (j : Nat) (hj : j < H.length) : (bsOf P H S)[P.length + j]! = H.getD j 0 := by
  have h1 : P.length + j < (bsOf P H S).size := by rw [bsOf_size]; omega
  rw [getElem!_pos (bsOf P H S) _ h1]
  simp [bsOf, hj]
theorem bsOf_sel (P H S : List Int) (j : Nat) (hj : j < S.length) : (bsOf P H S)[P.length + H.length + j]! = tbl (S.getD j 0) := by
  have h1 : P.length + H.length + j < (bsOf P H S).size := by rw [bsOf_size]; omega
  rw [getElem!_pos (bsOf P H S) _ h1]
  simp only [bsOf, List.getElem_toArray]
  rw [List.getElem_append_right (by simp)]
  simp [hj]

/-- The reader over the whole buffer. -/
theorem Built.rd {w wr : World} {cap : Nat} {P H S : List Int} {base : Int} (h : Built w cap (P ++ H ++ S.map tbl) wr) (n p : Nat) (hn : n = (bsOf P H S).size) :
    Rd wr.heap.size (w.heap.size + 1) cap (bsOf P H S) p base (wr.alloc (.cells #[.slice (some ⟨w.heap.size + 1, 0, none⟩) n cap, .int .i64 p, .int .i64 base] 26)) := by
  subst hn
  have hr := (RowAt.of_owns (enc := e8) (d := bsOf P H S) h.own (by simp [bsOf]) (by simp [bsOf])).1
  exact ⟨heap_alloc_new wr _, hr.only (only_alloc wr _) (fun hf => hf), by have := hr.lt; omega⟩
end Go.Proofs.YbulkajqcFmt
