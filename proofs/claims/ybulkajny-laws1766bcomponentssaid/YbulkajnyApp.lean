import Derived.Test.YbulkajnyProg
import Derived.Test.YbulkajnyFam
import Derived.Test.YbulkajnyTj
import Derived.WalkKit
namespace Go.Proofs.Ybulkajny
open Go.RowKit Go.Sort

section
variable {P : Program} {w0 w : World} {E : Option (Nat × Obj)}
/-- 'append' of one element to row j, as one operation. -/
theorem wpList_fam_app {ops : Array Oper} {rest : List Oper} {o : Oper} {a : Act} {Q : Exit → Act → World → Prop} (hgd : o.guard = none) (s x : Operand) (t : TypeId)
    (ho : o.op = .call { callee := .builtin .append, args := #[s, x], argTypes := #[t, t] })
    (e : TypeId) (i : TypeInfo) (z : Value) (size bytes : Nat) (ht : P.underlying t = some (.slice e)) (hi : P.info? e = some i) (hz : i.zero = some z)
    (hsize : i.size = size) (hby : i.bytes = bytes) (hzs : z.cells.size = size) (hsz : 0 < size) (hb100 : bytes ≤ 100)
    (R : Nat → Row) (j : Nat) (p : Option Nat) (cc n : Nat) (xs : List Value) (hrow : R j = ⟨p, cc, e, size, n, xs⟩) (h : Fam w0 w R E) (hs : a.eval s = .slice (p.map fun b => ⟨b, 0, none⟩) n cc) (hl : n ≤ 1000000)
    (ad : Addr) (c : Nat) (news : List Value) (hx : a.eval x = .slice (some ad) 1 c) (hnl : news.length = size) (hnews : ∀ j u, news[j]? = some u → w.cell? (ad.add j) = some u) (h1 : ∀ u ∈ news, u.oneCell' = true)
    (k : ∀ g cap w', Fam w0 w' (put R j ⟨some g, cap, e, size, n + 1, xs ++ news⟩) E → wpList P ops Q rest (a.put o.dst (.slice (some ⟨g, 0, none⟩) (n + 1) cap)) w') : wpList P ops Q (o :: rest) a w := by
  have hv : (R j).val = .slice (p.map fun b => ⟨b, 0, none⟩) n cc := by rw [hrow]; rfl
  have hn : (R j).len = n := by rw [hrow]
  have hxs : (R j).xs = xs := by rw [hrow]
  have hty : (R j).typ = e := by rw [hrow]
  have hjs : (R j).sz = size := by rw [hrow]
  rw [← hv] at hs
  clear hrow hv
  subst hn hxs
  have hok : w.ownsRow w0.heap.size e size (R j).val (R j).len (R j).xs := by have := h.ok j; rw [← hty, ← hjs]; exact this
  refine wpList_append_lies _ hgd s x t ho w0.heap.size e i z size bytes ht hi hz hsize hby hzs hsz (R j).val (R j).len (R j).xs hs hok ad 1 c news hx (by omega) hnews h1 (by omega) (by unfold maxLen; omega) ?_ h.size w.heap.size rfl ?_
  · have : ((R j).len + 1) * bytes ≤ 1000001 * 100 := Nat.mul_le_mul (by omega) hb100
    omega
  · intro g cap w' hown hg hat _
    have := h.grown (i := j) (n := (R j).len + 1) (g := g) (cap := cap) (by rw [hty, hjs]; exact hown) hg rfl (hat.imp_right (fun e => by omega))
    rw [hty, hjs] at this
    exact k g cap w' this
theorem step_fam_app {ops : Array Oper} {o : Oper} {a : Act} {K : Act → World → Prop} {Q : Exit → Act → World → Prop} {E' : Prop} (hgd : o.guard = none) (s x : Operand) (t : TypeId)
    (ho : o.op = .call { callee := .builtin .append, args := #[s, x], argTypes := #[t, t] })
    (e : TypeId) (i : TypeInfo) (z : Value) (size bytes : Nat) (ht : P.underlying t = some (.slice e)) (hi : P.info? e = some i) (hz : i.zero = some z)
    (hsize : i.size = size) (hby : i.bytes = bytes) (hzs : z.cells.size = size) (hsz : 0 < size) (hb100 : bytes ≤ 100)
    (R : Nat → Row) (j : Nat) (p : Option Nat) (cc n : Nat) (xs : List Value) (hrow : R j = ⟨p, cc, e, size, n, xs⟩) (h : Fam w0 w R E) (hs : a.eval s = .slice (p.map fun b => ⟨b, 0, none⟩) n cc) (hl : n ≤ 1000000)
    (ad : Addr) (c : Nat) (news : List Value) (hx : a.eval x = .slice (some ad) 1 c) (hnl : news.length = size) (hnews : ∀ j u, news[j]? = some u → w.cell? (ad.add j) = some u) (h1 : ∀ u ∈ news, u.oneCell' = true)
    (k : ∀ g cap w', Fam w0 w' (put R j ⟨some g, cap, e, size, n + 1, xs ++ news⟩) E → K (a.put o.dst (.slice (some ⟨g, 0, none⟩) (n + 1) cap)) w') :
    if Region.wanted o (yielded ops a.tmps) = true then Oper.wp P o a w K Q else E' := by
  have hv : (R j).val = .slice (p.map fun b => ⟨b, 0, none⟩) n cc := by rw [hrow]; rfl
  have hn : (R j).len = n := by rw [hrow]
  have hxs : (R j).xs = xs := by rw [hrow]
  have hty : (R j).typ = e := by rw [hrow]
  have hjs : (R j).sz = size := by rw [hrow]
  rw [← hv] at hs
  clear hrow hv
  subst hn hxs
  have hok : w.ownsRow w0.heap.size e size (R j).val (R j).len (R j).xs := by have := h.ok j; rw [← hty, ← hjs]; exact this
  refine step_append_lies _ hgd s x t ho w0.heap.size e i z size bytes ht hi hz hsize hby hzs hsz (R j).val (R j).len (R j).xs hs hok ad 1 c news hx (by omega) hnews h1 (by omega) (by unfold maxLen; omega) ?_ h.size w.heap.size rfl ?_
  · have : ((R j).len + 1) * bytes ≤ 1000001 * 100 := Nat.mul_le_mul (by omega) hb100
    omega
  · intro g cap w' hown hg hat _
    have := h.grown (i := j) (n := (R j).len + 1) (g := g) (cap := cap) (by rw [hty, hjs]; exact hown) hg rfl (hat.imp_right (fun e => by omega))
    rw [hty, hjs] at this
    exact k g cap w' this
end
end Go.Proofs.Ybulkajny
