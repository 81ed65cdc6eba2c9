import Derived.Test.YbulkajnyNp7
import Derived.Test.YbulkajnyNp2
namespace Go.Proofs.Ybulkajny
open Go.RowKit Go.Sort Go.Maps
set_option linter.unusedVariables false

/-- A new row, and the graph's field that says so. -/
theorem gmake {w0 w : World} {R : Nat → Row} {E : Option (Nat × Obj)} {G : Nat} {gx : List Value} (h : Fam w0 w R E) (e0 : R 0 = ⟨some G, 1, 49, 15, 1, gx⟩) (role fld N : Nat) (T : TypeId) (zv : Value) (hr : role ≠ 0) (hN : N ≤ 1000) :
    ∃ R', Fam w0 ((w.alloc (.cells (madeCells #[zv] N) T)).setCell ⟨G, fld, none⟩ (.slice (some ⟨w.heap.size, 0, none⟩) N N)) R' E ∧ R' 0 = ⟨some G, 1, 49, 15, 1, gx.set fld (.slice (some ⟨w.heap.size, 0, none⟩) N N)⟩ ∧ R' role = ⟨some w.heap.size, N, T, 1, N, tab N (fun _ => zv)⟩ ∧ (∀ i, i ≠ 0 → i ≠ role → R' i = R i) ∧
      (∀ v, gx[fld]? = some v → (w.alloc (.cells (madeCells #[zv] N) T)).cell? ⟨G, fld, none⟩ = some v) ∧ (w.alloc (.cells (madeCells #[zv] N) T)).frozen? ⟨G, fld, none⟩ = false := by
  have h1 := h.make (i := role) (madeCells #[zv] N) T 1 N (by simp [madeCells]) (by unfold maxLen; omega)
  have e1 : put R role ⟨some w.heap.size, N, T, 1, N, (madeCells #[zv] N).toList⟩ 0 = ⟨some G, 1, 49, 15, 1, gx⟩ := by rw [put_ne (Ne.symm hr)]; exact e0
  have h2 := h1.set (i := 0) (b := G) (j := fld) (v := .slice (some ⟨w.heap.size, 0, none⟩) N N) (by rw [e1])
  rw [e1] at h2
  refine ⟨_, h2, put_eq, ?_, fun i i0 i1 => by rw [put_ne i0, put_ne i1], fun v hv => h1.cell (i := 0) (by rw [e1]) (by rw [e1]; exact hv), h1.free (i := 0) (by rw [e1]) fld⟩
  rw [put_ne hr, put_eq, made_toList]
  simp only [Row.mk.injEq, true_and]
  exact tab_congr (fun j _ => by simp [Nat.mod_one])

/-- The rows that newPrecedence turns. -/
def Pset (i : Nat) : Prop := i ≤ 14 ∨ (42 ≤ i ∧ i ≤ 60) ∨ (100 ≤ i ∧ i < 400)

set_option maxRecDepth 100000 in
set_option maxHeartbeats 8000000 in
/-- newPrecedence's end: the rows by key and by node. -/
theorem tail38 {wb w0 : World} {R0 : Nat → Row} {o : Obj} {n mb G z x42 : Nat} {b : Nat → Nat} {ks : List Nat} {D : DataW Unit} {Post : Ending → World → Prop} {u1 u2 u3 u4 u6 u7 u9 u10 u11 u12 u13 u14 u15 u16 u17 u18 u19 u20 u21 u22 u23 u24 u25 u26 u27 u28 u29 u30 u31 u32 u33 u34 u35 u36 u37 u38 u39 u40 u41 u42 u43 u44 u45 u46 u47 u48 u49 u50 u51 u52 u53 u54 u55 u56 u57 u58 u59 u60 u61 u62 u63 u64 u65 u66 u67 u68 u69 u70 u71 u72 u73 u74 u75 u76 u77 u78 u79 u80 u81 u82 u83 u84 u85 u86 u87 u88 u89 u90 u91 u92 u93 u94 u95 u96 u97 u98 u99 u100 u101 u102 u103 u104 u105 u106 u107 u108 u109 u110 u111 u112 u113 u114 u115 u116 u117 u118 u119 u120 u121 u122 u123 u124 u125 u126 u127 u128 u129 u130 u131 u132 u133 u134 u135 u136 u137 u138 u139 u140 u141 u142 u143 u144 u145 u146 u147 u148 u149 u150 u151 u152 u153 u154 u155 u156 u157 u158 u159 u160 u161 u162 u163 u164 u165 u166 u167 u168 u169 u170 u171 u172 u173 u174 u175 u176 u177 u178 u179 u180 u181 u182 u183 u184 u185 u186 u187 u188 u189 u190 u191 u192 u193 u194 u195 u196 u197 u198 u199 u200 u201 u202 u203 u204 u205 u206 u207 u208 u209 u210 u211 u212 u213 u214 u215 u216 u217 u218 u219 u220 u221 u222 u223 u224 u225 u226 u227 u228 u229 u230 u231 u232 u233 u234 u235 u236 u237 u238 u239 u240 u241 u242 u243 u244 u245 u246 u247 u248 u249 u250 u251 u252 u253 u254 u255 u256 u257 u258 u259 u260 u261 u262 u263 u264 u265 u266 : Value} (h0 : Fam wb w0 R0 (some (mb, o))) (hI : Ids w0 mb ks D) (q0 : R0 42 = ⟨some x42, 1, 71, 1, 1, [.map (some mb)]⟩) (e0 : R0 0 = ⟨some G, 1, 49, 15, 1, [.slice (some ⟨b 1, 0, none⟩) n n, .slice (some ⟨b 2, 0, none⟩) n n, .slice (some ⟨b 47, 0, none⟩) n n, .slice none 0 0, .slice none 0 0, .slice none 0 0, .int .i32 0, .slice (some ⟨b 7, 0, none⟩) n n, .slice none 0 0, .slice none 0 0, .slice none 0 0, .slice none 0 0, .slice none 0 0, .slice none 0 0, .slice none 0 0]⟩) (hn : n ≤ 64)
    (HP : Hid (∀ (w' : World) (R' : Nat → Row) (b3 b4 b5 b8 b9 b10 b11 b12 b13 b14 : Nat), Fam wb w' R' none → R' 0 = ⟨some G, 1, 49, 15, 1, [.slice (some ⟨b 1, 0, none⟩) n n, .slice (some ⟨b 2, 0, none⟩) n n, .slice (some ⟨b 47, 0, none⟩) n n, .slice (some ⟨b3, 0, none⟩) ks.length ks.length, .slice (some ⟨b4, 0, none⟩) ks.length ks.length, .slice (some ⟨b5, 0, none⟩) ks.length ks.length, .int .i32 0, .slice (some ⟨b 7, 0, none⟩) n n, .slice (some ⟨b8, 0, none⟩) (n + ks.length) (n + ks.length), .slice (some ⟨b9, 0, none⟩) (n + ks.length) (n + ks.length), .slice (some ⟨b10, 0, none⟩) (n + ks.length) (n + ks.length), .slice (some ⟨b11, 0, none⟩) ks.length ks.length, .slice (some ⟨b12, 0, none⟩) ks.length ks.length, .slice (some ⟨b13, 0, none⟩) n n, .slice (some ⟨b14, 0, none⟩) n n]⟩ → R' 3 = ⟨some b3, ks.length, 22, 1, ks.length, tab ks.length (fun _ => .slice none 0 0)⟩ → R' 4 = ⟨some b4, ks.length, 22, 1, ks.length, tab ks.length (fun _ => .slice none 0 0)⟩ → R' 5 = ⟨some b5, ks.length, 21, 1, ks.length, tab ks.length (fun _ => i32 0)⟩ → R' 8 = ⟨some b8, n + ks.length, 21, 1, n + ks.length, tab (n + ks.length) (fun _ => i32 0)⟩ → R' 9 = ⟨some b9, n + ks.length, 21, 1, n + ks.length, tab (n + ks.length) (fun _ => i32 0)⟩ → R' 10 = ⟨some b10, n + ks.length, 4, 1, n + ks.length, tab (n + ks.length) (fun _ => .bool false)⟩ → (∀ i, ¬ (i = 0 ∨ (3 ≤ i ∧ i ≤ 5) ∨ (8 ≤ i ∧ i ≤ 10) ∨ (53 ≤ i ∧ i ≤ 56)) → R' i = R0 i) → Post (.returned (.pointer (some ⟨G, 0, none⟩))) w')) :
    Code.wp Yba.prog (nav [1, 1, 1, 1, 1, 1] (Yba.f15.body.getD .skip)) (bodyPost Yba.prog Yba.f15 Post) ⟨#[.slice (some ⟨z, 0, none⟩) n n, u1, u2, u3, u4, .pointer (some ⟨G, 0, none⟩), u6, u7, .pointer (some ⟨x42, 0, none⟩), u9, u10, u11, u12, u13, u14, u15, u16, u17, u18, u19, u20, u21, u22, u23, u24, u25, u26, u27, u28, u29, u30, u31, u32, u33, u34, u35, u36, u37, u38, u39, u40, u41, u42, u43, u44, u45, u46, u47, u48, u49, u50, u51, u52, u53, u54, u55, u56, u57, u58, u59, u60, u61, u62, u63, u64, u65, u66, u67, u68, u69, u70, u71, u72, u73, u74, u75, u76, u77, u78, u79, u80, u81, u82, u83, u84, u85, u86, u87, u88, u89, u90, u91, u92, u93, u94, u95, u96, u97, u98, u99, u100, u101, u102, u103, u104, u105, u106, u107, u108, u109, u110, u111, u112, u113, u114, u115, u116, u117, u118, u119, u120, u121, u122, u123, u124, u125, u126, u127, u128, u129, u130, u131, u132, u133, u134, u135, u136, u137, u138, u139, u140, u141, u142, u143, u144, u145, u146, u147, u148, u149, u150, u151, u152, u153, u154, u155, u156, u157, u158, u159, u160, u161, u162, u163, u164, u165, u166, u167, u168, u169, u170, u171, u172, u173, u174, u175, u176, u177, u178, u179, u180, u181, u182, u183, u184, u185, u186, u187, u188, u189, u190, u191, u192, u193, u194, u195, u196, u197, u198, u199, u200, u201, u202, u203, u204, u205, u206, u207, u208, u209, u210, u211, u212, u213, u214, u215, u216, u217, u218, u219, u220, u221, u222, u223, u224, u225, u226, u227, u228, u229, u230, u231, u232, u233, u234, u235, u236, u237, u238, u239, u240, u241, u242, u243, u244, u245, u246, u247, u248, u249, u250, u251, u252, u253, u254, u255, u256, u257, u258, u259, u260, u261, u262, u263, u264, u265, u266], []⟩ w0 := by
  conv => arg 2; whnf
  have hks := hI.le
  have hsize := hI.size
  obtain ⟨N, hN⟩ : ∃ N, N = n + ks.length := ⟨_, rfl⟩
  have hN1 : N ≤ 1000 := by omega
  have HN : Hid (N = n + ks.length) := hN
  clear hN
  have m46 := run_make_n 46 22 _ 1 24 Yba.underlying46 info22b (by omega) ks.length (by omega)
  have m22 := run_make_n 22 21 _ 1 4 Yba.underlying22 info21 (by omega) ks.length (by omega)
  have m22N := run_make_n 22 21 _ 1 4 Yba.underlying22 info21 (by omega) N (by omega)
  have m36N := run_make_n 36 4 _ 1 1 Yba.underlying36 info4 (by omega) N (by omega)
  have m22n := run_make_n 22 21 _ 1 4 Yba.underlying22 info21 (by omega) n (by omega)
  obtain ⟨R1, h1, e1, r3, E1, cc, cf⟩ := gmake h0 e0 3 3 ks.length 22 (.slice none 0 0) (by omega) (by omega)
  have cc := cc _ rfl
  have q1 : R1 42 = ⟨some x42, 1, 71, 1, 1, [.map (some mb)]⟩ := (E1 42 (by omega) (by omega)).trans q0
  have hI1 : Ids ((w0.alloc (.cells (madeCells #[.slice none 0 0] ks.length) 22)).setCell ⟨G, 3, none⟩ (.slice (some ⟨w0.heap.size, 0, none⟩) ks.length ks.length)) mb ks D := hI.block ((h1.ext mb o rfl).1.trans (h0.ext mb o rfl).1.symm)
  have HF : Hid _ := h1
  clear h1
  have cM : w0.cell? ⟨x42, 0, none⟩ = some (.map (some mb)) := h0.cell (i := 42) (by rw [q0]) (by rw [q0]; rfl)
  refine wp_seq_k (fun K1 hK => ?_)
  have HK1 : Hid _ := hK
  clear hK
  go_wp2_with (at_len; refine wpList_len_own _ (by rfl) _ 71 (by rfl) 9 21 Yba.underlying71 _ mb ks.length D (by rfl) hI.own ?_; rw [hsize])
  refine HK1.out _ _ ?_
  clear HK1 cc cf cM h0
  have h1 := HF.out
  clear HF hI
  have hI := hI1
  clear hI1
  have e1 : R1 0 = ⟨some G, 1, 49, 15, 1, [.slice (some ⟨b 1, 0, none⟩) n n, .slice (some ⟨b 2, 0, none⟩) n n, .slice (some ⟨b 47, 0, none⟩) n n, .slice (some ⟨w0.heap.size, 0, none⟩) ks.length ks.length, .slice none 0 0, .slice none 0 0, .int .i32 0, .slice (some ⟨b 7, 0, none⟩) n n, .slice none 0 0, .slice none 0 0, .slice none 0 0, .slice none 0 0, .slice none 0 0, .slice none 0 0, .slice none 0 0]⟩ := e1
  generalize (w0.alloc (.cells (madeCells #[.slice none 0 0] ks.length) 22)).setCell ⟨G, 3, none⟩ (.slice (some ⟨w0.heap.size, 0, none⟩) ks.length ks.length) = w1 at *
  generalize w0.heap.size = b3 at *
  obtain ⟨R2, h2, e2, r4, E2, cc, cf⟩ := gmake h1 e1 4 4 ks.length 22 (.slice none 0 0) (by omega) (by omega)
  have cc := cc _ rfl
  have q2 : R2 42 = ⟨some x42, 1, 71, 1, 1, [.map (some mb)]⟩ := (E2 42 (by omega) (by omega)).trans q1
  have hI2 : Ids ((w1.alloc (.cells (madeCells #[.slice none 0 0] ks.length) 22)).setCell ⟨G, 4, none⟩ (.slice (some ⟨w1.heap.size, 0, none⟩) ks.length ks.length)) mb ks D := hI.block ((h2.ext mb o rfl).1.trans (h1.ext mb o rfl).1.symm)
  have HF : Hid _ := h2
  clear h2
  have cM : w1.cell? ⟨x42, 0, none⟩ = some (.map (some mb)) := h1.cell (i := 42) (by rw [q1]) (by rw [q1]; rfl)
  refine wp_seq_k (fun K1 hK => ?_)
  have HK1 : Hid _ := hK
  clear hK
  go_wp2_with (at_len; refine wpList_len_own _ (by rfl) _ 71 (by rfl) 9 21 Yba.underlying71 _ mb ks.length D (by rfl) hI.own ?_; rw [hsize])
  refine HK1.out _ _ ?_
  clear HK1 cc cf cM h1
  have h2 := HF.out
  clear HF hI
  have hI := hI2
  clear hI2
  have e2 : R2 0 = ⟨some G, 1, 49, 15, 1, [.slice (some ⟨b 1, 0, none⟩) n n, .slice (some ⟨b 2, 0, none⟩) n n, .slice (some ⟨b 47, 0, none⟩) n n, .slice (some ⟨b3, 0, none⟩) ks.length ks.length, .slice (some ⟨w1.heap.size, 0, none⟩) ks.length ks.length, .slice none 0 0, .int .i32 0, .slice (some ⟨b 7, 0, none⟩) n n, .slice none 0 0, .slice none 0 0, .slice none 0 0, .slice none 0 0, .slice none 0 0, .slice none 0 0, .slice none 0 0]⟩ := e2
  generalize (w1.alloc (.cells (madeCells #[.slice none 0 0] ks.length) 22)).setCell ⟨G, 4, none⟩ (.slice (some ⟨w1.heap.size, 0, none⟩) ks.length ks.length) = w2 at *
  generalize w1.heap.size = b4 at *
  obtain ⟨R3, h3, e3, r5, E3, cc, cf⟩ := gmake h2 e2 5 5 ks.length 21 (.int .i32 0) (by omega) (by omega)
  have cc := cc _ rfl
  have q3 : R3 42 = ⟨some x42, 1, 71, 1, 1, [.map (some mb)]⟩ := (E3 42 (by omega) (by omega)).trans q2
  have hI3 : Ids ((w2.alloc (.cells (madeCells #[.int .i32 0] ks.length) 21)).setCell ⟨G, 5, none⟩ (.slice (some ⟨w2.heap.size, 0, none⟩) ks.length ks.length)) mb ks D := hI.block ((h3.ext mb o rfl).1.trans (h2.ext mb o rfl).1.symm)
  have HF : Hid _ := h3
  clear h3
  have cM : w2.cell? ⟨x42, 0, none⟩ = some (.map (some mb)) := h2.cell (i := 42) (by rw [q2]) (by rw [q2]; rfl)
  refine wp_seq_k (fun K1 hK => ?_)
  have HK1 : Hid _ := hK
  clear hK
  go_wp2_with (at_len; refine wpList_len_own _ (by rfl) _ 71 (by rfl) 9 21 Yba.underlying71 _ mb ks.length D (by rfl) hI.own ?_; rw [hsize])
  refine HK1.out _ _ ?_
  clear HK1 cc cf cM h2
  have h3 := HF.out
  clear HF hI
  have hI := hI3
  clear hI3
  have e3 : R3 0 = ⟨some G, 1, 49, 15, 1, [.slice (some ⟨b 1, 0, none⟩) n n, .slice (some ⟨b 2, 0, none⟩) n n, .slice (some ⟨b 47, 0, none⟩) n n, .slice (some ⟨b3, 0, none⟩) ks.length ks.length, .slice (some ⟨b4, 0, none⟩) ks.length ks.length, .slice (some ⟨w2.heap.size, 0, none⟩) ks.length ks.length, .int .i32 0, .slice (some ⟨b 7, 0, none⟩) n n, .slice none 0 0, .slice none 0 0, .slice none 0 0, .slice none 0 0, .slice none 0 0, .slice none 0 0, .slice none 0 0]⟩ := e3
  generalize (w2.alloc (.cells (madeCells #[.int .i32 0] ks.length) 21)).setCell ⟨G, 5, none⟩ (.slice (some ⟨w2.heap.size, 0, none⟩) ks.length ks.length) = w3 at *
  generalize w2.heap.size = b5 at *
  refine wp_seq_k (fun K1 hK => ?_)
  have HK1 : Hid _ := hK
  clear hK
  have cM : w3.cell? ⟨x42, 0, none⟩ = some (.map (some mb)) := h3.cell (i := 42) (by rw [q3]) (by rw [q3]; rfl)
  go_wp2_with (at_len; refine wpList_len_own _ (by rfl) _ 71 (by rfl) 9 21 Yba.underlying71 _ mb ks.length D (by rfl) hI.own ?_; rw [hsize])
  refine HK1.out _ _ ?_
  clear HK1 cM
  have hw : (n : Int) + (ks.length : Int) = (N : Int) := by have := HN.out; omega
  rw [hw]
  clear hw
  obtain ⟨R4, h4, e4, r8, E4, cc, cf⟩ := gmake h3 e3 8 8 N 21 (.int .i32 0) (by omega) (by omega)
  have cc := cc _ rfl
  have q4 : R4 42 = ⟨some x42, 1, 71, 1, 1, [.map (some mb)]⟩ := (E4 42 (by omega) (by omega)).trans q3
  have hI4 : Ids ((w3.alloc (.cells (madeCells #[.int .i32 0] N) 21)).setCell ⟨G, 8, none⟩ (.slice (some ⟨w3.heap.size, 0, none⟩) N N)) mb ks D := hI.block ((h4.ext mb o rfl).1.trans (h3.ext mb o rfl).1.symm)
  have HF : Hid _ := h4
  clear h4
  refine wp_seq_k (fun K1 hK => ?_)
  have HK1 : Hid _ := hK
  clear hK
  go_wp2_with fail
  refine HK1.out _ _ ?_
  clear HK1 cc cf h3
  have h4 := HF.out
  clear HF hI
  have hI := hI4
  clear hI4
  have e4 : R4 0 = ⟨some G, 1, 49, 15, 1, [.slice (some ⟨b 1, 0, none⟩) n n, .slice (some ⟨b 2, 0, none⟩) n n, .slice (some ⟨b 47, 0, none⟩) n n, .slice (some ⟨b3, 0, none⟩) ks.length ks.length, .slice (some ⟨b4, 0, none⟩) ks.length ks.length, .slice (some ⟨b5, 0, none⟩) ks.length ks.length, .int .i32 0, .slice (some ⟨b 7, 0, none⟩) n n, .slice (some ⟨w3.heap.size, 0, none⟩) N N, .slice none 0 0, .slice none 0 0, .slice none 0 0, .slice none 0 0, .slice none 0 0, .slice none 0 0]⟩ := e4
  generalize (w3.alloc (.cells (madeCells #[.int .i32 0] N) 21)).setCell ⟨G, 8, none⟩ (.slice (some ⟨w3.heap.size, 0, none⟩) N N) = w4 at *
  generalize w3.heap.size = b8 at *
  obtain ⟨R5, h5, e5, r9, E5, cc, cf⟩ := gmake h4 e4 9 9 N 21 (.int .i32 0) (by omega) (by omega)
  have cc := cc _ rfl
  have q5 : R5 42 = ⟨some x42, 1, 71, 1, 1, [.map (some mb)]⟩ := (E5 42 (by omega) (by omega)).trans q4
  have hI5 : Ids ((w4.alloc (.cells (madeCells #[.int .i32 0] N) 21)).setCell ⟨G, 9, none⟩ (.slice (some ⟨w4.heap.size, 0, none⟩) N N)) mb ks D := hI.block ((h5.ext mb o rfl).1.trans (h4.ext mb o rfl).1.symm)
  have HF : Hid _ := h5
  clear h5
  refine wp_seq_k (fun K1 hK => ?_)
  have HK1 : Hid _ := hK
  clear hK
  go_wp2_with fail
  refine HK1.out _ _ ?_
  clear HK1 cc cf h4
  have h5 := HF.out
  clear HF hI
  have hI := hI5
  clear hI5
  have e5 : R5 0 = ⟨some G, 1, 49, 15, 1, [.slice (some ⟨b 1, 0, none⟩) n n, .slice (some ⟨b 2, 0, none⟩) n n, .slice (some ⟨b 47, 0, none⟩) n n, .slice (some ⟨b3, 0, none⟩) ks.length ks.length, .slice (some ⟨b4, 0, none⟩) ks.length ks.length, .slice (some ⟨b5, 0, none⟩) ks.length ks.length, .int .i32 0, .slice (some ⟨b 7, 0, none⟩) n n, .slice (some ⟨b8, 0, none⟩) N N, .slice (some ⟨w4.heap.size, 0, none⟩) N N, .slice none 0 0, .slice none 0 0, .slice none 0 0, .slice none 0 0, .slice none 0 0]⟩ := e5
  generalize (w4.alloc (.cells (madeCells #[.int .i32 0] N) 21)).setCell ⟨G, 9, none⟩ (.slice (some ⟨w4.heap.size, 0, none⟩) N N) = w5 at *
  generalize w4.heap.size = b9 at *
  obtain ⟨R6, h6, e6, r10, E6, cc, cf⟩ := gmake h5 e5 10 10 N 4 (.bool false) (by omega) (by omega)
  have cc := cc _ rfl
  have q6 : R6 42 = ⟨some x42, 1, 71, 1, 1, [.map (some mb)]⟩ := (E6 42 (by omega) (by omega)).trans q5
  have hI6 : Ids ((w5.alloc (.cells (madeCells #[.bool false] N) 4)).setCell ⟨G, 10, none⟩ (.slice (some ⟨w5.heap.size, 0, none⟩) N N)) mb ks D := hI.block ((h6.ext mb o rfl).1.trans (h5.ext mb o rfl).1.symm)
  have HF : Hid _ := h6
  clear h6
  refine wp_seq_k (fun K1 hK => ?_)
  have HK1 : Hid _ := hK
  clear hK
  go_wp2_with fail
  refine HK1.out _ _ ?_
  clear HK1 cc cf h5
  have h6 := HF.out
  clear HF hI
  have hI := hI6
  clear hI6
  have e6 : R6 0 = ⟨some G, 1, 49, 15, 1, [.slice (some ⟨b 1, 0, none⟩) n n, .slice (some ⟨b 2, 0, none⟩) n n, .slice (some ⟨b 47, 0, none⟩) n n, .slice (some ⟨b3, 0, none⟩) ks.length ks.length, .slice (some ⟨b4, 0, none⟩) ks.length ks.length, .slice (some ⟨b5, 0, none⟩) ks.length ks.length, .int .i32 0, .slice (some ⟨b 7, 0, none⟩) n n, .slice (some ⟨b8, 0, none⟩) N N, .slice (some ⟨b9, 0, none⟩) N N, .slice (some ⟨w5.heap.size, 0, none⟩) N N, .slice none 0 0, .slice none 0 0, .slice none 0 0, .slice none 0 0]⟩ := e6
  generalize (w5.alloc (.cells (madeCells #[.bool false] N) 4)).setCell ⟨G, 10, none⟩ (.slice (some ⟨w5.heap.size, 0, none⟩) N N) = w6 at *
  generalize w5.heap.size = b10 at *
  obtain ⟨R7, h7, e7, r53, E7, cc, cf⟩ := gmake h6 e6 53 11 ks.length 21 (.int .i32 0) (by omega) (by omega)
  have cc := cc _ rfl
  have q7 : R7 42 = ⟨some x42, 1, 71, 1, 1, [.map (some mb)]⟩ := (E7 42 (by omega) (by omega)).trans q6
  have hI7 : Ids ((w6.alloc (.cells (madeCells #[.int .i32 0] ks.length) 21)).setCell ⟨G, 11, none⟩ (.slice (some ⟨w6.heap.size, 0, none⟩) ks.length ks.length)) mb ks D := hI.block ((h7.ext mb o rfl).1.trans (h6.ext mb o rfl).1.symm)
  have HF : Hid _ := h7
  clear h7
  have cM : w6.cell? ⟨x42, 0, none⟩ = some (.map (some mb)) := h6.cell (i := 42) (by rw [q6]) (by rw [q6]; rfl)
  refine wp_seq_k (fun K1 hK => ?_)
  have HK1 : Hid _ := hK
  clear hK
  go_wp2_with (at_len; refine wpList_len_own _ (by rfl) _ 71 (by rfl) 9 21 Yba.underlying71 _ mb ks.length D (by rfl) hI.own ?_; rw [hsize])
  refine HK1.out _ _ ?_
  clear HK1 cc cf cM h6
  have h7 := HF.out
  clear HF hI
  have hI := hI7
  clear hI7
  have e7 : R7 0 = ⟨some G, 1, 49, 15, 1, [.slice (some ⟨b 1, 0, none⟩) n n, .slice (some ⟨b 2, 0, none⟩) n n, .slice (some ⟨b 47, 0, none⟩) n n, .slice (some ⟨b3, 0, none⟩) ks.length ks.length, .slice (some ⟨b4, 0, none⟩) ks.length ks.length, .slice (some ⟨b5, 0, none⟩) ks.length ks.length, .int .i32 0, .slice (some ⟨b 7, 0, none⟩) n n, .slice (some ⟨b8, 0, none⟩) N N, .slice (some ⟨b9, 0, none⟩) N N, .slice (some ⟨b10, 0, none⟩) N N, .slice (some ⟨w6.heap.size, 0, none⟩) ks.length ks.length, .slice none 0 0, .slice none 0 0, .slice none 0 0]⟩ := e7
  generalize (w6.alloc (.cells (madeCells #[.int .i32 0] ks.length) 21)).setCell ⟨G, 11, none⟩ (.slice (some ⟨w6.heap.size, 0, none⟩) ks.length ks.length) = w7 at *
  generalize w6.heap.size = b11 at *
  obtain ⟨R8, h8, e8, r54, E8, cc, cf⟩ := gmake h7 e7 54 12 ks.length 21 (.int .i32 0) (by omega) (by omega)
  have cc := cc _ rfl
  have q8 : R8 42 = ⟨some x42, 1, 71, 1, 1, [.map (some mb)]⟩ := (E8 42 (by omega) (by omega)).trans q7
  have hI8 : Ids ((w7.alloc (.cells (madeCells #[.int .i32 0] ks.length) 21)).setCell ⟨G, 12, none⟩ (.slice (some ⟨w7.heap.size, 0, none⟩) ks.length ks.length)) mb ks D := hI.block ((h8.ext mb o rfl).1.trans (h7.ext mb o rfl).1.symm)
  have HF : Hid _ := h8
  clear h8
  have cM : w7.cell? ⟨x42, 0, none⟩ = some (.map (some mb)) := h7.cell (i := 42) (by rw [q7]) (by rw [q7]; rfl)
  refine wp_seq_k (fun K1 hK => ?_)
  have HK1 : Hid _ := hK
  clear hK
  go_wp2_with (at_len; refine wpList_len_own _ (by rfl) _ 71 (by rfl) 9 21 Yba.underlying71 _ mb ks.length D (by rfl) hI.own ?_; rw [hsize])
  refine HK1.out _ _ ?_
  clear HK1 cc cf cM h7
  have h8 := HF.out
  clear HF hI
  have hI := hI8
  clear hI8
  have e8 : R8 0 = ⟨some G, 1, 49, 15, 1, [.slice (some ⟨b 1, 0, none⟩) n n, .slice (some ⟨b 2, 0, none⟩) n n, .slice (some ⟨b 47, 0, none⟩) n n, .slice (some ⟨b3, 0, none⟩) ks.length ks.length, .slice (some ⟨b4, 0, none⟩) ks.length ks.length, .slice (some ⟨b5, 0, none⟩) ks.length ks.length, .int .i32 0, .slice (some ⟨b 7, 0, none⟩) n n, .slice (some ⟨b8, 0, none⟩) N N, .slice (some ⟨b9, 0, none⟩) N N, .slice (some ⟨b10, 0, none⟩) N N, .slice (some ⟨b11, 0, none⟩) ks.length ks.length, .slice (some ⟨w7.heap.size, 0, none⟩) ks.length ks.length, .slice none 0 0, .slice none 0 0]⟩ := e8
  generalize (w7.alloc (.cells (madeCells #[.int .i32 0] ks.length) 21)).setCell ⟨G, 12, none⟩ (.slice (some ⟨w7.heap.size, 0, none⟩) ks.length ks.length) = w8 at *
  generalize w7.heap.size = b12 at *
  obtain ⟨R9, h9, e9, r55, E9, cc, cf⟩ := gmake h8 e8 55 13 n 21 (.int .i32 0) (by omega) (by omega)
  have cc := cc _ rfl
  have q9 : R9 42 = ⟨some x42, 1, 71, 1, 1, [.map (some mb)]⟩ := (E9 42 (by omega) (by omega)).trans q8
  have hI9 : Ids ((w8.alloc (.cells (madeCells #[.int .i32 0] n) 21)).setCell ⟨G, 13, none⟩ (.slice (some ⟨w8.heap.size, 0, none⟩) n n)) mb ks D := hI.block ((h9.ext mb o rfl).1.trans (h8.ext mb o rfl).1.symm)
  have HF : Hid _ := h9
  clear h9
  refine wp_seq_k (fun K1 hK => ?_)
  have HK1 : Hid _ := hK
  clear hK
  go_wp2_with fail
  refine HK1.out _ _ ?_
  clear HK1 cc cf h8
  have h9 := HF.out
  clear HF hI
  have hI := hI9
  clear hI9
  have e9 : R9 0 = ⟨some G, 1, 49, 15, 1, [.slice (some ⟨b 1, 0, none⟩) n n, .slice (some ⟨b 2, 0, none⟩) n n, .slice (some ⟨b 47, 0, none⟩) n n, .slice (some ⟨b3, 0, none⟩) ks.length ks.length, .slice (some ⟨b4, 0, none⟩) ks.length ks.length, .slice (some ⟨b5, 0, none⟩) ks.length ks.length, .int .i32 0, .slice (some ⟨b 7, 0, none⟩) n n, .slice (some ⟨b8, 0, none⟩) N N, .slice (some ⟨b9, 0, none⟩) N N, .slice (some ⟨b10, 0, none⟩) N N, .slice (some ⟨b11, 0, none⟩) ks.length ks.length, .slice (some ⟨b12, 0, none⟩) ks.length ks.length, .slice (some ⟨w8.heap.size, 0, none⟩) n n, .slice none 0 0]⟩ := e9
  generalize (w8.alloc (.cells (madeCells #[.int .i32 0] n) 21)).setCell ⟨G, 13, none⟩ (.slice (some ⟨w8.heap.size, 0, none⟩) n n) = w9 at *
  generalize w8.heap.size = b13 at *
  obtain ⟨R10, h10, e10, r56, E10, cc, cf⟩ := gmake h9 e9 56 14 n 21 (.int .i32 0) (by omega) (by omega)
  have cc := cc _ rfl
  have q10 : R10 42 = ⟨some x42, 1, 71, 1, 1, [.map (some mb)]⟩ := (E10 42 (by omega) (by omega)).trans q9
  have hI10 : Ids ((w9.alloc (.cells (madeCells #[.int .i32 0] n) 21)).setCell ⟨G, 14, none⟩ (.slice (some ⟨w9.heap.size, 0, none⟩) n n)) mb ks D := hI.block ((h10.ext mb o rfl).1.trans (h9.ext mb o rfl).1.symm)
  have HF : Hid _ := h10
  clear h10
  refine wp_seq_k (fun K1 hK => ?_)
  have HK1 : Hid _ := hK
  clear hK
  go_wp2_with fail
  refine HK1.out _ _ ?_
  clear HK1 cc cf h9
  have h10 := HF.out
  clear HF hI
  have hI := hI10
  clear hI10
  have e10 : R10 0 = ⟨some G, 1, 49, 15, 1, [.slice (some ⟨b 1, 0, none⟩) n n, .slice (some ⟨b 2, 0, none⟩) n n, .slice (some ⟨b 47, 0, none⟩) n n, .slice (some ⟨b3, 0, none⟩) ks.length ks.length, .slice (some ⟨b4, 0, none⟩) ks.length ks.length, .slice (some ⟨b5, 0, none⟩) ks.length ks.length, .int .i32 0, .slice (some ⟨b 7, 0, none⟩) n n, .slice (some ⟨b8, 0, none⟩) N N, .slice (some ⟨b9, 0, none⟩) N N, .slice (some ⟨b10, 0, none⟩) N N, .slice (some ⟨b11, 0, none⟩) ks.length ks.length, .slice (some ⟨b12, 0, none⟩) ks.length ks.length, .slice (some ⟨b13, 0, none⟩) n n, .slice (some ⟨w9.heap.size, 0, none⟩) n n]⟩ := e10
  generalize (w9.alloc (.cells (madeCells #[.int .i32 0] n) 21)).setCell ⟨G, 14, none⟩ (.slice (some ⟨w9.heap.size, 0, none⟩) n n) = w10 at *
  generalize w9.heap.size = b14 at *
  have HF : Hid _ := h10.dropE
  clear h10 hI
  go_wp2_with fail
  show Post (.returned (.pointer (some ⟨G, 0, none⟩))) _
  obtain rfl := HN.out
  exact HP.out _ R10 _ _ _ _ _ _ _ _ _ _ HF.out e10 ((E10 3 (by omega) (by omega)).trans ((E9 3 (by omega) (by omega)).trans ((E8 3 (by omega) (by omega)).trans ((E7 3 (by omega) (by omega)).trans ((E6 3 (by omega) (by omega)).trans ((E5 3 (by omega) (by omega)).trans ((E4 3 (by omega) (by omega)).trans ((E3 3 (by omega) (by omega)).trans ((E2 3 (by omega) (by omega)).trans (r3)))))))))) ((E10 4 (by omega) (by omega)).trans ((E9 4 (by omega) (by omega)).trans ((E8 4 (by omega) (by omega)).trans ((E7 4 (by omega) (by omega)).trans ((E6 4 (by omega) (by omega)).trans ((E5 4 (by omega) (by omega)).trans ((E4 4 (by omega) (by omega)).trans ((E3 4 (by omega) (by omega)).trans (r4))))))))) ((E10 5 (by omega) (by omega)).trans ((E9 5 (by omega) (by omega)).trans ((E8 5 (by omega) (by omega)).trans ((E7 5 (by omega) (by omega)).trans ((E6 5 (by omega) (by omega)).trans ((E5 5 (by omega) (by omega)).trans ((E4 5 (by omega) (by omega)).trans (r5)))))))) ((E10 8 (by omega) (by omega)).trans ((E9 8 (by omega) (by omega)).trans ((E8 8 (by omega) (by omega)).trans ((E7 8 (by omega) (by omega)).trans ((E6 8 (by omega) (by omega)).trans ((E5 8 (by omega) (by omega)).trans (r8))))))) ((E10 9 (by omega) (by omega)).trans ((E9 9 (by omega) (by omega)).trans ((E8 9 (by omega) (by omega)).trans ((E7 9 (by omega) (by omega)).trans ((E6 9 (by omega) (by omega)).trans (r9)))))) ((E10 10 (by omega) (by omega)).trans ((E9 10 (by omega) (by omega)).trans ((E8 10 (by omega) (by omega)).trans ((E7 10 (by omega) (by omega)).trans (r10))))) (fun i hi => (E10 i (by omega) (by omega)).trans ((E9 i (by omega) (by omega)).trans ((E8 i (by omega) (by omega)).trans ((E7 i (by omega) (by omega)).trans ((E6 i (by omega) (by omega)).trans ((E5 i (by omega) (by omega)).trans ((E4 i (by omega) (by omega)).trans ((E3 i (by omega) (by omega)).trans ((E2 i (by omega) (by omega)).trans (E1 i (by omega) (by omega)))))))))))
end Go.Proofs.Ybulkajny
