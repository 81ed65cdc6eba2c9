import Derived.Test.YbulkajnyCyc5
import Derived.Test.YbulkajnyCyc6
import Derived.Test.YbulkajnyTjLen
namespace Go.Proofs.Ybulkajny
open Go.RowKit Go.Sort
set_option linter.unusedVariables false

theorem Tj.callsLen {w0 w : World} {R0 : Nat → Row} {E : Option (Nat × Obj)} {N : Nat} {b : Nat → Nat} {s : TS} (h : Tj w0 w R0 E N b s) : ∃ P c, w.cell? ⟨b 12, 0, none⟩ = some (.slice P s.calls.length c) := by
  obtain ⟨R, h, ht, _⟩ := h
  obtain ⟨p, c, hrow⟩ := ht.calls
  exact ⟨p.map fun b => ⟨b, 0, none⟩, c, h.cell (i := 12) (by rw [ht.cbox]) (by rw [ht.cbox, hrow]; rfl)⟩
theorem Tj.seenLen {w0 w : World} {R0 : Nat → Row} {E : Option (Nat × Obj)} {N : Nat} {b : Nat → Nat} {s : TS} (h : Tj w0 w R0 E N b s) : ∃ P c, w.cell? ⟨b 14, 0, none⟩ = some (.slice P s.seen.length c) := by
  obtain ⟨R, h, ht, _⟩ := h
  obtain ⟨p, c, hrow⟩ := ht.seen
  exact ⟨p.map fun b => ⟨b, 0, none⟩, c, h.cell (i := 14) (by rw [ht.ebox]) (by rw [ht.ebox, hrow]; rfl)⟩
theorem Fd.env {R R' : Nat → Row} {f0 : Nat} {found : List (List Nat)} {v : Value} (h : Fd R f0 found v) (he : ∀ i, (i = 31 ∨ f0 ≤ i) → R' i = R i) : Fd R' f0 found v := by
  obtain ⟨a, b', c1, c2⟩ := h.row
  exact ⟨⟨a, b', by rw [he 31 (.inl rfl), c1]; simp only [Row.mk.injEq, true_and]; exact tab_congr (fun j _ => by rw [he _ (.inr (by omega))]), c2⟩, fun j l hj => by rw [he _ (.inr (by omega))]; exact h.comp j l hj⟩
theorem Env.env {R R' : Nat → Row} {n K G : Nat} {b : Nat → Nat} {succ : Nat → List Nat} {B NB f0 : Nat} (h : Env R n K G b succ B NB) (hK : K ≤ 200) (hn : n ≤ 200) (hf : 1000 ≤ f0) (he : ∀ i, ¬ Fset f0 i → R' i = R i) : Env R' n K G b succ B NB := by
  have hx : ∀ i, i < 1000 → i ≠ 30 → i ≠ 31 → R' i = R i := fun i h1 h2 h3 => he i (by unfold Fset; omega)
  obtain ⟨⟨gx, st, g⟩, nd, bx, nb⟩ := h
  refine ⟨⟨gx, st, (hx 0 (by omega) (by omega) (by omega)).trans g.g0, g.x0, g.x1, g.x3, g.x4, g.x5, g.x6, g.x7, g.x8, g.x9, g.x10⟩, ⟨?_, ?_, fun i hi => ?_, fun k hk => ?_, nd.len, nd.bd⟩, (hx 21 (by omega) (by omega) (by omega)).trans bx, (hx 22 (by omega) (by omega) (by omega)).trans nb⟩
  · rw [hx 1 (by omega) (by omega) (by omega), nd.r1]
    simp only [Row.mk.injEq, true_and]
    exact tab_congr (fun j hj => by rw [hx _ (by omega) (by omega) (by omega)])
  · rw [hx 4 (by omega) (by omega) (by omega), nd.r4]
    simp only [Row.mk.injEq, true_and]
    exact tab_congr (fun j hj => by rw [hx _ (by omega) (by omega) (by omega)])
  · rw [hx _ (by omega) (by omega) (by omega)]; exact nd.rd i hi
  · rw [hx _ (by omega) (by omega) (by omega)]; exact nd.ws k hk

set_option maxRecDepth 100000 in
set_option maxHeartbeats 4000000 in
theorem round_any {w0 w : World} {R0 : Nat → Row} {E : Option (Nat × Obj)} {n K G B NB f0 : Nat} {b : Nat → Nat} {s : TS} {succ : Nat → List Nat} {Q : Exit → Act → World → Prop} {v7 u0 u1 u3 u4 u8 u11 u13 u14 u15 u16 u17 u18 u19 u20 u21 u22 u23 u24 u25 u26 u27 u28 u29 u30 u31 u32 u33 u34 u35 u36 u37 u38 u39 u40 u41 u42 u43 u44 u45 u46 u47 u48 u49 u50 u51 u52 u53 u54 u55 u56 u57 u58 u59 u60 u61 u62 u63 u64 u65 u66 u67 u68 u69 u70 u71 u72 u73 u74 u75 u76 u77 u78 u79 u80 u81 u82 u83 u84 u85 u86 u87 u88 u89 u90 u91 u92 u93 u94 u95 u96 u97 u98 u99 u100 u101 u102 u103 u104 u105 u106 u107 u108 u109 u110 u111 u112 u113 u114 u115 u116 u117 u118 u119 u120 u121 u122 u123 u124 u125 u126 u127 u128 u129 u130 u131 u132 u133 u134 u135 u136 u137 u138 u139 u140 u141 u142 u143 u144 u145 u146 u147 u148 u149 u150 u151 u152 u153 u154 u155 u156 u157 u158 u159 u160 u161 u162 u163 u164 u165 u166 u167 u168 u169 u170 u171 u172 u173 u174 u175 u176 u177 u178 u179 u180 u181 u182 u183 u184 u185 u186 u187 u188 u189 u190 u191 u192 u193 u194 u195 u196 u197 u198 u199 u200 u201 u202 u203 u204 u205 u206 u207 u208 u209 u210 u211 u212 u213 u214 u215 u216 u217 u218 u219 u220 u221 u222 u223 : Value} (hE : Env R0 n K G b succ B NB) (hT : Tj w0 w R0 E (n + K) b s) (hI : TI (n + K) succ s) (hN : n + K ≤ 400) (hF : Fd R0 f0 s.found v7) (hf0 : 1000 ≤ f0)
    (HQ : Hid (∀ (x7 x15 x16 x17 x18 x19 x20 x21 x55 x56 x57 x58 x59 x60 x61 x62 x63 x64 x65 x66 x67 x68 x69 x70 x71 x72 x73 x74 x75 x76 x77 x78 x79 x80 x81 x82 x83 x84 x85 x86 x87 x88 x89 x90 x91 x92 x93 x94 x95 x96 x97 x98 x99 x100 x101 x102 x103 x104 x105 x106 x107 x108 x109 x110 x111 x112 x113 x114 x115 x116 x117 x118 x119 x120 x121 x122 x123 x124 x125 x126 x127 x128 x129 x130 x131 x132 x133 x134 x135 x136 x137 x138 x139 x140 x141 x142 x143 x144 x145 x146 x147 x148 x149 x150 x151 x152 x153 x154 x155 x156 x157 x158 x159 x160 x161 x162 x163 x164 x165 x166 x167 x168 x169 x170 x171 x172 x173 x174 x175 x176 x177 x178 x179 x180 x181 x182 x183 x184 x185 x186 x187 x188 x189 x190 x191 x192 x193 x194 x195 x196 x197 x198 x199 x200 x201 x202 : Value) (w' : World) (R' : Nat → Row), (∀ i, ¬ Fset f0 i → R' i = R0 i) → Fd R' f0 (step n succ s).found x7 → Tj w0 w' R' E (n + K) b (step n succ s) → Q .normal ⟨#[u0, u1, .pointer (some ⟨B, 0, none⟩), u3, u4, .pointer (some ⟨NB, 0, none⟩), .func (Fn.func 27) #[] #[.pointer (some ⟨NB, 0, none⟩), .pointer (some ⟨B, 0, none⟩)], x7, u8, .pointer (some ⟨b 12, 0, none⟩), .pointer (some ⟨b 13, 0, none⟩), u11, .func (Fn.func 28) #[] #[.pointer (some ⟨b 11, 0, none⟩), .pointer (some ⟨B, 0, none⟩), .pointer (some ⟨b 13, 0, none⟩), .pointer (some ⟨b 14, 0, none⟩), .pointer (some ⟨b 12, 0, none⟩)], u13, u14, x15, x16, x17, x18, x19, x20, x21, u22, u23, u24, u25, u26, u27, u28, u29, u30, u31, u32, u33, u34, u35, u36, u37, u38, u39, u40, u41, u42, u43, u44, u45, u46, u47, u48, u49, u50, u51, u52, u53, u54, x55, x56, x57, x58, x59, x60, x61, x62, x63, x64, x65, x66, x67, x68, x69, x70, x71, x72, x73, x74, x75, x76, x77, x78, x79, x80, x81, x82, x83, x84, x85, x86, x87, x88, x89, x90, x91, x92, x93, x94, x95, x96, x97, x98, x99, x100, x101, x102, x103, x104, x105, x106, x107, x108, x109, x110, x111, x112, x113, x114, x115, x116, x117, x118, x119, x120, x121, x122, x123, x124, x125, x126, x127, x128, x129, x130, x131, x132, x133, x134, x135, x136, x137, x138, x139, x140, x141, x142, x143, x144, x145, x146, x147, x148, x149, x150, x151, x152, x153, x154, x155, x156, x157, x158, x159, x160, x161, x162, x163, x164, x165, x166, x167, x168, x169, x170, x171, x172, x173, x174, x175, x176, x177, x178, x179, x180, x181, x182, x183, x184, x185, x186, x187, x188, x189, x190, x191, x192, x193, x194, x195, x196, x197, x198, x199, x200, x201, x202, u203, u204, u205, u206, u207, u208, u209, u210, u211, u212, u213, u214, u215, u216, u217, u218, u219, u220, u221, u222, u223], []⟩ w'))
    (hne : s.calls ≠ []) (hFL : FL s) (hbd : ∀ v, v < n + K → ∀ u, u ∈ succ v → u < n + K) :
    Code.wp Yba.prog (nav [1, 1, 1, 1, 1, 1, 1, 1, 1, 1, 0, 1, 3, 2, 1, 1, 0, 3, 1, 1, 1, 3, 2, 1] (Yba.f16.body.getD .skip)) Q ⟨#[u0, u1, .pointer (some ⟨B, 0, none⟩), u3, u4, .pointer (some ⟨NB, 0, none⟩), .func (Fn.func 27) #[] #[.pointer (some ⟨NB, 0, none⟩), .pointer (some ⟨B, 0, none⟩)], v7, u8, .pointer (some ⟨b 12, 0, none⟩), .pointer (some ⟨b 13, 0, none⟩), u11, .func (Fn.func 28) #[] #[.pointer (some ⟨b 11, 0, none⟩), .pointer (some ⟨B, 0, none⟩), .pointer (some ⟨b 13, 0, none⟩), .pointer (some ⟨b 14, 0, none⟩), .pointer (some ⟨b 12, 0, none⟩)], u13, u14, u15, u16, u17, u18, u19, u20, u21, u22, u23, u24, u25, u26, u27, u28, u29, u30, u31, u32, u33, u34, u35, u36, u37, u38, u39, u40, u41, u42, u43, u44, u45, u46, u47, u48, u49, u50, u51, u52, u53, u54, u55, u56, u57, u58, u59, u60, u61, u62, u63, u64, u65, u66, u67, u68, u69, u70, u71, u72, u73, u74, u75, u76, u77, u78, u79, u80, u81, u82, u83, u84, u85, u86, u87, u88, u89, u90, u91, u92, u93, u94, u95, u96, u97, u98, u99, u100, u101, u102, u103, u104, u105, u106, u107, u108, u109, u110, u111, u112, u113, u114, u115, u116, u117, u118, u119, u120, u121, u122, u123, u124, u125, u126, u127, u128, u129, u130, u131, u132, u133, u134, u135, u136, u137, u138, u139, u140, u141, u142, u143, u144, u145, u146, u147, u148, u149, u150, u151, u152, u153, u154, u155, u156, u157, u158, u159, u160, u161, u162, u163, u164, u165, u166, u167, u168, u169, u170, u171, u172, u173, u174, u175, u176, u177, u178, u179, u180, u181, u182, u183, u184, u185, u186, u187, u188, u189, u190, u191, u192, u193, u194, u195, u196, u197, u198, u199, u200, u201, u202, u203, u204, u205, u206, u207, u208, u209, u210, u211, u212, u213, u214, u215, u216, u217, u218, u219, u220, u221, u222, u223], []⟩ w := by
  obtain ⟨⟨v, i⟩, cs, hs⟩ := List.exists_cons_of_ne_nil hne
  have hvs : v ∈ s.stk := hI.csub (v, i) (by rw [hs]; exact List.mem_cons_self)
  have hvN : v < n + K := hI.lt v (hI.sub v hvs)
  have l1 := hI.calls_le
  have l2 := hI.stk_le
  have l3 := hI.seen_le
  have l4 := hI.ctr
  have l5 : s.found.length ≤ 500 := by unfold FL at hFL; omega
  cases hu : (succ v)[i]? with
  | some u =>
    have huN := hbd v hvN u (List.mem_of_getElem? hu)
    by_cases h0 : s.idx u = 0
    · exact round_open hE hT hI hN hF hf0 HQ hs hu h0 huN (by omega) (by omega) (by omega) (by omega)
    · cases hon : s.on u with
      | false => exact round_skip hE hT hI hN hF hf0 HQ hs hu h0 hon huN (by omega) (by omega) (by omega) (by omega)
      | true => exact round_low hE hT hI hN hF hf0 HQ hs hu h0 hon huN (by omega) (by omega) (by omega) (by omega)
  | none =>
    cases cs with
    | nil => exact round_root hE hT hI hN hF hf0 HQ hs hu (by omega) (by omega) l5
    | cons f cs =>
      obtain ⟨y, j⟩ := f
      exact round_up hE hT hI hN hF hf0 HQ hs hu (by omega) (by omega) l5

end Go.Proofs.Ybulkajny
