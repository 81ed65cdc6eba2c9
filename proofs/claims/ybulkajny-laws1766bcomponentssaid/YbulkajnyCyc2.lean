import Derived.Test.YbulkajnyCyc1
import Derived.Deep.RegionHeld3
namespace Go.Proofs.Ybulkajny
open Go.RowKit Go.Sort
set_option linter.unusedSimpArgs false
set_option linter.unusedVariables false

set_option maxRecDepth 100000 in
set_option maxHeartbeats 4000000 in
theorem round_low {w0 w : World} {R0 : Nat → Row} {E : Option (Nat × Obj)} {n K G B NB f0 : Nat} {b : Nat → Nat} {s : TS} {succ : Nat → List Nat} {Q : Exit → Act → World → Prop} {v7 u0 u1 u3 u4 u8 u11 u13 u14 u15 u16 u17 u18 u19 u20 u21 u22 u23 u24 u25 u26 u27 u28 u29 u30 u31 u32 u33 u34 u35 u36 u37 u38 u39 u40 u41 u42 u43 u44 u45 u46 u47 u48 u49 u50 u51 u52 u53 u54 u55 u56 u57 u58 u59 u60 u61 u62 u63 u64 u65 u66 u67 u68 u69 u70 u71 u72 u73 u74 u75 u76 u77 u78 u79 u80 u81 u82 u83 u84 u85 u86 u87 u88 u89 u90 u91 u92 u93 u94 u95 u96 u97 u98 u99 u100 u101 u102 u103 u104 u105 u106 u107 u108 u109 u110 u111 u112 u113 u114 u115 u116 u117 u118 u119 u120 u121 u122 u123 u124 u125 u126 u127 u128 u129 u130 u131 u132 u133 u134 u135 u136 u137 u138 u139 u140 u141 u142 u143 u144 u145 u146 u147 u148 u149 u150 u151 u152 u153 u154 u155 u156 u157 u158 u159 u160 u161 u162 u163 u164 u165 u166 u167 u168 u169 u170 u171 u172 u173 u174 u175 u176 u177 u178 u179 u180 u181 u182 u183 u184 u185 u186 u187 u188 u189 u190 u191 u192 u193 u194 u195 u196 u197 u198 u199 u200 u201 u202 u203 u204 u205 u206 u207 u208 u209 u210 u211 u212 u213 u214 u215 u216 u217 u218 u219 u220 u221 u222 u223 : Value} (hE : Env R0 n K G b succ B NB) (hT : Tj w0 w R0 E (n + K) b s) (hI : TI (n + K) succ s) (hN : n + K ≤ 400) (hF : Fd R0 f0 s.found v7) (hf0 : 1000 ≤ f0)
    (HQ : Hid (∀ (x7 x15 x16 x17 x18 x19 x20 x21 x55 x56 x57 x58 x59 x60 x61 x62 x63 x64 x65 x66 x67 x68 x69 x70 x71 x72 x73 x74 x75 x76 x77 x78 x79 x80 x81 x82 x83 x84 x85 x86 x87 x88 x89 x90 x91 x92 x93 x94 x95 x96 x97 x98 x99 x100 x101 x102 x103 x104 x105 x106 x107 x108 x109 x110 x111 x112 x113 x114 x115 x116 x117 x118 x119 x120 x121 x122 x123 x124 x125 x126 x127 x128 x129 x130 x131 x132 x133 x134 x135 x136 x137 x138 x139 x140 x141 x142 x143 x144 x145 x146 x147 x148 x149 x150 x151 x152 x153 x154 x155 x156 x157 x158 x159 x160 x161 x162 x163 x164 x165 x166 x167 x168 x169 x170 x171 x172 x173 x174 x175 x176 x177 x178 x179 x180 x181 x182 x183 x184 x185 x186 x187 x188 x189 x190 x191 x192 x193 x194 x195 x196 x197 x198 x199 x200 x201 x202 : Value) (w' : World) (R' : Nat → Row), (∀ i, ¬ Fset f0 i → R' i = R0 i) → Fd R' f0 (step n succ s).found x7 → Tj w0 w' R' E (n + K) b (step n succ s) → Q .normal ⟨#[u0, u1, .pointer (some ⟨B, 0, none⟩), u3, u4, .pointer (some ⟨NB, 0, none⟩), .func (Fn.func 27) #[] #[.pointer (some ⟨NB, 0, none⟩), .pointer (some ⟨B, 0, none⟩)], x7, u8, .pointer (some ⟨b 12, 0, none⟩), .pointer (some ⟨b 13, 0, none⟩), u11, .func (Fn.func 28) #[] #[.pointer (some ⟨b 11, 0, none⟩), .pointer (some ⟨B, 0, none⟩), .pointer (some ⟨b 13, 0, none⟩), .pointer (some ⟨b 14, 0, none⟩), .pointer (some ⟨b 12, 0, none⟩)], u13, u14, x15, x16, x17, x18, x19, x20, x21, u22, u23, u24, u25, u26, u27, u28, u29, u30, u31, u32, u33, u34, u35, u36, u37, u38, u39, u40, u41, u42, u43, u44, u45, u46, u47, u48, u49, u50, u51, u52, u53, u54, x55, x56, x57, x58, x59, x60, x61, x62, x63, x64, x65, x66, x67, x68, x69, x70, x71, x72, x73, x74, x75, x76, x77, x78, x79, x80, x81, x82, x83, x84, x85, x86, x87, x88, x89, x90, x91, x92, x93, x94, x95, x96, x97, x98, x99, x100, x101, x102, x103, x104, x105, x106, x107, x108, x109, x110, x111, x112, x113, x114, x115, x116, x117, x118, x119, x120, x121, x122, x123, x124, x125, x126, x127, x128, x129, x130, x131, x132, x133, x134, x135, x136, x137, x138, x139, x140, x141, x142, x143, x144, x145, x146, x147, x148, x149, x150, x151, x152, x153, x154, x155, x156, x157, x158, x159, x160, x161, x162, x163, x164, x165, x166, x167, x168, x169, x170, x171, x172, x173, x174, x175, x176, x177, x178, x179, x180, x181, x182, x183, x184, x185, x186, x187, x188, x189, x190, x191, x192, x193, x194, x195, x196, x197, x198, x199, x200, x201, x202, u203, u204, u205, u206, u207, u208, u209, u210, u211, u212, u213, u214, u215, u216, u217, u218, u219, u220, u221, u222, u223], []⟩ w'))
    {v i u : Nat} {cs : List (Nat × Nat)} (hs : s.calls = (v, i) :: cs) (hu : (succ v)[i]? = some u) (h0 : s.idx u ≠ 0) (hon : s.on u = true) (huN : u < n + K) (hl1 : s.calls.length ≤ 1000) (hl2 : s.stk.length ≤ 1000) (hl3 : s.seen.length ≤ 1000) (hct : s.ctr ≤ 1000) :
    Code.wp Yba.prog (nav [1, 1, 1, 1, 1, 1, 1, 1, 1, 1, 0, 1, 3, 2, 1, 1, 0, 3, 1, 1, 1, 3, 2, 1] (Yba.f16.body.getD .skip)) Q ⟨#[u0, u1, .pointer (some ⟨B, 0, none⟩), u3, u4, .pointer (some ⟨NB, 0, none⟩), .func (Fn.func 27) #[] #[.pointer (some ⟨NB, 0, none⟩), .pointer (some ⟨B, 0, none⟩)], v7, u8, .pointer (some ⟨b 12, 0, none⟩), .pointer (some ⟨b 13, 0, none⟩), u11, .func (Fn.func 28) #[] #[.pointer (some ⟨b 11, 0, none⟩), .pointer (some ⟨B, 0, none⟩), .pointer (some ⟨b 13, 0, none⟩), .pointer (some ⟨b 14, 0, none⟩), .pointer (some ⟨b 12, 0, none⟩)], u13, u14, u15, u16, u17, u18, u19, u20, u21, u22, u23, u24, u25, u26, u27, u28, u29, u30, u31, u32, u33, u34, u35, u36, u37, u38, u39, u40, u41, u42, u43, u44, u45, u46, u47, u48, u49, u50, u51, u52, u53, u54, u55, u56, u57, u58, u59, u60, u61, u62, u63, u64, u65, u66, u67, u68, u69, u70, u71, u72, u73, u74, u75, u76, u77, u78, u79, u80, u81, u82, u83, u84, u85, u86, u87, u88, u89, u90, u91, u92, u93, u94, u95, u96, u97, u98, u99, u100, u101, u102, u103, u104, u105, u106, u107, u108, u109, u110, u111, u112, u113, u114, u115, u116, u117, u118, u119, u120, u121, u122, u123, u124, u125, u126, u127, u128, u129, u130, u131, u132, u133, u134, u135, u136, u137, u138, u139, u140, u141, u142, u143, u144, u145, u146, u147, u148, u149, u150, u151, u152, u153, u154, u155, u156, u157, u158, u159, u160, u161, u162, u163, u164, u165, u166, u167, u168, u169, u170, u171, u172, u173, u174, u175, u176, u177, u178, u179, u180, u181, u182, u183, u184, u185, u186, u187, u188, u189, u190, u191, u192, u193, u194, u195, u196, u197, u198, u199, u200, u201, u202, u203, u204, u205, u206, u207, u208, u209, u210, u211, u212, u213, u214, u215, u216, u217, u218, u219, u220, u221, u222, u223], []⟩ w := by
  conv => arg 2; whnf
  obtain ⟨g, cc, c12, c0, c1, f1, hset, hne, hglt, hcc, hkeep⟩ := hT.top hs
  have hvs : v ∈ s.stk := hI.csub (v, i) (by rw [hs]; exact List.mem_cons_self)
  have hvN : v < n + K := hI.lt v (hI.sub v hvs)
  have hcl : cs.length + 1 ≤ 1000 := by rw [hs] at hl1; simpa using hl1
  have a1 : IntKind.i64.wrap (((cs.length + 1 : Nat) : Int) - 1) = (cs.length : Int) := by rw [IntKind.wrap_i64]; omega
  have a2 : IntKind.i64.wrap (((cs.length : Int) + 1) - 1) = (cs.length : Int) := by rw [IntKind.wrap_i64]; omega
  have HNX : Hid (Calls Yba.prog 27 #[.pointer (some ⟨g, cs.length * 2, none⟩), .pointer (some ⟨NB, 0, none⟩), .pointer (some ⟨B, 0, none⟩)] w fun e w' => e = .returned (.tuple #[i32 u, .bool true]) ∧ Tj w0 w' R0 E (n + K) b { s with calls := (v, i + 1) :: cs } ∧ w'.cell? ⟨b 12, 0, none⟩ = some (.slice (some ⟨g, 0, none⟩) (cs.length + 1) cc)) := next_any hE hT hs c12 (by omega) hvN (by omega) hu
  clear hset hne f1 hkeep
  go_wp2_with fail
  refine Calls.mono HNX.out ?_
  rintro e w1 ⟨rfl, hT1, c12'⟩
  clear HNX c12 c0 c1
  obtain ⟨gx, st, hg⟩ := hE.gs
  have cB : w1.cell? ⟨B, 0, none⟩ = some (.pointer (some ⟨G, 0, none⟩)) := hT1.cell (i := 21) (by omega) (by rw [hE.box]) (by rw [hE.box]; rfl)
  have cG8 : w1.cell? ⟨G, 8, none⟩ = some (.slice (some ⟨b 8, 0, none⟩) (n + K) (n + K)) := hT1.cell (i := 0) (by omega) (by rw [hg.g0]) (by rw [hg.g0]; exact hg.x8)
  have cG10 : w1.cell? ⟨G, 10, none⟩ = some (.slice (some ⟨b 10, 0, none⟩) (n + K) (n + K)) := hT1.cell (i := 0) (by omega) (by rw [hg.g0]) (by rw [hg.g0]; exact hg.x10)
  have cI : w1.cell? ⟨b 8, u, none⟩ = some (i32 (s.idx u)) := hT1.cIdx huN
  have cO : w1.cell? ⟨b 10, u, none⟩ = some (.bool (s.on u)) := hT1.cOn huN
  have u1' : (u : Int) < ((n + K : Nat) : Int) := by omega
  have u2' : (u : Int) < (n : Int) + (K : Int) := by omega
  have HF : Hid (Fd R0 f0 (step n succ s).found v7) := by rw [step_low hs hu h0 hon]; exact hF
  have HST : Hid (step n succ s = { s with calls := (v, i + 1) :: cs, low := ud s.low v (min (s.low v) (s.idx u)) }) := step_low hs hu h0 hon
  have b0 : (((s.idx u : Nat) : Int) == 0) = false := by rw [beq_eq_false_iff_ne]; omega
  rw [hon] at cO
  have cG9 : w1.cell? ⟨G, 9, none⟩ = some (.slice (some ⟨b 9, 0, none⟩) (n + K) (n + K)) := hT1.cell (i := 0) (by omega) (by rw [hg.g0]) (by rw [hg.g0]; exact hg.x9)
  obtain ⟨g', cc', k12, k0, _, _, _, hne, _⟩ := hT1.top (v := v) (i := i + 1) (cs := cs) rfl
  obtain rfl : g = g' := by rw [c12'] at k12; simp at k12; exact k12.1
  have cV : w1.cell? ⟨g, cs.length * 2, none⟩ = some (i32 v) := by rw [Nat.mul_comm]; exact k0
  have cL : w1.cell? ⟨b 9, v, none⟩ = some (i32 (s.low v)) := hT1.cLow hvN
  have fL := hT1.free (i := 9) (by omega) (by omega) v
  have n1 : b 9 ≠ B := hT1.ne0 (j := 21) (by omega) (by omega) (by omega) (by rw [hE.box])
  have n2 : b 9 ≠ G := hT1.ne0 (j := 0) (by omega) (by omega) (by omega) (by rw [hg.g0])
  have n3 : b 9 ≠ b 8 := hT1.ne (by omega) (by omega) (by omega) (by omega) (by omega)
  have n4 : b 9 ≠ g := by
    obtain ⟨RR, hh, tt, _⟩ := hT1
    obtain ⟨p, c, hrow⟩ := tt.calls
    have hv15 : w1.cell? ⟨b 12, 0, none⟩ = some (RR 15).val := hh.cell (i := 12) (by rw [tt.cbox]) (by rw [tt.cbox]; rfl)
    rw [c12', hrow] at hv15
    have hb15 : (RR 15).blk = some g := by
      rw [hrow]
      cases p with
      | none => simp [Row.val] at hv15
      | some x => simp [Row.val] at hv15; rw [hv15.1]
    exact hh.ne (i := 9) (j := 15) (by rw [tt.low]) hb15 (by omega)
  have v1' : (v : Int) < ((n + K : Nat) : Int) := by omega
  have v2' : (v : Int) < (n : Int) + (K : Int) := by omega
  have HT2 : Hid (Tj w0 (w1.setCell ⟨b 9, v, none⟩ (i32 (min (s.low v) (s.idx u)))) R0 E (n + K) b { s with calls := (v, i + 1) :: cs, low := ud s.low v (min (s.low v) (s.idx u)) }) := hT1.setLow v _
  have hmin : (Min.min ((s.low v : Nat) : Int) ((s.idx u : Nat) : Int)) = ((min (s.low v) (s.idx u) : Nat) : Int) := by omega
  clear hT1 hT hg hE hI hF hs hu h0 hon k12 k0 hne c12'
  go_wp2_with fail
  refine wp_region_noPanic ?_
  refine wp_region_held_drew (S := (fun w' => w'.cell? ⟨B, 0, none⟩ = some (.pointer (some ⟨G, 0, none⟩)) ∧ w'.cell? ⟨G, 8, none⟩ = some (.slice (some ⟨b 8, 0, none⟩) (n + K) (n + K)) ∧ w'.cell? ⟨G, 9, none⟩ = some (.slice (some ⟨b 9, 0, none⟩) (n + K) (n + K)) ∧ w'.cell? ⟨g, cs.length * 2, none⟩ = some (i32 v) ∧ w'.cell? ⟨b 8, u, none⟩ = some (i32 (s.idx u)))) (by kernel_rfl) ?_ (fun hHeld => ?_)
  · ((try dsimp only); go_keep)
  refine wpAnyH_take (i := 0) (v := ?_) rfl (by kernel_rfl) (by kernel_rfl) (by kernel_rfl) (fun _ _ _ h => h) (Or.inl ⟨by rfl, ?_⟩) (by assumption) ?_
  rotate_left
  · (intro w hSw; (try dsimp only at hSw); (try simp only [List.getElem_toArray, List.getElem_cons_zero, List.getElem_cons_succ]); go_simp; (try with_reducible rfl))
  (try simp only [Act.put, List.setIfInBounds_toArray, List.set_cons_zero, List.set_cons_succ, List.getElem_toArray, List.getElem_cons_zero, List.getElem_cons_succ])
  refine wpAnyH_take (i := 1) (v := ?_) rfl (by kernel_rfl) (by kernel_rfl) (by kernel_rfl) (fun _ _ _ h => h) (Or.inl ⟨by rfl, ?_⟩) (by assumption) ?_
  rotate_left
  · (intro w hSw; (try dsimp only at hSw); (try simp only [List.getElem_toArray, List.getElem_cons_zero, List.getElem_cons_succ]); go_simp; (try with_reducible rfl))
  (try simp only [Act.put, List.setIfInBounds_toArray, List.set_cons_zero, List.set_cons_succ, List.getElem_toArray, List.getElem_cons_zero, List.getElem_cons_succ])
  refine wpAnyH_take (i := 2) (v := ?_) rfl (by kernel_rfl) (by kernel_rfl) (by kernel_rfl) (fun _ _ _ h => h) (Or.inl ⟨by rfl, ?_⟩) (by assumption) ?_
  rotate_left
  · (intro w hSw; (try dsimp only at hSw); (try simp only [List.getElem_toArray, List.getElem_cons_zero, List.getElem_cons_succ]); go_simp; (try with_reducible rfl))
  (try simp only [Act.put, List.setIfInBounds_toArray, List.set_cons_zero, List.set_cons_succ, List.getElem_toArray, List.getElem_cons_zero, List.getElem_cons_succ])
  refine wpAnyH_take (i := 3) (v := ?_) rfl (by kernel_rfl) (by kernel_rfl) (by kernel_rfl) (fun _ _ _ h => h) (Or.inl ⟨by rfl, ?_⟩) (by assumption) ?_
  rotate_left
  · (intro w hSw; (try dsimp only at hSw); (try simp only [List.getElem_toArray, List.getElem_cons_zero, List.getElem_cons_succ]); go_simp; (try with_reducible rfl))
  (try simp only [Act.put, List.setIfInBounds_toArray, List.set_cons_zero, List.set_cons_succ, List.getElem_toArray, List.getElem_cons_zero, List.getElem_cons_succ])
  refine wpAnyH_take (i := 4) (v := ?_) rfl (by kernel_rfl) (by kernel_rfl) (by kernel_rfl) (fun _ _ _ h => h) (Or.inl ⟨by rfl, ?_⟩) (by assumption) ?_
  rotate_left
  · (intro w hSw; (try dsimp only at hSw); (try simp only [List.getElem_toArray, List.getElem_cons_zero, List.getElem_cons_succ]); go_simp; (try with_reducible rfl))
  (try simp only [Act.put, List.setIfInBounds_toArray, List.set_cons_zero, List.set_cons_succ, List.getElem_toArray, List.getElem_cons_zero, List.getElem_cons_succ])
  refine wpAnyH_take (i := 5) (v := ?_) rfl (by kernel_rfl) (by kernel_rfl) (by kernel_rfl) (fun _ _ _ h => h) (Or.inl ⟨by rfl, ?_⟩) (by assumption) ?_
  rotate_left
  · (intro w hSw; (try dsimp only at hSw); (try simp only [List.getElem_toArray, List.getElem_cons_zero, List.getElem_cons_succ]); go_simp; (try with_reducible rfl))
  (try simp only [Act.put, List.setIfInBounds_toArray, List.set_cons_zero, List.set_cons_succ, List.getElem_toArray, List.getElem_cons_zero, List.getElem_cons_succ])
  refine wpAnyH_take (i := 6) (v := ?_) rfl (by kernel_rfl) (by kernel_rfl) (by kernel_rfl) (fun _ _ _ h => h) (Or.inl ⟨by rfl, ?_⟩) (by assumption) ?_
  rotate_left
  · (intro w hSw; (try dsimp only at hSw); (try simp only [List.getElem_toArray, List.getElem_cons_zero, List.getElem_cons_succ]); go_simp; (try with_reducible rfl))
  (try simp only [Act.put, List.setIfInBounds_toArray, List.set_cons_zero, List.set_cons_succ, List.getElem_toArray, List.getElem_cons_zero, List.getElem_cons_succ])
  refine wpAnyH_take (i := 7) (v := ?_) rfl (by kernel_rfl) (by kernel_rfl) (by kernel_rfl) (fun _ _ _ h => h) (Or.inl ⟨by rfl, ?_⟩) (by assumption) ?_
  rotate_left
  · (intro w hSw; (try dsimp only at hSw); (try simp only [List.getElem_toArray, List.getElem_cons_zero, List.getElem_cons_succ]); go_simp; (try with_reducible rfl))
  (try simp only [Act.put, List.setIfInBounds_toArray, List.set_cons_zero, List.set_cons_succ, List.getElem_toArray, List.getElem_cons_zero, List.getElem_cons_succ])
  refine wpAnyH_take (i := 8) (v := ?_) rfl (by kernel_rfl) (by kernel_rfl) (by kernel_rfl) (fun _ _ _ h => h) (Or.inl ⟨by rfl, ?_⟩) (by assumption) ?_
  rotate_left
  · (intro w hSw; (try dsimp only at hSw); (try simp only [List.getElem_toArray, List.getElem_cons_zero, List.getElem_cons_succ]); go_simp; (try with_reducible rfl))
  (try simp only [Act.put, List.setIfInBounds_toArray, List.set_cons_zero, List.set_cons_succ, List.getElem_toArray, List.getElem_cons_zero, List.getElem_cons_succ])
  refine wpAnyH_take (i := 9) (v := ?_) rfl (by kernel_rfl) (by kernel_rfl) (by kernel_rfl) (fun _ _ _ h => h) (Or.inl ⟨by rfl, ?_⟩) (by assumption) ?_
  rotate_left
  · (intro w hSw; (try dsimp only at hSw); (try simp only [List.getElem_toArray, List.getElem_cons_zero, List.getElem_cons_succ]); go_simp; (try with_reducible rfl))
  (try simp only [Act.put, List.setIfInBounds_toArray, List.set_cons_zero, List.set_cons_succ, List.getElem_toArray, List.getElem_cons_zero, List.getElem_cons_succ])
  refine wpAnyH_take (i := 10) (v := ?_) rfl (by kernel_rfl) (by kernel_rfl) (by kernel_rfl) (fun _ _ _ h => h) (Or.inl ⟨by rfl, ?_⟩) (by assumption) ?_
  rotate_left
  · (intro w hSw; (try dsimp only at hSw); (try simp only [List.getElem_toArray, List.getElem_cons_zero, List.getElem_cons_succ]); go_simp; (try with_reducible rfl))
  (try simp only [Act.put, List.setIfInBounds_toArray, List.set_cons_zero, List.set_cons_succ, List.getElem_toArray, List.getElem_cons_zero, List.getElem_cons_succ])
  refine wpAnyH_take (i := 11) (v := ?_) rfl (by kernel_rfl) (by kernel_rfl) (by kernel_rfl) (fun _ _ _ h => h) (Or.inl ⟨by rfl, ?_⟩) (by assumption) ?_
  rotate_left
  · (intro w hSw; (try dsimp only at hSw); (try simp only [List.getElem_toArray, List.getElem_cons_zero, List.getElem_cons_succ]); go_simp; (try with_reducible rfl))
  (try simp only [Act.put, List.setIfInBounds_toArray, List.set_cons_zero, List.set_cons_succ, List.getElem_toArray, List.getElem_cons_zero, List.getElem_cons_succ])
  refine wpAnyH_take (i := 12) (v := ?_) rfl (by kernel_rfl) (by kernel_rfl) (by kernel_rfl) (fun _ _ _ h => h) (Or.inl ⟨by rfl, ?_⟩) (by assumption) ?_
  rotate_left
  · (intro w hSw; (try dsimp only at hSw); (try simp only [List.getElem_toArray, List.getElem_cons_zero, List.getElem_cons_succ]); go_simp; (try with_reducible rfl))
  (try simp only [Act.put, List.setIfInBounds_toArray, List.set_cons_zero, List.set_cons_succ, List.getElem_toArray, List.getElem_cons_zero, List.getElem_cons_succ])
  refine wpAnyH_take (i := 13) (v := ?_) rfl (by kernel_rfl) (by kernel_rfl) (by kernel_rfl) (fun _ _ _ h => h) (Or.inl ⟨by rfl, ?_⟩) (by assumption) ?_
  rotate_left
  · (intro w hSw; (try dsimp only at hSw); (try simp only [List.getElem_toArray, List.getElem_cons_zero, List.getElem_cons_succ]); go_simp; (try with_reducible rfl))
  (try simp only [Act.put, List.setIfInBounds_toArray, List.set_cons_zero, List.set_cons_succ, List.getElem_toArray, List.getElem_cons_zero, List.getElem_cons_succ])
  refine wpAnyH_take (i := 14) (v := ?_) rfl (by kernel_rfl) (by kernel_rfl) (by kernel_rfl) (fun _ _ _ h => h) (Or.inl ⟨by rfl, ?_⟩) (by assumption) ?_
  rotate_left
  · (intro w hSw; (try dsimp only at hSw); (try simp only [List.getElem_toArray, List.getElem_cons_zero, List.getElem_cons_succ]); go_simp; (try with_reducible rfl))
  (try simp only [Act.put, List.setIfInBounds_toArray, List.set_cons_zero, List.set_cons_succ, List.getElem_toArray, List.getElem_cons_zero, List.getElem_cons_succ])
  refine wpAnyH_take (i := 15) (v := ?_) rfl (by kernel_rfl) (by kernel_rfl) (by kernel_rfl) (fun _ _ _ h => h) (Or.inl ⟨by rfl, ?_⟩) (by assumption) ?_
  rotate_left
  · (intro w hSw; (try dsimp only at hSw); (try simp only [List.getElem_toArray, List.getElem_cons_zero, List.getElem_cons_succ]); go_simp; (try with_reducible rfl))
  (try simp only [Act.put, List.setIfInBounds_toArray, List.set_cons_zero, List.set_cons_succ, List.getElem_toArray, List.getElem_cons_zero, List.getElem_cons_succ])
  refine wpAnyH_take (i := 16) (v := ?_) rfl (by kernel_rfl) (by kernel_rfl) (by kernel_rfl) (fun _ _ _ h => h) (Or.inl ⟨by rfl, ?_⟩) (by assumption) ?_
  rotate_left
  · (intro w hSw; (try dsimp only at hSw); (try simp only [List.getElem_toArray, List.getElem_cons_zero, List.getElem_cons_succ]); go_simp; (try with_reducible rfl))
  (try simp only [Act.put, List.setIfInBounds_toArray, List.set_cons_zero, List.set_cons_succ, List.getElem_toArray, List.getElem_cons_zero, List.getElem_cons_succ])
  refine wpAnyH_take (i := 18) (v := ?_) rfl (by kernel_rfl) (by kernel_rfl) (by kernel_rfl) (fun _ _ _ h => h) (Or.inl ⟨by rfl, ?_⟩) (by assumption) ?_
  rotate_left
  · (intro w hSw; (try dsimp only at hSw); (try simp only [List.getElem_toArray, List.getElem_cons_zero, List.getElem_cons_succ]); go_simp; (try with_reducible rfl))
  (try simp only [Act.put, List.setIfInBounds_toArray, List.set_cons_zero, List.set_cons_succ, List.getElem_toArray, List.getElem_cons_zero, List.getElem_cons_succ])
  refine wpAnyH_take (i := 19) (v := ?_) rfl (by kernel_rfl) (by kernel_rfl) (by kernel_rfl) (fun _ _ _ h => h) (Or.inl ⟨by rfl, ?_⟩) (by assumption) ?_
  rotate_left
  · (intro w hSw; (try dsimp only at hSw); (try simp only [List.getElem_toArray, List.getElem_cons_zero, List.getElem_cons_succ]); go_simp; (try with_reducible rfl))
  (try simp only [Act.put, List.setIfInBounds_toArray, List.set_cons_zero, List.set_cons_succ, List.getElem_toArray, List.getElem_cons_zero, List.getElem_cons_succ])
  refine wpAnyH_take (i := 20) (v := ?_) rfl (by kernel_rfl) (by kernel_rfl) (by kernel_rfl) (fun _ _ _ h => h) (Or.inl ⟨by rfl, ?_⟩) (by assumption) ?_
  rotate_left
  · (intro w hSw; (try dsimp only at hSw); (try simp only [List.getElem_toArray, List.getElem_cons_zero, List.getElem_cons_succ]); go_simp; (try with_reducible rfl))
  (try simp only [Act.put, List.setIfInBounds_toArray, List.set_cons_zero, List.set_cons_succ, List.getElem_toArray, List.getElem_cons_zero, List.getElem_cons_succ])
  refine wpAnyH_take (i := 21) (v := ?_) rfl (by kernel_rfl) (by kernel_rfl) (by kernel_rfl) (fun _ _ _ h => h) (Or.inl ⟨by rfl, ?_⟩) (by assumption) ?_
  rotate_left
  · (intro w hSw; (try dsimp only at hSw); (try simp only [List.getElem_toArray, List.getElem_cons_zero, List.getElem_cons_succ]); go_simp; (try with_reducible rfl))
  (try simp only [Act.put, List.setIfInBounds_toArray, List.set_cons_zero, List.set_cons_succ, List.getElem_toArray, List.getElem_cons_zero, List.getElem_cons_succ])
  refine wpAnyH_take (i := 22) (v := ?_) rfl (by kernel_rfl) (by kernel_rfl) (by kernel_rfl) (fun _ _ _ h => h) (Or.inl ⟨by rfl, ?_⟩) (by assumption) ?_
  rotate_left
  · (intro w hSw; (try dsimp only at hSw); (try simp only [List.getElem_toArray, List.getElem_cons_zero, List.getElem_cons_succ]); go_simp; (try with_reducible rfl))
  (try simp only [Act.put, List.setIfInBounds_toArray, List.set_cons_zero, List.set_cons_succ, List.getElem_toArray, List.getElem_cons_zero, List.getElem_cons_succ])
  refine wpAnyH_take (i := 23) (v := ?_) rfl (by kernel_rfl) (by kernel_rfl) (by kernel_rfl) (fun _ _ _ h => h) (Or.inl ⟨by rfl, ?_⟩) (by assumption) ?_
  rotate_left
  · (intro w hSw; (try dsimp only at hSw); (try simp only [List.getElem_toArray, List.getElem_cons_zero, List.getElem_cons_succ]); go_simp; (try with_reducible rfl))
  (try simp only [Act.put, List.setIfInBounds_toArray, List.set_cons_zero, List.set_cons_succ, List.getElem_toArray, List.getElem_cons_zero, List.getElem_cons_succ])
  refine wpAnyH_take (i := 24) (v := ?_) rfl (by kernel_rfl) (by kernel_rfl) (by kernel_rfl) (fun _ _ _ h => h) (Or.inl ⟨by rfl, ?_⟩) (by assumption) ?_
  rotate_left
  · (intro w hSw; (try dsimp only at hSw); (try simp only [List.getElem_toArray, List.getElem_cons_zero, List.getElem_cons_succ]); go_simp; (try with_reducible rfl))
  (try simp only [Act.put, List.setIfInBounds_toArray, List.set_cons_zero, List.set_cons_succ, List.getElem_toArray, List.getElem_cons_zero, List.getElem_cons_succ])
  refine wpAnyH_ready (rs := [17]) (by kernel_rfl) (by simp) ?_
  refine AllReadyH.cons rfl (fun K hK => ?_) ?_
  · (try simp only [List.getElem_toArray, List.getElem_cons_zero, List.getElem_cons_succ])
    go_simp
    refine hK.out _ _ ?_ (fun hHeld => ?_)
    · ((try dsimp only); go_keep)
    clear hK
    (try simp only [Act.put, List.setIfInBounds_toArray, List.set_cons_zero, List.set_cons_succ, List.getElem_toArray, List.getElem_cons_zero, List.getElem_cons_succ])
    refine wpAnyH_ready (rs := [25]) (by kernel_rfl) (by simp) ?_
    refine AllReadyH.cons rfl (fun K hK => ?_) ?_
    · (try simp only [List.getElem_toArray, List.getElem_cons_zero, List.getElem_cons_succ])
      go_simp
      refine hK.out _ _ ?_ (fun hHeld => ?_)
      · ((try dsimp only); go_keep)
      clear hK
      (try simp only [Act.put, List.setIfInBounds_toArray, List.set_cons_zero, List.set_cons_succ, List.getElem_toArray, List.getElem_cons_zero, List.getElem_cons_succ])
      refine wpAnyH_take (i := 26) (v := ?_) rfl (by kernel_rfl) (by kernel_rfl) (by kernel_rfl) (fun _ _ _ h => h) (Or.inl ⟨by rfl, ?_⟩) (by assumption) ?_
      rotate_left
      · (intro w hSw; (try dsimp only at hSw); (try simp only [List.getElem_toArray, List.getElem_cons_zero, List.getElem_cons_succ]); go_simp; (try with_reducible rfl))
      (try simp only [Act.put, List.setIfInBounds_toArray, List.set_cons_zero, List.set_cons_succ, List.getElem_toArray, List.getElem_cons_zero, List.getElem_cons_succ])
      refine wpAnyH_ready (rs := [27]) (by kernel_rfl) (by simp) ?_
      refine AllReadyH.cons rfl (fun K hK => ?_) ?_
      · (try simp only [List.getElem_toArray, List.getElem_cons_zero, List.getElem_cons_succ])
        go_simp
        refine hK.out _ _ ?_ (fun hHeld => ?_)
        · ((try dsimp only); go_keep)
        clear hK
        (try simp only [Act.put, List.setIfInBounds_toArray, List.set_cons_zero, List.set_cons_succ, List.getElem_toArray, List.getElem_cons_zero, List.getElem_cons_succ])
        refine wpAnyH_done (by kernel_rfl) ?_ _
        refine NoPanic.normal ?_
        go_wp2_with fail
        refine HQ.out _ _ _ _ _ _ _ _ _ _ _ _ _ _ _ _ _ _ _ _ _ _ _ _ _ _ _ _ _ _ _ _ _ _ _ _ _ _ _ _ _ _ _ _ _ _ _ _ _ _ _ _ _ _ _ _ _ _ _ _ _ _ _ _ _ _ _ _ _ _ _ _ _ _ _ _ _ _ _ _ _ _ _ _ _ _ _ _ _ _ _ _ _ _ _ _ _ _ _ _ _ _ _ _ _ _ _ _ _ _ _ _ _ _ _ _ _ _ _ _ _ _ _ _ _ _ _ _ _ _ _ _ _ _ _ _ _ _ _ _ _ _ _ _ _ _ _ _ _ _ _ _ _ _ _ _ _ R0 (fun _ _ => rfl) HF.out ?_
        rw [HST.out]
        first | exact HT2.out | exact HT2.out.drew
      exact AllReadyH.nil
    exact AllReadyH.nil
  exact AllReadyH.nil

end Go.Proofs.Ybulkajny
