import Derived.Test.YbulkajnyCyc2
import Derived.Test.YbulkajnyCyc4
import Derived.Deep.RegionHeld3
import Derived.Deep.QuietTactic
import Derived.BigQuiet
namespace Go.Proofs.Ybulkajny
open Go.RowKit Go.Sort
set_option linter.unusedSimpArgs false
set_option linter.unusedVariables false

set_option maxRecDepth 100000 in
set_option maxHeartbeats 4000000 in
theorem round_root {w0 w : World} {R0 : Nat → Row} {E : Option (Nat × Obj)} {n K G B NB f0 : Nat} {b : Nat → Nat} {s : TS} {succ : Nat → List Nat} {Q : Exit → Act → World → Prop} {v7 u0 u1 u3 u4 u8 u11 u13 u14 u15 u16 u17 u18 u19 u20 u21 u22 u23 u24 u25 u26 u27 u28 u29 u30 u31 u32 u33 u34 u35 u36 u37 u38 u39 u40 u41 u42 u43 u44 u45 u46 u47 u48 u49 u50 u51 u52 u53 u54 u55 u56 u57 u58 u59 u60 u61 u62 u63 u64 u65 u66 u67 u68 u69 u70 u71 u72 u73 u74 u75 u76 u77 u78 u79 u80 u81 u82 u83 u84 u85 u86 u87 u88 u89 u90 u91 u92 u93 u94 u95 u96 u97 u98 u99 u100 u101 u102 u103 u104 u105 u106 u107 u108 u109 u110 u111 u112 u113 u114 u115 u116 u117 u118 u119 u120 u121 u122 u123 u124 u125 u126 u127 u128 u129 u130 u131 u132 u133 u134 u135 u136 u137 u138 u139 u140 u141 u142 u143 u144 u145 u146 u147 u148 u149 u150 u151 u152 u153 u154 u155 u156 u157 u158 u159 u160 u161 u162 u163 u164 u165 u166 u167 u168 u169 u170 u171 u172 u173 u174 u175 u176 u177 u178 u179 u180 u181 u182 u183 u184 u185 u186 u187 u188 u189 u190 u191 u192 u193 u194 u195 u196 u197 u198 u199 u200 u201 u202 u203 u204 u205 u206 u207 u208 u209 u210 u211 u212 u213 u214 u215 u216 u217 u218 u219 u220 u221 u222 u223 : Value} (hE : Env R0 n K G b succ B NB) (hT : Tj w0 w R0 E (n + K) b s) (hI : TI (n + K) succ s) (hN : n + K ≤ 400) (hF : Fd R0 f0 s.found v7) (hf0 : 1000 ≤ f0)
    (HQ : Hid (∀ (x7 x15 x16 x17 x18 x19 x20 x21 x55 x56 x57 x58 x59 x60 x61 x62 x63 x64 x65 x66 x67 x68 x69 x70 x71 x72 x73 x74 x75 x76 x77 x78 x79 x80 x81 x82 x83 x84 x85 x86 x87 x88 x89 x90 x91 x92 x93 x94 x95 x96 x97 x98 x99 x100 x101 x102 x103 x104 x105 x106 x107 x108 x109 x110 x111 x112 x113 x114 x115 x116 x117 x118 x119 x120 x121 x122 x123 x124 x125 x126 x127 x128 x129 x130 x131 x132 x133 x134 x135 x136 x137 x138 x139 x140 x141 x142 x143 x144 x145 x146 x147 x148 x149 x150 x151 x152 x153 x154 x155 x156 x157 x158 x159 x160 x161 x162 x163 x164 x165 x166 x167 x168 x169 x170 x171 x172 x173 x174 x175 x176 x177 x178 x179 x180 x181 x182 x183 x184 x185 x186 x187 x188 x189 x190 x191 x192 x193 x194 x195 x196 x197 x198 x199 x200 x201 x202 : Value) (w' : World) (R' : Nat → Row), (∀ i, ¬ Fset f0 i → R' i = R0 i) → Fd R' f0 (step n succ s).found x7 → Tj w0 w' R' E (n + K) b (step n succ s) → Q .normal ⟨#[u0, u1, .pointer (some ⟨B, 0, none⟩), u3, u4, .pointer (some ⟨NB, 0, none⟩), .func (Fn.func 27) #[] #[.pointer (some ⟨NB, 0, none⟩), .pointer (some ⟨B, 0, none⟩)], x7, u8, .pointer (some ⟨b 12, 0, none⟩), .pointer (some ⟨b 13, 0, none⟩), u11, .func (Fn.func 28) #[] #[.pointer (some ⟨b 11, 0, none⟩), .pointer (some ⟨B, 0, none⟩), .pointer (some ⟨b 13, 0, none⟩), .pointer (some ⟨b 14, 0, none⟩), .pointer (some ⟨b 12, 0, none⟩)], u13, u14, x15, x16, x17, x18, x19, x20, x21, u22, u23, u24, u25, u26, u27, u28, u29, u30, u31, u32, u33, u34, u35, u36, u37, u38, u39, u40, u41, u42, u43, u44, u45, u46, u47, u48, u49, u50, u51, u52, u53, u54, x55, x56, x57, x58, x59, x60, x61, x62, x63, x64, x65, x66, x67, x68, x69, x70, x71, x72, x73, x74, x75, x76, x77, x78, x79, x80, x81, x82, x83, x84, x85, x86, x87, x88, x89, x90, x91, x92, x93, x94, x95, x96, x97, x98, x99, x100, x101, x102, x103, x104, x105, x106, x107, x108, x109, x110, x111, x112, x113, x114, x115, x116, x117, x118, x119, x120, x121, x122, x123, x124, x125, x126, x127, x128, x129, x130, x131, x132, x133, x134, x135, x136, x137, x138, x139, x140, x141, x142, x143, x144, x145, x146, x147, x148, x149, x150, x151, x152, x153, x154, x155, x156, x157, x158, x159, x160, x161, x162, x163, x164, x165, x166, x167, x168, x169, x170, x171, x172, x173, x174, x175, x176, x177, x178, x179, x180, x181, x182, x183, x184, x185, x186, x187, x188, x189, x190, x191, x192, x193, x194, x195, x196, x197, x198, x199, x200, x201, x202, u203, u204, u205, u206, u207, u208, u209, u210, u211, u212, u213, u214, u215, u216, u217, u218, u219, u220, u221, u222, u223], []⟩ w'))
    {v i : Nat} (hs : s.calls = [(v, i)]) (hu : (succ v)[i]? = none) (hl1 : s.calls.length ≤ 1000) (hl2 : s.stk.length ≤ 400) (hff : s.found.length ≤ 500) :
    Code.wp Yba.prog (nav [1, 1, 1, 1, 1, 1, 1, 1, 1, 1, 0, 1, 3, 2, 1, 1, 0, 3, 1, 1, 1, 3, 2, 1] (Yba.f16.body.getD .skip)) Q ⟨#[u0, u1, .pointer (some ⟨B, 0, none⟩), u3, u4, .pointer (some ⟨NB, 0, none⟩), .func (Fn.func 27) #[] #[.pointer (some ⟨NB, 0, none⟩), .pointer (some ⟨B, 0, none⟩)], v7, u8, .pointer (some ⟨b 12, 0, none⟩), .pointer (some ⟨b 13, 0, none⟩), u11, .func (Fn.func 28) #[] #[.pointer (some ⟨b 11, 0, none⟩), .pointer (some ⟨B, 0, none⟩), .pointer (some ⟨b 13, 0, none⟩), .pointer (some ⟨b 14, 0, none⟩), .pointer (some ⟨b 12, 0, none⟩)], u13, u14, u15, u16, u17, u18, u19, u20, u21, u22, u23, u24, u25, u26, u27, u28, u29, u30, u31, u32, u33, u34, u35, u36, u37, u38, u39, u40, u41, u42, u43, u44, u45, u46, u47, u48, u49, u50, u51, u52, u53, u54, u55, u56, u57, u58, u59, u60, u61, u62, u63, u64, u65, u66, u67, u68, u69, u70, u71, u72, u73, u74, u75, u76, u77, u78, u79, u80, u81, u82, u83, u84, u85, u86, u87, u88, u89, u90, u91, u92, u93, u94, u95, u96, u97, u98, u99, u100, u101, u102, u103, u104, u105, u106, u107, u108, u109, u110, u111, u112, u113, u114, u115, u116, u117, u118, u119, u120, u121, u122, u123, u124, u125, u126, u127, u128, u129, u130, u131, u132, u133, u134, u135, u136, u137, u138, u139, u140, u141, u142, u143, u144, u145, u146, u147, u148, u149, u150, u151, u152, u153, u154, u155, u156, u157, u158, u159, u160, u161, u162, u163, u164, u165, u166, u167, u168, u169, u170, u171, u172, u173, u174, u175, u176, u177, u178, u179, u180, u181, u182, u183, u184, u185, u186, u187, u188, u189, u190, u191, u192, u193, u194, u195, u196, u197, u198, u199, u200, u201, u202, u203, u204, u205, u206, u207, u208, u209, u210, u211, u212, u213, u214, u215, u216, u217, u218, u219, u220, u221, u222, u223], []⟩ w := by
  conv => arg 2; whnf
  obtain ⟨g, cc, c12, c0, c1, f1, hset, hne, hglt, hcc, hkeep⟩ := hT.top hs
  have hvs : v ∈ s.stk := hI.csub (v, i) (by rw [hs]; exact List.mem_cons_self)
  have hvN : v < n + K := hI.lt v (hI.sub v hvs)
  have hcl : True := trivial
  have HNX : Hid (Calls Yba.prog 27 #[.pointer (some ⟨g, 0, none⟩), .pointer (some ⟨NB, 0, none⟩), .pointer (some ⟨B, 0, none⟩)] w fun e w' => e = .returned (.tuple #[i32 0, .bool false]) ∧ Tj w0 w' R0 E (n + K) b s ∧ w'.cell? ⟨b 12, 0, none⟩ = some (.slice (some ⟨g, 0, none⟩) 1 cc)) := next_end hE hT hs c12 (by first | omega | (simp; omega) | simp) hvN (by omega) hu (by have := hI.fr (v, i) (by rw [hs]; exact List.mem_cons_self); have := hE.nodes.len v hvN; simp at *; omega)
  clear hset hne f1 hkeep
  refine wp_block ?_
  refine wp_seq_k (fun K1 hK => ?_)
  have HK1 : Hid _ := hK
  clear hK
  go_wp2_with fail
  refine HK1.out _ _ ?_
  clear HK1 c12 c0 c1
  refine wp_seq_k (fun K1 hK => ?_)
  have HK1 : Hid _ := hK
  clear hK
  go_wp2_with fail
  refine Calls.mono HNX.out ?_
  rintro e w1 ⟨rfl, hT1, c12'⟩
  clear HNX
  go_wp2_with fail
  refine HK1.out _ _ ?_
  clear HK1 hT
  obtain ⟨gx, st, hg⟩ := hE.gs
  obtain ⟨g', cc', k12, k0, _⟩ := hT1.top hs
  obtain rfl : g = g' := by rw [c12'] at k12; simp at k12; exact k12.1
  have cV : w1.cell? ⟨g, 0, none⟩ = some (i32 v) := by simpa using k0
  clear k12 k0
  refine wp_seq_k (fun K1 hK => ?_)
  have HK1 : Hid _ := hK
  clear hK
  go_wp2_with fail
  refine HK1.out _ _ ?_
  clear HK1 cV
  have hT2 := (hT1.popCall hs c12').2.2
  have f12 := hT1.free (i := 12) (by omega) (by omega) 0
  have scut : ∀ w', (Instr.sliceAt 78 (.slice (some ⟨g, 0, none⟩) 1 cc) none (some (.int .i64 0)) none).run Yba.prog w' = .ok (.slice (some ⟨g, 0, none⟩) 0 cc) w' := fun w' => slice_cut78 g _ cc 0 (by first | omega | (simp at hcc; omega)) w'
  have HT2 : Hid (Tj w0 (w1.setCell ⟨b 12, 0, none⟩ (.slice (some ⟨g, 0, none⟩) 0 cc)) R0 E (n + K) b { s with calls := [] }) := hT2
  have HCS : Hid ((w1.setCell ⟨b 12, 0, none⟩ (.slice (some ⟨g, 0, none⟩) 0 cc)).cell? ⟨b 12, 0, none⟩ = some (.slice (some ⟨g, 0, none⟩) 0 cc)) := by
    show _ = _
    have hlt := hT1.lt (i := 12) (by omega) (by omega)
    obtain ⟨RR, hh, tt, _⟩ := hT1
    have h3 := hh.set (i := 12) (b := b 12) (j := 0) (v := .slice (some ⟨g, 0, none⟩) 0 cc) (by rw [tt.cbox])
    exact h3.cell (i := 12) (by rw [put_eq, tt.cbox]) (by rw [put_eq, tt.cbox]; rfl)
  clear hT2
  refine wp_seq_k (fun K1 hK => ?_)
  have HK1 : Hid _ := hK
  clear hK
  go_wp2_with fail
  refine HK1.out _ _ ?_
  clear HK1 c12' f12 scut hT1
  generalize w1.setCell ⟨b 12, 0, none⟩ (.slice (some ⟨g, 0, none⟩) 0 cc) = w2 at *
  have hT2 := HT2.out
  have cS := HCS.out
  clear HT2 HCS
  have cB : w2.cell? ⟨B, 0, none⟩ = some (.pointer (some ⟨G, 0, none⟩)) := hT2.cell (i := 21) (by omega) (by rw [hE.box]) (by rw [hE.box]; rfl)
  have cG8 : w2.cell? ⟨G, 8, none⟩ = some (.slice (some ⟨b 8, 0, none⟩) (n + K) (n + K)) := hT2.cell (i := 0) (by omega) (by rw [hg.g0]) (by rw [hg.g0]; exact hg.x8)
  have cG9 : w2.cell? ⟨G, 9, none⟩ = some (.slice (some ⟨b 9, 0, none⟩) (n + K) (n + K)) := hT2.cell (i := 0) (by omega) (by rw [hg.g0]) (by rw [hg.g0]; exact hg.x9)
  have v1' : (v : Int) < ((n + K : Nat) : Int) := by omega
  have v2' : (v : Int) < (n : Int) + (K : Int) := by omega
  have cI : w2.cell? ⟨b 8, v, none⟩ = some (i32 (s.idx v)) := hT2.cIdx hvN
  have cL : w2.cell? ⟨b 9, v, none⟩ = some (i32 (s.low v)) := hT2.cLow hvN
  obtain ⟨hlow, _⟩ := hI.root hs
  rw [hlow] at cL
  have hnn : (((s.idx v : Nat) : Int) != ((s.idx v : Nat) : Int)) = false := by simp
  refine wp_seq_k (fun K1 hK => ?_)
  have HK1 : Hid _ := hK
  clear hK
  go_wp2_with fail
  refine HK1.out _ _ ?_
  clear HK1 cS
  refine wp_seq_k (fun K1 hK => ?_)
  have HK1 : Hid _ := hK
  clear hK
  go_wp2_with fail
  go_quiet (fail)
  go_wp2_with fail
  refine HK1.out _ _ ?_
  clear HK1
  have HST : Hid (step n succ s = popN n { s with calls := [], low := lowUp s v [] } v) := step_pop hs hu hlow
  have hT3 : Tj w0 w2 R0 E (n + K) b { s with calls := [], low := lowUp s v [] } := hT2
  refine pop_tail (s := { s with calls := [], low := lowUp s v [] }) hE (by first | exact hT3 | exact hT3.drew | exact hT3.only0 (only_drewN _ _)) hN hF hf0 hff hvs (fun x hx => hI.lt x (hI.sub x hx)) hl2 ?_
  intro x7 x20 x21 x167 x168 x169 x170 x171 x172 x173 x174 x175 x176 x177 x178 x179 x180 x181 x182 x183 x184 x185 x186 x187 x188 x189 x190 x191 x192 x193 x194 x195 x196 x197 x198 x199 x200 x201 x202 w' R' e1 e2 e3
  exact HQ.out _ _ _ _ _ _ _ _ _ _ _ _ _ _ _ _ _ _ _ _ _ _ _ _ _ _ _ _ _ _ _ _ _ _ _ _ _ _ _ _ _ _ _ _ _ _ _ _ _ _ _ _ _ _ _ _ _ _ _ _ _ _ _ _ _ _ _ _ _ _ _ _ _ _ _ _ _ _ _ _ _ _ _ _ _ _ _ _ _ _ _ _ _ _ _ _ _ _ _ _ _ _ _ _ _ _ _ _ _ _ _ _ _ _ _ _ _ _ _ _ _ _ _ _ _ _ _ _ _ _ _ _ _ _ _ _ _ _ _ _ _ _ _ _ _ _ _ _ _ _ _ _ _ _ _ _ _ R' e1 (by rw [HST.out]; exact e2) (by rw [HST.out]; exact e3)

end Go.Proofs.Ybulkajny
