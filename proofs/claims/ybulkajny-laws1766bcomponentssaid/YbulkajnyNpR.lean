import Derived.Test.YbulkajnyPl
import Derived.Deep.RegionHeld3
import Derived.Deep.DeepCutAuto
namespace Go.Proofs.Ybulkajny
open Go.RowKit Go.Sort Go.Maps
set_option linter.unusedVariables false
set_option linter.unusedSimpArgs false

set_option maxRecDepth 100000 in
set_option maxHeartbeats 4000000 in
theorem reg25 {w0 w : World} {R0 : Nat → Row} {n mb G t : Nat} {b x : Nat → Nat} {rv wv : Nat → List Nat} {done : List Nat} {s : NS} {Q : Exit → Act → World → Prop} {gx : List Value} {v13 v14 u0 u1 u2 u3 u4 u10 u12 u15 u16 u17 u18 u19 u21 u22 u23 u24 u25 u26 u27 u28 u29 u30 u31 u32 u33 u34 u35 u36 u37 u38 u39 u40 u41 u42 u43 u44 u45 u46 u47 u48 u49 u50 u51 u52 u53 u54 u55 u56 u57 u58 u59 u60 u61 u62 u63 u64 u65 u66 u67 u68 u69 u70 u71 u72 u73 u74 u75 u76 u77 u78 u79 u80 u81 u82 u83 u84 u85 u86 u87 u88 u89 u90 u91 u92 u93 u94 u95 u96 u97 u98 u99 u100 u101 u102 u103 u104 u105 u106 u107 u108 u109 u110 u111 u112 u113 u114 u115 u116 u117 u118 u119 u120 u121 u122 u123 u124 u125 u126 u127 u128 u129 u130 u131 u132 u133 u134 u135 u136 u137 u138 u139 u140 u141 u142 u143 u144 u145 u146 u147 u148 u149 u150 u151 u152 u153 u154 u155 u156 u157 u158 u159 u160 u161 u162 u163 u164 u165 u166 u167 u168 u169 u170 u171 u172 u173 u174 u175 u176 u177 u178 u179 u180 u181 u182 u183 u184 u185 u186 u187 u188 u189 u190 u191 u192 u193 u194 u195 u196 u197 u198 u199 u200 u201 u202 u203 u204 u205 u206 u207 u208 u209 u210 u211 u212 u213 u214 u215 u216 u217 u218 u219 u220 u221 u222 u223 u224 u225 u226 u227 u228 u229 u230 u231 u232 u233 u234 u235 u236 u237 u238 u239 u240 u241 u242 u243 u244 u245 u246 u247 u248 u249 u250 u251 u252 u253 u254 u255 u256 u257 u258 u259 u260 u261 u262 u263 u264 u265 u266 : Value} (hN : Nj w0 w R0 n b x mb s v13 v14) (hG : R0 0 = ⟨some G, 1, 49, 15, 1, gx⟩) (hx0 : gx[0]? = some (.slice (some ⟨b 1, 0, none⟩) n n)) (hx1 : gx[1]? = some (.slice (some ⟨b 2, 0, none⟩) n n)) (hx2 : gx[2]? = some (.slice (some ⟨b 47, 0, none⟩) n n)) (ht : t < n) (hn : n ≤ 64) {q : Nat} (hl : (s.rds t).length ≤ 1000000)
    (HQ : Hid (∀ (y108 y109 y110 y111 y112 y113 y114 y115 y116 y117 y118 y119 y120 y121 y122 y123 : Value) (w' : World), Nj w0 w' R0 n b x mb { s with rds := ud s.rds t (s.rds t ++ [q]) } v13 v14 → Q .normal ⟨#[u0, u1, u2, u3, u4, .pointer (some ⟨G, 0, none⟩), .pointer (some ⟨x 43, 0, none⟩), .pointer (some ⟨x 44, 0, none⟩), .pointer (some ⟨x 42, 0, none⟩), .func (Fn.func 25) #[] #[.pointer (some ⟨x 42, 0, none⟩), .pointer (some ⟨x 43, 0, none⟩), .pointer (some ⟨x 44, 0, none⟩)], u10, i32 t, u12, v13, v14, u15, u16, u17, u18, u19, i32 q, u21, u22, u23, u24, u25, u26, u27, u28, u29, u30, u31, u32, u33, u34, u35, u36, u37, u38, u39, u40, u41, u42, u43, u44, u45, u46, u47, u48, u49, u50, u51, u52, u53, u54, u55, u56, u57, u58, u59, u60, u61, u62, u63, u64, u65, u66, u67, u68, u69, u70, u71, u72, u73, u74, u75, u76, u77, u78, u79, u80, u81, u82, u83, u84, u85, u86, u87, u88, u89, u90, u91, u92, u93, u94, u95, u96, u97, u98, u99, u100, u101, u102, u103, u104, u105, u106, u107, y108, y109, y110, y111, y112, y113, y114, y115, y116, y117, y118, y119, y120, y121, y122, y123, u124, u125, u126, u127, u128, u129, u130, u131, u132, u133, u134, u135, u136, u137, u138, u139, u140, u141, u142, u143, u144, u145, u146, u147, u148, u149, u150, u151, u152, u153, u154, u155, u156, u157, u158, u159, u160, u161, u162, u163, u164, u165, u166, u167, u168, u169, u170, u171, u172, u173, u174, u175, u176, u177, u178, u179, u180, u181, u182, u183, u184, u185, u186, u187, u188, u189, u190, u191, u192, u193, u194, u195, u196, u197, u198, u199, u200, u201, u202, u203, u204, u205, u206, u207, u208, u209, u210, u211, u212, u213, u214, u215, u216, u217, u218, u219, u220, u221, u222, u223, u224, u225, u226, u227, u228, u229, u230, u231, u232, u233, u234, u235, u236, u237, u238, u239, u240, u241, u242, u243, u244, u245, u246, u247, u248, u249, u250, u251, u252, u253, u254, u255, u256, u257, u258, u259, u260, u261, u262, u263, u264, u265, u266], []⟩ w')) :
    Code.wp Yba.prog (nav [1, 1, 1, 1, 1, 0, 1, 3, 2, 1, 1, 0, 3, 1, 1, 1, 1, 0, 1, 3, 2, 1, 1, 0, 3, 1, 1, 1, 1, 1, 4] (Yba.f15.body.getD .skip)) Q ⟨#[u0, u1, u2, u3, u4, .pointer (some ⟨G, 0, none⟩), .pointer (some ⟨x 43, 0, none⟩), .pointer (some ⟨x 44, 0, none⟩), .pointer (some ⟨x 42, 0, none⟩), .func (Fn.func 25) #[] #[.pointer (some ⟨x 42, 0, none⟩), .pointer (some ⟨x 43, 0, none⟩), .pointer (some ⟨x 44, 0, none⟩)], u10, i32 t, u12, v13, v14, u15, u16, u17, u18, u19, i32 q, u21, u22, u23, u24, u25, u26, u27, u28, u29, u30, u31, u32, u33, u34, u35, u36, u37, u38, u39, u40, u41, u42, u43, u44, u45, u46, u47, u48, u49, u50, u51, u52, u53, u54, u55, u56, u57, u58, u59, u60, u61, u62, u63, u64, u65, u66, u67, u68, u69, u70, u71, u72, u73, u74, u75, u76, u77, u78, u79, u80, u81, u82, u83, u84, u85, u86, u87, u88, u89, u90, u91, u92, u93, u94, u95, u96, u97, u98, u99, u100, u101, u102, u103, u104, u105, u106, u107, u108, u109, u110, u111, u112, u113, u114, u115, u116, u117, u118, u119, u120, u121, u122, u123, u124, u125, u126, u127, u128, u129, u130, u131, u132, u133, u134, u135, u136, u137, u138, u139, u140, u141, u142, u143, u144, u145, u146, u147, u148, u149, u150, u151, u152, u153, u154, u155, u156, u157, u158, u159, u160, u161, u162, u163, u164, u165, u166, u167, u168, u169, u170, u171, u172, u173, u174, u175, u176, u177, u178, u179, u180, u181, u182, u183, u184, u185, u186, u187, u188, u189, u190, u191, u192, u193, u194, u195, u196, u197, u198, u199, u200, u201, u202, u203, u204, u205, u206, u207, u208, u209, u210, u211, u212, u213, u214, u215, u216, u217, u218, u219, u220, u221, u222, u223, u224, u225, u226, u227, u228, u229, u230, u231, u232, u233, u234, u235, u236, u237, u238, u239, u240, u241, u242, u243, u244, u245, u246, u247, u248, u249, u250, u251, u252, u253, u254, u255, u256, u257, u258, u259, u260, u261, u262, u263, u264, u265, u266], []⟩ w := by
  conv => arg 2; whnf
  obtain ⟨i0, hi0, hz0, hz1, hz2⟩ := info_parts info21
  have n0 : ¬ Nset 0 := by unfold Nset; omega
  have k0 : (R0 0).blk = some G := by rw [hG]
  have k1 : (R0 0).xs[0]? = some (.slice (some ⟨b 1, 0, none⟩) n n) := by rw [hG]; exact hx0
  have k2 : (R0 0).xs[1]? = some (.slice (some ⟨b 2, 0, none⟩) n n) := by rw [hG]; exact hx1
  have k3 : (R0 0).xs[2]? = some (.slice (some ⟨b 47, 0, none⟩) n n) := by rw [hG]; exact hx2
  have t1 : (t : Int) < (n : Int) := by omega
  obtain ⟨R3, o3, p3, c3, h3, hrow3, hblk3, hc3, hR3, _, hA⟩ := hN.readyR ht hn
  have cG : w.cell? ⟨G, 0, none⟩ = some (.slice (some ⟨b 1, 0, none⟩) n n) := hN.cell n0 k0 k1
  have e4 : b 1 ≠ G := by have := hN.blks k0; omega
  have HA : Hid (∀ (g cap : Nat) (w4 : World), Fam w0 w4 (put R3 (100 + 4 * t) ⟨some g, cap, 21, 1, (s.rds t).length + 1, (s.rds t).map i32 ++ [i32 q]⟩) (some (mb, o3)) → w4.cell? ⟨b 1, t, none⟩ = some (.slice (p3.map fun b => (⟨b, 0, none⟩ : Addr)) (s.rds t).length c3) ∧ w4.frozen? ⟨b 1, t, none⟩ = false ∧ w4.cell? ⟨G, 0, none⟩ = some (.slice (some ⟨b 1, 0, none⟩) n n) ∧ Nj w0 (w4.setCell ⟨b 1, t, none⟩ (.slice (some ⟨g, 0, none⟩) ((s.rds t).length + 1) cap)) R0 n b x mb { s with rds := ud s.rds t (s.rds t ++ [q]) } v13 v14) := fun g cap w4 h4 => by
    obtain ⟨z1, z2, z3, z4⟩ := hA (some g) cap _ (s.rds t ++ [q]) _ w4 (by simp) (by simp) h4
    exact ⟨z1, z2, z3 0 G 0 _ n0 k0 k1, z4⟩
  have HROW : Hid (R3 (100 + 4 * t) = _) := hrow3
  have cA3 : ∀ o, (w.alloc o).cell? ⟨b 1, t, none⟩ = some (.slice (p3.map fun b => (⟨b, 0, none⟩ : Addr)) (s.rds t).length c3) := fun o => ((only_alloc w o).cell (p := ⟨b 1, t, none⟩) (World.block_lt_of_cell? w _ hc3) (fun hf => hf)).trans hc3
  clear hA hrow3 hR3 hblk3 hN hG hx0 hx1 hx2 k0 k1 k2 k3
  generalize (s.rds t).length = L3 at *
  generalize (s.rds t).map i32 = X3 at *
  refine wp_region_noPanic ?_
  refine wp_region_held_drew (S := (fun w' => w'.cell? ⟨G, 0, none⟩ = some (.slice (some ⟨b 1, 0, none⟩) n n))) (by kernel_rfl) ?_ (fun hHeld => ?_)
  · ((try dsimp only); go_keep)
  refine wpAnyH_take (i := 0) (v := ?_) rfl (by kernel_rfl) (by kernel_rfl) (by kernel_rfl) (fun _ _ _ h => h) (Or.inl ⟨by rfl, ?_⟩) (by assumption) ?_
  rotate_left
  · (intro w hSw; (try dsimp only at hSw); (try simp only [List.getElem_toArray, List.getElem_cons_zero, List.getElem_cons_succ]); go_simp; (try with_reducible rfl))
  (try simp only [Act.put, List.setIfInBounds_toArray, List.set_cons_zero, List.set_cons_succ, List.getElem_toArray, List.getElem_cons_zero, List.getElem_cons_succ])
  refine wpAnyH_take (i := 1) (v := ?_) rfl (by kernel_rfl) (by kernel_rfl) (by kernel_rfl) (fun _ _ _ h => h) (Or.inl ⟨by rfl, ?_⟩) (by assumption) ?_
  rotate_left
  · (intro w hSw; (try dsimp only at hSw); (try simp only [List.getElem_toArray, List.getElem_cons_zero, List.getElem_cons_succ]); go_simp; (try with_reducible rfl))
  (try simp only [Act.put, List.setIfInBounds_toArray, List.set_cons_zero, List.set_cons_succ, List.getElem_toArray, List.getElem_cons_zero, List.getElem_cons_succ])
  refine wpAnyH_take (i := 2) (v := ?_) rfl (by kernel_rfl) (by kernel_rfl) (by kernel_rfl) (fun _ _ _ h => h) (Or.inl ⟨by rfl, ?_⟩) (by assumption) ?_
  rotate_left
  · (intro w hSw; (try dsimp only at hSw); (try simp only [List.getElem_toArray, List.getElem_cons_zero, List.getElem_cons_succ]); go_simp; (try with_reducible rfl))
  (try simp only [Act.put, List.setIfInBounds_toArray, List.set_cons_zero, List.set_cons_succ, List.getElem_toArray, List.getElem_cons_zero, List.getElem_cons_succ])
  refine wpAnyH_take (i := 3) (v := ?_) rfl (by kernel_rfl) (by kernel_rfl) (by kernel_rfl) (fun _ _ _ h => h) (Or.inl ⟨by rfl, ?_⟩) (by assumption) ?_
  rotate_left
  · (intro w hSw; (try dsimp only at hSw); (try simp only [List.getElem_toArray, List.getElem_cons_zero, List.getElem_cons_succ]); go_simp; (try with_reducible rfl))
  (try simp only [Act.put, List.setIfInBounds_toArray, List.set_cons_zero, List.set_cons_succ, List.getElem_toArray, List.getElem_cons_zero, List.getElem_cons_succ])
  refine wpAnyH_take (i := 4) (v := ?_) rfl (by kernel_rfl) (by kernel_rfl) (by kernel_rfl) (fun _ _ _ h => h) (Or.inl ⟨by rfl, ?_⟩) (by assumption) ?_
  rotate_left
  · (intro w hSw; (try dsimp only at hSw); (try simp only [List.getElem_toArray, List.getElem_cons_zero, List.getElem_cons_succ]); go_simp; (try with_reducible rfl))
  (try simp only [Act.put, List.setIfInBounds_toArray, List.set_cons_zero, List.set_cons_succ, List.getElem_toArray, List.getElem_cons_zero, List.getElem_cons_succ])
  refine wpAnyH_take (i := 5) (v := ?_) rfl (by kernel_rfl) (by kernel_rfl) (by kernel_rfl) (fun _ _ _ h => h) (Or.inl ⟨by rfl, ?_⟩) (by assumption) ?_
  rotate_left
  · (intro w hSw; (try dsimp only at hSw); (try simp only [List.getElem_toArray, List.getElem_cons_zero, List.getElem_cons_succ]); go_simp; (try with_reducible rfl))
  (try simp only [Act.put, List.setIfInBounds_toArray, List.set_cons_zero, List.set_cons_succ, List.getElem_toArray, List.getElem_cons_zero, List.getElem_cons_succ])
  refine wpAnyH_take (i := 6) (v := ?_) rfl (by kernel_rfl) (by kernel_rfl) (by kernel_rfl) (fun _ _ _ h => h) (Or.inl ⟨by rfl, ?_⟩) (by assumption) ?_
  rotate_left
  · (intro w hSw; (try dsimp only at hSw); (try simp only [List.getElem_toArray, List.getElem_cons_zero, List.getElem_cons_succ]); go_simp; (try with_reducible rfl))
  (try simp only [Act.put, List.setIfInBounds_toArray, List.set_cons_zero, List.set_cons_succ, List.getElem_toArray, List.getElem_cons_zero, List.getElem_cons_succ])
  refine wpAnyH_take (i := 7) (v := ?_) rfl (by kernel_rfl) (by kernel_rfl) (by kernel_rfl) (fun _ _ _ h => h) (Or.inl ⟨by rfl, ?_⟩) (by assumption) ?_
  rotate_left
  · (intro w hSw; (try dsimp only at hSw); (try simp only [List.getElem_toArray, List.getElem_cons_zero, List.getElem_cons_succ]); go_simp; (try with_reducible rfl))
  (try simp only [Act.put, List.setIfInBounds_toArray, List.set_cons_zero, List.set_cons_succ, List.getElem_toArray, List.getElem_cons_zero, List.getElem_cons_succ])
  refine wpAnyH_take (i := 8) (v := ?_) rfl (by kernel_rfl) (by kernel_rfl) (by kernel_rfl) (fun _ _ _ h => h) (Or.inl ⟨by rfl, ?_⟩) (by assumption) ?_
  rotate_left
  · (intro w hSw; (try dsimp only at hSw); (try simp only [List.getElem_toArray, List.getElem_cons_zero, List.getElem_cons_succ]); go_simp; (try with_reducible rfl))
  (try simp only [Act.put, List.setIfInBounds_toArray, List.set_cons_zero, List.set_cons_succ, List.getElem_toArray, List.getElem_cons_zero, List.getElem_cons_succ])
  refine wpAnyH_take (i := 9) (v := ?_) rfl (by kernel_rfl) (by kernel_rfl) (by kernel_rfl) (fun _ _ _ h => h) (Or.inl ⟨by rfl, ?_⟩) (by assumption) ?_
  rotate_left
  · (intro w hSw; (try dsimp only at hSw); (try simp only [List.getElem_toArray, List.getElem_cons_zero, List.getElem_cons_succ]); go_simp; (try with_reducible rfl))
  (try simp only [Act.put, List.setIfInBounds_toArray, List.set_cons_zero, List.set_cons_succ, List.getElem_toArray, List.getElem_cons_zero, List.getElem_cons_succ])
  refine wpAnyH_take (i := 10) (v := ?_) rfl (by kernel_rfl) (by kernel_rfl) (by kernel_rfl) (fun _ _ _ h => h) (Or.inl ⟨by rfl, ?_⟩) (by assumption) ?_
  rotate_left
  · (intro w hSw; (try dsimp only at hSw); (try simp only [List.getElem_toArray, List.getElem_cons_zero, List.getElem_cons_succ]); go_simp; (try with_reducible rfl))
  (try simp only [Act.put, List.setIfInBounds_toArray, List.set_cons_zero, List.set_cons_succ, List.getElem_toArray, List.getElem_cons_zero, List.getElem_cons_succ])
  refine wpAnyH_take (i := 12) (v := ?_) rfl (by kernel_rfl) (by kernel_rfl) (by kernel_rfl) (fun _ _ _ h => h) (Or.inl ⟨by rfl, ?_⟩) (by assumption) ?_
  rotate_left
  · (intro w hSw; (try dsimp only at hSw); (try simp only [List.getElem_toArray, List.getElem_cons_zero, List.getElem_cons_succ]); go_simp; (try with_reducible rfl))
  (try simp only [Act.put, List.setIfInBounds_toArray, List.set_cons_zero, List.set_cons_succ, List.getElem_toArray, List.getElem_cons_zero, List.getElem_cons_succ])
  refine wpAnyH_ready (rs := [11, 13]) (by kernel_rfl) (by simp) ?_
  refine AllReadyH.cons rfl (fun Kx hKx => ?_) ?_
  · (try simp only [List.getElem_toArray, List.getElem_cons_zero, List.getElem_cons_succ])
    go_simp
    refine hKx.out _ _ ?_ (fun hHeld => ?_)
    · ((try dsimp only); go_keep)
    clear hKx
    (try simp only [Act.put, List.setIfInBounds_toArray, List.set_cons_zero, List.set_cons_succ, List.getElem_toArray, List.getElem_cons_zero, List.getElem_cons_succ])
    refine wpAnyH_ready (rs := [13]) (by kernel_rfl) (by simp) ?_
    refine AllReadyH.cons rfl (fun Kx hKx => ?_) ?_
    · (try simp only [List.getElem_toArray, List.getElem_cons_zero, List.getElem_cons_succ])
      go_simp
      refine hKx.out _ _ ?_ (fun hHeld => ?_)
      · ((try dsimp only); go_keep)
      clear hKx
      (try simp only [Act.put, List.setIfInBounds_toArray, List.set_cons_zero, List.set_cons_succ, List.getElem_toArray, List.getElem_cons_zero, List.getElem_cons_succ])
      refine wpAnyH_ready (rs := [14]) (by kernel_rfl) (by simp) ?_
      refine AllReadyH.cons rfl (fun Kx hKx => ?_) ?_
      · ((refine step_fam_app (by rfl) _ _ _ (by rfl) 21 i0 _ 1 4 Yba.underlying22 hi0 hz0 hz1 hz2 rfl (by omega) (by omega) R3 (100 + 4 * t) p3 c3 L3 X3 HROW.out (by first | exact (h3.alloc _).drew | exact h3.drew.alloc _) (by rfl) hl ⟨w.heap.size, 0, none⟩ 1 [i32 q] (by rfl) (by rfl) (World.news_of_block (cs := #[i32 q]) (t := 21) (fr := (0, 0)) (heap_alloc_new w _)) (by simp [Value.oneCell']) ?_; intro gg cap w4 h4; obtain ⟨z1, z2, z3, z4⟩ := HA.out gg cap w4 h4))
        refine hKx.out _ _ ?_ (fun hHeld => ?_)
        · ((try dsimp only); go_keep)
        clear hKx
        (try simp only [Act.put, List.setIfInBounds_toArray, List.set_cons_zero, List.set_cons_succ, List.getElem_toArray, List.getElem_cons_zero, List.getElem_cons_succ])
        refine wpAnyH_take (i := 15) (v := ?_) rfl (by kernel_rfl) (by kernel_rfl) (by kernel_rfl) (fun _ _ _ h => h) (Or.inl ⟨by rfl, ?_⟩) (by assumption) ?_
        rotate_left
        · (intro w hSw; (try dsimp only at hSw); (try simp only [List.getElem_toArray, List.getElem_cons_zero, List.getElem_cons_succ]); go_simp; (try with_reducible rfl))
        (try simp only [Act.put, List.setIfInBounds_toArray, List.set_cons_zero, List.set_cons_succ, List.getElem_toArray, List.getElem_cons_zero, List.getElem_cons_succ])
        refine wpAnyH_ready (rs := [16]) (by kernel_rfl) (by simp) ?_
        refine AllReadyH.cons rfl (fun Kx hKx => ?_) ?_
        · (try simp only [List.getElem_toArray, List.getElem_cons_zero, List.getElem_cons_succ])
          go_simp
          refine hKx.out _ _ ?_ (fun hHeld => ?_)
          · ((try dsimp only); go_keep)
          clear hKx
          (try simp only [Act.put, List.setIfInBounds_toArray, List.set_cons_zero, List.set_cons_succ, List.getElem_toArray, List.getElem_cons_zero, List.getElem_cons_succ])
          refine wpAnyH_done (by kernel_rfl) ?_ _
          refine NoPanic.normal ?_
          exact HQ.out _ _ _ _ _ _ _ _ _ _ _ _ _ _ _ _ _ z4
        exact AllReadyH.nil
      exact AllReadyH.nil
    exact AllReadyH.nil
  refine AllReadyH.cons rfl (fun Kx hKx => ?_) ?_
  · (try simp only [List.getElem_toArray, List.getElem_cons_zero, List.getElem_cons_succ])
    go_simp
    refine hKx.out _ _ ?_ (fun hHeld => ?_)
    · ((try dsimp only); go_keep)
    clear hKx
    (try simp only [Act.put, List.setIfInBounds_toArray, List.set_cons_zero, List.set_cons_succ, List.getElem_toArray, List.getElem_cons_zero, List.getElem_cons_succ])
    refine wpAnyH_ready (rs := [11]) (by kernel_rfl) (by simp) ?_
    refine AllReadyH.cons rfl (fun Kx hKx => ?_) ?_
    · (try simp only [List.getElem_toArray, List.getElem_cons_zero, List.getElem_cons_succ])
      go_simp
      refine hKx.out _ _ ?_ (fun hHeld => ?_)
      · ((try dsimp only); go_keep)
      clear hKx
      (try simp only [Act.put, List.setIfInBounds_toArray, List.set_cons_zero, List.set_cons_succ, List.getElem_toArray, List.getElem_cons_zero, List.getElem_cons_succ])
      refine wpAnyH_ready (rs := [14]) (by kernel_rfl) (by simp) ?_
      refine AllReadyH.cons rfl (fun Kx hKx => ?_) ?_
      · ((refine step_fam_app (by rfl) _ _ _ (by rfl) 21 i0 _ 1 4 Yba.underlying22 hi0 hz0 hz1 hz2 rfl (by omega) (by omega) R3 (100 + 4 * t) p3 c3 L3 X3 HROW.out (by first | exact (h3.alloc _).drew | exact h3.drew.alloc _) (by rfl) hl ⟨w.heap.size, 0, none⟩ 1 [i32 q] (by rfl) (by rfl) (World.news_of_block (cs := #[i32 q]) (t := 21) (fr := (0, 0)) (heap_alloc_new w _)) (by simp [Value.oneCell']) ?_; intro gg cap w4 h4; obtain ⟨z1, z2, z3, z4⟩ := HA.out gg cap w4 h4))
        refine hKx.out _ _ ?_ (fun hHeld => ?_)
        · ((try dsimp only); go_keep)
        clear hKx
        (try simp only [Act.put, List.setIfInBounds_toArray, List.set_cons_zero, List.set_cons_succ, List.getElem_toArray, List.getElem_cons_zero, List.getElem_cons_succ])
        refine wpAnyH_take (i := 15) (v := ?_) rfl (by kernel_rfl) (by kernel_rfl) (by kernel_rfl) (fun _ _ _ h => h) (Or.inl ⟨by rfl, ?_⟩) (by assumption) ?_
        rotate_left
        · (intro w hSw; (try dsimp only at hSw); (try simp only [List.getElem_toArray, List.getElem_cons_zero, List.getElem_cons_succ]); go_simp; (try with_reducible rfl))
        (try simp only [Act.put, List.setIfInBounds_toArray, List.set_cons_zero, List.set_cons_succ, List.getElem_toArray, List.getElem_cons_zero, List.getElem_cons_succ])
        refine wpAnyH_ready (rs := [16]) (by kernel_rfl) (by simp) ?_
        refine AllReadyH.cons rfl (fun Kx hKx => ?_) ?_
        · (try simp only [List.getElem_toArray, List.getElem_cons_zero, List.getElem_cons_succ])
          go_simp
          refine hKx.out _ _ ?_ (fun hHeld => ?_)
          · ((try dsimp only); go_keep)
          clear hKx
          (try simp only [Act.put, List.setIfInBounds_toArray, List.set_cons_zero, List.set_cons_succ, List.getElem_toArray, List.getElem_cons_zero, List.getElem_cons_succ])
          refine wpAnyH_done (by kernel_rfl) ?_ _
          refine NoPanic.normal ?_
          exact HQ.out _ _ _ _ _ _ _ _ _ _ _ _ _ _ _ _ _ z4
        exact AllReadyH.nil
      exact AllReadyH.nil
    exact AllReadyH.nil
  exact AllReadyH.nil

set_option maxRecDepth 100000 in
set_option maxHeartbeats 4000000 in
theorem reg34 {w0 w : World} {R0 : Nat → Row} {n mb G t : Nat} {b x : Nat → Nat} {rv wv : Nat → List Nat} {done : List Nat} {s : NS} {Q : Exit → Act → World → Prop} {gx : List Value} {v13 v14 u0 u1 u2 u3 u4 u10 u12 u15 u16 u17 u18 u19 u20 u21 u23 u24 u25 u26 u27 u28 u29 u30 u31 u32 u33 u34 u35 u36 u37 u38 u39 u40 u41 u42 u43 u44 u45 u46 u47 u48 u49 u50 u51 u52 u53 u54 u55 u56 u57 u58 u59 u60 u61 u62 u63 u64 u65 u66 u67 u68 u69 u70 u71 u72 u73 u74 u75 u76 u77 u78 u79 u80 u81 u82 u83 u84 u85 u86 u87 u88 u89 u90 u91 u92 u93 u94 u95 u96 u97 u98 u99 u100 u101 u102 u103 u104 u105 u106 u107 u108 u109 u110 u111 u112 u113 u114 u115 u116 u117 u118 u119 u120 u121 u122 u123 u124 u125 u126 u127 u128 u129 u130 u131 u132 u133 u134 u135 u136 u137 u138 u139 u140 u141 u142 u143 u144 u145 u146 u147 u148 u149 u150 u151 u152 u153 u154 u155 u156 u157 u158 u159 u160 u161 u162 u163 u164 u165 u166 u167 u168 u169 u170 u171 u172 u173 u174 u175 u176 u177 u178 u179 u180 u181 u182 u183 u184 u185 u186 u187 u188 u189 u190 u191 u192 u193 u194 u195 u196 u197 u198 u199 u200 u201 u202 u203 u204 u205 u206 u207 u208 u209 u210 u211 u212 u213 u214 u215 u216 u217 u218 u219 u220 u221 u222 u223 u224 u225 u226 u227 u228 u229 u230 u231 u232 u233 u234 u235 u236 u237 u238 u239 u240 u241 u242 u243 u244 u245 u246 u247 u248 u249 u250 u251 u252 u253 u254 u255 u256 u257 u258 u259 u260 u261 u262 u263 u264 u265 u266 : Value} (hN : Nj w0 w R0 n b x mb s v13 v14) (hG : R0 0 = ⟨some G, 1, 49, 15, 1, gx⟩) (hx0 : gx[0]? = some (.slice (some ⟨b 1, 0, none⟩) n n)) (hx1 : gx[1]? = some (.slice (some ⟨b 2, 0, none⟩) n n)) (hx2 : gx[2]? = some (.slice (some ⟨b 47, 0, none⟩) n n)) (ht : t < n) (hn : n ≤ 64) {q : Nat} (hl : (s.wrs t).length ≤ 1000000)
    (HQ : Hid (∀ (y171 y172 y173 y174 y175 y176 y177 y178 y179 y180 y181 y182 y183 y184 y185 y186 : Value) (w' : World), Nj w0 w' R0 n b x mb { s with wrs := ud s.wrs t (s.wrs t ++ [q]) } v13 v14 → Q .normal ⟨#[u0, u1, u2, u3, u4, .pointer (some ⟨G, 0, none⟩), .pointer (some ⟨x 43, 0, none⟩), .pointer (some ⟨x 44, 0, none⟩), .pointer (some ⟨x 42, 0, none⟩), .func (Fn.func 25) #[] #[.pointer (some ⟨x 42, 0, none⟩), .pointer (some ⟨x 43, 0, none⟩), .pointer (some ⟨x 44, 0, none⟩)], u10, i32 t, u12, v13, v14, u15, u16, u17, u18, u19, u20, u21, i32 q, u23, u24, u25, u26, u27, u28, u29, u30, u31, u32, u33, u34, u35, u36, u37, u38, u39, u40, u41, u42, u43, u44, u45, u46, u47, u48, u49, u50, u51, u52, u53, u54, u55, u56, u57, u58, u59, u60, u61, u62, u63, u64, u65, u66, u67, u68, u69, u70, u71, u72, u73, u74, u75, u76, u77, u78, u79, u80, u81, u82, u83, u84, u85, u86, u87, u88, u89, u90, u91, u92, u93, u94, u95, u96, u97, u98, u99, u100, u101, u102, u103, u104, u105, u106, u107, u108, u109, u110, u111, u112, u113, u114, u115, u116, u117, u118, u119, u120, u121, u122, u123, u124, u125, u126, u127, u128, u129, u130, u131, u132, u133, u134, u135, u136, u137, u138, u139, u140, u141, u142, u143, u144, u145, u146, u147, u148, u149, u150, u151, u152, u153, u154, u155, u156, u157, u158, u159, u160, u161, u162, u163, u164, u165, u166, u167, u168, u169, u170, y171, y172, y173, y174, y175, y176, y177, y178, y179, y180, y181, y182, y183, y184, y185, y186, u187, u188, u189, u190, u191, u192, u193, u194, u195, u196, u197, u198, u199, u200, u201, u202, u203, u204, u205, u206, u207, u208, u209, u210, u211, u212, u213, u214, u215, u216, u217, u218, u219, u220, u221, u222, u223, u224, u225, u226, u227, u228, u229, u230, u231, u232, u233, u234, u235, u236, u237, u238, u239, u240, u241, u242, u243, u244, u245, u246, u247, u248, u249, u250, u251, u252, u253, u254, u255, u256, u257, u258, u259, u260, u261, u262, u263, u264, u265, u266], []⟩ w')) :
    Code.wp Yba.prog (nav [1, 1, 1, 1, 1, 0, 1, 3, 2, 1, 1, 0, 3, 1, 1, 1, 1, 1, 1, 1, 0, 1, 3, 2, 1, 1, 0, 3, 1, 1, 4] (Yba.f15.body.getD .skip)) Q ⟨#[u0, u1, u2, u3, u4, .pointer (some ⟨G, 0, none⟩), .pointer (some ⟨x 43, 0, none⟩), .pointer (some ⟨x 44, 0, none⟩), .pointer (some ⟨x 42, 0, none⟩), .func (Fn.func 25) #[] #[.pointer (some ⟨x 42, 0, none⟩), .pointer (some ⟨x 43, 0, none⟩), .pointer (some ⟨x 44, 0, none⟩)], u10, i32 t, u12, v13, v14, u15, u16, u17, u18, u19, u20, u21, i32 q, u23, u24, u25, u26, u27, u28, u29, u30, u31, u32, u33, u34, u35, u36, u37, u38, u39, u40, u41, u42, u43, u44, u45, u46, u47, u48, u49, u50, u51, u52, u53, u54, u55, u56, u57, u58, u59, u60, u61, u62, u63, u64, u65, u66, u67, u68, u69, u70, u71, u72, u73, u74, u75, u76, u77, u78, u79, u80, u81, u82, u83, u84, u85, u86, u87, u88, u89, u90, u91, u92, u93, u94, u95, u96, u97, u98, u99, u100, u101, u102, u103, u104, u105, u106, u107, u108, u109, u110, u111, u112, u113, u114, u115, u116, u117, u118, u119, u120, u121, u122, u123, u124, u125, u126, u127, u128, u129, u130, u131, u132, u133, u134, u135, u136, u137, u138, u139, u140, u141, u142, u143, u144, u145, u146, u147, u148, u149, u150, u151, u152, u153, u154, u155, u156, u157, u158, u159, u160, u161, u162, u163, u164, u165, u166, u167, u168, u169, u170, u171, u172, u173, u174, u175, u176, u177, u178, u179, u180, u181, u182, u183, u184, u185, u186, u187, u188, u189, u190, u191, u192, u193, u194, u195, u196, u197, u198, u199, u200, u201, u202, u203, u204, u205, u206, u207, u208, u209, u210, u211, u212, u213, u214, u215, u216, u217, u218, u219, u220, u221, u222, u223, u224, u225, u226, u227, u228, u229, u230, u231, u232, u233, u234, u235, u236, u237, u238, u239, u240, u241, u242, u243, u244, u245, u246, u247, u248, u249, u250, u251, u252, u253, u254, u255, u256, u257, u258, u259, u260, u261, u262, u263, u264, u265, u266], []⟩ w := by
  conv => arg 2; whnf
  obtain ⟨i0, hi0, hz0, hz1, hz2⟩ := info_parts info21
  have n0 : ¬ Nset 0 := by unfold Nset; omega
  have k0 : (R0 0).blk = some G := by rw [hG]
  have k1 : (R0 0).xs[0]? = some (.slice (some ⟨b 1, 0, none⟩) n n) := by rw [hG]; exact hx0
  have k2 : (R0 0).xs[1]? = some (.slice (some ⟨b 2, 0, none⟩) n n) := by rw [hG]; exact hx1
  have k3 : (R0 0).xs[2]? = some (.slice (some ⟨b 47, 0, none⟩) n n) := by rw [hG]; exact hx2
  have t1 : (t : Int) < (n : Int) := by omega
  obtain ⟨R3, o3, p3, c3, h3, hrow3, hblk3, hc3, hR3, _, hA⟩ := hN.readyW ht hn
  have cG : w.cell? ⟨G, 1, none⟩ = some (.slice (some ⟨b 2, 0, none⟩) n n) := hN.cell n0 k0 k2
  have e4 : b 2 ≠ G := by have := hN.blks k0; omega
  have HA : Hid (∀ (g cap : Nat) (w4 : World), Fam w0 w4 (put R3 (101 + 4 * t) ⟨some g, cap, 21, 1, (s.wrs t).length + 1, (s.wrs t).map i32 ++ [i32 q]⟩) (some (mb, o3)) → w4.cell? ⟨b 2, t, none⟩ = some (.slice (p3.map fun b => (⟨b, 0, none⟩ : Addr)) (s.wrs t).length c3) ∧ w4.frozen? ⟨b 2, t, none⟩ = false ∧ w4.cell? ⟨G, 1, none⟩ = some (.slice (some ⟨b 2, 0, none⟩) n n) ∧ Nj w0 (w4.setCell ⟨b 2, t, none⟩ (.slice (some ⟨g, 0, none⟩) ((s.wrs t).length + 1) cap)) R0 n b x mb { s with wrs := ud s.wrs t (s.wrs t ++ [q]) } v13 v14) := fun g cap w4 h4 => by
    obtain ⟨_, z1, z2, z3, z4⟩ := hA (some g) cap _ (s.wrs t ++ [q]) _ w4 (by simp) (by simp) h4
    exact ⟨z1, z2, z3 0 G 1 _ n0 k0 k2, z4⟩
  have HROW : Hid (R3 (101 + 4 * t) = _) := hrow3
  have cA3 : ∀ o, (w.alloc o).cell? ⟨b 2, t, none⟩ = some (.slice (p3.map fun b => (⟨b, 0, none⟩ : Addr)) (s.wrs t).length c3) := fun o => ((only_alloc w o).cell (p := ⟨b 2, t, none⟩) (World.block_lt_of_cell? w _ hc3) (fun hf => hf)).trans hc3
  clear hA hrow3 hR3 hblk3 hN hG hx0 hx1 hx2 k0 k1 k2 k3
  generalize (s.wrs t).length = L3 at *
  generalize (s.wrs t).map i32 = X3 at *
  refine wp_region_noPanic ?_
  refine wp_region_held_drew (S := (fun w' => w'.cell? ⟨G, 1, none⟩ = some (.slice (some ⟨b 2, 0, none⟩) n n))) (by kernel_rfl) ?_ (fun hHeld => ?_)
  · ((try dsimp only); go_keep)
  refine wpAnyH_take (i := 0) (v := ?_) rfl (by kernel_rfl) (by kernel_rfl) (by kernel_rfl) (fun _ _ _ h => h) (Or.inl ⟨by rfl, ?_⟩) (by assumption) ?_
  rotate_left
  · (intro w hSw; (try dsimp only at hSw); (try simp only [List.getElem_toArray, List.getElem_cons_zero, List.getElem_cons_succ]); go_simp; (try with_reducible rfl))
  (try simp only [Act.put, List.setIfInBounds_toArray, List.set_cons_zero, List.set_cons_succ, List.getElem_toArray, List.getElem_cons_zero, List.getElem_cons_succ])
  refine wpAnyH_take (i := 1) (v := ?_) rfl (by kernel_rfl) (by kernel_rfl) (by kernel_rfl) (fun _ _ _ h => h) (Or.inl ⟨by rfl, ?_⟩) (by assumption) ?_
  rotate_left
  · (intro w hSw; (try dsimp only at hSw); (try simp only [List.getElem_toArray, List.getElem_cons_zero, List.getElem_cons_succ]); go_simp; (try with_reducible rfl))
  (try simp only [Act.put, List.setIfInBounds_toArray, List.set_cons_zero, List.set_cons_succ, List.getElem_toArray, List.getElem_cons_zero, List.getElem_cons_succ])
  refine wpAnyH_take (i := 2) (v := ?_) rfl (by kernel_rfl) (by kernel_rfl) (by kernel_rfl) (fun _ _ _ h => h) (Or.inl ⟨by rfl, ?_⟩) (by assumption) ?_
  rotate_left
  · (intro w hSw; (try dsimp only at hSw); (try simp only [List.getElem_toArray, List.getElem_cons_zero, List.getElem_cons_succ]); go_simp; (try with_reducible rfl))
  (try simp only [Act.put, List.setIfInBounds_toArray, List.set_cons_zero, List.set_cons_succ, List.getElem_toArray, List.getElem_cons_zero, List.getElem_cons_succ])
  refine wpAnyH_take (i := 3) (v := ?_) rfl (by kernel_rfl) (by kernel_rfl) (by kernel_rfl) (fun _ _ _ h => h) (Or.inl ⟨by rfl, ?_⟩) (by assumption) ?_
  rotate_left
  · (intro w hSw; (try dsimp only at hSw); (try simp only [List.getElem_toArray, List.getElem_cons_zero, List.getElem_cons_succ]); go_simp; (try with_reducible rfl))
  (try simp only [Act.put, List.setIfInBounds_toArray, List.set_cons_zero, List.set_cons_succ, List.getElem_toArray, List.getElem_cons_zero, List.getElem_cons_succ])
  refine wpAnyH_take (i := 4) (v := ?_) rfl (by kernel_rfl) (by kernel_rfl) (by kernel_rfl) (fun _ _ _ h => h) (Or.inl ⟨by rfl, ?_⟩) (by assumption) ?_
  rotate_left
  · (intro w hSw; (try dsimp only at hSw); (try simp only [List.getElem_toArray, List.getElem_cons_zero, List.getElem_cons_succ]); go_simp; (try with_reducible rfl))
  (try simp only [Act.put, List.setIfInBounds_toArray, List.set_cons_zero, List.set_cons_succ, List.getElem_toArray, List.getElem_cons_zero, List.getElem_cons_succ])
  refine wpAnyH_take (i := 5) (v := ?_) rfl (by kernel_rfl) (by kernel_rfl) (by kernel_rfl) (fun _ _ _ h => h) (Or.inl ⟨by rfl, ?_⟩) (by assumption) ?_
  rotate_left
  · (intro w hSw; (try dsimp only at hSw); (try simp only [List.getElem_toArray, List.getElem_cons_zero, List.getElem_cons_succ]); go_simp; (try with_reducible rfl))
  (try simp only [Act.put, List.setIfInBounds_toArray, List.set_cons_zero, List.set_cons_succ, List.getElem_toArray, List.getElem_cons_zero, List.getElem_cons_succ])
  refine wpAnyH_take (i := 6) (v := ?_) rfl (by kernel_rfl) (by kernel_rfl) (by kernel_rfl) (fun _ _ _ h => h) (Or.inl ⟨by rfl, ?_⟩) (by assumption) ?_
  rotate_left
  · (intro w hSw; (try dsimp only at hSw); (try simp only [List.getElem_toArray, List.getElem_cons_zero, List.getElem_cons_succ]); go_simp; (try with_reducible rfl))
  (try simp only [Act.put, List.setIfInBounds_toArray, List.set_cons_zero, List.set_cons_succ, List.getElem_toArray, List.getElem_cons_zero, List.getElem_cons_succ])
  refine wpAnyH_take (i := 7) (v := ?_) rfl (by kernel_rfl) (by kernel_rfl) (by kernel_rfl) (fun _ _ _ h => h) (Or.inl ⟨by rfl, ?_⟩) (by assumption) ?_
  rotate_left
  · (intro w hSw; (try dsimp only at hSw); (try simp only [List.getElem_toArray, List.getElem_cons_zero, List.getElem_cons_succ]); go_simp; (try with_reducible rfl))
  (try simp only [Act.put, List.setIfInBounds_toArray, List.set_cons_zero, List.set_cons_succ, List.getElem_toArray, List.getElem_cons_zero, List.getElem_cons_succ])
  refine wpAnyH_take (i := 8) (v := ?_) rfl (by kernel_rfl) (by kernel_rfl) (by kernel_rfl) (fun _ _ _ h => h) (Or.inl ⟨by rfl, ?_⟩) (by assumption) ?_
  rotate_left
  · (intro w hSw; (try dsimp only at hSw); (try simp only [List.getElem_toArray, List.getElem_cons_zero, List.getElem_cons_succ]); go_simp; (try with_reducible rfl))
  (try simp only [Act.put, List.setIfInBounds_toArray, List.set_cons_zero, List.set_cons_succ, List.getElem_toArray, List.getElem_cons_zero, List.getElem_cons_succ])
  refine wpAnyH_take (i := 9) (v := ?_) rfl (by kernel_rfl) (by kernel_rfl) (by kernel_rfl) (fun _ _ _ h => h) (Or.inl ⟨by rfl, ?_⟩) (by assumption) ?_
  rotate_left
  · (intro w hSw; (try dsimp only at hSw); (try simp only [List.getElem_toArray, List.getElem_cons_zero, List.getElem_cons_succ]); go_simp; (try with_reducible rfl))
  (try simp only [Act.put, List.setIfInBounds_toArray, List.set_cons_zero, List.set_cons_succ, List.getElem_toArray, List.getElem_cons_zero, List.getElem_cons_succ])
  refine wpAnyH_take (i := 10) (v := ?_) rfl (by kernel_rfl) (by kernel_rfl) (by kernel_rfl) (fun _ _ _ h => h) (Or.inl ⟨by rfl, ?_⟩) (by assumption) ?_
  rotate_left
  · (intro w hSw; (try dsimp only at hSw); (try simp only [List.getElem_toArray, List.getElem_cons_zero, List.getElem_cons_succ]); go_simp; (try with_reducible rfl))
  (try simp only [Act.put, List.setIfInBounds_toArray, List.set_cons_zero, List.set_cons_succ, List.getElem_toArray, List.getElem_cons_zero, List.getElem_cons_succ])
  refine wpAnyH_take (i := 12) (v := ?_) rfl (by kernel_rfl) (by kernel_rfl) (by kernel_rfl) (fun _ _ _ h => h) (Or.inl ⟨by rfl, ?_⟩) (by assumption) ?_
  rotate_left
  · (intro w hSw; (try dsimp only at hSw); (try simp only [List.getElem_toArray, List.getElem_cons_zero, List.getElem_cons_succ]); go_simp; (try with_reducible rfl))
  (try simp only [Act.put, List.setIfInBounds_toArray, List.set_cons_zero, List.set_cons_succ, List.getElem_toArray, List.getElem_cons_zero, List.getElem_cons_succ])
  refine wpAnyH_ready (rs := [11, 13]) (by kernel_rfl) (by simp) ?_
  refine AllReadyH.cons rfl (fun Kx hKx => ?_) ?_
  · (try simp only [List.getElem_toArray, List.getElem_cons_zero, List.getElem_cons_succ])
    go_simp
    refine hKx.out _ _ ?_ (fun hHeld => ?_)
    · ((try dsimp only); go_keep)
    clear hKx
    (try simp only [Act.put, List.setIfInBounds_toArray, List.set_cons_zero, List.set_cons_succ, List.getElem_toArray, List.getElem_cons_zero, List.getElem_cons_succ])
    refine wpAnyH_ready (rs := [13]) (by kernel_rfl) (by simp) ?_
    refine AllReadyH.cons rfl (fun Kx hKx => ?_) ?_
    · (try simp only [List.getElem_toArray, List.getElem_cons_zero, List.getElem_cons_succ])
      go_simp
      refine hKx.out _ _ ?_ (fun hHeld => ?_)
      · ((try dsimp only); go_keep)
      clear hKx
      (try simp only [Act.put, List.setIfInBounds_toArray, List.set_cons_zero, List.set_cons_succ, List.getElem_toArray, List.getElem_cons_zero, List.getElem_cons_succ])
      refine wpAnyH_ready (rs := [14]) (by kernel_rfl) (by simp) ?_
      refine AllReadyH.cons rfl (fun Kx hKx => ?_) ?_
      · ((refine step_fam_app (by rfl) _ _ _ (by rfl) 21 i0 _ 1 4 Yba.underlying22 hi0 hz0 hz1 hz2 rfl (by omega) (by omega) R3 (101 + 4 * t) p3 c3 L3 X3 HROW.out (by first | exact (h3.alloc _).drew | exact h3.drew.alloc _) (by rfl) hl ⟨w.heap.size, 0, none⟩ 1 [i32 q] (by rfl) (by rfl) (World.news_of_block (cs := #[i32 q]) (t := 21) (fr := (0, 0)) (heap_alloc_new w _)) (by simp [Value.oneCell']) ?_; intro gg cap w4 h4; obtain ⟨z1, z2, z3, z4⟩ := HA.out gg cap w4 h4))
        refine hKx.out _ _ ?_ (fun hHeld => ?_)
        · ((try dsimp only); go_keep)
        clear hKx
        (try simp only [Act.put, List.setIfInBounds_toArray, List.set_cons_zero, List.set_cons_succ, List.getElem_toArray, List.getElem_cons_zero, List.getElem_cons_succ])
        refine wpAnyH_take (i := 15) (v := ?_) rfl (by kernel_rfl) (by kernel_rfl) (by kernel_rfl) (fun _ _ _ h => h) (Or.inl ⟨by rfl, ?_⟩) (by assumption) ?_
        rotate_left
        · (intro w hSw; (try dsimp only at hSw); (try simp only [List.getElem_toArray, List.getElem_cons_zero, List.getElem_cons_succ]); go_simp; (try with_reducible rfl))
        (try simp only [Act.put, List.setIfInBounds_toArray, List.set_cons_zero, List.set_cons_succ, List.getElem_toArray, List.getElem_cons_zero, List.getElem_cons_succ])
        refine wpAnyH_ready (rs := [16]) (by kernel_rfl) (by simp) ?_
        refine AllReadyH.cons rfl (fun Kx hKx => ?_) ?_
        · (try simp only [List.getElem_toArray, List.getElem_cons_zero, List.getElem_cons_succ])
          go_simp
          refine hKx.out _ _ ?_ (fun hHeld => ?_)
          · ((try dsimp only); go_keep)
          clear hKx
          (try simp only [Act.put, List.setIfInBounds_toArray, List.set_cons_zero, List.set_cons_succ, List.getElem_toArray, List.getElem_cons_zero, List.getElem_cons_succ])
          refine wpAnyH_done (by kernel_rfl) ?_ _
          refine NoPanic.normal ?_
          exact HQ.out _ _ _ _ _ _ _ _ _ _ _ _ _ _ _ _ _ z4
        exact AllReadyH.nil
      exact AllReadyH.nil
    exact AllReadyH.nil
  refine AllReadyH.cons rfl (fun Kx hKx => ?_) ?_
  · (try simp only [List.getElem_toArray, List.getElem_cons_zero, List.getElem_cons_succ])
    go_simp
    refine hKx.out _ _ ?_ (fun hHeld => ?_)
    · ((try dsimp only); go_keep)
    clear hKx
    (try simp only [Act.put, List.setIfInBounds_toArray, List.set_cons_zero, List.set_cons_succ, List.getElem_toArray, List.getElem_cons_zero, List.getElem_cons_succ])
    refine wpAnyH_ready (rs := [11]) (by kernel_rfl) (by simp) ?_
    refine AllReadyH.cons rfl (fun Kx hKx => ?_) ?_
    · (try simp only [List.getElem_toArray, List.getElem_cons_zero, List.getElem_cons_succ])
      go_simp
      refine hKx.out _ _ ?_ (fun hHeld => ?_)
      · ((try dsimp only); go_keep)
      clear hKx
      (try simp only [Act.put, List.setIfInBounds_toArray, List.set_cons_zero, List.set_cons_succ, List.getElem_toArray, List.getElem_cons_zero, List.getElem_cons_succ])
      refine wpAnyH_ready (rs := [14]) (by kernel_rfl) (by simp) ?_
      refine AllReadyH.cons rfl (fun Kx hKx => ?_) ?_
      · ((refine step_fam_app (by rfl) _ _ _ (by rfl) 21 i0 _ 1 4 Yba.underlying22 hi0 hz0 hz1 hz2 rfl (by omega) (by omega) R3 (101 + 4 * t) p3 c3 L3 X3 HROW.out (by first | exact (h3.alloc _).drew | exact h3.drew.alloc _) (by rfl) hl ⟨w.heap.size, 0, none⟩ 1 [i32 q] (by rfl) (by rfl) (World.news_of_block (cs := #[i32 q]) (t := 21) (fr := (0, 0)) (heap_alloc_new w _)) (by simp [Value.oneCell']) ?_; intro gg cap w4 h4; obtain ⟨z1, z2, z3, z4⟩ := HA.out gg cap w4 h4))
        refine hKx.out _ _ ?_ (fun hHeld => ?_)
        · ((try dsimp only); go_keep)
        clear hKx
        (try simp only [Act.put, List.setIfInBounds_toArray, List.set_cons_zero, List.set_cons_succ, List.getElem_toArray, List.getElem_cons_zero, List.getElem_cons_succ])
        refine wpAnyH_take (i := 15) (v := ?_) rfl (by kernel_rfl) (by kernel_rfl) (by kernel_rfl) (fun _ _ _ h => h) (Or.inl ⟨by rfl, ?_⟩) (by assumption) ?_
        rotate_left
        · (intro w hSw; (try dsimp only at hSw); (try simp only [List.getElem_toArray, List.getElem_cons_zero, List.getElem_cons_succ]); go_simp; (try with_reducible rfl))
        (try simp only [Act.put, List.setIfInBounds_toArray, List.set_cons_zero, List.set_cons_succ, List.getElem_toArray, List.getElem_cons_zero, List.getElem_cons_succ])
        refine wpAnyH_ready (rs := [16]) (by kernel_rfl) (by simp) ?_
        refine AllReadyH.cons rfl (fun Kx hKx => ?_) ?_
        · (try simp only [List.getElem_toArray, List.getElem_cons_zero, List.getElem_cons_succ])
          go_simp
          refine hKx.out _ _ ?_ (fun hHeld => ?_)
          · ((try dsimp only); go_keep)
          clear hKx
          (try simp only [Act.put, List.setIfInBounds_toArray, List.set_cons_zero, List.set_cons_succ, List.getElem_toArray, List.getElem_cons_zero, List.getElem_cons_succ])
          refine wpAnyH_done (by kernel_rfl) ?_ _
          refine NoPanic.normal ?_
          exact HQ.out _ _ _ _ _ _ _ _ _ _ _ _ _ _ _ _ _ z4
        exact AllReadyH.nil
      exact AllReadyH.nil
    exact AllReadyH.nil
  exact AllReadyH.nil

set_option maxRecDepth 100000 in
set_option maxHeartbeats 4000000 in
theorem reg28 {w0 w : World} {R0 : Nat → Row} {n mb G t : Nat} {b x : Nat → Nat} {rv wv : Nat → List Nat} {done : List Nat} {s : NS} {Q : Exit → Act → World → Prop} {gx : List Value} {v13 v14 u0 u1 u2 u3 u4 u10 u12 u15 u16 u17 u18 u19 u20 u21 u22 u23 u24 u25 u26 u27 u28 u29 u30 u31 u32 u33 u34 u35 u36 u37 u38 u39 u40 u41 u42 u43 u44 u45 u46 u47 u48 u49 u50 u51 u52 u53 u54 u55 u56 u57 u58 u59 u60 u61 u62 u63 u64 u65 u66 u67 u68 u69 u70 u71 u72 u73 u74 u75 u76 u77 u78 u79 u80 u81 u82 u83 u84 u85 u86 u87 u88 u89 u90 u91 u92 u93 u94 u95 u96 u97 u98 u99 u100 u101 u102 u103 u104 u105 u106 u107 u108 u109 u110 u111 u112 u113 u114 u115 u116 u117 u118 u119 u120 u121 u122 u123 u124 u125 u126 u127 u128 u129 u130 u131 u132 u133 u134 u135 u136 u137 u138 u139 u140 u141 u142 u143 u144 u145 u146 u147 u148 u149 u150 u151 u152 u153 u154 u155 u156 u157 u158 u159 u160 u161 u162 u163 u164 u165 u166 u167 u168 u169 u170 u171 u172 u173 u174 u175 u176 u177 u178 u179 u180 u181 u182 u183 u184 u185 u186 u187 u188 u189 u190 u191 u192 u193 u194 u195 u196 u197 u198 u199 u200 u201 u202 u203 u204 u205 u206 u207 u208 u209 u210 u211 u212 u213 u214 u215 u216 u217 u218 u219 u220 u221 u222 u223 u224 u225 u226 u227 u228 u229 u230 u231 u232 u233 u234 u235 u236 u237 u238 u239 u240 u241 u242 u243 u244 u245 u246 u247 u248 u249 u250 u251 u252 u253 u254 u255 u256 u257 u258 u259 u260 u261 u262 u263 u264 u265 u266 : Value} (hN : Nj w0 w R0 n b x mb s v13 v14) (hG : R0 0 = ⟨some G, 1, 49, 15, 1, gx⟩) (hx0 : gx[0]? = some (.slice (some ⟨b 1, 0, none⟩) n n)) (hx1 : gx[1]? = some (.slice (some ⟨b 2, 0, none⟩) n n)) (hx2 : gx[2]? = some (.slice (some ⟨b 47, 0, none⟩) n n)) (ht : t < n) (hn : n ≤ 64) (hl : (s.rds t).length ≤ 1000000)
    (HQ : Hid (∀ (y129 y130 y131 y132 y133 y134 y135 y136 y137 y138 y139 y140 y141 y142 y143 : Value) (w' : World), Nj w0 w' R0 n b x mb s v13 v14 → Q .normal ⟨#[u0, u1, u2, u3, u4, .pointer (some ⟨G, 0, none⟩), .pointer (some ⟨x 43, 0, none⟩), .pointer (some ⟨x 44, 0, none⟩), .pointer (some ⟨x 42, 0, none⟩), .func (Fn.func 25) #[] #[.pointer (some ⟨x 42, 0, none⟩), .pointer (some ⟨x 43, 0, none⟩), .pointer (some ⟨x 44, 0, none⟩)], u10, i32 t, u12, v13, v14, u15, u16, u17, u18, u19, u20, u21, u22, u23, u24, u25, u26, u27, u28, u29, u30, u31, u32, u33, u34, u35, u36, u37, u38, u39, u40, u41, u42, u43, u44, u45, u46, u47, u48, u49, u50, u51, u52, u53, u54, u55, u56, u57, u58, u59, u60, u61, u62, u63, u64, u65, u66, u67, u68, u69, u70, u71, u72, u73, u74, u75, u76, u77, u78, u79, u80, u81, u82, u83, u84, u85, u86, u87, u88, u89, u90, u91, u92, u93, u94, u95, u96, u97, u98, u99, u100, u101, u102, u103, u104, u105, u106, u107, u108, u109, u110, u111, u112, u113, u114, u115, u116, u117, u118, u119, u120, u121, u122, u123, u124, u125, u126, u127, u128, y129, y130, y131, y132, y133, y134, y135, y136, y137, y138, y139, y140, y141, y142, y143, u144, u145, u146, u147, u148, u149, u150, u151, u152, u153, u154, u155, u156, u157, u158, u159, u160, u161, u162, u163, u164, u165, u166, u167, u168, u169, u170, u171, u172, u173, u174, u175, u176, u177, u178, u179, u180, u181, u182, u183, u184, u185, u186, u187, u188, u189, u190, u191, u192, u193, u194, u195, u196, u197, u198, u199, u200, u201, u202, u203, u204, u205, u206, u207, u208, u209, u210, u211, u212, u213, u214, u215, u216, u217, u218, u219, u220, u221, u222, u223, u224, u225, u226, u227, u228, u229, u230, u231, u232, u233, u234, u235, u236, u237, u238, u239, u240, u241, u242, u243, u244, u245, u246, u247, u248, u249, u250, u251, u252, u253, u254, u255, u256, u257, u258, u259, u260, u261, u262, u263, u264, u265, u266], []⟩ w')) :
    Code.wp Yba.prog (nav [1, 1, 1, 1, 1, 0, 1, 3, 2, 1, 1, 0, 3, 1, 1, 1, 1, 1, 0] (Yba.f15.body.getD .skip)) Q ⟨#[u0, u1, u2, u3, u4, .pointer (some ⟨G, 0, none⟩), .pointer (some ⟨x 43, 0, none⟩), .pointer (some ⟨x 44, 0, none⟩), .pointer (some ⟨x 42, 0, none⟩), .func (Fn.func 25) #[] #[.pointer (some ⟨x 42, 0, none⟩), .pointer (some ⟨x 43, 0, none⟩), .pointer (some ⟨x 44, 0, none⟩)], u10, i32 t, u12, v13, v14, u15, u16, u17, u18, u19, u20, u21, u22, u23, u24, u25, u26, u27, u28, u29, u30, u31, u32, u33, u34, u35, u36, u37, u38, u39, u40, u41, u42, u43, u44, u45, u46, u47, u48, u49, u50, u51, u52, u53, u54, u55, u56, u57, u58, u59, u60, u61, u62, u63, u64, u65, u66, u67, u68, u69, u70, u71, u72, u73, u74, u75, u76, u77, u78, u79, u80, u81, u82, u83, u84, u85, u86, u87, u88, u89, u90, u91, u92, u93, u94, u95, u96, u97, u98, u99, u100, u101, u102, u103, u104, u105, u106, u107, u108, u109, u110, u111, u112, u113, u114, u115, u116, u117, u118, u119, u120, u121, u122, u123, u124, u125, u126, u127, u128, u129, u130, u131, u132, u133, u134, u135, u136, u137, u138, u139, u140, u141, u142, u143, u144, u145, u146, u147, u148, u149, u150, u151, u152, u153, u154, u155, u156, u157, u158, u159, u160, u161, u162, u163, u164, u165, u166, u167, u168, u169, u170, u171, u172, u173, u174, u175, u176, u177, u178, u179, u180, u181, u182, u183, u184, u185, u186, u187, u188, u189, u190, u191, u192, u193, u194, u195, u196, u197, u198, u199, u200, u201, u202, u203, u204, u205, u206, u207, u208, u209, u210, u211, u212, u213, u214, u215, u216, u217, u218, u219, u220, u221, u222, u223, u224, u225, u226, u227, u228, u229, u230, u231, u232, u233, u234, u235, u236, u237, u238, u239, u240, u241, u242, u243, u244, u245, u246, u247, u248, u249, u250, u251, u252, u253, u254, u255, u256, u257, u258, u259, u260, u261, u262, u263, u264, u265, u266], []⟩ w := by
  conv => arg 2; whnf
  obtain ⟨i0, hi0, hz0, hz1, hz2⟩ := info_parts info21
  have n0 : ¬ Nset 0 := by unfold Nset; omega
  have k0 : (R0 0).blk = some G := by rw [hG]
  have k1 : (R0 0).xs[0]? = some (.slice (some ⟨b 1, 0, none⟩) n n) := by rw [hG]; exact hx0
  have k2 : (R0 0).xs[1]? = some (.slice (some ⟨b 2, 0, none⟩) n n) := by rw [hG]; exact hx1
  have k3 : (R0 0).xs[2]? = some (.slice (some ⟨b 47, 0, none⟩) n n) := by rw [hG]; exact hx2
  have t1 : (t : Int) < (n : Int) := by omega
  obtain ⟨R3, o3, p3, c3, h3, hrow3, hblk3, hc3, hR3, _, hA⟩ := hN.readyR ht hn
  obtain ⟨⟨u0, cu⟩, fu, hB⟩ := hN.setB ht
  have cG0 : w.cell? ⟨G, 0, none⟩ = some (.slice (some ⟨b 1, 0, none⟩) n n) := hN.cell n0 k0 k1
  have cG2 : w.cell? ⟨G, 2, none⟩ = some (.slice (some ⟨b 47, 0, none⟩) n n) := hN.cell n0 k0 k3
  have e4 : b 47 ≠ G := by have := hN.blks k0; omega
  have e5 : b 47 ≠ b 1 := by have := hN.blks k0; omega
  have HB : Hid (∀ (w2 : World) (v : Value), Only (fun _ => False) w w2 → Nj w0 (w2.setCell ⟨b 47, t, none⟩ v) R0 n b x mb s v13 v14) := fun w2 v ho => ((hN.only0 ho).setB ht).2.2 v
  have hwl : IntKind.i32.wrap ((s.rds t).length : Int) = ((s.rds t).length : Int) := by rw [IntKind.wrap_i32]; omega
  clear hA hrow3 hR3 hblk3 hN hG hx0 hx1 hx2 k0 k1 k2 k3 hB h3
  generalize (s.rds t).length = L3 at *
  refine wp_region_noPanic ?_
  refine wp_region_held_drew (S := (fun w' => w'.cell? ⟨G, 0, none⟩ = some (.slice (some ⟨b 1, 0, none⟩) n n) ∧ w'.cell? ⟨G, 2, none⟩ = some (.slice (some ⟨b 47, 0, none⟩) n n) ∧ w'.cell? ⟨b 1, t, none⟩ = some (.slice (p3.map fun b => (⟨b, 0, none⟩ : Addr)) L3 c3))) (by kernel_rfl) ?_ (fun hHeld => ?_)
  · ((try dsimp only); go_keep)
  refine wpAnyH_take (i := 0) (v := ?_) rfl (by kernel_rfl) (by kernel_rfl) (by kernel_rfl) (fun _ _ _ h => h) (Or.inl ⟨by rfl, ?_⟩) (by assumption) ?_
  rotate_left
  · (intro w hSw; (try dsimp only at hSw); (try simp only [List.getElem_toArray, List.getElem_cons_zero, List.getElem_cons_succ]); go_simp; (try with_reducible rfl))
  (try simp only [Act.put, List.setIfInBounds_toArray, List.set_cons_zero, List.set_cons_succ, List.getElem_toArray, List.getElem_cons_zero, List.getElem_cons_succ])
  refine wpAnyH_take (i := 1) (v := ?_) rfl (by kernel_rfl) (by kernel_rfl) (by kernel_rfl) (fun _ _ _ h => h) (Or.inl ⟨by rfl, ?_⟩) (by assumption) ?_
  rotate_left
  · (intro w hSw; (try dsimp only at hSw); (try simp only [List.getElem_toArray, List.getElem_cons_zero, List.getElem_cons_succ]); go_simp; (try with_reducible rfl))
  (try simp only [Act.put, List.setIfInBounds_toArray, List.set_cons_zero, List.set_cons_succ, List.getElem_toArray, List.getElem_cons_zero, List.getElem_cons_succ])
  refine wpAnyH_take (i := 2) (v := ?_) rfl (by kernel_rfl) (by kernel_rfl) (by kernel_rfl) (fun _ _ _ h => h) (Or.inl ⟨by rfl, ?_⟩) (by assumption) ?_
  rotate_left
  · (intro w hSw; (try dsimp only at hSw); (try simp only [List.getElem_toArray, List.getElem_cons_zero, List.getElem_cons_succ]); go_simp; (try with_reducible rfl))
  (try simp only [Act.put, List.setIfInBounds_toArray, List.set_cons_zero, List.set_cons_succ, List.getElem_toArray, List.getElem_cons_zero, List.getElem_cons_succ])
  refine wpAnyH_take (i := 3) (v := ?_) rfl (by kernel_rfl) (by kernel_rfl) (by kernel_rfl) (fun _ _ _ h => h) (Or.inl ⟨by rfl, ?_⟩) (by assumption) ?_
  rotate_left
  · (intro w hSw; (try dsimp only at hSw); (try simp only [List.getElem_toArray, List.getElem_cons_zero, List.getElem_cons_succ]); go_simp; (try with_reducible rfl))
  (try simp only [Act.put, List.setIfInBounds_toArray, List.set_cons_zero, List.set_cons_succ, List.getElem_toArray, List.getElem_cons_zero, List.getElem_cons_succ])
  refine wpAnyH_take (i := 4) (v := ?_) rfl (by kernel_rfl) (by kernel_rfl) (by kernel_rfl) (fun _ _ _ h => h) (Or.inl ⟨by rfl, ?_⟩) (by assumption) ?_
  rotate_left
  · (intro w hSw; (try dsimp only at hSw); (try simp only [List.getElem_toArray, List.getElem_cons_zero, List.getElem_cons_succ]); go_simp; (try with_reducible rfl))
  (try simp only [Act.put, List.setIfInBounds_toArray, List.set_cons_zero, List.set_cons_succ, List.getElem_toArray, List.getElem_cons_zero, List.getElem_cons_succ])
  refine wpAnyH_take (i := 5) (v := ?_) rfl (by kernel_rfl) (by kernel_rfl) (by kernel_rfl) (fun _ _ _ h => h) (Or.inl ⟨by rfl, ?_⟩) (by assumption) ?_
  rotate_left
  · (intro w hSw; (try dsimp only at hSw); (try simp only [List.getElem_toArray, List.getElem_cons_zero, List.getElem_cons_succ]); go_simp; (try with_reducible rfl))
  (try simp only [Act.put, List.setIfInBounds_toArray, List.set_cons_zero, List.set_cons_succ, List.getElem_toArray, List.getElem_cons_zero, List.getElem_cons_succ])
  refine wpAnyH_take (i := 6) (v := ?_) rfl (by kernel_rfl) (by kernel_rfl) (by kernel_rfl) (fun _ _ _ h => h) (Or.inl ⟨by rfl, ?_⟩) (by assumption) ?_
  rotate_left
  · (intro w hSw; (try dsimp only at hSw); (try simp only [List.getElem_toArray, List.getElem_cons_zero, List.getElem_cons_succ]); go_simp; (try with_reducible rfl))
  (try simp only [Act.put, List.setIfInBounds_toArray, List.set_cons_zero, List.set_cons_succ, List.getElem_toArray, List.getElem_cons_zero, List.getElem_cons_succ])
  refine wpAnyH_take (i := 7) (v := ?_) rfl (by kernel_rfl) (by kernel_rfl) (by kernel_rfl) (fun _ _ _ h => h) (Or.inl ⟨by rfl, ?_⟩) (by assumption) ?_
  rotate_left
  · (intro w hSw; (try dsimp only at hSw); (try simp only [List.getElem_toArray, List.getElem_cons_zero, List.getElem_cons_succ]); go_simp; (try with_reducible rfl))
  (try simp only [Act.put, List.setIfInBounds_toArray, List.set_cons_zero, List.set_cons_succ, List.getElem_toArray, List.getElem_cons_zero, List.getElem_cons_succ])
  refine wpAnyH_take (i := 8) (v := ?_) rfl (by kernel_rfl) (by kernel_rfl) (by kernel_rfl) (fun _ _ _ h => h) (Or.inl ⟨by rfl, ?_⟩) (by assumption) ?_
  rotate_left
  · (intro w hSw; (try dsimp only at hSw); (try simp only [List.getElem_toArray, List.getElem_cons_zero, List.getElem_cons_succ]); go_simp; (try with_reducible rfl))
  (try simp only [Act.put, List.setIfInBounds_toArray, List.set_cons_zero, List.set_cons_succ, List.getElem_toArray, List.getElem_cons_zero, List.getElem_cons_succ])
  refine wpAnyH_take (i := 9) (v := ?_) rfl (by kernel_rfl) (by kernel_rfl) (by kernel_rfl) (fun _ _ _ h => h) (Or.inl ⟨by rfl, ?_⟩) (by assumption) ?_
  rotate_left
  · (intro w hSw; (try dsimp only at hSw); (try simp only [List.getElem_toArray, List.getElem_cons_zero, List.getElem_cons_succ]); go_simp; (try with_reducible rfl))
  (try simp only [Act.put, List.setIfInBounds_toArray, List.set_cons_zero, List.set_cons_succ, List.getElem_toArray, List.getElem_cons_zero, List.getElem_cons_succ])
  refine wpAnyH_take (i := 10) (v := ?_) rfl (by kernel_rfl) (by kernel_rfl) (by kernel_rfl) (fun _ _ _ h => h) (Or.inl ⟨by rfl, ?_⟩) (by assumption) ?_
  rotate_left
  · (intro w hSw; (try dsimp only at hSw); (try simp only [List.getElem_toArray, List.getElem_cons_zero, List.getElem_cons_succ]); go_simp; (try with_reducible rfl))
  (try simp only [Act.put, List.setIfInBounds_toArray, List.set_cons_zero, List.set_cons_succ, List.getElem_toArray, List.getElem_cons_zero, List.getElem_cons_succ])
  refine wpAnyH_take (i := 11) (v := ?_) rfl (by kernel_rfl) (by kernel_rfl) (by kernel_rfl) (fun _ _ _ h => h) (Or.inl ⟨by rfl, ?_⟩) (by assumption) ?_
  rotate_left
  · (intro w hSw; (try dsimp only at hSw); (try simp only [List.getElem_toArray, List.getElem_cons_zero, List.getElem_cons_succ]); go_simp; (try with_reducible rfl))
  (try simp only [Act.put, List.setIfInBounds_toArray, List.set_cons_zero, List.set_cons_succ, List.getElem_toArray, List.getElem_cons_zero, List.getElem_cons_succ])
  refine wpAnyH_take (i := 12) (v := ?_) rfl (by kernel_rfl) (by kernel_rfl) (by kernel_rfl) (fun _ _ _ h => h) (Or.inl ⟨by rfl, ?_⟩) (by assumption) ?_
  rotate_left
  · (intro w hSw; (try dsimp only at hSw); (try simp only [List.getElem_toArray, List.getElem_cons_zero, List.getElem_cons_succ]); go_simp; (try with_reducible rfl))
  (try simp only [Act.put, List.setIfInBounds_toArray, List.set_cons_zero, List.set_cons_succ, List.getElem_toArray, List.getElem_cons_zero, List.getElem_cons_succ])
  refine wpAnyH_take (i := 13) (v := ?_) rfl (by kernel_rfl) (by kernel_rfl) (by kernel_rfl) (fun _ _ _ h => h) (Or.inl ⟨by rfl, ?_⟩) (by assumption) ?_
  rotate_left
  · (intro w hSw; (try dsimp only at hSw); (try simp only [List.getElem_toArray, List.getElem_cons_zero, List.getElem_cons_succ]); go_simp; (try with_reducible rfl))
  (try simp only [Act.put, List.setIfInBounds_toArray, List.set_cons_zero, List.set_cons_succ, List.getElem_toArray, List.getElem_cons_zero, List.getElem_cons_succ])
  refine wpAnyH_take (i := 14) (v := ?_) rfl (by kernel_rfl) (by kernel_rfl) (by kernel_rfl) (fun _ _ _ h => h) (Or.inl ⟨by rfl, ?_⟩) (by assumption) ?_
  rotate_left
  · (intro w hSw; (try dsimp only at hSw); (try simp only [List.getElem_toArray, List.getElem_cons_zero, List.getElem_cons_succ]); go_simp; (try with_reducible rfl))
  (try simp only [Act.put, List.setIfInBounds_toArray, List.set_cons_zero, List.set_cons_succ, List.getElem_toArray, List.getElem_cons_zero, List.getElem_cons_succ])
  refine wpAnyH_ready (rs := [15]) (by kernel_rfl) (by simp) ?_
  refine AllReadyH.cons rfl (fun Kx hKx => ?_) ?_
  · (try simp only [List.getElem_toArray, List.getElem_cons_zero, List.getElem_cons_succ])
    go_simp
    refine hKx.out _ _ ?_ (fun hHeld => ?_)
    · ((try dsimp only); go_keep)
    clear hKx
    (try simp only [Act.put, List.setIfInBounds_toArray, List.set_cons_zero, List.set_cons_succ, List.getElem_toArray, List.getElem_cons_zero, List.getElem_cons_succ])
    refine wpAnyH_done (by kernel_rfl) ?_ _
    refine NoPanic.normal ?_
    exact HQ.out _ _ _ _ _ _ _ _ _ _ _ _ _ _ _ _ (by first | exact (HB.out _ _ (Only.refl _ _)).drew | exact HB.out _ _ (Only.refl _ _) | exact HB.out _ _ (only_drew _) | exact (HB.out _ _ (only_drew _)).drew)
  exact AllReadyH.nil

set_option maxRecDepth 100000 in
set_option maxHeartbeats 4000000 in
theorem reg29 {w0 w : World} {R0 : Nat → Row} {n mb G t : Nat} {b x : Nat → Nat} {rv wv : Nat → List Nat} {done : List Nat} {s : NS} {Q : Exit → Act → World → Prop} {gx : List Value} {v13 v14 u0 u1 u2 u3 u4 u10 u12 u15 u16 u17 u18 u19 u20 u21 u22 u23 u24 u25 u26 u27 u28 u29 u30 u31 u32 u33 u34 u35 u36 u37 u38 u39 u40 u41 u42 u43 u44 u45 u46 u47 u48 u49 u50 u51 u52 u53 u54 u55 u56 u57 u58 u59 u60 u61 u62 u63 u64 u65 u66 u67 u68 u69 u70 u71 u72 u73 u74 u75 u76 u77 u78 u79 u80 u81 u82 u83 u84 u85 u86 u87 u88 u89 u90 u91 u92 u93 u94 u95 u96 u97 u98 u99 u100 u101 u102 u103 u104 u105 u106 u107 u108 u109 u110 u111 u112 u113 u114 u115 u116 u117 u118 u119 u120 u121 u122 u123 u124 u125 u126 u127 u128 u129 u130 u131 u132 u133 u134 u135 u136 u137 u138 u139 u140 u141 u142 u143 u144 u145 u146 u147 u148 u149 u150 u151 u152 u153 u154 u155 u156 u157 u158 u159 u160 u161 u162 u163 u164 u165 u166 u167 u168 u169 u170 u171 u172 u173 u174 u175 u176 u177 u178 u179 u180 u181 u182 u183 u184 u185 u186 u187 u188 u189 u190 u191 u192 u193 u194 u195 u196 u197 u198 u199 u200 u201 u202 u203 u204 u205 u206 u207 u208 u209 u210 u211 u212 u213 u214 u215 u216 u217 u218 u219 u220 u221 u222 u223 u224 u225 u226 u227 u228 u229 u230 u231 u232 u233 u234 u235 u236 u237 u238 u239 u240 u241 u242 u243 u244 u245 u246 u247 u248 u249 u250 u251 u252 u253 u254 u255 u256 u257 u258 u259 u260 u261 u262 u263 u264 u265 u266 : Value} (hN : Nj w0 w R0 n b x mb s v13 v14) (hG : R0 0 = ⟨some G, 1, 49, 15, 1, gx⟩) (hx0 : gx[0]? = some (.slice (some ⟨b 1, 0, none⟩) n n)) (hx1 : gx[1]? = some (.slice (some ⟨b 2, 0, none⟩) n n)) (hx2 : gx[2]? = some (.slice (some ⟨b 47, 0, none⟩) n n)) (ht : t < n) (hn : n ≤ 64) (hl : (s.rds t).length ≤ 1024)
    (HQ : Hid (∀ (y144 y145 y146 y147 y148 y149 y150 y151 y152 y153 y154 y155 y156 y157 : Value) (w' : World), Nj w0 w' R0 n b x mb { s with wrs := ud s.wrs t (s.rds t) } v13 v14 → Q .normal ⟨#[u0, u1, u2, u3, u4, .pointer (some ⟨G, 0, none⟩), .pointer (some ⟨x 43, 0, none⟩), .pointer (some ⟨x 44, 0, none⟩), .pointer (some ⟨x 42, 0, none⟩), .func (Fn.func 25) #[] #[.pointer (some ⟨x 42, 0, none⟩), .pointer (some ⟨x 43, 0, none⟩), .pointer (some ⟨x 44, 0, none⟩)], u10, i32 t, u12, v13, v14, u15, u16, u17, u18, u19, u20, u21, u22, u23, u24, u25, u26, u27, u28, u29, u30, u31, u32, u33, u34, u35, u36, u37, u38, u39, u40, u41, u42, u43, u44, u45, u46, u47, u48, u49, u50, u51, u52, u53, u54, u55, u56, u57, u58, u59, u60, u61, u62, u63, u64, u65, u66, u67, u68, u69, u70, u71, u72, u73, u74, u75, u76, u77, u78, u79, u80, u81, u82, u83, u84, u85, u86, u87, u88, u89, u90, u91, u92, u93, u94, u95, u96, u97, u98, u99, u100, u101, u102, u103, u104, u105, u106, u107, u108, u109, u110, u111, u112, u113, u114, u115, u116, u117, u118, u119, u120, u121, u122, u123, u124, u125, u126, u127, u128, u129, u130, u131, u132, u133, u134, u135, u136, u137, u138, u139, u140, u141, u142, u143, y144, y145, y146, y147, y148, y149, y150, y151, y152, y153, y154, y155, y156, y157, u158, u159, u160, u161, u162, u163, u164, u165, u166, u167, u168, u169, u170, u171, u172, u173, u174, u175, u176, u177, u178, u179, u180, u181, u182, u183, u184, u185, u186, u187, u188, u189, u190, u191, u192, u193, u194, u195, u196, u197, u198, u199, u200, u201, u202, u203, u204, u205, u206, u207, u208, u209, u210, u211, u212, u213, u214, u215, u216, u217, u218, u219, u220, u221, u222, u223, u224, u225, u226, u227, u228, u229, u230, u231, u232, u233, u234, u235, u236, u237, u238, u239, u240, u241, u242, u243, u244, u245, u246, u247, u248, u249, u250, u251, u252, u253, u254, u255, u256, u257, u258, u259, u260, u261, u262, u263, u264, u265, u266], []⟩ w')) :
    Code.wp Yba.prog (nav [1, 1, 1, 1, 1, 0, 1, 3, 2, 1, 1, 0, 3, 1, 1, 1, 1, 1, 1, 0] (Yba.f15.body.getD .skip)) Q ⟨#[u0, u1, u2, u3, u4, .pointer (some ⟨G, 0, none⟩), .pointer (some ⟨x 43, 0, none⟩), .pointer (some ⟨x 44, 0, none⟩), .pointer (some ⟨x 42, 0, none⟩), .func (Fn.func 25) #[] #[.pointer (some ⟨x 42, 0, none⟩), .pointer (some ⟨x 43, 0, none⟩), .pointer (some ⟨x 44, 0, none⟩)], u10, i32 t, u12, v13, v14, u15, u16, u17, u18, u19, u20, u21, u22, u23, u24, u25, u26, u27, u28, u29, u30, u31, u32, u33, u34, u35, u36, u37, u38, u39, u40, u41, u42, u43, u44, u45, u46, u47, u48, u49, u50, u51, u52, u53, u54, u55, u56, u57, u58, u59, u60, u61, u62, u63, u64, u65, u66, u67, u68, u69, u70, u71, u72, u73, u74, u75, u76, u77, u78, u79, u80, u81, u82, u83, u84, u85, u86, u87, u88, u89, u90, u91, u92, u93, u94, u95, u96, u97, u98, u99, u100, u101, u102, u103, u104, u105, u106, u107, u108, u109, u110, u111, u112, u113, u114, u115, u116, u117, u118, u119, u120, u121, u122, u123, u124, u125, u126, u127, u128, u129, u130, u131, u132, u133, u134, u135, u136, u137, u138, u139, u140, u141, u142, u143, u144, u145, u146, u147, u148, u149, u150, u151, u152, u153, u154, u155, u156, u157, u158, u159, u160, u161, u162, u163, u164, u165, u166, u167, u168, u169, u170, u171, u172, u173, u174, u175, u176, u177, u178, u179, u180, u181, u182, u183, u184, u185, u186, u187, u188, u189, u190, u191, u192, u193, u194, u195, u196, u197, u198, u199, u200, u201, u202, u203, u204, u205, u206, u207, u208, u209, u210, u211, u212, u213, u214, u215, u216, u217, u218, u219, u220, u221, u222, u223, u224, u225, u226, u227, u228, u229, u230, u231, u232, u233, u234, u235, u236, u237, u238, u239, u240, u241, u242, u243, u244, u245, u246, u247, u248, u249, u250, u251, u252, u253, u254, u255, u256, u257, u258, u259, u260, u261, u262, u263, u264, u265, u266], []⟩ w := by
  conv => arg 2; whnf
  obtain ⟨i0, hi0, hz0, hz1, hz2⟩ := info_parts info21
  have n0 : ¬ Nset 0 := by unfold Nset; omega
  have k0 : (R0 0).blk = some G := by rw [hG]
  have k1 : (R0 0).xs[0]? = some (.slice (some ⟨b 1, 0, none⟩) n n) := by rw [hG]; exact hx0
  have k2 : (R0 0).xs[1]? = some (.slice (some ⟨b 2, 0, none⟩) n n) := by rw [hG]; exact hx1
  have k3 : (R0 0).xs[2]? = some (.slice (some ⟨b 47, 0, none⟩) n n) := by rw [hG]; exact hx2
  have t1 : (t : Int) < (n : Int) := by omega
  obtain ⟨R3, o3, p3, c3, h3, hrow3, hblk3, hc3, hR3, ⟨p2, c2, hrow2, hblk2, hc2⟩, hA⟩ := hN.readyW ht hn
  have cG0 : w.cell? ⟨G, 0, none⟩ = some (.slice (some ⟨b 1, 0, none⟩) n n) := hN.cell n0 k0 k1
  have cG1 : w.cell? ⟨G, 1, none⟩ = some (.slice (some ⟨b 2, 0, none⟩) n n) := hN.cell n0 k0 k2
  have e4 : b 2 ≠ G := by have := hN.blks k0; omega
  have HA : Hid (∀ (p' : Option Nat) (c' : Nat) (w4 : World), Fam w0 w4 (put R3 (101 + 4 * t) ⟨p', c', 21, 1, (s.rds t).length, (s.rds t).map i32⟩) (some (mb, o3)) → w4.cell? ⟨b 2, t, none⟩ = some (.slice (p3.map fun b => (⟨b, 0, none⟩ : Addr)) (s.wrs t).length c3) ∧ w4.frozen? ⟨b 2, t, none⟩ = false ∧ w4.cell? ⟨G, 0, none⟩ = some (.slice (some ⟨b 1, 0, none⟩) n n) ∧ w4.cell? ⟨G, 1, none⟩ = some (.slice (some ⟨b 2, 0, none⟩) n n) ∧ Nj w0 (w4.setCell ⟨b 2, t, none⟩ (.slice (p'.map fun b => ⟨b, 0, none⟩) (s.rds t).length c')) R0 n b x mb { s with wrs := ud s.wrs t (s.rds t) } v13 v14) := fun p' c' w4 h4 => by
    obtain ⟨_, z1, z2, z3, z4⟩ := hA p' c' _ (s.rds t) _ w4 rfl rfl h4
    exact ⟨z1, z2, z3 0 G 0 _ n0 k0 k1, z3 0 G 1 _ n0 k0 k2, z4⟩
  have HROW : Hid (R3 (100 + 4 * t) = _) := hrow2
  have HC : Hid (∀ w2, Fam w0 w2 R3 (some (mb, o3)) → Calls Yba.prog 9 #[.slice (p2.map fun b => ⟨b, 0, none⟩) (s.rds t).length c2] w2 fun e w' => ∃ p' c', e = .returned (.slice (p'.map fun b => ⟨b, 0, none⟩) (s.rds t).length c') ∧ Fam w0 w' (put R3 (101 + 4 * t) ⟨p', c', 21, 1, (s.rds t).length, (s.rds t).map i32⟩) (some (mb, o3))) := fun w2 h2 => clone_fam h2 hrow2 hl
  clear hl
  clear hA hrow3 hrow2 hR3 hblk3 hblk2 hc3 hN hG hx0 hx1 hx2 k0 k1 k2 k3
  refine wp_region_noPanic ?_
  refine wp_region_held_drew (S := (fun w' => w'.cell? ⟨G, 0, none⟩ = some (.slice (some ⟨b 1, 0, none⟩) n n) ∧ w'.cell? ⟨G, 1, none⟩ = some (.slice (some ⟨b 2, 0, none⟩) n n))) (by kernel_rfl) ?_ (fun hHeld => ?_)
  · ((try dsimp only); go_keep)
  refine wpAnyH_take (i := 0) (v := ?_) rfl (by kernel_rfl) (by kernel_rfl) (by kernel_rfl) (fun _ _ _ h => h) (Or.inl ⟨by rfl, ?_⟩) (by assumption) ?_
  rotate_left
  · (intro w hSw; (try dsimp only at hSw); (try simp only [List.getElem_toArray, List.getElem_cons_zero, List.getElem_cons_succ]); go_simp; (try with_reducible rfl))
  (try simp only [Act.put, List.setIfInBounds_toArray, List.set_cons_zero, List.set_cons_succ, List.getElem_toArray, List.getElem_cons_zero, List.getElem_cons_succ])
  refine wpAnyH_take (i := 1) (v := ?_) rfl (by kernel_rfl) (by kernel_rfl) (by kernel_rfl) (fun _ _ _ h => h) (Or.inl ⟨by rfl, ?_⟩) (by assumption) ?_
  rotate_left
  · (intro w hSw; (try dsimp only at hSw); (try simp only [List.getElem_toArray, List.getElem_cons_zero, List.getElem_cons_succ]); go_simp; (try with_reducible rfl))
  (try simp only [Act.put, List.setIfInBounds_toArray, List.set_cons_zero, List.set_cons_succ, List.getElem_toArray, List.getElem_cons_zero, List.getElem_cons_succ])
  refine wpAnyH_take (i := 2) (v := ?_) rfl (by kernel_rfl) (by kernel_rfl) (by kernel_rfl) (fun _ _ _ h => h) (Or.inl ⟨by rfl, ?_⟩) (by assumption) ?_
  rotate_left
  · (intro w hSw; (try dsimp only at hSw); (try simp only [List.getElem_toArray, List.getElem_cons_zero, List.getElem_cons_succ]); go_simp; (try with_reducible rfl))
  (try simp only [Act.put, List.setIfInBounds_toArray, List.set_cons_zero, List.set_cons_succ, List.getElem_toArray, List.getElem_cons_zero, List.getElem_cons_succ])
  refine wpAnyH_take (i := 3) (v := ?_) rfl (by kernel_rfl) (by kernel_rfl) (by kernel_rfl) (fun _ _ _ h => h) (Or.inl ⟨by rfl, ?_⟩) (by assumption) ?_
  rotate_left
  · (intro w hSw; (try dsimp only at hSw); (try simp only [List.getElem_toArray, List.getElem_cons_zero, List.getElem_cons_succ]); go_simp; (try with_reducible rfl))
  (try simp only [Act.put, List.setIfInBounds_toArray, List.set_cons_zero, List.set_cons_succ, List.getElem_toArray, List.getElem_cons_zero, List.getElem_cons_succ])
  refine wpAnyH_take (i := 4) (v := ?_) rfl (by kernel_rfl) (by kernel_rfl) (by kernel_rfl) (fun _ _ _ h => h) (Or.inl ⟨by rfl, ?_⟩) (by assumption) ?_
  rotate_left
  · (intro w hSw; (try dsimp only at hSw); (try simp only [List.getElem_toArray, List.getElem_cons_zero, List.getElem_cons_succ]); go_simp; (try with_reducible rfl))
  (try simp only [Act.put, List.setIfInBounds_toArray, List.set_cons_zero, List.set_cons_succ, List.getElem_toArray, List.getElem_cons_zero, List.getElem_cons_succ])
  refine wpAnyH_take (i := 5) (v := ?_) rfl (by kernel_rfl) (by kernel_rfl) (by kernel_rfl) (fun _ _ _ h => h) (Or.inl ⟨by rfl, ?_⟩) (by assumption) ?_
  rotate_left
  · (intro w hSw; (try dsimp only at hSw); (try simp only [List.getElem_toArray, List.getElem_cons_zero, List.getElem_cons_succ]); go_simp; (try with_reducible rfl))
  (try simp only [Act.put, List.setIfInBounds_toArray, List.set_cons_zero, List.set_cons_succ, List.getElem_toArray, List.getElem_cons_zero, List.getElem_cons_succ])
  refine wpAnyH_take (i := 6) (v := ?_) rfl (by kernel_rfl) (by kernel_rfl) (by kernel_rfl) (fun _ _ _ h => h) (Or.inl ⟨by rfl, ?_⟩) (by assumption) ?_
  rotate_left
  · (intro w hSw; (try dsimp only at hSw); (try simp only [List.getElem_toArray, List.getElem_cons_zero, List.getElem_cons_succ]); go_simp; (try with_reducible rfl))
  (try simp only [Act.put, List.setIfInBounds_toArray, List.set_cons_zero, List.set_cons_succ, List.getElem_toArray, List.getElem_cons_zero, List.getElem_cons_succ])
  refine wpAnyH_take (i := 7) (v := ?_) rfl (by kernel_rfl) (by kernel_rfl) (by kernel_rfl) (fun _ _ _ h => h) (Or.inl ⟨by rfl, ?_⟩) (by assumption) ?_
  rotate_left
  · (intro w hSw; (try dsimp only at hSw); (try simp only [List.getElem_toArray, List.getElem_cons_zero, List.getElem_cons_succ]); go_simp; (try with_reducible rfl))
  (try simp only [Act.put, List.setIfInBounds_toArray, List.set_cons_zero, List.set_cons_succ, List.getElem_toArray, List.getElem_cons_zero, List.getElem_cons_succ])
  refine wpAnyH_take (i := 8) (v := ?_) rfl (by kernel_rfl) (by kernel_rfl) (by kernel_rfl) (fun _ _ _ h => h) (Or.inl ⟨by rfl, ?_⟩) (by assumption) ?_
  rotate_left
  · (intro w hSw; (try dsimp only at hSw); (try simp only [List.getElem_toArray, List.getElem_cons_zero, List.getElem_cons_succ]); go_simp; (try with_reducible rfl))
  (try simp only [Act.put, List.setIfInBounds_toArray, List.set_cons_zero, List.set_cons_succ, List.getElem_toArray, List.getElem_cons_zero, List.getElem_cons_succ])
  refine wpAnyH_take (i := 9) (v := ?_) rfl (by kernel_rfl) (by kernel_rfl) (by kernel_rfl) (fun _ _ _ h => h) (Or.inl ⟨by rfl, ?_⟩) (by assumption) ?_
  rotate_left
  · (intro w hSw; (try dsimp only at hSw); (try simp only [List.getElem_toArray, List.getElem_cons_zero, List.getElem_cons_succ]); go_simp; (try with_reducible rfl))
  (try simp only [Act.put, List.setIfInBounds_toArray, List.set_cons_zero, List.set_cons_succ, List.getElem_toArray, List.getElem_cons_zero, List.getElem_cons_succ])
  refine wpAnyH_take (i := 10) (v := ?_) rfl (by kernel_rfl) (by kernel_rfl) (by kernel_rfl) (fun _ _ _ h => h) (Or.inl ⟨by rfl, ?_⟩) (by assumption) ?_
  rotate_left
  · (intro w hSw; (try dsimp only at hSw); (try simp only [List.getElem_toArray, List.getElem_cons_zero, List.getElem_cons_succ]); go_simp; (try with_reducible rfl))
  (try simp only [Act.put, List.setIfInBounds_toArray, List.set_cons_zero, List.set_cons_succ, List.getElem_toArray, List.getElem_cons_zero, List.getElem_cons_succ])
  refine wpAnyH_ready (rs := [11]) (by kernel_rfl) (by simp) ?_
  refine AllReadyH.cons rfl (fun Kx hKx => ?_) ?_
  · (try simp only [List.getElem_toArray, List.getElem_cons_zero, List.getElem_cons_succ])
    go_simp
    refine hKx.out _ _ ?_ (fun hHeld => ?_)
    · ((try dsimp only); go_keep)
    clear hKx
    (try simp only [Act.put, List.setIfInBounds_toArray, List.set_cons_zero, List.set_cons_succ, List.getElem_toArray, List.getElem_cons_zero, List.getElem_cons_succ])
    refine wpAnyH_ready (rs := [12]) (by kernel_rfl) (by simp) ?_
    refine AllReadyH.cons rfl (fun Kx hKx => ?_) ?_
    · (try simp only [List.getElem_toArray, List.getElem_cons_zero, List.getElem_cons_succ])
      go_simp
      (refine Calls.mono (HC.out _ (by first | exact h3 | exact h3.drew)) ?_; rintro e w4 ⟨p', c', rfl, h4⟩; obtain ⟨z1, z2, z30, z31, z4⟩ := HA.out p' c' w4 h4)
      refine hKx.out _ _ ?_ (fun hHeld => ?_)
      · ((try dsimp only); go_keep)
      clear hKx
      (try simp only [Act.put, List.setIfInBounds_toArray, List.set_cons_zero, List.set_cons_succ, List.getElem_toArray, List.getElem_cons_zero, List.getElem_cons_succ])
      refine wpAnyH_take (i := 13) (v := ?_) rfl (by kernel_rfl) (by kernel_rfl) (by kernel_rfl) (fun _ _ _ h => h) (Or.inl ⟨by rfl, ?_⟩) (by assumption) ?_
      rotate_left
      · (intro w hSw; (try dsimp only at hSw); (try simp only [List.getElem_toArray, List.getElem_cons_zero, List.getElem_cons_succ]); go_simp; (try with_reducible rfl))
      (try simp only [Act.put, List.setIfInBounds_toArray, List.set_cons_zero, List.set_cons_succ, List.getElem_toArray, List.getElem_cons_zero, List.getElem_cons_succ])
      refine wpAnyH_ready (rs := [14]) (by kernel_rfl) (by simp) ?_
      refine AllReadyH.cons rfl (fun Kx hKx => ?_) ?_
      · (try simp only [List.getElem_toArray, List.getElem_cons_zero, List.getElem_cons_succ])
        go_simp
        refine hKx.out _ _ ?_ (fun hHeld => ?_)
        · ((try dsimp only); go_keep)
        clear hKx
        (try simp only [Act.put, List.setIfInBounds_toArray, List.set_cons_zero, List.set_cons_succ, List.getElem_toArray, List.getElem_cons_zero, List.getElem_cons_succ])
        refine wpAnyH_done (by kernel_rfl) ?_ _
        refine NoPanic.normal ?_
        exact HQ.out _ _ _ _ _ _ _ _ _ _ _ _ _ _ _ z4
      exact AllReadyH.nil
    exact AllReadyH.nil
  exact AllReadyH.nil

set_option maxRecDepth 100000 in
set_option maxHeartbeats 4000000 in
theorem reg36a {w0 w : World} {R0 : Nat → Row} {n mb G t : Nat} {b x : Nat → Nat} {rv wv : Nat → List Nat} {done : List Nat} {s : NS} {Q : Exit → Act → World → Prop} {gx : List Value} {v13 v14 u0 u1 u2 u3 u4 u10 u12 u15 u16 u17 u18 u19 u20 u21 u22 u23 u24 u25 u26 u27 u28 u29 u30 u31 u32 u33 u34 u35 u36 u37 u38 u39 u40 u41 u42 u43 u44 u45 u46 u47 u48 u49 u50 u51 u52 u53 u54 u55 u56 u57 u58 u59 u60 u61 u62 u63 u64 u65 u66 u67 u68 u69 u70 u71 u72 u73 u74 u75 u76 u77 u78 u79 u80 u81 u82 u83 u84 u85 u86 u87 u88 u89 u90 u91 u92 u93 u94 u95 u96 u97 u98 u99 u100 u101 u102 u103 u104 u105 u106 u107 u108 u109 u110 u111 u112 u113 u114 u115 u116 u117 u118 u119 u120 u121 u122 u123 u124 u125 u126 u127 u128 u129 u130 u131 u132 u133 u134 u135 u136 u137 u138 u139 u140 u141 u142 u143 u144 u145 u146 u147 u148 u149 u150 u151 u152 u153 u154 u155 u156 u157 u158 u159 u160 u161 u162 u163 u164 u165 u166 u167 u168 u169 u170 u171 u172 u173 u174 u175 u176 u177 u178 u179 u180 u181 u182 u183 u184 u185 u186 u187 u188 u189 u190 u191 u192 u193 u194 u195 u196 u197 u198 u199 u200 u201 u202 u203 u204 u205 u206 u207 u208 u209 u210 u211 u212 u213 u214 u215 u216 u217 u218 u219 u220 u221 u222 u223 u224 u225 u226 u227 u228 u229 u230 u231 u232 u233 u234 u235 u236 u237 u238 u239 u240 u241 u242 u243 u244 u245 u246 u247 u248 u249 u250 u251 u252 u253 u254 u255 u256 u257 u258 u259 u260 u261 u262 u263 u264 u265 u266 : Value} (hN : Nj w0 w R0 n b x mb s v13 v14) (hG : R0 0 = ⟨some G, 1, 49, 15, 1, gx⟩) (hx0 : gx[0]? = some (.slice (some ⟨b 1, 0, none⟩) n n)) (hx1 : gx[1]? = some (.slice (some ⟨b 2, 0, none⟩) n n)) (hx2 : gx[2]? = some (.slice (some ⟨b 47, 0, none⟩) n n)) (ht : t < n) (hn : n ≤ 64) (hl : (s.rds t).length ≤ 1000000) (hlp : s.lp.length ≤ 1000) (h0 : s.lp = [])
    (HQ : Hid (∀ (y188 y189 y190 y191 y192 y193 y194 y195 y196 y197 y198 y199 y200 y201 y202 : Value) (w' : World), Nj w0 w' R0 n b x mb { s with rds := ud s.rds t (s.rds t ++ s.lp) } v13 v14 → Q .normal ⟨#[u0, u1, u2, u3, u4, .pointer (some ⟨G, 0, none⟩), .pointer (some ⟨x 43, 0, none⟩), .pointer (some ⟨x 44, 0, none⟩), .pointer (some ⟨x 42, 0, none⟩), .func (Fn.func 25) #[] #[.pointer (some ⟨x 42, 0, none⟩), .pointer (some ⟨x 43, 0, none⟩), .pointer (some ⟨x 44, 0, none⟩)], u10, i32 t, u12, v13, v14, u15, u16, u17, u18, u19, u20, u21, u22, u23, u24, u25, u26, u27, u28, u29, u30, u31, u32, u33, u34, u35, u36, u37, u38, u39, u40, u41, u42, u43, u44, u45, u46, u47, u48, u49, u50, u51, u52, u53, u54, u55, u56, u57, u58, u59, u60, u61, u62, u63, u64, u65, u66, u67, u68, u69, u70, u71, u72, u73, u74, u75, u76, u77, u78, u79, u80, u81, u82, u83, u84, u85, u86, u87, u88, u89, u90, u91, u92, u93, u94, u95, u96, u97, u98, u99, u100, u101, u102, u103, u104, u105, u106, u107, u108, u109, u110, u111, u112, u113, u114, u115, u116, u117, u118, u119, u120, u121, u122, u123, u124, u125, u126, u127, u128, u129, u130, u131, u132, u133, u134, u135, u136, u137, u138, u139, u140, u141, u142, u143, u144, u145, u146, u147, u148, u149, u150, u151, u152, u153, u154, u155, u156, u157, u158, u159, u160, u161, u162, u163, u164, u165, u166, u167, u168, u169, u170, u171, u172, u173, u174, u175, u176, u177, u178, u179, u180, u181, u182, u183, u184, u185, u186, u187, y188, y189, y190, y191, y192, y193, y194, y195, y196, y197, y198, y199, y200, y201, y202, u203, u204, u205, u206, u207, u208, u209, u210, u211, u212, u213, u214, u215, u216, u217, u218, u219, u220, u221, u222, u223, u224, u225, u226, u227, u228, u229, u230, u231, u232, u233, u234, u235, u236, u237, u238, u239, u240, u241, u242, u243, u244, u245, u246, u247, u248, u249, u250, u251, u252, u253, u254, u255, u256, u257, u258, u259, u260, u261, u262, u263, u264, u265, u266], []⟩ w')) :
    Code.wp Yba.prog (nav [1, 1, 1, 1, 1, 0, 1, 3, 2, 1, 1, 0, 3, 1, 1, 1, 1, 1, 1, 1, 1] (Yba.f15.body.getD .skip)) Q ⟨#[u0, u1, u2, u3, u4, .pointer (some ⟨G, 0, none⟩), .pointer (some ⟨x 43, 0, none⟩), .pointer (some ⟨x 44, 0, none⟩), .pointer (some ⟨x 42, 0, none⟩), .func (Fn.func 25) #[] #[.pointer (some ⟨x 42, 0, none⟩), .pointer (some ⟨x 43, 0, none⟩), .pointer (some ⟨x 44, 0, none⟩)], u10, i32 t, u12, v13, v14, u15, u16, u17, u18, u19, u20, u21, u22, u23, u24, u25, u26, u27, u28, u29, u30, u31, u32, u33, u34, u35, u36, u37, u38, u39, u40, u41, u42, u43, u44, u45, u46, u47, u48, u49, u50, u51, u52, u53, u54, u55, u56, u57, u58, u59, u60, u61, u62, u63, u64, u65, u66, u67, u68, u69, u70, u71, u72, u73, u74, u75, u76, u77, u78, u79, u80, u81, u82, u83, u84, u85, u86, u87, u88, u89, u90, u91, u92, u93, u94, u95, u96, u97, u98, u99, u100, u101, u102, u103, u104, u105, u106, u107, u108, u109, u110, u111, u112, u113, u114, u115, u116, u117, u118, u119, u120, u121, u122, u123, u124, u125, u126, u127, u128, u129, u130, u131, u132, u133, u134, u135, u136, u137, u138, u139, u140, u141, u142, u143, u144, u145, u146, u147, u148, u149, u150, u151, u152, u153, u154, u155, u156, u157, u158, u159, u160, u161, u162, u163, u164, u165, u166, u167, u168, u169, u170, u171, u172, u173, u174, u175, u176, u177, u178, u179, u180, u181, u182, u183, u184, u185, u186, u187, u188, u189, u190, u191, u192, u193, u194, u195, u196, u197, u198, u199, u200, u201, u202, u203, u204, u205, u206, u207, u208, u209, u210, u211, u212, u213, u214, u215, u216, u217, u218, u219, u220, u221, u222, u223, u224, u225, u226, u227, u228, u229, u230, u231, u232, u233, u234, u235, u236, u237, u238, u239, u240, u241, u242, u243, u244, u245, u246, u247, u248, u249, u250, u251, u252, u253, u254, u255, u256, u257, u258, u259, u260, u261, u262, u263, u264, u265, u266], []⟩ w := by
  conv => arg 2; whnf
  obtain ⟨i0, hi0, hz0, hz1, hz2⟩ := info_parts info21
  have n0 : ¬ Nset 0 := by unfold Nset; omega
  have k0 : (R0 0).blk = some G := by rw [hG]
  have k1 : (R0 0).xs[0]? = some (.slice (some ⟨b 1, 0, none⟩) n n) := by rw [hG]; exact hx0
  have k2 : (R0 0).xs[1]? = some (.slice (some ⟨b 2, 0, none⟩) n n) := by rw [hG]; exact hx1
  have k3 : (R0 0).xs[2]? = some (.slice (some ⟨b 47, 0, none⟩) n n) := by rw [hG]; exact hx2
  have t1 : (t : Int) < (n : Int) := by omega
  obtain ⟨R3, o3, p3, c3, h3, hrow3, hblk3, hc3, hR3, ⟨p2, c2, hrow2, rfl, hnil⟩, hA⟩ := hN.readyR ht hn
  have cG : w.cell? ⟨G, 0, none⟩ = some (.slice (some ⟨b 1, 0, none⟩) n n) := hN.cell n0 k0 k1
  have e4 : b 1 ≠ G := by have := hN.blks k0; omega
  obtain ⟨rfl, rfl⟩ := hnil h0
  have HA : Hid (∀ (w4 : World), Fam w0 w4 R3 (some (mb, o3)) → w4.cell? ⟨b 1, t, none⟩ = some (.slice (p3.map fun b => (⟨b, 0, none⟩ : Addr)) (s.rds t).length c3) ∧ w4.frozen? ⟨b 1, t, none⟩ = false ∧ w4.cell? ⟨G, 0, none⟩ = some (.slice (some ⟨b 1, 0, none⟩) n n) ∧ Nj w0 (w4.setCell ⟨b 1, t, none⟩ (.slice (p3.map fun b => ⟨b, 0, none⟩) (s.rds t).length c3)) R0 n b x mb { s with rds := ud s.rds t (s.rds t ++ s.lp) } v13 (.slice none s.lp.length 0)) := fun w4 h4 => by
    obtain ⟨z1, z2, z3, z4⟩ := hA p3 c3 _ (s.rds t ++ s.lp) _ w4 (by rw [h0, List.append_nil]) (by rw [h0, List.append_nil]) (by rw [put_self hrow3]; exact h4)
    exact ⟨z1, z2, z3 0 G 0 _ n0 k0 k1, z4⟩
  have HROW : Hid (R3 (100 + 4 * t) = _) := hrow3
  have hm : s.lp.length = 0 := by rw [h0]; rfl
  clear hA hrow3 hR3 hblk3 hN hG hx0 hx1 hx2 k0 k1 k2 k3 hnil hrow2
  generalize s.lp.length = m at *
  subst hm
  generalize (s.rds t).length = L3 at *
  generalize (s.rds t).map i32 = X3 at *
  refine wp_region_noPanic ?_
  refine wp_region_held_drew (S := (fun w' => w'.cell? ⟨G, 0, none⟩ = some (.slice (some ⟨b 1, 0, none⟩) n n))) (by kernel_rfl) ?_ (fun hHeld => ?_)
  · ((try dsimp only); go_keep)
  refine wpAnyH_take (i := 0) (v := ?_) rfl (by kernel_rfl) (by kernel_rfl) (by kernel_rfl) (fun _ _ _ h => h) (Or.inl ⟨by rfl, ?_⟩) (by assumption) ?_
  rotate_left
  · (intro w hSw; (try dsimp only at hSw); (try simp only [List.getElem_toArray, List.getElem_cons_zero, List.getElem_cons_succ]); go_simp; (try with_reducible rfl))
  (try simp only [Act.put, List.setIfInBounds_toArray, List.set_cons_zero, List.set_cons_succ, List.getElem_toArray, List.getElem_cons_zero, List.getElem_cons_succ])
  refine wpAnyH_take (i := 1) (v := ?_) rfl (by kernel_rfl) (by kernel_rfl) (by kernel_rfl) (fun _ _ _ h => h) (Or.inl ⟨by rfl, ?_⟩) (by assumption) ?_
  rotate_left
  · (intro w hSw; (try dsimp only at hSw); (try simp only [List.getElem_toArray, List.getElem_cons_zero, List.getElem_cons_succ]); go_simp; (try with_reducible rfl))
  (try simp only [Act.put, List.setIfInBounds_toArray, List.set_cons_zero, List.set_cons_succ, List.getElem_toArray, List.getElem_cons_zero, List.getElem_cons_succ])
  refine wpAnyH_take (i := 2) (v := ?_) rfl (by kernel_rfl) (by kernel_rfl) (by kernel_rfl) (fun _ _ _ h => h) (Or.inl ⟨by rfl, ?_⟩) (by assumption) ?_
  rotate_left
  · (intro w hSw; (try dsimp only at hSw); (try simp only [List.getElem_toArray, List.getElem_cons_zero, List.getElem_cons_succ]); go_simp; (try with_reducible rfl))
  (try simp only [Act.put, List.setIfInBounds_toArray, List.set_cons_zero, List.set_cons_succ, List.getElem_toArray, List.getElem_cons_zero, List.getElem_cons_succ])
  refine wpAnyH_take (i := 3) (v := ?_) rfl (by kernel_rfl) (by kernel_rfl) (by kernel_rfl) (fun _ _ _ h => h) (Or.inl ⟨by rfl, ?_⟩) (by assumption) ?_
  rotate_left
  · (intro w hSw; (try dsimp only at hSw); (try simp only [List.getElem_toArray, List.getElem_cons_zero, List.getElem_cons_succ]); go_simp; (try with_reducible rfl))
  (try simp only [Act.put, List.setIfInBounds_toArray, List.set_cons_zero, List.set_cons_succ, List.getElem_toArray, List.getElem_cons_zero, List.getElem_cons_succ])
  refine wpAnyH_take (i := 4) (v := ?_) rfl (by kernel_rfl) (by kernel_rfl) (by kernel_rfl) (fun _ _ _ h => h) (Or.inl ⟨by rfl, ?_⟩) (by assumption) ?_
  rotate_left
  · (intro w hSw; (try dsimp only at hSw); (try simp only [List.getElem_toArray, List.getElem_cons_zero, List.getElem_cons_succ]); go_simp; (try with_reducible rfl))
  (try simp only [Act.put, List.setIfInBounds_toArray, List.set_cons_zero, List.set_cons_succ, List.getElem_toArray, List.getElem_cons_zero, List.getElem_cons_succ])
  refine wpAnyH_take (i := 5) (v := ?_) rfl (by kernel_rfl) (by kernel_rfl) (by kernel_rfl) (fun _ _ _ h => h) (Or.inl ⟨by rfl, ?_⟩) (by assumption) ?_
  rotate_left
  · (intro w hSw; (try dsimp only at hSw); (try simp only [List.getElem_toArray, List.getElem_cons_zero, List.getElem_cons_succ]); go_simp; (try with_reducible rfl))
  (try simp only [Act.put, List.setIfInBounds_toArray, List.set_cons_zero, List.set_cons_succ, List.getElem_toArray, List.getElem_cons_zero, List.getElem_cons_succ])
  refine wpAnyH_take (i := 6) (v := ?_) rfl (by kernel_rfl) (by kernel_rfl) (by kernel_rfl) (fun _ _ _ h => h) (Or.inl ⟨by rfl, ?_⟩) (by assumption) ?_
  rotate_left
  · (intro w hSw; (try dsimp only at hSw); (try simp only [List.getElem_toArray, List.getElem_cons_zero, List.getElem_cons_succ]); go_simp; (try with_reducible rfl))
  (try simp only [Act.put, List.setIfInBounds_toArray, List.set_cons_zero, List.set_cons_succ, List.getElem_toArray, List.getElem_cons_zero, List.getElem_cons_succ])
  refine wpAnyH_take (i := 7) (v := ?_) rfl (by kernel_rfl) (by kernel_rfl) (by kernel_rfl) (fun _ _ _ h => h) (Or.inl ⟨by rfl, ?_⟩) (by assumption) ?_
  rotate_left
  · (intro w hSw; (try dsimp only at hSw); (try simp only [List.getElem_toArray, List.getElem_cons_zero, List.getElem_cons_succ]); go_simp; (try with_reducible rfl))
  (try simp only [Act.put, List.setIfInBounds_toArray, List.set_cons_zero, List.set_cons_succ, List.getElem_toArray, List.getElem_cons_zero, List.getElem_cons_succ])
  refine wpAnyH_take (i := 8) (v := ?_) rfl (by kernel_rfl) (by kernel_rfl) (by kernel_rfl) (fun _ _ _ h => h) (Or.inl ⟨by rfl, ?_⟩) (by assumption) ?_
  rotate_left
  · (intro w hSw; (try dsimp only at hSw); (try simp only [List.getElem_toArray, List.getElem_cons_zero, List.getElem_cons_succ]); go_simp; (try with_reducible rfl))
  (try simp only [Act.put, List.setIfInBounds_toArray, List.set_cons_zero, List.set_cons_succ, List.getElem_toArray, List.getElem_cons_zero, List.getElem_cons_succ])
  refine wpAnyH_take (i := 9) (v := ?_) rfl (by kernel_rfl) (by kernel_rfl) (by kernel_rfl) (fun _ _ _ h => h) (Or.inl ⟨by rfl, ?_⟩) (by assumption) ?_
  rotate_left
  · (intro w hSw; (try dsimp only at hSw); (try simp only [List.getElem_toArray, List.getElem_cons_zero, List.getElem_cons_succ]); go_simp; (try with_reducible rfl))
  (try simp only [Act.put, List.setIfInBounds_toArray, List.set_cons_zero, List.set_cons_succ, List.getElem_toArray, List.getElem_cons_zero, List.getElem_cons_succ])
  refine wpAnyH_take (i := 10) (v := ?_) rfl (by kernel_rfl) (by kernel_rfl) (by kernel_rfl) (fun _ _ _ h => h) (Or.inl ⟨by rfl, ?_⟩) (by assumption) ?_
  rotate_left
  · (intro w hSw; (try dsimp only at hSw); (try simp only [List.getElem_toArray, List.getElem_cons_zero, List.getElem_cons_succ]); go_simp; (try with_reducible rfl))
  (try simp only [Act.put, List.setIfInBounds_toArray, List.set_cons_zero, List.set_cons_succ, List.getElem_toArray, List.getElem_cons_zero, List.getElem_cons_succ])
  refine wpAnyH_take (i := 12) (v := ?_) rfl (by kernel_rfl) (by kernel_rfl) (by kernel_rfl) (fun _ _ _ h => h) (Or.inl ⟨by rfl, ?_⟩) (by assumption) ?_
  rotate_left
  · (intro w hSw; (try dsimp only at hSw); (try simp only [List.getElem_toArray, List.getElem_cons_zero, List.getElem_cons_succ]); go_simp; (try with_reducible rfl))
  (try simp only [Act.put, List.setIfInBounds_toArray, List.set_cons_zero, List.set_cons_succ, List.getElem_toArray, List.getElem_cons_zero, List.getElem_cons_succ])
  refine wpAnyH_ready (rs := [11]) (by kernel_rfl) (by simp) ?_
  refine AllReadyH.cons rfl (fun Kx hKx => ?_) ?_
  · (try simp only [List.getElem_toArray, List.getElem_cons_zero, List.getElem_cons_succ])
    go_simp
    refine hKx.out _ _ ?_ (fun hHeld => ?_)
    · ((try dsimp only); go_keep)
    clear hKx
    (try simp only [Act.put, List.setIfInBounds_toArray, List.set_cons_zero, List.set_cons_succ, List.getElem_toArray, List.getElem_cons_zero, List.getElem_cons_succ])
    refine wpAnyH_ready (rs := [13]) (by kernel_rfl) (by simp) ?_
    refine AllReadyH.cons rfl (fun Kx hKx => ?_) ?_
    · ((refine step_fam_none (by rfl) _ _ _ (by rfl) 21 i0 1 Yba.underlying22 hi0 R3 (100 + 4 * t) p3 c3 L3 X3 HROW.out (by first | exact h3 | exact h3.drew) (by rfl) (by rfl) ?_; obtain ⟨z1, z2, z3, z4⟩ := HA.out _ (by first | exact h3.drew | exact h3)))
      refine hKx.out _ _ ?_ (fun hHeld => ?_)
      · ((try dsimp only); go_keep)
      clear hKx
      (try simp only [Act.put, List.setIfInBounds_toArray, List.set_cons_zero, List.set_cons_succ, List.getElem_toArray, List.getElem_cons_zero, List.getElem_cons_succ])
      refine wpAnyH_take (i := 14) (v := ?_) rfl (by kernel_rfl) (by kernel_rfl) (by kernel_rfl) (fun _ _ _ h => h) (Or.inl ⟨by rfl, ?_⟩) (by assumption) ?_
      rotate_left
      · (intro w hSw; (try dsimp only at hSw); (try simp only [List.getElem_toArray, List.getElem_cons_zero, List.getElem_cons_succ]); go_simp; (try with_reducible rfl))
      (try simp only [Act.put, List.setIfInBounds_toArray, List.set_cons_zero, List.set_cons_succ, List.getElem_toArray, List.getElem_cons_zero, List.getElem_cons_succ])
      refine wpAnyH_ready (rs := [15]) (by kernel_rfl) (by simp) ?_
      refine AllReadyH.cons rfl (fun Kx hKx => ?_) ?_
      · (try simp only [List.getElem_toArray, List.getElem_cons_zero, List.getElem_cons_succ])
        go_simp
        refine hKx.out _ _ ?_ (fun hHeld => ?_)
        · ((try dsimp only); go_keep)
        clear hKx
        (try simp only [Act.put, List.setIfInBounds_toArray, List.set_cons_zero, List.set_cons_succ, List.getElem_toArray, List.getElem_cons_zero, List.getElem_cons_succ])
        refine wpAnyH_done (by kernel_rfl) ?_ _
        refine NoPanic.normal ?_
        exact HQ.out _ _ _ _ _ _ _ _ _ _ _ _ _ _ _ _ z4
      exact AllReadyH.nil
    exact AllReadyH.nil
  exact AllReadyH.nil

set_option maxRecDepth 100000 in
set_option maxHeartbeats 4000000 in
theorem reg36b {w0 w : World} {R0 : Nat → Row} {n mb G t : Nat} {b x : Nat → Nat} {rv wv : Nat → List Nat} {done : List Nat} {s : NS} {Q : Exit → Act → World → Prop} {gx : List Value} {v13 v14 u0 u1 u2 u3 u4 u10 u12 u15 u16 u17 u18 u19 u20 u21 u22 u23 u24 u25 u26 u27 u28 u29 u30 u31 u32 u33 u34 u35 u36 u37 u38 u39 u40 u41 u42 u43 u44 u45 u46 u47 u48 u49 u50 u51 u52 u53 u54 u55 u56 u57 u58 u59 u60 u61 u62 u63 u64 u65 u66 u67 u68 u69 u70 u71 u72 u73 u74 u75 u76 u77 u78 u79 u80 u81 u82 u83 u84 u85 u86 u87 u88 u89 u90 u91 u92 u93 u94 u95 u96 u97 u98 u99 u100 u101 u102 u103 u104 u105 u106 u107 u108 u109 u110 u111 u112 u113 u114 u115 u116 u117 u118 u119 u120 u121 u122 u123 u124 u125 u126 u127 u128 u129 u130 u131 u132 u133 u134 u135 u136 u137 u138 u139 u140 u141 u142 u143 u144 u145 u146 u147 u148 u149 u150 u151 u152 u153 u154 u155 u156 u157 u158 u159 u160 u161 u162 u163 u164 u165 u166 u167 u168 u169 u170 u171 u172 u173 u174 u175 u176 u177 u178 u179 u180 u181 u182 u183 u184 u185 u186 u187 u188 u189 u190 u191 u192 u193 u194 u195 u196 u197 u198 u199 u200 u201 u202 u203 u204 u205 u206 u207 u208 u209 u210 u211 u212 u213 u214 u215 u216 u217 u218 u219 u220 u221 u222 u223 u224 u225 u226 u227 u228 u229 u230 u231 u232 u233 u234 u235 u236 u237 u238 u239 u240 u241 u242 u243 u244 u245 u246 u247 u248 u249 u250 u251 u252 u253 u254 u255 u256 u257 u258 u259 u260 u261 u262 u263 u264 u265 u266 : Value} (hN : Nj w0 w R0 n b x mb s v13 v14) (hG : R0 0 = ⟨some G, 1, 49, 15, 1, gx⟩) (hx0 : gx[0]? = some (.slice (some ⟨b 1, 0, none⟩) n n)) (hx1 : gx[1]? = some (.slice (some ⟨b 2, 0, none⟩) n n)) (hx2 : gx[2]? = some (.slice (some ⟨b 47, 0, none⟩) n n)) (ht : t < n) (hn : n ≤ 64) (hl : (s.rds t).length ≤ 1000000) (hlp : s.lp.length ≤ 1000) (h0 : s.lp ≠ [])
    (HQ : Hid (∀ (y188 y189 y190 y191 y192 y193 y194 y195 y196 y197 y198 y199 y200 y201 y202 : Value) (w' : World), Nj w0 w' R0 n b x mb { s with rds := ud s.rds t (s.rds t ++ s.lp) } v13 v14 → Q .normal ⟨#[u0, u1, u2, u3, u4, .pointer (some ⟨G, 0, none⟩), .pointer (some ⟨x 43, 0, none⟩), .pointer (some ⟨x 44, 0, none⟩), .pointer (some ⟨x 42, 0, none⟩), .func (Fn.func 25) #[] #[.pointer (some ⟨x 42, 0, none⟩), .pointer (some ⟨x 43, 0, none⟩), .pointer (some ⟨x 44, 0, none⟩)], u10, i32 t, u12, v13, v14, u15, u16, u17, u18, u19, u20, u21, u22, u23, u24, u25, u26, u27, u28, u29, u30, u31, u32, u33, u34, u35, u36, u37, u38, u39, u40, u41, u42, u43, u44, u45, u46, u47, u48, u49, u50, u51, u52, u53, u54, u55, u56, u57, u58, u59, u60, u61, u62, u63, u64, u65, u66, u67, u68, u69, u70, u71, u72, u73, u74, u75, u76, u77, u78, u79, u80, u81, u82, u83, u84, u85, u86, u87, u88, u89, u90, u91, u92, u93, u94, u95, u96, u97, u98, u99, u100, u101, u102, u103, u104, u105, u106, u107, u108, u109, u110, u111, u112, u113, u114, u115, u116, u117, u118, u119, u120, u121, u122, u123, u124, u125, u126, u127, u128, u129, u130, u131, u132, u133, u134, u135, u136, u137, u138, u139, u140, u141, u142, u143, u144, u145, u146, u147, u148, u149, u150, u151, u152, u153, u154, u155, u156, u157, u158, u159, u160, u161, u162, u163, u164, u165, u166, u167, u168, u169, u170, u171, u172, u173, u174, u175, u176, u177, u178, u179, u180, u181, u182, u183, u184, u185, u186, u187, y188, y189, y190, y191, y192, y193, y194, y195, y196, y197, y198, y199, y200, y201, y202, u203, u204, u205, u206, u207, u208, u209, u210, u211, u212, u213, u214, u215, u216, u217, u218, u219, u220, u221, u222, u223, u224, u225, u226, u227, u228, u229, u230, u231, u232, u233, u234, u235, u236, u237, u238, u239, u240, u241, u242, u243, u244, u245, u246, u247, u248, u249, u250, u251, u252, u253, u254, u255, u256, u257, u258, u259, u260, u261, u262, u263, u264, u265, u266], []⟩ w')) :
    Code.wp Yba.prog (nav [1, 1, 1, 1, 1, 0, 1, 3, 2, 1, 1, 0, 3, 1, 1, 1, 1, 1, 1, 1, 1] (Yba.f15.body.getD .skip)) Q ⟨#[u0, u1, u2, u3, u4, .pointer (some ⟨G, 0, none⟩), .pointer (some ⟨x 43, 0, none⟩), .pointer (some ⟨x 44, 0, none⟩), .pointer (some ⟨x 42, 0, none⟩), .func (Fn.func 25) #[] #[.pointer (some ⟨x 42, 0, none⟩), .pointer (some ⟨x 43, 0, none⟩), .pointer (some ⟨x 44, 0, none⟩)], u10, i32 t, u12, v13, v14, u15, u16, u17, u18, u19, u20, u21, u22, u23, u24, u25, u26, u27, u28, u29, u30, u31, u32, u33, u34, u35, u36, u37, u38, u39, u40, u41, u42, u43, u44, u45, u46, u47, u48, u49, u50, u51, u52, u53, u54, u55, u56, u57, u58, u59, u60, u61, u62, u63, u64, u65, u66, u67, u68, u69, u70, u71, u72, u73, u74, u75, u76, u77, u78, u79, u80, u81, u82, u83, u84, u85, u86, u87, u88, u89, u90, u91, u92, u93, u94, u95, u96, u97, u98, u99, u100, u101, u102, u103, u104, u105, u106, u107, u108, u109, u110, u111, u112, u113, u114, u115, u116, u117, u118, u119, u120, u121, u122, u123, u124, u125, u126, u127, u128, u129, u130, u131, u132, u133, u134, u135, u136, u137, u138, u139, u140, u141, u142, u143, u144, u145, u146, u147, u148, u149, u150, u151, u152, u153, u154, u155, u156, u157, u158, u159, u160, u161, u162, u163, u164, u165, u166, u167, u168, u169, u170, u171, u172, u173, u174, u175, u176, u177, u178, u179, u180, u181, u182, u183, u184, u185, u186, u187, u188, u189, u190, u191, u192, u193, u194, u195, u196, u197, u198, u199, u200, u201, u202, u203, u204, u205, u206, u207, u208, u209, u210, u211, u212, u213, u214, u215, u216, u217, u218, u219, u220, u221, u222, u223, u224, u225, u226, u227, u228, u229, u230, u231, u232, u233, u234, u235, u236, u237, u238, u239, u240, u241, u242, u243, u244, u245, u246, u247, u248, u249, u250, u251, u252, u253, u254, u255, u256, u257, u258, u259, u260, u261, u262, u263, u264, u265, u266], []⟩ w := by
  conv => arg 2; whnf
  obtain ⟨i0, hi0, hz0, hz1, hz2⟩ := info_parts info21
  have n0 : ¬ Nset 0 := by unfold Nset; omega
  have k0 : (R0 0).blk = some G := by rw [hG]
  have k1 : (R0 0).xs[0]? = some (.slice (some ⟨b 1, 0, none⟩) n n) := by rw [hG]; exact hx0
  have k2 : (R0 0).xs[1]? = some (.slice (some ⟨b 2, 0, none⟩) n n) := by rw [hG]; exact hx1
  have k3 : (R0 0).xs[2]? = some (.slice (some ⟨b 47, 0, none⟩) n n) := by rw [hG]; exact hx2
  have t1 : (t : Int) < (n : Int) := by omega
  obtain ⟨R3, o3, p3, c3, h3, hrow3, hblk3, hc3, hR3, ⟨p2, c2, hrow2, rfl, hnil⟩, hA⟩ := hN.readyR ht hn
  have cG : w.cell? ⟨G, 0, none⟩ = some (.slice (some ⟨b 1, 0, none⟩) n n) := hN.cell n0 k0 k1
  have e4 : b 1 ≠ G := by have := hN.blks k0; omega
  have hl2 : 0 < s.lp.length := List.length_pos_iff.2 h0
  obtain ⟨g2, rfl⟩ : ∃ g, p2 = some g := by
    obtain ⟨y, ys, hy⟩ := List.exists_cons_of_ne_nil h0
    have hok := h3.ok 52
    rw [hrow2] at hok
    exact hok.at (j := 0) (x := y) (by rw [hy]; rfl)
  have hnews : ∀ (j : Nat) (u : Value), (s.lp.map i32)[j]? = some u → w.cell? ((⟨g2, 0, none⟩ : Addr).add j) = some u := fun j u hj => by
    have := h3.cell (i := 52) (b := g2) (j := j) (v := u) (by rw [hrow2]) (by rw [hrow2]; exact hj)
    have e : (⟨g2, 0, none⟩ : Addr).add j = ⟨g2, j, none⟩ := by
      by_cases hj0 : j = 0
      · subst hj0; rfl
      · simp [Addr.add, hj0]
    rw [e]; exact this
  have h1c : ∀ u, u ∈ s.lp.map i32 → u.oneCell' = true := fun u hu => by
    obtain ⟨y, _, rfl⟩ := List.mem_map.1 hu
    rfl
  have HA : Hid (∀ (g cap : Nat) (w4 : World), Fam w0 w4 (put R3 (100 + 4 * t) ⟨some g, cap, 21, 1, (s.rds t).length + s.lp.length, (s.rds t).map i32 ++ s.lp.map i32⟩) (some (mb, o3)) → w4.cell? ⟨b 1, t, none⟩ = some (.slice (p3.map fun b => (⟨b, 0, none⟩ : Addr)) (s.rds t).length c3) ∧ w4.frozen? ⟨b 1, t, none⟩ = false ∧ w4.cell? ⟨G, 0, none⟩ = some (.slice (some ⟨b 1, 0, none⟩) n n) ∧ Nj w0 (w4.setCell ⟨b 1, t, none⟩ (.slice (some ⟨g, 0, none⟩) ((s.rds t).length + s.lp.length) cap)) R0 n b x mb { s with rds := ud s.rds t (s.rds t ++ s.lp) } v13 (.slice (some ⟨g2, 0, none⟩) s.lp.length c2)) := fun g cap w4 h4 => by
    obtain ⟨z1, z2, z3, z4⟩ := hA (some g) cap _ (s.rds t ++ s.lp) _ w4 (by simp) (by simp) h4
    exact ⟨z1, z2, z3 0 G 0 _ n0 k0 k1, z4⟩
  have HROW : Hid (R3 (100 + 4 * t) = _) := hrow3
  have hml : (s.lp.map i32).length = s.lp.length * 1 := by simp
  have HNEWS : Hid _ := hnews
  have HONE : Hid _ := h1c
  have HML : Hid _ := hml
  clear hA hrow3 hR3 hblk3 hN hG hx0 hx1 hx2 k0 k1 k2 k3 hnil hrow2 hnews h1c hml
  generalize s.lp.length = m at *
  generalize (s.rds t).length = L3 at *
  generalize (s.rds t).map i32 = X3 at *
  refine wp_region_noPanic ?_
  refine wp_region_held_drew (S := (fun w' => w'.cell? ⟨G, 0, none⟩ = some (.slice (some ⟨b 1, 0, none⟩) n n))) (by kernel_rfl) ?_ (fun hHeld => ?_)
  · ((try dsimp only); go_keep)
  refine wpAnyH_take (i := 0) (v := ?_) rfl (by kernel_rfl) (by kernel_rfl) (by kernel_rfl) (fun _ _ _ h => h) (Or.inl ⟨by rfl, ?_⟩) (by assumption) ?_
  rotate_left
  · (intro w hSw; (try dsimp only at hSw); (try simp only [List.getElem_toArray, List.getElem_cons_zero, List.getElem_cons_succ]); go_simp; (try with_reducible rfl))
  (try simp only [Act.put, List.setIfInBounds_toArray, List.set_cons_zero, List.set_cons_succ, List.getElem_toArray, List.getElem_cons_zero, List.getElem_cons_succ])
  refine wpAnyH_take (i := 1) (v := ?_) rfl (by kernel_rfl) (by kernel_rfl) (by kernel_rfl) (fun _ _ _ h => h) (Or.inl ⟨by rfl, ?_⟩) (by assumption) ?_
  rotate_left
  · (intro w hSw; (try dsimp only at hSw); (try simp only [List.getElem_toArray, List.getElem_cons_zero, List.getElem_cons_succ]); go_simp; (try with_reducible rfl))
  (try simp only [Act.put, List.setIfInBounds_toArray, List.set_cons_zero, List.set_cons_succ, List.getElem_toArray, List.getElem_cons_zero, List.getElem_cons_succ])
  refine wpAnyH_take (i := 2) (v := ?_) rfl (by kernel_rfl) (by kernel_rfl) (by kernel_rfl) (fun _ _ _ h => h) (Or.inl ⟨by rfl, ?_⟩) (by assumption) ?_
  rotate_left
  · (intro w hSw; (try dsimp only at hSw); (try simp only [List.getElem_toArray, List.getElem_cons_zero, List.getElem_cons_succ]); go_simp; (try with_reducible rfl))
  (try simp only [Act.put, List.setIfInBounds_toArray, List.set_cons_zero, List.set_cons_succ, List.getElem_toArray, List.getElem_cons_zero, List.getElem_cons_succ])
  refine wpAnyH_take (i := 3) (v := ?_) rfl (by kernel_rfl) (by kernel_rfl) (by kernel_rfl) (fun _ _ _ h => h) (Or.inl ⟨by rfl, ?_⟩) (by assumption) ?_
  rotate_left
  · (intro w hSw; (try dsimp only at hSw); (try simp only [List.getElem_toArray, List.getElem_cons_zero, List.getElem_cons_succ]); go_simp; (try with_reducible rfl))
  (try simp only [Act.put, List.setIfInBounds_toArray, List.set_cons_zero, List.set_cons_succ, List.getElem_toArray, List.getElem_cons_zero, List.getElem_cons_succ])
  refine wpAnyH_take (i := 4) (v := ?_) rfl (by kernel_rfl) (by kernel_rfl) (by kernel_rfl) (fun _ _ _ h => h) (Or.inl ⟨by rfl, ?_⟩) (by assumption) ?_
  rotate_left
  · (intro w hSw; (try dsimp only at hSw); (try simp only [List.getElem_toArray, List.getElem_cons_zero, List.getElem_cons_succ]); go_simp; (try with_reducible rfl))
  (try simp only [Act.put, List.setIfInBounds_toArray, List.set_cons_zero, List.set_cons_succ, List.getElem_toArray, List.getElem_cons_zero, List.getElem_cons_succ])
  refine wpAnyH_take (i := 5) (v := ?_) rfl (by kernel_rfl) (by kernel_rfl) (by kernel_rfl) (fun _ _ _ h => h) (Or.inl ⟨by rfl, ?_⟩) (by assumption) ?_
  rotate_left
  · (intro w hSw; (try dsimp only at hSw); (try simp only [List.getElem_toArray, List.getElem_cons_zero, List.getElem_cons_succ]); go_simp; (try with_reducible rfl))
  (try simp only [Act.put, List.setIfInBounds_toArray, List.set_cons_zero, List.set_cons_succ, List.getElem_toArray, List.getElem_cons_zero, List.getElem_cons_succ])
  refine wpAnyH_take (i := 6) (v := ?_) rfl (by kernel_rfl) (by kernel_rfl) (by kernel_rfl) (fun _ _ _ h => h) (Or.inl ⟨by rfl, ?_⟩) (by assumption) ?_
  rotate_left
  · (intro w hSw; (try dsimp only at hSw); (try simp only [List.getElem_toArray, List.getElem_cons_zero, List.getElem_cons_succ]); go_simp; (try with_reducible rfl))
  (try simp only [Act.put, List.setIfInBounds_toArray, List.set_cons_zero, List.set_cons_succ, List.getElem_toArray, List.getElem_cons_zero, List.getElem_cons_succ])
  refine wpAnyH_take (i := 7) (v := ?_) rfl (by kernel_rfl) (by kernel_rfl) (by kernel_rfl) (fun _ _ _ h => h) (Or.inl ⟨by rfl, ?_⟩) (by assumption) ?_
  rotate_left
  · (intro w hSw; (try dsimp only at hSw); (try simp only [List.getElem_toArray, List.getElem_cons_zero, List.getElem_cons_succ]); go_simp; (try with_reducible rfl))
  (try simp only [Act.put, List.setIfInBounds_toArray, List.set_cons_zero, List.set_cons_succ, List.getElem_toArray, List.getElem_cons_zero, List.getElem_cons_succ])
  refine wpAnyH_take (i := 8) (v := ?_) rfl (by kernel_rfl) (by kernel_rfl) (by kernel_rfl) (fun _ _ _ h => h) (Or.inl ⟨by rfl, ?_⟩) (by assumption) ?_
  rotate_left
  · (intro w hSw; (try dsimp only at hSw); (try simp only [List.getElem_toArray, List.getElem_cons_zero, List.getElem_cons_succ]); go_simp; (try with_reducible rfl))
  (try simp only [Act.put, List.setIfInBounds_toArray, List.set_cons_zero, List.set_cons_succ, List.getElem_toArray, List.getElem_cons_zero, List.getElem_cons_succ])
  refine wpAnyH_take (i := 9) (v := ?_) rfl (by kernel_rfl) (by kernel_rfl) (by kernel_rfl) (fun _ _ _ h => h) (Or.inl ⟨by rfl, ?_⟩) (by assumption) ?_
  rotate_left
  · (intro w hSw; (try dsimp only at hSw); (try simp only [List.getElem_toArray, List.getElem_cons_zero, List.getElem_cons_succ]); go_simp; (try with_reducible rfl))
  (try simp only [Act.put, List.setIfInBounds_toArray, List.set_cons_zero, List.set_cons_succ, List.getElem_toArray, List.getElem_cons_zero, List.getElem_cons_succ])
  refine wpAnyH_take (i := 10) (v := ?_) rfl (by kernel_rfl) (by kernel_rfl) (by kernel_rfl) (fun _ _ _ h => h) (Or.inl ⟨by rfl, ?_⟩) (by assumption) ?_
  rotate_left
  · (intro w hSw; (try dsimp only at hSw); (try simp only [List.getElem_toArray, List.getElem_cons_zero, List.getElem_cons_succ]); go_simp; (try with_reducible rfl))
  (try simp only [Act.put, List.setIfInBounds_toArray, List.set_cons_zero, List.set_cons_succ, List.getElem_toArray, List.getElem_cons_zero, List.getElem_cons_succ])
  refine wpAnyH_take (i := 12) (v := ?_) rfl (by kernel_rfl) (by kernel_rfl) (by kernel_rfl) (fun _ _ _ h => h) (Or.inl ⟨by rfl, ?_⟩) (by assumption) ?_
  rotate_left
  · (intro w hSw; (try dsimp only at hSw); (try simp only [List.getElem_toArray, List.getElem_cons_zero, List.getElem_cons_succ]); go_simp; (try with_reducible rfl))
  (try simp only [Act.put, List.setIfInBounds_toArray, List.set_cons_zero, List.set_cons_succ, List.getElem_toArray, List.getElem_cons_zero, List.getElem_cons_succ])
  refine wpAnyH_ready (rs := [11]) (by kernel_rfl) (by simp) ?_
  refine AllReadyH.cons rfl (fun Kx hKx => ?_) ?_
  · (try simp only [List.getElem_toArray, List.getElem_cons_zero, List.getElem_cons_succ])
    go_simp
    refine hKx.out _ _ ?_ (fun hHeld => ?_)
    · ((try dsimp only); go_keep)
    clear hKx
    (try simp only [Act.put, List.setIfInBounds_toArray, List.set_cons_zero, List.set_cons_succ, List.getElem_toArray, List.getElem_cons_zero, List.getElem_cons_succ])
    refine wpAnyH_ready (rs := [13]) (by kernel_rfl) (by simp) ?_
    refine AllReadyH.cons rfl (fun Kx hKx => ?_) ?_
    · ((refine step_fam_apps (by rfl) _ _ _ (by rfl) 21 i0 _ 1 4 Yba.underlying22 hi0 hz0 hz1 hz2 rfl (by omega) (by omega) R3 (100 + 4 * t) p3 c3 L3 X3 HROW.out (by first | exact h3 | exact h3.drew) (by rfl) hl ⟨g2, 0, none⟩ m _ hl2 hlp (s.lp.map i32) (by rfl) HML.out (by first | exact HNEWS.out | (intro j u hj; exact HNEWS.out j u hj)) HONE.out ?_; intro gg cap w4 h4; obtain ⟨z1, z2, z3, z4⟩ := HA.out gg cap w4 h4))
      refine hKx.out _ _ ?_ (fun hHeld => ?_)
      · ((try dsimp only); go_keep)
      clear hKx
      (try simp only [Act.put, List.setIfInBounds_toArray, List.set_cons_zero, List.set_cons_succ, List.getElem_toArray, List.getElem_cons_zero, List.getElem_cons_succ])
      refine wpAnyH_take (i := 14) (v := ?_) rfl (by kernel_rfl) (by kernel_rfl) (by kernel_rfl) (fun _ _ _ h => h) (Or.inl ⟨by rfl, ?_⟩) (by assumption) ?_
      rotate_left
      · (intro w hSw; (try dsimp only at hSw); (try simp only [List.getElem_toArray, List.getElem_cons_zero, List.getElem_cons_succ]); go_simp; (try with_reducible rfl))
      (try simp only [Act.put, List.setIfInBounds_toArray, List.set_cons_zero, List.set_cons_succ, List.getElem_toArray, List.getElem_cons_zero, List.getElem_cons_succ])
      refine wpAnyH_ready (rs := [15]) (by kernel_rfl) (by simp) ?_
      refine AllReadyH.cons rfl (fun Kx hKx => ?_) ?_
      · (try simp only [List.getElem_toArray, List.getElem_cons_zero, List.getElem_cons_succ])
        go_simp
        refine hKx.out _ _ ?_ (fun hHeld => ?_)
        · ((try dsimp only); go_keep)
        clear hKx
        (try simp only [Act.put, List.setIfInBounds_toArray, List.set_cons_zero, List.set_cons_succ, List.getElem_toArray, List.getElem_cons_zero, List.getElem_cons_succ])
        refine wpAnyH_done (by kernel_rfl) ?_ _
        refine NoPanic.normal ?_
        exact HQ.out _ _ _ _ _ _ _ _ _ _ _ _ _ _ _ _ z4
      exact AllReadyH.nil
    exact AllReadyH.nil
  exact AllReadyH.nil

end Go.Proofs.Ybulkajny
