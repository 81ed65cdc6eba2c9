import Derived.Test.YbulkajnyPl
namespace Go.Proofs.Ybulkajny
open Go.RowKit Go.Sort Go.Maps
set_option linter.unusedVariables false

theorem filled_xs {R : Nat → Row} {r g i j y : Nat} {l : List Nat} {t : TypeId} {sz : Nat} (h : Filled R r t sz g l i) (hi : j < i) (hy : l[j]? = some y) (hsz : 0 < sz) : (R r).blk = some g ∧ (R r).xs[j * sz]? = some (.string (keyS y)) ∧ ∀ k, 0 < k → k < sz → (R r).xs[j * sz + k]? = some (zc t k) := by
  obtain ⟨f, h1, h2, h3⟩ := h
  have hj := (List.getElem?_eq_some_iff.1 hy).1
  have hle : (j + 1) * sz ≤ l.length * sz := Nat.mul_le_mul_right _ hj
  rw [Nat.succ_mul] at hle
  refine ⟨by rw [h1], ?_, fun k h0 hk => ?_⟩
  · rw [h1, ← h2 j y hi hy]; exact tab_get (by omega)
  · rw [h1, ← h3 j k h0 hk]; exact tab_get (by omega)

set_option maxRecDepth 100000 in
set_option maxHeartbeats 4000000 in
/-- The loop over the writes. -/
theorem loop2_any {w0 w : World} {R0 : Nat → Row} {n mb G t : Nat} {b x : Nat → Nat} {rv wv : Nat → List Nat} {done : List Nat} {s : NS} {Q : Exit → Act → World → Prop} {gw : Nat} {v13 v14 u0 u1 u2 u3 u4 u10 u12 u15 u16 u17 u18 u19 u20 u21 u22 u23 u24 u25 u26 u27 u28 u29 u30 u31 u32 u33 u34 u35 u36 u37 u38 u39 u40 u41 u42 u43 u44 u45 u46 u47 u48 u49 u50 u54 u55 u56 u57 u58 u59 u60 u61 u62 u63 u64 u65 u66 u67 u68 u69 u70 u71 u72 u73 u74 u75 u76 u77 u78 u79 u80 u81 u82 u83 u84 u85 u86 u87 u88 u89 u90 u91 u92 u93 u94 u95 u96 u97 u98 u99 u100 u101 u102 u103 u104 u105 u106 u107 u108 u109 u110 u111 u112 u113 u114 u115 u116 u117 u118 u119 u120 u121 u122 u123 u124 u125 u126 u127 u128 u129 u130 u131 u132 u133 u134 u135 u136 u137 u138 u139 u140 u141 u142 u143 u144 u145 u146 u147 u148 u149 u150 u151 u152 u153 u154 u155 u156 u157 u158 u159 u160 u161 u162 u163 u164 u165 u166 u167 u168 u169 u170 u171 u172 u173 u174 u175 u176 u177 u178 u179 u180 u181 u182 u183 u184 u185 u186 u187 u188 u189 u190 u191 u192 u193 u194 u195 u196 u197 u198 u199 u200 u201 u202 u203 u204 u205 u206 u207 u208 u209 u210 u211 u212 u213 u214 u215 u216 u217 u218 u219 u220 u221 u222 u223 u224 u225 u226 u227 u228 u229 u230 u231 u232 u233 u234 u235 u236 u237 u238 u239 u240 u241 u242 u243 u244 u245 u246 u247 u248 u249 u250 u251 u252 u253 u254 u255 u256 u257 u258 u259 u260 u261 u262 u263 u264 u265 u266 : Value} (hN : Nj w0 w R0 n b x mb s v13 v14) (hL : L2 rv wv done t 0 (fun _ => False) s) (ht : t < 64) (hF : Filled R0 (401 + 2 * t) 68 3 gw (wv t) (wv t).length) (hl : (wv t).length ≤ 256)
    (HQ : Hid (∀ (y13 y16 y17 y53 y54 y55 y56 y57 y58 y59 y60 y61 y62 y63 y64 y65 y66 y67 y68 y69 y70 y71 y72 y73 y74 y75 y76 y77 : Value) (w' : World) (s' : NS), Nj w0 w' R0 n b x mb s' y13 v14 → L2 rv wv done t (wv t).length (fun _ => False) s' → Q .normal ⟨#[u0, u1, u2, u3, u4, .pointer (some ⟨G, 0, none⟩), .pointer (some ⟨x 43, 0, none⟩), .pointer (some ⟨x 44, 0, none⟩), .pointer (some ⟨x 42, 0, none⟩), .func (Fn.func 25) #[] #[.pointer (some ⟨x 42, 0, none⟩), .pointer (some ⟨x 43, 0, none⟩), .pointer (some ⟨x 44, 0, none⟩)], u10, i32 t, u12, y13, v14, u15, y16, y17, u18, u19, u20, u21, u22, u23, u24, u25, u26, u27, u28, u29, u30, u31, u32, u33, u34, u35, u36, u37, u38, u39, u40, u41, u42, u43, u44, u45, u46, u47, u48, u49, u50, .slice (some ⟨gw, 0, none⟩) (wv t).length (wv t).length, .int .i64 ((wv t).length : Int), y53, y54, y55, y56, y57, y58, y59, y60, y61, y62, y63, y64, y65, y66, y67, y68, y69, y70, y71, y72, y73, y74, y75, y76, y77, u78, u79, u80, u81, u82, u83, u84, u85, u86, u87, u88, u89, u90, u91, u92, u93, u94, u95, u96, u97, u98, u99, u100, u101, u102, u103, u104, u105, u106, u107, u108, u109, u110, u111, u112, u113, u114, u115, u116, u117, u118, u119, u120, u121, u122, u123, u124, u125, u126, u127, u128, u129, u130, u131, u132, u133, u134, u135, u136, u137, u138, u139, u140, u141, u142, u143, u144, u145, u146, u147, u148, u149, u150, u151, u152, u153, u154, u155, u156, u157, u158, u159, u160, u161, u162, u163, u164, u165, u166, u167, u168, u169, u170, u171, u172, u173, u174, u175, u176, u177, u178, u179, u180, u181, u182, u183, u184, u185, u186, u187, u188, u189, u190, u191, u192, u193, u194, u195, u196, u197, u198, u199, u200, u201, u202, u203, u204, u205, u206, u207, u208, u209, u210, u211, u212, u213, u214, u215, u216, u217, u218, u219, u220, u221, u222, u223, u224, u225, u226, u227, u228, u229, u230, u231, u232, u233, u234, u235, u236, u237, u238, u239, u240, u241, u242, u243, u244, u245, u246, u247, u248, u249, u250, u251, u252, u253, u254, u255, u256, u257, u258, u259, u260, u261, u262, u263, u264, u265, u266], []⟩ w')) :
    Code.wp Yba.prog (nav [1, 1, 1, 1, 1, 0, 1, 3, 2, 1, 1, 0, 3, 1, 1, 1, 0, 1] (Yba.f15.body.getD .skip)) Q ⟨#[u0, u1, u2, u3, u4, .pointer (some ⟨G, 0, none⟩), .pointer (some ⟨x 43, 0, none⟩), .pointer (some ⟨x 44, 0, none⟩), .pointer (some ⟨x 42, 0, none⟩), .func (Fn.func 25) #[] #[.pointer (some ⟨x 42, 0, none⟩), .pointer (some ⟨x 43, 0, none⟩), .pointer (some ⟨x 44, 0, none⟩)], u10, i32 t, u12, v13, v14, u15, u16, u17, u18, u19, u20, u21, u22, u23, u24, u25, u26, u27, u28, u29, u30, u31, u32, u33, u34, u35, u36, u37, u38, u39, u40, u41, u42, u43, u44, u45, u46, u47, u48, u49, u50, .slice (some ⟨gw, 0, none⟩) (wv t).length (wv t).length, .int .i64 ((wv t).length : Int), .int .i64 0, u54, u55, u56, u57, u58, u59, u60, u61, u62, u63, u64, u65, u66, u67, u68, u69, u70, u71, u72, u73, u74, u75, u76, u77, u78, u79, u80, u81, u82, u83, u84, u85, u86, u87, u88, u89, u90, u91, u92, u93, u94, u95, u96, u97, u98, u99, u100, u101, u102, u103, u104, u105, u106, u107, u108, u109, u110, u111, u112, u113, u114, u115, u116, u117, u118, u119, u120, u121, u122, u123, u124, u125, u126, u127, u128, u129, u130, u131, u132, u133, u134, u135, u136, u137, u138, u139, u140, u141, u142, u143, u144, u145, u146, u147, u148, u149, u150, u151, u152, u153, u154, u155, u156, u157, u158, u159, u160, u161, u162, u163, u164, u165, u166, u167, u168, u169, u170, u171, u172, u173, u174, u175, u176, u177, u178, u179, u180, u181, u182, u183, u184, u185, u186, u187, u188, u189, u190, u191, u192, u193, u194, u195, u196, u197, u198, u199, u200, u201, u202, u203, u204, u205, u206, u207, u208, u209, u210, u211, u212, u213, u214, u215, u216, u217, u218, u219, u220, u221, u222, u223, u224, u225, u226, u227, u228, u229, u230, u231, u232, u233, u234, u235, u236, u237, u238, u239, u240, u241, u242, u243, u244, u245, u246, u247, u248, u249, u250, u251, u252, u253, u254, u255, u256, u257, u258, u259, u260, u261, u262, u263, u264, u265, u266], []⟩ w := by
  conv => arg 2; whnf
  obtain ⟨i0, hi0, hz0, hz1, hz2⟩ := info_parts info21
  have ns : ¬ Nset (401 + 2 * t) := by unfold Nset; omega
  have hwt : IntKind.i32.wrap ((t : Int) + 1) = (t : Int) + 1 := by rw [IntKind.wrap_i32]; omega
  go_wp2_with fail
  go_loopg [13, 53] (wv t).length (fun q s13 s53 wx => ∃ (j : Nat) (s' : NS), s53 = .int .i64 j ∧ j ≤ (wv t).length ∧ (wv t).length - j ≤ q ∧ Nj w0 wx R0 n b x mb s' s13 v14 ∧ L2 rv wv done t j (fun _ => False) s')
  case atStart => exact ⟨0, s, rfl, Nat.zero_le _, Nat.le_refl _, hN, hL⟩
  case round =>
    obtain ⟨j, s1, rfl, hjl, hjq, hN1, hL1⟩ := hrel
    by_cases hj : j < (wv t).length
    · obtain ⟨z, hz⟩ : ∃ z, (wv t)[j]? = some z := ⟨(wv t)[j], List.getElem?_eq_getElem hj⟩
      obtain ⟨hbk, hx0, hxs⟩ := filled_xs hF hj hz (by omega)
      have hx1 := hxs 1 (by omega) (by omega)
      have hx2 := hxs 2 (by omega) (by omega)
      have c0 : wr.cell? ⟨gw, j * 3, none⟩ = some (.string (keyS z)) := hN1.cell ns hbk hx0
      have c1 : wr.cell? ⟨gw, j * 3 + 1, none⟩ = some (.string ⟨#[]⟩) := hN1.cell ns hbk hx1
      have c2 : wr.cell? ⟨gw, j * 3 + 2, none⟩ = some (.bool false) := hN1.cell ns hbk hx2
      have j1 : (j : Int) < ((wv t).length : Int) := by omega
      clear hx0 hx1 hx2 hxs
      go_wp2_with fail
      have hk4 := hN1.ksle.1
      have hw4 := hL1.pl.wll
      have hr4 := hL1.pl.rll
      refine Calls.mono (Nj.id (hN1.alloc _) (by omega) (by omega) z) ?_
      rintro e w3 ⟨ks', wl', rl', rfl, hy, hN3, hd⟩
      obtain ⟨v, hv, hA, hB⟩ := hL1.step hz hd
      have hk3 := hN3.ksle.1
      obtain ⟨g, c, cb, cg, fg, hset⟩ := hN3.wAt hv
      have cb : w3.cell? ⟨x 43, 0, none⟩ = some (.slice (some ⟨g, 0, none⟩) wl'.length c) := cb
      have hql := (List.getElem?_eq_some_iff.1 hv).1
      have hlw := hL1.ll
      clear hd hy hv c0 c1 c2
      generalize ks'.idxOf (z % 4) = q at *
      have hq1 : (q : Int) < (wl'.length : Int) := by omega
      have hq2 : q ≤ 1000 := by
        have hAB : (if v = t + 1 then ({ s1 with ks := ks', wl := wl', rl := rl' } : NS) else { s1 with ks := ks', wl := wl'.set q (t + 1), rl := rl', lw := s1.lw ++ [q] }).wl.length = ks'.length := by
          by_cases e : v = t + 1
          · rw [if_pos e]; exact (hA e).pl.wll
          · rw [if_neg e]; exact (hB e).pl.wll
        have hks : ks'.length ≤ 4 := hk3
        split at hAB <;> simp at hAB <;> omega
      by_cases hv1 : v = t + 1
      · have e1 : (v : Int) = (t : Int) + 1 := by omega
        have HN : Hid (Nj w0 w3 R0 n b x mb { s1 with ks := ks', wl := wl', rl := rl' } u13 v14) := hN3
        have HA : Hid _ := hA hv1
        clear hA hB hset hN3 hN1 hL1 hN hL
        go_wp2_with fail
        go_roundg ((wv t).length - (j + 1))
        case measure => omega
        case rel => exact ⟨j + 1, _, by go_num, by omega, by omega, HN.out, HA.out⟩
      · have e1 : ¬ (v : Int) = (t : Int) + 1 := by omega
        have hN4 : Nj w0 (w3.setCell ⟨g, q, none⟩ (.int .i32 ((t : Int) + 1))) R0 n b x mb { s1 with ks := ks', wl := wl'.set q (t + 1), rl := rl' } u13 v14 := hset (t + 1)
        obtain ⟨R4, o4, p4, c4, hF4, hrow4, hv13, hafter⟩ := hN4.readyL q
        subst hv13
        have hrow4 : R4 51 = ⟨p4, c4, 21, 1, s1.lw.length, s1.lw.map i32⟩ := hrow4
        have HAFTER : Hid (∀ (gg cap : Nat) (w5 : World), Fam w0 w5 (put R4 51 ⟨some gg, cap, 21, 1, s1.lw.length + 1, s1.lw.map i32 ++ [i32 q]⟩) (some (mb, o4)) → Nj w0 w5 R0 n b x mb { s1 with ks := ks', wl := wl'.set q (t + 1), rl := rl', lw := s1.lw ++ [q] } (.slice (some ⟨gg, 0, none⟩) (s1.lw.length + 1) cap) v14) := hafter
        have HROW : Hid _ := hrow4
        have HB : Hid _ := hB hv1
        have hnew : ((w3.setCell ⟨g, q, none⟩ (.int .i32 ((t : Int) + 1))).alloc (.cells #[i32 q] 21)).heap[w3.heap.size]? = some (.cells #[i32 q] 21 (0, 0)) := by
          have hh := heap_alloc_new (w3.setCell ⟨g, q, none⟩ (.int .i32 ((t : Int) + 1))) (.cells #[i32 q] 21)
          have hs : (w3.setCell ⟨g, q, none⟩ (.int .i32 ((t : Int) + 1))).heap.size = w3.heap.size := by simp [World.setCell]
          rw [hs] at hh
          exact hh
        have HNEW : Hid _ := hnew
        clear hA hB hset hN3 hN1 hL1 hN hL hafter hrow4 hnew hN4
        go_wp2_with (at_builtin; refine wpList_fam_app (by rfl) _ _ _ (by rfl) 21 i0 _ 1 4 Yba.underlying22 hi0 hz0 hz1 hz2 rfl (by omega) (by omega) R4 51 p4 c4 s1.lw.length (s1.lw.map i32) HROW.out (by first | exact hF4.alloc _ | exact (hF4.alloc _).drew) (by rfl) (by omega) ⟨w3.heap.size, 0, none⟩ 1 [i32 q] (by rfl) (by rfl) (World.news_of_block (cs := #[i32 q]) (t := 21) (fr := (0, 0)) HNEW.out) (by simp [Value.oneCell']) ?_; intro gg cap w5 h5)
        go_roundg ((wv t).length - (j + 1))
        case measure => omega
        case rel => exact ⟨j + 1, _, by go_num, by omega, by omega, HAFTER.out gg cap w5 h5, HB.out⟩
    · obtain rfl : j = (wv t).length := by omega
      have j1 : ¬ (((wv t).length : Nat) : Int) < ((wv t).length : Int) := by omega
      have HN : Hid _ := hN1
      clear hN1 hN
      go_wp2_with fail
      exact HQ.out _ _ _ _ _ _ _ _ _ _ _ _ _ _ _ _ _ _ _ _ _ _ _ _ _ _ _ _ _ _ HN.out hL1
end Go.Proofs.Ybulkajny
