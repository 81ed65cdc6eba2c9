import Derived.Test.YbulkajnyNp4
import Derived.Test.YbulkajnyNpR
namespace Go.Proofs.Ybulkajny
open Go.RowKit Go.Sort Go.Maps
set_option linter.unusedVariables false

set_option maxRecDepth 100000 in
set_option maxHeartbeats 8000000 in
/-- The loop over the reads. -/
theorem loop3_any {w0 w : World} {R0 : Nat → Row} {n mb G t : Nat} {b x : Nat → Nat} {rv wv : Nat → List Nat} {done : List Nat} {s : NS} {Q : Exit → Act → World → Prop} {gx : List Value} {gr : Nat} {v13 v14 u0 u1 u2 u3 u4 u10 u12 u15 u16 u17 u18 u19 u20 u21 u22 u23 u24 u25 u26 u27 u28 u29 u30 u31 u32 u33 u34 u35 u36 u37 u38 u39 u40 u41 u42 u43 u44 u45 u46 u47 u48 u49 u50 u51 u52 u53 u54 u55 u56 u57 u58 u59 u60 u61 u62 u63 u64 u65 u66 u67 u68 u69 u70 u71 u72 u73 u74 u75 u76 u77 u78 u82 u83 u84 u85 u86 u87 u88 u89 u90 u91 u92 u93 u94 u95 u96 u97 u98 u99 u100 u101 u102 u103 u104 u105 u106 u107 u108 u109 u110 u111 u112 u113 u114 u115 u116 u117 u118 u119 u120 u121 u122 u123 u124 u125 u126 u127 u128 u129 u130 u131 u132 u133 u134 u135 u136 u137 u138 u139 u140 u141 u142 u143 u144 u145 u146 u147 u148 u149 u150 u151 u152 u153 u154 u155 u156 u157 u158 u159 u160 u161 u162 u163 u164 u165 u166 u167 u168 u169 u170 u171 u172 u173 u174 u175 u176 u177 u178 u179 u180 u181 u182 u183 u184 u185 u186 u187 u188 u189 u190 u191 u192 u193 u194 u195 u196 u197 u198 u199 u200 u201 u202 u203 u204 u205 u206 u207 u208 u209 u210 u211 u212 u213 u214 u215 u216 u217 u218 u219 u220 u221 u222 u223 u224 u225 u226 u227 u228 u229 u230 u231 u232 u233 u234 u235 u236 u237 u238 u239 u240 u241 u242 u243 u244 u245 u246 u247 u248 u249 u250 u251 u252 u253 u254 u255 u256 u257 u258 u259 u260 u261 u262 u263 u264 u265 u266 : Value} (hN : Nj w0 w R0 n b x mb s v13 v14) (hL : L3 rv wv done t 0 (fun _ => False) s) (htd : t ∉ done) (hF : Filled R0 (400 + 2 * t) 65 2 gr (rv t) (rv t).length) (hl : (rv t).length ≤ 256) (hlw : (wv t).length ≤ 256)
    (hG : R0 0 = ⟨some G, 1, 49, 15, 1, gx⟩) (hx0 : gx[0]? = some (.slice (some ⟨b 1, 0, none⟩) n n)) (hx1 : gx[1]? = some (.slice (some ⟨b 2, 0, none⟩) n n)) (hx2 : gx[2]? = some (.slice (some ⟨b 47, 0, none⟩) n n)) (ht : t < n) (hn : n ≤ 64)
    (HQ : Hid (∀ (y14 y19 y20 y81 y82 y83 y84 y85 y86 y87 y88 y89 y90 y91 y92 y93 y94 y95 y96 y97 y98 y99 y100 y101 y102 y103 y104 y105 y106 y107 y108 y109 y110 y111 y112 y113 y114 y115 y116 y117 y118 y119 y120 y121 y122 y123 y124 y125 y126 y127 y128 : Value) (w' : World) (s' : NS), Nj w0 w' R0 n b x mb s' v13 y14 → L3 rv wv done t (rv t).length (fun _ => False) s' → Q .normal ⟨#[u0, u1, u2, u3, u4, .pointer (some ⟨G, 0, none⟩), .pointer (some ⟨x 43, 0, none⟩), .pointer (some ⟨x 44, 0, none⟩), .pointer (some ⟨x 42, 0, none⟩), .func (Fn.func 25) #[] #[.pointer (some ⟨x 42, 0, none⟩), .pointer (some ⟨x 43, 0, none⟩), .pointer (some ⟨x 44, 0, none⟩)], u10, i32 t, u12, v13, y14, u15, u16, u17, u18, y19, y20, u21, u22, u23, u24, u25, u26, u27, u28, u29, u30, u31, u32, u33, u34, u35, u36, u37, u38, u39, u40, u41, u42, u43, u44, u45, u46, u47, u48, u49, u50, u51, u52, u53, u54, u55, u56, u57, u58, u59, u60, u61, u62, u63, u64, u65, u66, u67, u68, u69, u70, u71, u72, u73, u74, u75, u76, u77, u78, .slice (some ⟨gr, 0, none⟩) (rv t).length (rv t).length, .int .i64 ((rv t).length : Int), y81, y82, y83, y84, y85, y86, y87, y88, y89, y90, y91, y92, y93, y94, y95, y96, y97, y98, y99, y100, y101, y102, y103, y104, y105, y106, y107, y108, y109, y110, y111, y112, y113, y114, y115, y116, y117, y118, y119, y120, y121, y122, y123, y124, y125, y126, y127, y128, u129, u130, u131, u132, u133, u134, u135, u136, u137, u138, u139, u140, u141, u142, u143, u144, u145, u146, u147, u148, u149, u150, u151, u152, u153, u154, u155, u156, u157, u158, u159, u160, u161, u162, u163, u164, u165, u166, u167, u168, u169, u170, u171, u172, u173, u174, u175, u176, u177, u178, u179, u180, u181, u182, u183, u184, u185, u186, u187, u188, u189, u190, u191, u192, u193, u194, u195, u196, u197, u198, u199, u200, u201, u202, u203, u204, u205, u206, u207, u208, u209, u210, u211, u212, u213, u214, u215, u216, u217, u218, u219, u220, u221, u222, u223, u224, u225, u226, u227, u228, u229, u230, u231, u232, u233, u234, u235, u236, u237, u238, u239, u240, u241, u242, u243, u244, u245, u246, u247, u248, u249, u250, u251, u252, u253, u254, u255, u256, u257, u258, u259, u260, u261, u262, u263, u264, u265, u266], []⟩ w')) :
    Code.wp Yba.prog (nav [1, 1, 1, 1, 1, 0, 1, 3, 2, 1, 1, 0, 3, 1, 1, 1, 1, 0, 1] (Yba.f15.body.getD .skip)) Q ⟨#[u0, u1, u2, u3, u4, .pointer (some ⟨G, 0, none⟩), .pointer (some ⟨x 43, 0, none⟩), .pointer (some ⟨x 44, 0, none⟩), .pointer (some ⟨x 42, 0, none⟩), .func (Fn.func 25) #[] #[.pointer (some ⟨x 42, 0, none⟩), .pointer (some ⟨x 43, 0, none⟩), .pointer (some ⟨x 44, 0, none⟩)], u10, i32 t, u12, v13, v14, u15, u16, u17, u18, u19, u20, u21, u22, u23, u24, u25, u26, u27, u28, u29, u30, u31, u32, u33, u34, u35, u36, u37, u38, u39, u40, u41, u42, u43, u44, u45, u46, u47, u48, u49, u50, u51, u52, u53, u54, u55, u56, u57, u58, u59, u60, u61, u62, u63, u64, u65, u66, u67, u68, u69, u70, u71, u72, u73, u74, u75, u76, u77, u78, .slice (some ⟨gr, 0, none⟩) (rv t).length (rv t).length, .int .i64 ((rv t).length : Int), .int .i64 0, u82, u83, u84, u85, u86, u87, u88, u89, u90, u91, u92, u93, u94, u95, u96, u97, u98, u99, u100, u101, u102, u103, u104, u105, u106, u107, u108, u109, u110, u111, u112, u113, u114, u115, u116, u117, u118, u119, u120, u121, u122, u123, u124, u125, u126, u127, u128, u129, u130, u131, u132, u133, u134, u135, u136, u137, u138, u139, u140, u141, u142, u143, u144, u145, u146, u147, u148, u149, u150, u151, u152, u153, u154, u155, u156, u157, u158, u159, u160, u161, u162, u163, u164, u165, u166, u167, u168, u169, u170, u171, u172, u173, u174, u175, u176, u177, u178, u179, u180, u181, u182, u183, u184, u185, u186, u187, u188, u189, u190, u191, u192, u193, u194, u195, u196, u197, u198, u199, u200, u201, u202, u203, u204, u205, u206, u207, u208, u209, u210, u211, u212, u213, u214, u215, u216, u217, u218, u219, u220, u221, u222, u223, u224, u225, u226, u227, u228, u229, u230, u231, u232, u233, u234, u235, u236, u237, u238, u239, u240, u241, u242, u243, u244, u245, u246, u247, u248, u249, u250, u251, u252, u253, u254, u255, u256, u257, u258, u259, u260, u261, u262, u263, u264, u265, u266], []⟩ w := by
  conv => arg 2; whnf
  obtain ⟨i0, hi0, hz0, hz1, hz2⟩ := info_parts info21
  have ns : ¬ Nset (400 + 2 * t) := by unfold Nset; omega
  have hwt : IntKind.i32.wrap ((t : Int) + 1) = (t : Int) + 1 := by rw [IntKind.wrap_i32]; omega
  go_wp2_with fail
  go_loopg [14, 81] (rv t).length (fun q s14 s81 wx => ∃ (j : Nat) (s' : NS), s81 = .int .i64 j ∧ j ≤ (rv t).length ∧ (rv t).length - j ≤ q ∧ Nj w0 wx R0 n b x mb s' v13 s14 ∧ L3 rv wv done t j (fun _ => False) s')
  case atStart => exact ⟨0, s, rfl, Nat.zero_le _, Nat.le_refl _, hN, hL⟩
  case round =>
    obtain ⟨j, s1, rfl, hjl, hjq, hN1, hL1⟩ := hrel
    clear hN hL
    by_cases hj : j < (rv t).length
    · obtain ⟨z, hz⟩ : ∃ z, (rv t)[j]? = some z := ⟨(rv t)[j], List.getElem?_eq_getElem hj⟩
      obtain ⟨hbk, hx0', hxs⟩ := filled_xs hF hj hz (by omega)
      have hx1' := hxs 1 (by omega) (by omega)
      have c0 : wr.cell? ⟨gr, j * 2, none⟩ = some (.string (keyS z)) := hN1.cell ns hbk hx0'
      have c1 : wr.cell? ⟨gr, j * 2 + 1, none⟩ = some (.pointer none) := hN1.cell ns hbk hx1'
      have j1 : (j : Int) < ((rv t).length : Int) := by omega
      have hk4 := hN1.ksle.1
      have hw4 := hL1.pl.wll
      have hr4 := hL1.pl.rll
      clear hx0' hx1' hxs
      refine wp_seq_k (fun K1 hK => ?_)
      have HK1 : Hid _ := hK
      clear hK
      go_wp2_with fail
      refine HK1.out _ _ ?_
      clear HK1
      refine wp_seq_k (fun K1 hK => ?_)
      have HK1 : Hid _ := hK
      clear hK
      go_wp2_with fail
      refine HK1.out _ _ ?_
      clear HK1
      refine wp_seq_k (fun K9 hK => ?_)
      have HK9 : Hid _ := hK
      clear hK
      refine wp_block ?_
      refine wp_seq_k (fun K1 hK => ?_)
      have HK1 : Hid _ := hK
      clear hK
      go_wp2_with fail
      refine HK1.out _ _ ?_
      clear HK1
      refine wp_seq_k (fun K1 hK => ?_)
      have HK1 : Hid _ := hK
      clear hK
      go_wp2_with fail
      refine Calls.mono (Nj.id (hN1.alloc _) (by omega) (by omega) z) ?_
      rintro e w3 ⟨ks', wl', rl', rfl, hy, hN3, hd⟩
      obtain ⟨v, u, hv, hu, hA, hB, hC⟩ := hL1.step htd hz hd
      have hN3 : Nj w0 w3 R0 n b x mb { s1 with ks := ks', wl := wl', rl := rl' } v13 u14 := hN3
      obtain ⟨g, c, cb, cg, fg, hset⟩ := hN3.rAt hv
      have cb : w3.cell? ⟨x 44, 0, none⟩ = some (.slice (some ⟨g, 0, none⟩) rl'.length c) := cb
      have hql := (List.getElem?_eq_some_iff.1 hv).1
      have hl2 := hL1.l2
      clear hd hy c0 c1 hN1
      generalize ks'.idxOf (z % 4) = q at *
      have hq1 : (q : Int) < (rl'.length : Int) := by omega
      have hset : ∀ u_1, Nj w0 (w3.setCell ⟨g, q, none⟩ (i32 u_1)) R0 n b x mb { s1 with ks := ks', wl := wl', rl := rl'.set q u_1 } v13 u14 := hset
      by_cases hv1 : v = t + 1
      · have e1 : (v : Int) = (t : Int) + 1 := by omega
        have HN : Hid (Nj w0 w3 R0 n b x mb { s1 with ks := ks', wl := wl', rl := rl' } v13 u14) := hN3
        have HA : Hid _ := hA hv1
        clear hA hB hC hset hN3 hL1
        go_wp2_with fail
        refine HK1.out _ _ ?_
        clear HK1
        go_wp2_with fail
        refine HK9.out _ _ ?_
        clear HK9
        go_wp2_with fail
        go_roundg ((rv t).length - (j + 1))
        case measure => omega
        case rel => exact ⟨j + 1, _, by go_num, by omega, by omega, HN.out, HA.out⟩
      · have e1 : ¬ (v : Int) = (t : Int) + 1 := by omega
        have hN4 : Nj w0 (w3.setCell ⟨g, q, none⟩ (.int .i32 ((t : Int) + 1))) R0 n b x mb { s1 with ks := ks', wl := wl', rl := rl'.set q (t + 1) } v13 u14 := hset (t + 1)
        have hB := hB hv1
        have hC := hC hv1
        clear hA hset hN3
        go_wp2_with fail
        refine HK1.out _ _ ?_
        clear HK1
        refine wp_seq_k (fun K1 hK => ?_)
        have HK1 : Hid _ := hK
        clear hK
        go_wp2_with fail
        refine HK1.out _ _ ?_
        clear HK1
        refine wp_seq_k (fun K1 hK => ?_)
        have HK1 : Hid _ := hK
        clear hK
        go_wp2_with fail
        refine HK1.out _ _ ?_
        clear HK1
        clear cb cg fg hv e1
        generalize w3.setCell ⟨g, q, none⟩ (.int .i32 ((t : Int) + 1)) = w4 at *
        obtain ⟨g2, c2, cb2, cg2, _, _⟩ := hN4.wAt hu
        have cb2 : w4.cell? ⟨x 43, 0, none⟩ = some (.slice (some ⟨g2, 0, none⟩) wl'.length c2) := cb2
        have hq2 : (q : Int) < (wl'.length : Int) := by have := (List.getElem?_eq_some_iff.1 hu).1; omega
        by_cases hu1 : u = t + 1
        · have e2 : (u : Int) = (t : Int) + 1 := by omega
          have hB := hB hu1
          refine wp_seq_k (fun K1 hK => ?_)
          have HK1 : Hid _ := hK
          clear hK
          go_wp2_with fail
          refine HK1.out _ _ ?_
          clear HK1
          go_wp2_with fail
          refine reg25 (rv := rv) (wv := wv) (done := done) (q := q) hN4 hG hx0 hx1 hx2 ht hn (by show (s1.rds t).length ≤ 1000000; omega) ?_
          intro _ _ _ _ _ _ _ _ _ _ _ _ _ _ _ _ w5 hN5
          have HN : Hid (Nj w0 w5 R0 n b x mb { s1 with ks := ks', wl := wl', rl := rl'.set q (t + 1), rds := ud s1.rds t (s1.rds t ++ [q]) } v13 u14) := hN5
          have HB : Hid _ := hB
          clear hN5 hN4 hB hC hL1
          refine HK9.out _ _ ?_
          clear HK9
          go_wp2_with fail
          go_roundg ((rv t).length - (j + 1))
          case measure => omega
          case rel => exact ⟨j + 1, _, by go_num, by omega, by omega, HN.out, HB.out⟩
        · have e2 : ¬ (u : Int) = (t : Int) + 1 := by omega
          have hC := hC hu1
          obtain ⟨R4, o4, p4, c4, hF4, hrow4, hv14, hafter⟩ := hN4.readyP q
          subst hv14
          have HAFTER : Hid (∀ (gg cap : Nat) (w5 : World), Fam w0 w5 (put R4 52 ⟨some gg, cap, 21, 1, s1.lp.length + 1, s1.lp.map i32 ++ [i32 q]⟩) (some (mb, o4)) → Nj w0 w5 R0 n b x mb { s1 with ks := ks', wl := wl', rl := rl'.set q (t + 1), lp := s1.lp ++ [q] } v13 (.slice (some ⟨gg, 0, none⟩) (s1.lp.length + 1) cap)) := hafter
          have HROW : Hid (R4 52 = ⟨p4, c4, 21, 1, s1.lp.length, s1.lp.map i32⟩) := hrow4
          have HC : Hid _ := hC
          clear hB hC hN4 hafter hrow4 hL1
          refine wp_seq_k (fun K1 hK => ?_)
          have HK1 : Hid _ := hK
          clear hK
          go_wp2_with fail
          refine HK1.out _ _ ?_
          clear HK1
          clear cb2 cg2
          go_wp2_with (at_builtin; refine wpList_fam_app (by rfl) _ _ _ (by rfl) 21 i0 _ 1 4 Yba.underlying22 hi0 hz0 hz1 hz2 rfl (by omega) (by omega) R4 52 p4 c4 s1.lp.length (s1.lp.map i32) HROW.out (by first | exact hF4.alloc _ | exact (hF4.alloc _).drew) (by rfl) (by omega) ⟨w4.heap.size, 0, none⟩ 1 [i32 q] (by rfl) (by rfl) (World.news_of_block (cs := #[i32 q]) (t := 21) (fr := (0, 0)) (heap_alloc_new w4 _)) (by simp [Value.oneCell']) ?_; intro gg cap w5 h5)
          refine HK9.out _ _ ?_
          clear HK9
          go_wp2_with fail
          go_roundg ((rv t).length - (j + 1))
          case measure => omega
          case rel => exact ⟨j + 1, _, by go_num, by omega, by omega, HAFTER.out gg cap w5 h5, HC.out⟩
    · obtain rfl : j = (rv t).length := by omega
      have j1 : ¬ (((rv t).length : Nat) : Int) < ((rv t).length : Int) := by omega
      have HN : Hid _ := hN1
      clear hN1
      go_wp2_with fail
      exact HQ.out _ _ _ _ _ _ _ _ _ _ _ _ _ _ _ _ _ _ _ _ _ _ _ _ _ _ _ _ _ _ _ _ _ _ _ _ _ _ _ _ _ _ _ _ _ _ _ _ _ _ _ _ _ HN.out hL1
end Go.Proofs.Ybulkajny
