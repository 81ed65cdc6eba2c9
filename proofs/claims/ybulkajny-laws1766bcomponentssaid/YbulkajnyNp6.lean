import Derived.Test.YbulkajnyNpR
namespace Go.Proofs.Ybulkajny
open Go.RowKit Go.Sort Go.Maps
set_option linter.unusedVariables false

theorem n4_zero (t : Nat) (s : NS) : { s with wrs := ud s.wrs t (s.rds t) } = n4 t s 0 := by
  unfold n4
  simp
theorem Nj.lwAt {w0 w : World} {R0 : Nat → Row} {n mb : Nat} {b x : Nat → Nat} {s : NS} {v13 v14 : Value} (h : Nj w0 w R0 n b x mb s v13 v14) {j k : Nat} (hk : s.lw[j]? = some k) : ∃ g c, v13 = .slice (some ⟨g, 0, none⟩) s.lw.length c ∧ w.cell? ⟨g, j, none⟩ = some (i32 k) := by
  obtain ⟨R, o, D, h, hI, hf, hR⟩ := h
  obtain ⟨p, c, hrow, hv⟩ := hf.lw
  have hok := h.ok 51
  rw [hrow] at hok
  obtain ⟨g, rfl⟩ := hok.at hk
  exact ⟨g, c, hv, h.cell (i := 51) (by rw [hrow]) (by rw [hrow]; simp [hk])⟩
theorem Nj.lwLen {w0 w : World} {R0 : Nat → Row} {n mb : Nat} {b x : Nat → Nat} {s : NS} {v13 v14 : Value} (h : Nj w0 w R0 n b x mb s v13 v14) : ∃ P c, v13 = .slice P s.lw.length c := by
  obtain ⟨R, o, D, h, hI, hf, hR⟩ := h
  obtain ⟨p, c, hrow, hv⟩ := hf.lw
  exact ⟨_, c, hv⟩

set_option maxRecDepth 100000 in
set_option maxHeartbeats 8000000 in
/-- The loop over the local writes. -/
theorem loop4_any {w0 w : World} {R0 : Nat → Row} {n mb G t : Nat} {b x : Nat → Nat} {rv wv : Nat → List Nat} {done : List Nat} {s : NS} {Q : Exit → Act → World → Prop} {gx : List Value} {v13 v14 u0 u1 u2 u3 u4 u10 u12 u15 u16 u17 u18 u19 u20 u21 u22 u23 u24 u25 u26 u27 u28 u29 u30 u31 u32 u33 u34 u35 u36 u37 u38 u39 u40 u41 u42 u43 u44 u45 u46 u47 u48 u49 u50 u51 u52 u53 u54 u55 u56 u57 u58 u59 u60 u61 u62 u63 u64 u65 u66 u67 u68 u69 u70 u71 u72 u73 u74 u75 u76 u77 u78 u79 u80 u81 u82 u83 u84 u85 u86 u87 u88 u89 u90 u91 u92 u93 u94 u95 u96 u97 u98 u99 u100 u101 u102 u103 u104 u105 u106 u107 u108 u109 u110 u111 u112 u113 u114 u115 u116 u117 u118 u119 u120 u121 u122 u123 u124 u125 u126 u127 u128 u129 u130 u131 u132 u133 u134 u135 u136 u137 u138 u139 u140 u141 u142 u143 u144 u145 u146 u147 u148 u149 u150 u151 u152 u153 u154 u155 u156 u157 u161 u162 u163 u164 u165 u166 u167 u168 u169 u170 u171 u172 u173 u174 u175 u176 u177 u178 u179 u180 u181 u182 u183 u184 u185 u186 u187 u188 u189 u190 u191 u192 u193 u194 u195 u196 u197 u198 u199 u200 u201 u202 u203 u204 u205 u206 u207 u208 u209 u210 u211 u212 u213 u214 u215 u216 u217 u218 u219 u220 u221 u222 u223 u224 u225 u226 u227 u228 u229 u230 u231 u232 u233 u234 u235 u236 u237 u238 u239 u240 u241 u242 u243 u244 u245 u246 u247 u248 u249 u250 u251 u252 u253 u254 u255 u256 u257 u258 u259 u260 u261 u262 u263 u264 u265 u266 : Value} (hN : Nj w0 w R0 n b x mb (n4 t s 0) v13 v14) (hL : L3 rv wv done t (rv t).length (fun _ => False) s) (hl : (rv t).length ≤ 256) (hlw : (wv t).length ≤ 256)
    (hG : R0 0 = ⟨some G, 1, 49, 15, 1, gx⟩) (hx0 : gx[0]? = some (.slice (some ⟨b 1, 0, none⟩) n n)) (hx1 : gx[1]? = some (.slice (some ⟨b 2, 0, none⟩) n n)) (hx2 : gx[2]? = some (.slice (some ⟨b 47, 0, none⟩) n n)) (ht : t < n) (hn : n ≤ 64)
    (HQ : Hid (∀ (y22 y160 y161 y162 y163 y164 y165 y166 y167 y168 y169 y170 y171 y172 y173 y174 y175 y176 y177 y178 y179 y180 y181 y182 y183 y184 y185 y186 y187 : Value) (w' : World), Nj w0 w' R0 n b x mb (n4 t s s.lw.length) v13 v14 → Q .normal ⟨#[u0, u1, u2, u3, u4, .pointer (some ⟨G, 0, none⟩), .pointer (some ⟨x 43, 0, none⟩), .pointer (some ⟨x 44, 0, none⟩), .pointer (some ⟨x 42, 0, none⟩), .func (Fn.func 25) #[] #[.pointer (some ⟨x 42, 0, none⟩), .pointer (some ⟨x 43, 0, none⟩), .pointer (some ⟨x 44, 0, none⟩)], u10, i32 t, u12, v13, v14, u15, u16, u17, u18, u19, u20, u21, y22, u23, u24, u25, u26, u27, u28, u29, u30, u31, u32, u33, u34, u35, u36, u37, u38, u39, u40, u41, u42, u43, u44, u45, u46, u47, u48, u49, u50, u51, u52, u53, u54, u55, u56, u57, u58, u59, u60, u61, u62, u63, u64, u65, u66, u67, u68, u69, u70, u71, u72, u73, u74, u75, u76, u77, u78, u79, u80, u81, u82, u83, u84, u85, u86, u87, u88, u89, u90, u91, u92, u93, u94, u95, u96, u97, u98, u99, u100, u101, u102, u103, u104, u105, u106, u107, u108, u109, u110, u111, u112, u113, u114, u115, u116, u117, u118, u119, u120, u121, u122, u123, u124, u125, u126, u127, u128, u129, u130, u131, u132, u133, u134, u135, u136, u137, u138, u139, u140, u141, u142, u143, u144, u145, u146, u147, u148, u149, u150, u151, u152, u153, u154, u155, u156, u157, v13, .int .i64 (s.lw.length : Int), y160, y161, y162, y163, y164, y165, y166, y167, y168, y169, y170, y171, y172, y173, y174, y175, y176, y177, y178, y179, y180, y181, y182, y183, y184, y185, y186, y187, u188, u189, u190, u191, u192, u193, u194, u195, u196, u197, u198, u199, u200, u201, u202, u203, u204, u205, u206, u207, u208, u209, u210, u211, u212, u213, u214, u215, u216, u217, u218, u219, u220, u221, u222, u223, u224, u225, u226, u227, u228, u229, u230, u231, u232, u233, u234, u235, u236, u237, u238, u239, u240, u241, u242, u243, u244, u245, u246, u247, u248, u249, u250, u251, u252, u253, u254, u255, u256, u257, u258, u259, u260, u261, u262, u263, u264, u265, u266], []⟩ w')) :
    Code.wp Yba.prog (nav [1, 1, 1, 1, 1, 0, 1, 3, 2, 1, 1, 0, 3, 1, 1, 1, 1, 1, 1, 1, 0, 1] (Yba.f15.body.getD .skip)) Q ⟨#[u0, u1, u2, u3, u4, .pointer (some ⟨G, 0, none⟩), .pointer (some ⟨x 43, 0, none⟩), .pointer (some ⟨x 44, 0, none⟩), .pointer (some ⟨x 42, 0, none⟩), .func (Fn.func 25) #[] #[.pointer (some ⟨x 42, 0, none⟩), .pointer (some ⟨x 43, 0, none⟩), .pointer (some ⟨x 44, 0, none⟩)], u10, i32 t, u12, v13, v14, u15, u16, u17, u18, u19, u20, u21, u22, u23, u24, u25, u26, u27, u28, u29, u30, u31, u32, u33, u34, u35, u36, u37, u38, u39, u40, u41, u42, u43, u44, u45, u46, u47, u48, u49, u50, u51, u52, u53, u54, u55, u56, u57, u58, u59, u60, u61, u62, u63, u64, u65, u66, u67, u68, u69, u70, u71, u72, u73, u74, u75, u76, u77, u78, u79, u80, u81, u82, u83, u84, u85, u86, u87, u88, u89, u90, u91, u92, u93, u94, u95, u96, u97, u98, u99, u100, u101, u102, u103, u104, u105, u106, u107, u108, u109, u110, u111, u112, u113, u114, u115, u116, u117, u118, u119, u120, u121, u122, u123, u124, u125, u126, u127, u128, u129, u130, u131, u132, u133, u134, u135, u136, u137, u138, u139, u140, u141, u142, u143, u144, u145, u146, u147, u148, u149, u150, u151, u152, u153, u154, u155, u156, u157, v13, .int .i64 (s.lw.length : Int), .int .i64 0, u161, u162, u163, u164, u165, u166, u167, u168, u169, u170, u171, u172, u173, u174, u175, u176, u177, u178, u179, u180, u181, u182, u183, u184, u185, u186, u187, u188, u189, u190, u191, u192, u193, u194, u195, u196, u197, u198, u199, u200, u201, u202, u203, u204, u205, u206, u207, u208, u209, u210, u211, u212, u213, u214, u215, u216, u217, u218, u219, u220, u221, u222, u223, u224, u225, u226, u227, u228, u229, u230, u231, u232, u233, u234, u235, u236, u237, u238, u239, u240, u241, u242, u243, u244, u245, u246, u247, u248, u249, u250, u251, u252, u253, u254, u255, u256, u257, u258, u259, u260, u261, u262, u263, u264, u265, u266], []⟩ w := by
  conv => arg 2; whnf
  have hwt : IntKind.i32.wrap ((t : Int) + 1) = (t : Int) + 1 := by rw [IntKind.wrap_i32]; omega
  have hll := hL.ll
  obtain ⟨P13, c13, rfl⟩ : ∃ P c, v13 = .slice P s.lw.length c := hN.lwLen
  go_wp2_with fail
  go_loopg [160] s.lw.length (fun q s160 wx => ∃ (j : Nat), s160 = .int .i64 j ∧ j ≤ s.lw.length ∧ s.lw.length - j ≤ q ∧ Nj w0 wx R0 n b x mb (n4 t s j) (.slice P13 s.lw.length c13) v14)
  case atStart => exact ⟨0, rfl, Nat.zero_le _, Nat.le_refl _, hN⟩
  case round =>
    obtain ⟨j, rfl, hjl, hjq, hN1⟩ := hrel
    clear hN
    by_cases hj : j < s.lw.length
    · obtain ⟨k, hk⟩ : ∃ k, s.lw[j]? = some k := ⟨s.lw[j], List.getElem?_eq_getElem hj⟩
      obtain ⟨g, c, hv, ck⟩ : ∃ g c, Value.slice P13 s.lw.length c13 = .slice (some ⟨g, 0, none⟩) s.lw.length c ∧ wr.cell? ⟨g, j, none⟩ = some (i32 k) := hN1.lwAt (s := n4 t s j) hk
      injection hv with hP _ hc
      subst hP hc
      have j1 : (j : Int) < (s.lw.length : Int) := by omega
      have hks : k < s.rl.length := by rw [hL.pl.rll]; exact hL.spw.lt (List.mem_of_getElem? hk)
      obtain ⟨v, hv⟩ : ∃ v, s.rl[k]? = some v := ⟨s.rl[k], List.getElem?_eq_getElem hks⟩
      obtain ⟨g2, c2, cb2, cg2, _, _⟩ := hN1.rAt (s := n4 t s j) hv
      have cb2 : wr.cell? ⟨x 44, 0, none⟩ = some (.slice (some ⟨g2, 0, none⟩) s.rl.length c2) := cb2
      have hq2 : (k : Int) < (s.rl.length : Int) := by omega
      have hr1 := hL.r1 k v hv
      refine wp_seq_k (fun K1 hK => ?_)
      have HK1 : Hid _ := hK
      clear hK
      go_wp2_with fail
      refine HK1.out _ _ ?_
      clear HK1
      refine wp_seq_k (fun K1 hK => ?_)
      have HK1 : Hid _ := hK
      clear hK
      go_wp2_with fail
      refine HK1.out _ _ ?_
      clear HK1
      refine wp_seq_k (fun K9 hK => ?_)
      have HK9 : Hid _ := hK
      clear hK
      refine wp_block ?_
      refine wp_seq_k (fun K1 hK => ?_)
      have HK1 : Hid _ := hK
      clear hK
      go_wp2_with fail
      refine HK1.out _ _ ?_
      clear HK1
      by_cases hv1 : v = t + 1
      · have e1 : (v : Int) = (t : Int) + 1 := by omega
        have HN : Hid (Nj w0 wr R0 n b x mb (n4 t s (j + 1)) (.slice (some ⟨g, 0, none⟩) s.lw.length c13) v14) := by
          have := n4_skip hk (hr1.1 hv1)
          show Nj _ _ _ _ _ _ _ _ _ _
          rw [this]; exact hN1
        clear hN1
        go_wp2_with fail
        refine HK9.out _ _ ?_
        clear HK9
        go_wp2_with fail
        go_roundg (s.lw.length - (j + 1))
        case measure => omega
        case rel => exact ⟨j + 1, by go_num, by omega, by omega, HN.out⟩
      · have e1 : ¬ (v : Int) = (t : Int) + 1 := by omega
        have hpush := n4_push hk (fun hm => hv1 (hr1.2 hm))
        have hlen : ((n4 t s j).wrs t).length ≤ 1000000 := by
          have l2 := hL.l2
          have ll := hL.ll
          have e : (n4 t s j).wrs t = s.rds t ++ (s.lw.take j).filter (fun k => !decide (k ∈ s.rds t ++ s.lp)) := ud_eq
          have := List.length_filter_le (fun k => !decide (k ∈ s.rds t ++ s.lp)) (s.lw.take j)
          rw [e, List.length_append]
          simp only [List.length_take] at this
          omega
        refine wp_seq_k (fun K1 hK => ?_)
        have HK1 : Hid _ := hK
        clear hK
        go_wp2_with fail
        refine HK1.out _ _ ?_
        clear HK1
        go_wp2_with fail
        refine reg34 (rv := rv) (wv := wv) (done := done) hN1 hG hx0 hx1 hx2 ht hn hlen ?_
        intro _ _ _ _ _ _ _ _ _ _ _ _ _ _ _ _ w5 hN5
        have HN : Hid (Nj w0 w5 R0 n b x mb (n4 t s (j + 1)) (.slice (some ⟨g, 0, none⟩) s.lw.length c13) v14) := by
          show Nj _ _ _ _ _ _ _ _ _ _
          rw [← hpush]; exact hN5
        clear hN5 hN1
        refine HK9.out _ _ ?_
        clear HK9
        go_wp2_with fail
        go_roundg (s.lw.length - (j + 1))
        case measure => omega
        case rel => exact ⟨j + 1, by go_num, by omega, by omega, HN.out⟩
    · obtain rfl : j = s.lw.length := by omega
      have j1 : ¬ ((s.lw.length : Nat) : Int) < (s.lw.length : Int) := by omega
      have HN : Hid _ := hN1
      clear hN1
      go_wp2_with fail
      exact HQ.out _ _ _ _ _ _ _ _ _ _ _ _ _ _ _ _ _ _ _ _ _ _ _ _ _ _ _ _ _ _ HN.out
end Go.Proofs.Ybulkajny
