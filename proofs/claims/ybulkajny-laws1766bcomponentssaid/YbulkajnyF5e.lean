import Derived.Test.YbulkajnyF5b
namespace Go.Proofs.Ybulkajny
open Go.RowKit Go.Sort
set_option linter.unusedVariables false

def rchF (inn : Nat → Bool) (fr fw' : Nat → Int) (i j : Nat) : Bool := inn i && inn j && decide (i ≠ j) && decide (bits .and .u8 (fr i) (fw' j) ≠ 0)

set_option maxRecDepth 100000 in
set_option maxHeartbeats 8000000 in
/-- The loops that lay the arcs. -/
theorem reach_any {w0 w : World} {R0 : Nat → Row} {n B bI B7 B8 : Nat} {F : Nat → Nat → Bool} {inn : Nat → Bool} {fr fw' : Nat → Int} {Q : Exit → Act → World → Prop} {u0 u1 u2 u4 u5 u9 u10 u11 u12 u13 u14 u17 u18 u19 u20 u21 u22 u23 u24 u25 u26 u27 u28 u29 u30 u31 u32 u33 u34 u35 u36 u37 u38 u39 u40 u41 u42 u43 u44 u45 u46 u47 u48 u49 u50 u51 u52 u53 u54 u55 u56 u57 u58 u59 u60 u61 u62 u63 u64 u65 u66 u67 u68 u69 u70 u71 u72 u73 u74 u75 u76 u77 u78 u79 u80 u81 u82 u83 u84 u85 u86 u87 u88 u89 u90 u91 u92 u93 u94 u95 u96 u97 u98 u99 u100 u101 u102 u103 u104 u105 u106 u107 u108 u109 u110 u111 u112 u113 u114 u115 u116 u117 u118 u119 u120 u121 u122 u123 u124 u125 u126 u127 u128 u129 u130 u131 u132 u133 u134 u135 u136 u137 u138 u139 u140 u141 u142 u143 u144 u145 u146 u147 u148 u149 u150 u151 u152 u153 u154 u155 u156 u157 u158 u159 u160 u161 u162 u163 u164 u165 u166 u167 u168 u169 u170 u171 u172 u173 u174 u175 u176 u177 u178 u179 u180 u181 u182 u183 u184 u185 u186 u187 u188 u189 u190 u191 u192 u193 u194 u195 u196 u197 u198 u199 u200 u201 u202 u203 u204 u205 u206 u207 u208 u209 u210 u211 u212 u213 u214 u215 u216 u217 u218 u219 u220 u221 u222 u223 u224 u225 u226 u227 u228 u229 u230 u231 u232 u233 u234 u235 u236 u237 u238 u239 u240 u241 u242 u243 u244 u245 u246 u247 u248 u249 u250 u251 u252 u253 u254 u255 u256 u257 u258 u259 u260 u261 u262 u263 u264 u265 u266 u267 u268 u269 u270 u271 u272 u273 u274 u275 u276 u277 u278 u279 u280 u281 u282 u283 u284 u285 u286 u287 u288 u289 u290 u291 u292 u293 u294 u295 u296 u297 u298 u299 u300 u301 u302 u303 u304 u305 u306 u307 u308 u309 u310 u311 u312 u313 u314 u315 u316 u317 u318 u319 u320 u321 u322 u323 u324 u325 u326 u327 u328 u329 u330 u331 u332 u333 u334 u335 u336 u337 u338 u339 u340 u341 u342 u343 u344 u345 u346 u347 u348 : Value} (hF : Fk w0 w R0 n B 0 F) (hin : R0 18 = ⟨some bI, n, 4, 1, n, tab n (fun i => .bool (inn i))⟩) (h7 : R0 70 = maskRow B7 n fr) (h8 : R0 71 = maskRow B8 n fw') (hn : n ≤ 64)
    (HQ : Hid (∀ (y16 y17 y93 y94 y95 y96 y97 y98 y99 y100 y101 y102 y103 y104 y105 y106 y107 y108 y109 y110 y111 y112 y113 y114 y115 y116 y117 y118 y119 y120 y121 y122 y123 y124 y125 y126 y127 y128 y129 y130 y131 y132 y133 y134 y135 y136 y137 y138 y139 y140 : Value) (w' : World), Fk w0 w' R0 n B n (rchF inn fr fw') → Q .normal ⟨#[u0, u1, u2, .int .i64 (n : Int), u4, u5, .slice (some ⟨bI, 0, none⟩) n n, .slice (some ⟨B7, 0, none⟩) n n, .slice (some ⟨B8, 0, none⟩) n n, u9, u10, u11, u12, u13, u14, .slice (some ⟨B, 0, none⟩) n n, y16, y17, u18, u19, u20, u21, u22, u23, u24, u25, u26, u27, u28, u29, u30, u31, u32, u33, u34, u35, u36, u37, u38, u39, u40, u41, u42, u43, u44, u45, u46, u47, u48, u49, u50, u51, u52, u53, u54, u55, u56, u57, u58, u59, u60, u61, u62, u63, u64, u65, u66, u67, u68, u69, u70, u71, u72, u73, u74, u75, u76, u77, u78, u79, u80, u81, u82, u83, u84, u85, u86, u87, u88, u89, u90, u91, u92, y93, y94, y95, y96, y97, y98, y99, y100, y101, y102, y103, y104, y105, y106, y107, y108, y109, y110, y111, y112, y113, y114, y115, y116, y117, y118, y119, y120, y121, y122, y123, y124, y125, y126, y127, y128, y129, y130, y131, y132, y133, y134, y135, y136, y137, y138, y139, y140, u141, u142, u143, u144, u145, u146, u147, u148, u149, u150, u151, u152, u153, u154, u155, u156, u157, u158, u159, u160, u161, u162, u163, u164, u165, u166, u167, u168, u169, u170, u171, u172, u173, u174, u175, u176, u177, u178, u179, u180, u181, u182, u183, u184, u185, u186, u187, u188, u189, u190, u191, u192, u193, u194, u195, u196, u197, u198, u199, u200, u201, u202, u203, u204, u205, u206, u207, u208, u209, u210, u211, u212, u213, u214, u215, u216, u217, u218, u219, u220, u221, u222, u223, u224, u225, u226, u227, u228, u229, u230, u231, u232, u233, u234, u235, u236, u237, u238, u239, u240, u241, u242, u243, u244, u245, u246, u247, u248, u249, u250, u251, u252, u253, u254, u255, u256, u257, u258, u259, u260, u261, u262, u263, u264, u265, u266, u267, u268, u269, u270, u271, u272, u273, u274, u275, u276, u277, u278, u279, u280, u281, u282, u283, u284, u285, u286, u287, u288, u289, u290, u291, u292, u293, u294, u295, u296, u297, u298, u299, u300, u301, u302, u303, u304, u305, u306, u307, u308, u309, u310, u311, u312, u313, u314, u315, u316, u317, u318, u319, u320, u321, u322, u323, u324, u325, u326, u327, u328, u329, u330, u331, u332, u333, u334, u335, u336, u337, u338, u339, u340, u341, u342, u343, u344, u345, u346, u347, u348], []⟩ w')) :
    Code.wp Yba.prog (nav [1, 1, 1, 1, 1, 1, 1, 1, 0, 1] (Yba.f5.body.getD .skip)) Q ⟨#[u0, u1, u2, .int .i64 (n : Int), u4, u5, .slice (some ⟨bI, 0, none⟩) n n, .slice (some ⟨B7, 0, none⟩) n n, .slice (some ⟨B8, 0, none⟩) n n, u9, u10, u11, u12, u13, u14, .slice (some ⟨B, 0, none⟩) n n, .int .i64 0, u17, u18, u19, u20, u21, u22, u23, u24, u25, u26, u27, u28, u29, u30, u31, u32, u33, u34, u35, u36, u37, u38, u39, u40, u41, u42, u43, u44, u45, u46, u47, u48, u49, u50, u51, u52, u53, u54, u55, u56, u57, u58, u59, u60, u61, u62, u63, u64, u65, u66, u67, u68, u69, u70, u71, u72, u73, u74, u75, u76, u77, u78, u79, u80, u81, u82, u83, u84, u85, u86, u87, u88, u89, u90, u91, u92, u93, u94, u95, u96, u97, u98, u99, u100, u101, u102, u103, u104, u105, u106, u107, u108, u109, u110, u111, u112, u113, u114, u115, u116, u117, u118, u119, u120, u121, u122, u123, u124, u125, u126, u127, u128, u129, u130, u131, u132, u133, u134, u135, u136, u137, u138, u139, u140, u141, u142, u143, u144, u145, u146, u147, u148, u149, u150, u151, u152, u153, u154, u155, u156, u157, u158, u159, u160, u161, u162, u163, u164, u165, u166, u167, u168, u169, u170, u171, u172, u173, u174, u175, u176, u177, u178, u179, u180, u181, u182, u183, u184, u185, u186, u187, u188, u189, u190, u191, u192, u193, u194, u195, u196, u197, u198, u199, u200, u201, u202, u203, u204, u205, u206, u207, u208, u209, u210, u211, u212, u213, u214, u215, u216, u217, u218, u219, u220, u221, u222, u223, u224, u225, u226, u227, u228, u229, u230, u231, u232, u233, u234, u235, u236, u237, u238, u239, u240, u241, u242, u243, u244, u245, u246, u247, u248, u249, u250, u251, u252, u253, u254, u255, u256, u257, u258, u259, u260, u261, u262, u263, u264, u265, u266, u267, u268, u269, u270, u271, u272, u273, u274, u275, u276, u277, u278, u279, u280, u281, u282, u283, u284, u285, u286, u287, u288, u289, u290, u291, u292, u293, u294, u295, u296, u297, u298, u299, u300, u301, u302, u303, u304, u305, u306, u307, u308, u309, u310, u311, u312, u313, u314, u315, u316, u317, u318, u319, u320, u321, u322, u323, u324, u325, u326, u327, u328, u329, u330, u331, u332, u333, u334, u335, u336, u337, u338, u339, u340, u341, u342, u343, u344, u345, u346, u347, u348], []⟩ w := by
  conv => arg 2; whnf
  have hmk := run_make_n 36 4 _ 1 1 Yba.underlying36 info4 (by omega) n (by omega)
  go_wp2_with fail
  go_loopg [16] n (fun q s16 wx => ∃ (i : Nat), s16 = .int .i64 i ∧ i ≤ n ∧ n - i ≤ q ∧ Fk w0 wx R0 n B i (rchF inn fr fw'))
  case atStart => exact ⟨0, rfl, Nat.zero_le _, Nat.le_refl _, hF.congr (fun a b ha _ => absurd ha (Nat.not_lt_zero _))⟩
  case round =>
    obtain ⟨i, rfl, hil, hiq, hFi⟩ := hrel
    clear hF
    by_cases hi : i < n
    · have i1 : (i : Int) < (n : Int) := by omega
      obtain ⟨⟨u0', cu⟩, fu, hmore⟩ := hFi.more hi hn
      have HM : Hid (Fk w0 ((wr.alloc (.cells (madeCells #[.bool false] n) 4)).setCell ⟨B, i, none⟩ (.slice (some ⟨wr.heap.size, 0, none⟩) n n)) R0 n B (i + 1) (fun a b => if a < i ∨ (a = i ∧ b < 0) then rchF inn fr fw' a b else false)) := hmore.congr (fun a b _ _ => by
        by_cases h : a < i
        · rw [if_pos h, if_pos (by omega)]
        · rw [if_neg h, if_neg (by omega)])
      clear hmore hFi
      go_wp2_with fail
      clear cu fu
      go_loopg [17] n (fun q s17 wx => ∃ (j : Nat), s17 = .int .i64 j ∧ j ≤ n ∧ n - j ≤ q ∧ Fk w0 wx R0 n B (i + 1) (fun a b => if a < i ∨ (a = i ∧ b < j) then rchF inn fr fw' a b else false))
      case atStart => exact ⟨0, rfl, Nat.zero_le _, Nat.le_refl _, HM.out⟩
      case round =>
        clear HM
        obtain ⟨j, rfl, hjl, hjq, hFj⟩ := hrel
        by_cases hj : j < n
        · have j1 : (j : Int) < (n : Int) := by omega
          have HFj : Hid (Fk w0 wr R0 n B (i + 1) (fun a b => if a < i ∨ (a = i ∧ b < j) then rchF inn fr fw' a b else false)) := hFj
          clear hFj
          go_wp2_with fail
          have hFj : Fk w0 wr R0 n B (i + 1) (fun a b => if a < i ∨ (a = i ∧ b < j) then rchF inn fr fw' a b else false) := HFj.out
          clear HFj
          cases hii : inn i with
          | false =>
            refine rg29a hFj hin h7 h8 hn hi hj hii ?_
            intro _ _ _ _ _ _ _ _ _ _ _ _ _ _ _ _ _ _ _ _ _ _ _ _ _ _ _ _ _ _ _ _ _ w5 h5
            have HF : Hid (Fk w0 w5 R0 n B (i + 1) (fun a b => if a < i ∨ (a = i ∧ b < j + 1) then rchF inn fr fw' a b else false)) := h5.congr (fun a b _ _ => by
              unfold ud2
              by_cases e : a = i ∧ b = j
              · obtain ⟨rfl, rfl⟩ := e
                rw [if_pos ⟨rfl, rfl⟩, if_pos (by omega)]
                simp [rchF, hii]
              · rw [if_neg e]
                dsimp only
                by_cases h : a < i ∨ (a = i ∧ b < j)
                · rw [if_pos h, if_pos (by omega)]
                · rw [if_neg h, if_neg (by omega)])
            clear hFj h5
            go_wp2_with fail
            go_roundg (n - (j + 1))
            case measure => omega
            case rel => exact ⟨j + 1, by go_num, by omega, by omega, HF.out⟩
          | true =>
            by_cases hij : i = j
            · subst hij
              refine rg29c hFj hin h7 h8 hn hi hi hii rfl ?_
              intro _ _ _ _ _ _ _ _ _ _ _ _ _ _ _ _ _ _ _ _ _ _ _ _ _ _ _ _ _ _ _ _ _ w5 h5
              have HF : Hid (Fk w0 w5 R0 n B (i + 1) (fun a b => if a < i ∨ (a = i ∧ b < i + 1) then rchF inn fr fw' a b else false)) := h5.congr (fun a b _ _ => by
                unfold ud2
                by_cases e : a = i ∧ b = i
                · obtain ⟨rfl, rfl⟩ := e
                  rw [if_pos ⟨rfl, rfl⟩, if_pos (by omega)]
                  simp [rchF, hii]
                · rw [if_neg e]
                  dsimp only
                  by_cases h : a < i ∨ (a = i ∧ b < i)
                  · rw [if_pos h, if_pos (by omega)]
                  · rw [if_neg h, if_neg (by omega)])
              clear hFj h5
              go_wp2_with fail
              go_roundg (n - (i + 1))
              case measure => omega
              case rel => exact ⟨i + 1, by go_num, by omega, by omega, HF.out⟩
            · cases hjj : inn j with
              | false =>
                refine rg29b hFj hin h7 h8 hn hi hj hii hjj ?_
                intro _ _ _ _ _ _ _ _ _ _ _ _ _ _ _ _ _ _ _ _ _ _ _ _ _ _ _ _ _ _ _ _ _ w5 h5
                have HF : Hid (Fk w0 w5 R0 n B (i + 1) (fun a b => if a < i ∨ (a = i ∧ b < j + 1) then rchF inn fr fw' a b else false)) := h5.congr (fun a b _ _ => by
                  unfold ud2
                  by_cases e : a = i ∧ b = j
                  · obtain ⟨rfl, rfl⟩ := e
                    rw [if_pos ⟨rfl, rfl⟩, if_pos (by omega)]
                    simp [rchF, hii, hjj]
                  · rw [if_neg e]
                    dsimp only
                    by_cases h : a < i ∨ (a = i ∧ b < j)
                    · rw [if_pos h, if_pos (by omega)]
                    · rw [if_neg h, if_neg (by omega)])
                clear hFj h5
                go_wp2_with fail
                go_roundg (n - (j + 1))
                case measure => omega
                case rel => exact ⟨j + 1, by go_num, by omega, by omega, HF.out⟩
              | true =>
                by_cases hb : bits .and .u8 (fr i) (fw' j) = 0
                · 
                  refine rg29d hFj hin h7 h8 hn hi hj hii hjj hij hb ?_
                  intro _ _ _ _ _ _ _ _ _ _ _ _ _ _ _ _ _ _ _ _ _ _ _ _ _ _ _ _ _ _ _ _ _ w5 h5
                  have HF : Hid (Fk w0 w5 R0 n B (i + 1) (fun a b => if a < i ∨ (a = i ∧ b < j + 1) then rchF inn fr fw' a b else false)) := h5.congr (fun a b _ _ => by
                    unfold ud2
                    by_cases e : a = i ∧ b = j
                    · obtain ⟨rfl, rfl⟩ := e
                      rw [if_pos ⟨rfl, rfl⟩, if_pos (by omega)]
                      simp [rchF, hii, hjj, hb]
                    · rw [if_neg e]
                      dsimp only
                      by_cases h : a < i ∨ (a = i ∧ b < j)
                      · rw [if_pos h, if_pos (by omega)]
                      · rw [if_neg h, if_neg (by omega)])
                  clear hFj h5
                  go_wp2_with fail
                  go_roundg (n - (j + 1))
                  case measure => omega
                  case rel => exact ⟨j + 1, by go_num, by omega, by omega, HF.out⟩
                · 
                  refine rg29e hFj hin h7 h8 hn hi hj hii hjj hij hb ?_
                  intro _ _ _ _ _ _ _ _ _ _ _ _ _ _ _ _ _ _ _ _ _ _ _ _ _ _ _ _ _ _ _ _ _ w5 h5
                  have HF : Hid (Fk w0 w5 R0 n B (i + 1) (fun a b => if a < i ∨ (a = i ∧ b < j + 1) then rchF inn fr fw' a b else false)) := h5.congr (fun a b _ _ => by
                    unfold ud2
                    by_cases e : a = i ∧ b = j
                    · obtain ⟨rfl, rfl⟩ := e
                      rw [if_pos ⟨rfl, rfl⟩, if_pos (by omega)]
                      simp [rchF, hii, hjj, hb, hij]
                    · rw [if_neg e]
                      dsimp only
                      by_cases h : a < i ∨ (a = i ∧ b < j)
                      · rw [if_pos h, if_pos (by omega)]
                      · rw [if_neg h, if_neg (by omega)])
                  clear hFj h5
                  go_wp2_with fail
                  go_roundg (n - (j + 1))
                  case measure => omega
                  case rel => exact ⟨j + 1, by go_num, by omega, by omega, HF.out⟩
        · obtain rfl : j = n := by omega
          have j1 : ¬ ((j : Nat) : Int) < (j : Int) := by omega
          have HF : Hid (Fk w0 wr R0 j B (i + 1) (rchF inn fr fw')) := hFj.congr (fun a b ha hb => by rw [if_pos (by omega)])
          clear hFj
          go_wp2_with fail
          go_roundg (j - (i + 1))
          case measure => omega
          case rel => exact ⟨i + 1, by go_num, by omega, by omega, HF.out⟩
    · obtain rfl : i = n := by omega
      have i1 : ¬ ((i : Nat) : Int) < (i : Int) := by omega
      have HF : Hid (Fk w0 wr R0 i B i (rchF inn fr fw')) := hFi
      clear hFi
      go_wp2_with fail
      exact HQ.out _ _ _ _ _ _ _ _ _ _ _ _ _ _ _ _ _ _ _ _ _ _ _ _ _ _ _ _ _ _ _ _ _ _ _ _ _ _ _ _ _ _ _ _ _ _ _ _ _ _ _ HF.out
end Go.Proofs.Ybulkajny
