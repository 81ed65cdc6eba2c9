import Derived.Test.YbulkajnyFk
import Derived.Test.YbulkajnyFw
import Derived.Test.YbulkajnyCyc0
namespace Go.Proofs.Ybulkajny
open Go.RowKit Go.Sort
set_option linter.unusedVariables false

theorem fw_self {A : Nat → Nat → Bool} (k j : Nat) : fw A (k + 1) k j = fw A k k j := by
  cases h : fw A k k j with
  | true => simp [fw, h]
  | false => simp [fw, h]

set_option maxRecDepth 100000 in
set_option maxHeartbeats 8000000 in
/-- The closure's loops. -/
theorem fw_any {w0 w : World} {R0 : Nat → Row} {n B : Nat} {A : Nat → Nat → Bool} {Q : Exit → Act → World → Prop} {u0 u1 u2 u4 u5 u6 u7 u8 u9 u10 u11 u12 u13 u14 u16 u17 u19 u20 u21 u22 u23 u24 u25 u26 u27 u28 u29 u30 u31 u32 u33 u34 u35 u36 u37 u38 u39 u40 u41 u42 u43 u44 u45 u46 u47 u48 u49 u50 u51 u52 u53 u54 u55 u56 u57 u58 u59 u60 u61 u62 u63 u64 u65 u66 u67 u68 u69 u70 u71 u72 u73 u74 u75 u76 u77 u78 u79 u80 u81 u82 u83 u84 u85 u86 u87 u88 u89 u90 u91 u92 u93 u94 u95 u96 u97 u98 u99 u100 u101 u102 u103 u104 u105 u106 u107 u108 u109 u110 u111 u112 u113 u114 u115 u116 u117 u118 u119 u120 u121 u122 u123 u124 u125 u126 u127 u128 u129 u130 u131 u132 u133 u134 u135 u136 u137 u138 u139 u140 u141 u142 u143 u144 u145 u146 u147 u148 u149 u150 u151 u152 u153 u154 u155 u156 u157 u158 u159 u160 u161 u162 u163 u164 u165 u166 u167 u168 u169 u170 u171 u172 u173 u174 u175 u176 u177 u178 u179 u180 u181 u182 u183 u184 u185 u186 u187 u188 u189 u190 u191 u192 u193 u194 u195 u196 u197 u198 u199 u200 u201 u202 u203 u204 u205 u206 u207 u208 u209 u210 u211 u212 u213 u214 u215 u216 u217 u218 u219 u220 u221 u222 u223 u224 u225 u226 u227 u228 u229 u230 u231 u232 u233 u234 u235 u236 u237 u238 u239 u240 u241 u242 u243 u244 u245 u246 u247 u248 u249 u250 u251 u252 u253 u254 u255 u256 u257 u258 u259 u260 u261 u262 u263 u264 u265 u266 u267 u268 u269 u270 u271 u272 u273 u274 u275 u276 u277 u278 u279 u280 u281 u282 u283 u284 u285 u286 u287 u288 u289 u290 u291 u292 u293 u294 u295 u296 u297 u298 u299 u300 u301 u302 u303 u304 u305 u306 u307 u308 u309 u310 u311 u312 u313 u314 u315 u316 u317 u318 u319 u320 u321 u322 u323 u324 u325 u326 u327 u328 u329 u330 u331 u332 u333 u334 u335 u336 u337 u338 u339 u340 u341 u342 u343 u344 u345 u346 u347 u348 : Value} (hF : Fk w0 w R0 n B n (fw A 0)) (hn : n ≤ 64)
    (HQ : Hid (∀ (y18 y19 y20 y141 y142 y143 y144 y145 y146 y147 y148 y149 y150 y151 y152 y153 y154 y155 y156 y157 y158 y159 y160 y161 y162 y163 y164 y165 y166 y167 y168 y169 y170 y171 y172 y173 y174 y175 y176 : Value) (w' : World), Fk w0 w' R0 n B n (fw A n) → Q .normal ⟨#[u0, u1, u2, .int .i64 (n : Int), u4, u5, u6, u7, u8, u9, u10, u11, u12, u13, u14, .slice (some ⟨B, 0, none⟩) n n, u16, u17, y18, y19, y20, u21, u22, u23, u24, u25, u26, u27, u28, u29, u30, u31, u32, u33, u34, u35, u36, u37, u38, u39, u40, u41, u42, u43, u44, u45, u46, u47, u48, u49, u50, u51, u52, u53, u54, u55, u56, u57, u58, u59, u60, u61, u62, u63, u64, u65, u66, u67, u68, u69, u70, u71, u72, u73, u74, u75, u76, u77, u78, u79, u80, u81, u82, u83, u84, u85, u86, u87, u88, u89, u90, u91, u92, u93, u94, u95, u96, u97, u98, u99, u100, u101, u102, u103, u104, u105, u106, u107, u108, u109, u110, u111, u112, u113, u114, u115, u116, u117, u118, u119, u120, u121, u122, u123, u124, u125, u126, u127, u128, u129, u130, u131, u132, u133, u134, u135, u136, u137, u138, u139, u140, y141, y142, y143, y144, y145, y146, y147, y148, y149, y150, y151, y152, y153, y154, y155, y156, y157, y158, y159, y160, y161, y162, y163, y164, y165, y166, y167, y168, y169, y170, y171, y172, y173, y174, y175, y176, u177, u178, u179, u180, u181, u182, u183, u184, u185, u186, u187, u188, u189, u190, u191, u192, u193, u194, u195, u196, u197, u198, u199, u200, u201, u202, u203, u204, u205, u206, u207, u208, u209, u210, u211, u212, u213, u214, u215, u216, u217, u218, u219, u220, u221, u222, u223, u224, u225, u226, u227, u228, u229, u230, u231, u232, u233, u234, u235, u236, u237, u238, u239, u240, u241, u242, u243, u244, u245, u246, u247, u248, u249, u250, u251, u252, u253, u254, u255, u256, u257, u258, u259, u260, u261, u262, u263, u264, u265, u266, u267, u268, u269, u270, u271, u272, u273, u274, u275, u276, u277, u278, u279, u280, u281, u282, u283, u284, u285, u286, u287, u288, u289, u290, u291, u292, u293, u294, u295, u296, u297, u298, u299, u300, u301, u302, u303, u304, u305, u306, u307, u308, u309, u310, u311, u312, u313, u314, u315, u316, u317, u318, u319, u320, u321, u322, u323, u324, u325, u326, u327, u328, u329, u330, u331, u332, u333, u334, u335, u336, u337, u338, u339, u340, u341, u342, u343, u344, u345, u346, u347, u348], []⟩ w')) :
    Code.wp Yba.prog (nav [1, 1, 1, 1, 1, 1, 1, 1, 1, 0, 1] (Yba.f5.body.getD .skip)) Q ⟨#[u0, u1, u2, .int .i64 (n : Int), u4, u5, u6, u7, u8, u9, u10, u11, u12, u13, u14, .slice (some ⟨B, 0, none⟩) n n, u16, u17, .int .i64 0, u19, u20, u21, u22, u23, u24, u25, u26, u27, u28, u29, u30, u31, u32, u33, u34, u35, u36, u37, u38, u39, u40, u41, u42, u43, u44, u45, u46, u47, u48, u49, u50, u51, u52, u53, u54, u55, u56, u57, u58, u59, u60, u61, u62, u63, u64, u65, u66, u67, u68, u69, u70, u71, u72, u73, u74, u75, u76, u77, u78, u79, u80, u81, u82, u83, u84, u85, u86, u87, u88, u89, u90, u91, u92, u93, u94, u95, u96, u97, u98, u99, u100, u101, u102, u103, u104, u105, u106, u107, u108, u109, u110, u111, u112, u113, u114, u115, u116, u117, u118, u119, u120, u121, u122, u123, u124, u125, u126, u127, u128, u129, u130, u131, u132, u133, u134, u135, u136, u137, u138, u139, u140, u141, u142, u143, u144, u145, u146, u147, u148, u149, u150, u151, u152, u153, u154, u155, u156, u157, u158, u159, u160, u161, u162, u163, u164, u165, u166, u167, u168, u169, u170, u171, u172, u173, u174, u175, u176, u177, u178, u179, u180, u181, u182, u183, u184, u185, u186, u187, u188, u189, u190, u191, u192, u193, u194, u195, u196, u197, u198, u199, u200, u201, u202, u203, u204, u205, u206, u207, u208, u209, u210, u211, u212, u213, u214, u215, u216, u217, u218, u219, u220, u221, u222, u223, u224, u225, u226, u227, u228, u229, u230, u231, u232, u233, u234, u235, u236, u237, u238, u239, u240, u241, u242, u243, u244, u245, u246, u247, u248, u249, u250, u251, u252, u253, u254, u255, u256, u257, u258, u259, u260, u261, u262, u263, u264, u265, u266, u267, u268, u269, u270, u271, u272, u273, u274, u275, u276, u277, u278, u279, u280, u281, u282, u283, u284, u285, u286, u287, u288, u289, u290, u291, u292, u293, u294, u295, u296, u297, u298, u299, u300, u301, u302, u303, u304, u305, u306, u307, u308, u309, u310, u311, u312, u313, u314, u315, u316, u317, u318, u319, u320, u321, u322, u323, u324, u325, u326, u327, u328, u329, u330, u331, u332, u333, u334, u335, u336, u337, u338, u339, u340, u341, u342, u343, u344, u345, u346, u347, u348], []⟩ w := by
  conv => arg 2; whnf
  go_wp2_with fail
  go_loopg [18] n (fun q s18 wx => ∃ (k : Nat), s18 = .int .i64 k ∧ k ≤ n ∧ n - k ≤ q ∧ Fk w0 wx R0 n B n (fw A k))
  case atStart => exact ⟨0, rfl, Nat.zero_le _, Nat.le_refl _, hF⟩
  case round =>
    obtain ⟨k, rfl, hkl, hkq, hFk⟩ := hrel
    clear hF
    by_cases hk : k < n
    · have k1 : (k : Int) < (n : Int) := by omega
      go_wp2_with fail
      go_loopg [19] n (fun q s19 wx => ∃ (i : Nat), s19 = .int .i64 i ∧ i ≤ n ∧ n - i ≤ q ∧ Fk w0 wx R0 n B n (fun a b => if a < i then fw A (k + 1) a b else fw A k a b))
      case atStart => exact ⟨0, rfl, Nat.zero_le _, Nat.le_refl _, hFk.congr (fun a b _ _ => by simp)⟩
      case round =>
        obtain ⟨i, rfl, hil, hiq, hFi⟩ := hrel
        clear hFk
        by_cases hi : i < n
        · have i1 : (i : Int) < (n : Int) := by omega
          obtain ⟨g, c1, c2, -, -, -, -, -⟩ := hFi.at_ (Nat.le_refl _) hn hi hk
          have e1 : (if i < i then fw A (k + 1) i k else fw A k i k) = fw A k i k := if_neg (Nat.lt_irrefl _)
          replace c2 : wr.cell? ⟨g, k, none⟩ = some (.bool (fw A k i k)) := by rw [← e1]; exact c2
          clear e1
          cases hik : fw A k i k with
          | false =>
            rw [hik] at c2
            have HF : Hid (Fk w0 wr R0 n B n (fun a b => if a < i + 1 then fw A (k + 1) a b else fw A k a b)) := hFi.congr (fun a b _ _ => by
              by_cases e : a = i
              · subst e
                rw [if_neg (Nat.lt_irrefl _), if_pos (by omega)]
                simp [fw, hik]
              · by_cases h : a < i
                · rw [if_pos h, if_pos (by omega)]
                · rw [if_neg h, if_neg (by omega)])
            clear hFi
            go_wp2_with fail
            go_roundg (n - (i + 1))
            case measure => omega
            case rel => exact ⟨i + 1, by go_num, by omega, by omega, HF.out⟩
          | true =>
            rw [hik] at c2
            have hF0 : Fk w0 wr R0 n B n (fun a b => if a < i ∨ (a = i ∧ b < 0) then fw A (k + 1) a b else fw A k a b) := hFi.congr (fun a b _ _ => by simp)
            clear hFi
            go_wp2_with fail
            clear c1 c2
            go_loopg [20] n (fun q s20 wx => ∃ (j : Nat), s20 = .int .i64 j ∧ j ≤ n ∧ n - j ≤ q ∧ Fk w0 wx R0 n B n (fun a b => if a < i ∨ (a = i ∧ b < j) then fw A (k + 1) a b else fw A k a b))
            case atStart => exact ⟨0, rfl, Nat.zero_le _, Nat.le_refl _, hF0⟩
            case round =>
              obtain ⟨j, rfl, hjl, hjq, hFj⟩ := hrel
              clear hF0
              by_cases hj : j < n
              · have j1 : (j : Int) < (n : Int) := by omega
                obtain ⟨g1, c1, c2, -, -, -, -, -⟩ := hFj.at_ (Nat.le_refl _) hn hk hj
                have e1 : (if k < i ∨ (k = i ∧ j < j) then fw A (k + 1) k j else fw A k k j) = fw A k k j := by
                  split
                  · exact fw_self k j
                  · rfl
                replace c2 : wr.cell? ⟨g1, j, none⟩ = some (.bool (fw A k k j)) := by rw [← e1]; exact c2
                clear e1
                obtain ⟨g2, d1, d2, d3, -, -, -, hset⟩ := hFj.at_ (Nat.le_refl _) hn hi hj
                cases hkj : fw A k k j with
                | false =>
                  rw [hkj] at c2
                  have HF : Hid (Fk w0 wr R0 n B n (fun a b => if a < i ∨ (a = i ∧ b < j + 1) then fw A (k + 1) a b else fw A k a b)) := hFj.congr (fun a b _ _ => by
                    by_cases e : a = i ∧ b = j
                    · obtain ⟨rfl, rfl⟩ := e
                      rw [if_neg (by omega), if_pos (by omega)]
                      simp [fw, hkj]
                    · by_cases h : a < i ∨ (a = i ∧ b < j)
                      · rw [if_pos h, if_pos (by omega)]
                      · rw [if_neg h, if_neg (by omega)])
                  clear hFj hset d1 d2 d3
                  go_wp2_with fail
                  go_roundg (n - (j + 1))
                  case measure => omega
                  case rel => exact ⟨j + 1, by go_num, by omega, by omega, HF.out⟩
                | true =>
                  rw [hkj] at c2
                  have HF : Hid (Fk w0 (wr.setCell ⟨g2, j, none⟩ (.bool true)) R0 n B n (fun a b => if a < i ∨ (a = i ∧ b < j + 1) then fw A (k + 1) a b else fw A k a b)) := (hset true).congr (fun a b _ _ => by
                    unfold ud2
                    by_cases e : a = i ∧ b = j
                    · obtain ⟨rfl, rfl⟩ := e
                      rw [if_pos ⟨rfl, rfl⟩, if_pos (by omega)]
                      simp [fw, hkj, hik]
                    · rw [if_neg e]
                      dsimp only
                      by_cases h : a < i ∨ (a = i ∧ b < j)
                      · rw [if_pos h, if_pos (by omega)]
                      · rw [if_neg h, if_neg (by omega)])
                  clear hFj hset
                  go_wp2_with fail
                  go_roundg (n - (j + 1))
                  case measure => omega
                  case rel => exact ⟨j + 1, by go_num, by omega, by omega, HF.out⟩
              · obtain rfl : j = n := by omega
                have j1 : ¬ ((j : Nat) : Int) < (j : Int) := by omega
                have HF : Hid (Fk w0 wr R0 j B j (fun a b => if a < i + 1 then fw A (k + 1) a b else fw A k a b)) := hFj.congr (fun a b _ hb => by
                  by_cases h : a < i + 1
                  · rw [if_pos h, if_pos (by omega)]
                  · rw [if_neg h, if_neg (by omega)])
                clear hFj
                go_wp2_with fail
                go_roundg (j - (i + 1))
                case measure => omega
                case rel => exact ⟨i + 1, by go_num, by omega, by omega, HF.out⟩
        · obtain rfl : i = n := by omega
          have i1 : ¬ ((i : Nat) : Int) < (i : Int) := by omega
          have HF : Hid (Fk w0 wr R0 i B i (fw A (k + 1))) := hFi.congr (fun a b ha _ => by rw [if_pos ha])
          clear hFi
          go_wp2_with fail
          go_roundg (i - (k + 1))
          case measure => omega
          case rel => exact ⟨k + 1, by go_num, by omega, by omega, HF.out⟩
    · obtain rfl : k = n := by omega
      have k1 : ¬ ((k : Nat) : Int) < (k : Int) := by omega
      have HF : Hid (Fk w0 wr R0 k B k (fw A k)) := hFk
      clear hFk
      go_wp2_with fail
      exact HQ.out _ _ _ _ _ _ _ _ _ _ _ _ _ _ _ _ _ _ _ _ _ _ _ _ _ _ _ _ _ _ _ _ _ _ _ _ _ _ _ _ HF.out
end Go.Proofs.Ybulkajny
