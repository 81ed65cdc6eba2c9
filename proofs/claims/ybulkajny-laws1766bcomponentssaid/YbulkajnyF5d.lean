import Derived.Test.YbulkajnyFk
import Derived.Test.YbulkajnyCyc0
namespace Go.Proofs.Ybulkajny
open Go.RowKit Go.Sort
set_option linter.unusedVariables false

section
variable {w0 w w' : World} {R0 : Nat → Row} {n B m : Nat} {F F' : Nat → Nat → Bool}
theorem Fk.set0 (h : Fk w0 w R0 n B m F) {i d j : Nat} {v : Value} (h1 : i ≠ 72) (h2 : i < 1000) (hb : (R0 i).blk = some d) : Fk w0 (w.setCell ⟨d, j, none⟩ v) (put R0 i { R0 i with xs := (R0 i).xs.set j v }) n B m F := by
  obtain ⟨R, h, h72, hr, hR⟩ := h
  have e := hR i h1 (by omega)
  have hs := h.set (i := i) (b := d) (j := j) (v := v) (by rw [e]; exact hb)
  rw [e] at hs
  refine ⟨_, hs, ?_, fun a ha => ?_, fun a q1 q2 => ?_⟩
  · rw [put_ne (Ne.symm h1), h72]
    simp only [Row.mk.injEq, true_and]
    exact tab_congr (fun a _ => by rw [put_ne (by omega)])
  · rw [put_ne (by omega)]; exact hr a ha
  · by_cases e' : a = i
    · subst e'; rw [put_eq, put_eq]
    · rw [put_ne e', put_ne e']; exact hR a q1 q2
theorem Fk.free0 (h : Fk w0 w R0 n B m F) {i d : Nat} (h1 : i ≠ 72) (h2 : i < 1000) (hb : (R0 i).blk = some d) (j : Nat) : w.frozen? ⟨d, j, none⟩ = false := by
  obtain ⟨R, h, h72, hr, hR⟩ := h
  exact h.free (i := i) (by rw [hR i h1 (by omega)]; exact hb) j
end
def szP (inn : Nat → Bool) (F : Nat → Nat → Bool) (i b : Nat) : Bool := inn b && (decide (i = b) || (F i b && F b i))
def szJ (inn : Nat → Bool) (F : Nat → Nat → Bool) (i j : Nat) : Nat := ((List.range j).filter (szP inn F i)).length
theorem szJ_le (inn : Nat → Bool) (F : Nat → Nat → Bool) (i j : Nat) : szJ inn F i j ≤ j := Nat.le_trans (List.length_filter_le _ _) (by simp)
theorem szJ_t {inn : Nat → Bool} {F : Nat → Nat → Bool} {i j : Nat} (h : szP inn F i j = true) : szJ inn F i (j + 1) = szJ inn F i j + 1 := by simp [szJ, List.range_succ, h]
theorem szJ_f {inn : Nat → Bool} {F : Nat → Nat → Bool} {i j : Nat} (h : szP inn F i j = false) : szJ inn F i (j + 1) = szJ inn F i j := by simp [szJ, List.range_succ, h]
/-- The sizes of the first i. -/
def szI (inn : Nat → Bool) (F : Nat → Nat → Bool) (n i a : Nat) : Nat := if a < i ∧ inn a = true then szJ inn F a n else 0

set_option maxRecDepth 100000 in
set_option maxHeartbeats 8000000 in
/-- The sizes' loops. -/
theorem sz_any {w0 w : World} {R0 : Nat → Row} {n B S bI : Nat} {F : Nat → Nat → Bool} {inn : Nat → Bool} {Q : Exit → Act → World → Prop} {u0 u1 u2 u4 u5 u7 u8 u9 u10 u11 u12 u13 u14 u16 u17 u18 u19 u20 u23 u24 u25 u26 u27 u28 u29 u30 u31 u32 u33 u34 u35 u36 u37 u38 u39 u40 u41 u42 u43 u44 u45 u46 u47 u48 u49 u50 u51 u52 u53 u54 u55 u56 u57 u58 u59 u60 u61 u62 u63 u64 u65 u66 u67 u68 u69 u70 u71 u72 u73 u74 u75 u76 u77 u78 u79 u80 u81 u82 u83 u84 u85 u86 u87 u88 u89 u90 u91 u92 u93 u94 u95 u96 u97 u98 u99 u100 u101 u102 u103 u104 u105 u106 u107 u108 u109 u110 u111 u112 u113 u114 u115 u116 u117 u118 u119 u120 u121 u122 u123 u124 u125 u126 u127 u128 u129 u130 u131 u132 u133 u134 u135 u136 u137 u138 u139 u140 u141 u142 u143 u144 u145 u146 u147 u148 u149 u150 u151 u152 u153 u154 u155 u156 u157 u158 u159 u160 u161 u162 u163 u164 u165 u166 u167 u168 u169 u170 u171 u172 u173 u174 u175 u176 u177 u178 u179 u180 u181 u182 u183 u184 u185 u186 u187 u188 u189 u190 u191 u192 u193 u194 u195 u196 u197 u198 u199 u200 u201 u202 u203 u204 u205 u206 u207 u208 u209 u210 u211 u212 u213 u214 u215 u216 u217 u218 u219 u220 u221 u222 u223 u224 u225 u226 u227 u228 u229 u230 u231 u232 u233 u234 u235 u236 u237 u238 u239 u240 u241 u242 u243 u244 u245 u246 u247 u248 u249 u250 u251 u252 u253 u254 u255 u256 u257 u258 u259 u260 u261 u262 u263 u264 u265 u266 u267 u268 u269 u270 u271 u272 u273 u274 u275 u276 u277 u278 u279 u280 u281 u282 u283 u284 u285 u286 u287 u288 u289 u290 u291 u292 u293 u294 u295 u296 u297 u298 u299 u300 u301 u302 u303 u304 u305 u306 u307 u308 u309 u310 u311 u312 u313 u314 u315 u316 u317 u318 u319 u320 u321 u322 u323 u324 u325 u326 u327 u328 u329 u330 u331 u332 u333 u334 u335 u336 u337 u338 u339 u340 u341 u342 u343 u344 u345 u346 u347 u348 : Value} (hF : Fk w0 w R0 n B n F) (h73 : R0 73 = ⟨some S, n, 3, 1, n, tab n (fun _ => .int .i64 0)⟩) (hin : R0 18 = ⟨some bI, n, 4, 1, n, tab n (fun i => .bool (inn i))⟩) (hn : n ≤ 64)
    (HQ : Hid (∀ (y22 y23 y179 y180 y181 y182 y183 y184 y185 y186 y187 y188 y189 y190 y191 y192 y193 y194 y195 y196 y197 y198 y199 y200 y201 y202 y203 y204 y205 y206 y207 y208 y209 y210 y211 y212 y213 y214 y215 y216 y217 y218 y219 y220 y221 y222 y223 y224 y225 y226 : Value) (w' : World) (R1 : Nat → Row), Fk w0 w' R1 n B n F → R1 73 = ⟨some S, n, 3, 1, n, tab n (fun a => .int .i64 ((szI inn F n n a : Nat) : Int))⟩ → (∀ x, x ≠ 73 → R1 x = R0 x) → Q .normal ⟨#[u0, u1, u2, .int .i64 (n : Int), u4, u5, .slice (some ⟨bI, 0, none⟩) n n, u7, u8, u9, u10, u11, u12, u13, u14, .slice (some ⟨B, 0, none⟩) n n, u16, u17, u18, u19, u20, .slice (some ⟨S, 0, none⟩) n n, y22, y23, u24, u25, u26, u27, u28, u29, u30, u31, u32, u33, u34, u35, u36, u37, u38, u39, u40, u41, u42, u43, u44, u45, u46, u47, u48, u49, u50, u51, u52, u53, u54, u55, u56, u57, u58, u59, u60, u61, u62, u63, u64, u65, u66, u67, u68, u69, u70, u71, u72, u73, u74, u75, u76, u77, u78, u79, u80, u81, u82, u83, u84, u85, u86, u87, u88, u89, u90, u91, u92, u93, u94, u95, u96, u97, u98, u99, u100, u101, u102, u103, u104, u105, u106, u107, u108, u109, u110, u111, u112, u113, u114, u115, u116, u117, u118, u119, u120, u121, u122, u123, u124, u125, u126, u127, u128, u129, u130, u131, u132, u133, u134, u135, u136, u137, u138, u139, u140, u141, u142, u143, u144, u145, u146, u147, u148, u149, u150, u151, u152, u153, u154, u155, u156, u157, u158, u159, u160, u161, u162, u163, u164, u165, u166, u167, u168, u169, u170, u171, u172, u173, u174, u175, u176, u177, u178, y179, y180, y181, y182, y183, y184, y185, y186, y187, y188, y189, y190, y191, y192, y193, y194, y195, y196, y197, y198, y199, y200, y201, y202, y203, y204, y205, y206, y207, y208, y209, y210, y211, y212, y213, y214, y215, y216, y217, y218, y219, y220, y221, y222, y223, y224, y225, y226, u227, u228, u229, u230, u231, u232, u233, u234, u235, u236, u237, u238, u239, u240, u241, u242, u243, u244, u245, u246, u247, u248, u249, u250, u251, u252, u253, u254, u255, u256, u257, u258, u259, u260, u261, u262, u263, u264, u265, u266, u267, u268, u269, u270, u271, u272, u273, u274, u275, u276, u277, u278, u279, u280, u281, u282, u283, u284, u285, u286, u287, u288, u289, u290, u291, u292, u293, u294, u295, u296, u297, u298, u299, u300, u301, u302, u303, u304, u305, u306, u307, u308, u309, u310, u311, u312, u313, u314, u315, u316, u317, u318, u319, u320, u321, u322, u323, u324, u325, u326, u327, u328, u329, u330, u331, u332, u333, u334, u335, u336, u337, u338, u339, u340, u341, u342, u343, u344, u345, u346, u347, u348], []⟩ w')) :
    Code.wp Yba.prog (nav [1, 1, 1, 1, 1, 1, 1, 1, 1, 1, 1, 0, 1] (Yba.f5.body.getD .skip)) Q ⟨#[u0, u1, u2, .int .i64 (n : Int), u4, u5, .slice (some ⟨bI, 0, none⟩) n n, u7, u8, u9, u10, u11, u12, u13, u14, .slice (some ⟨B, 0, none⟩) n n, u16, u17, u18, u19, u20, .slice (some ⟨S, 0, none⟩) n n, .int .i64 0, u23, u24, u25, u26, u27, u28, u29, u30, u31, u32, u33, u34, u35, u36, u37, u38, u39, u40, u41, u42, u43, u44, u45, u46, u47, u48, u49, u50, u51, u52, u53, u54, u55, u56, u57, u58, u59, u60, u61, u62, u63, u64, u65, u66, u67, u68, u69, u70, u71, u72, u73, u74, u75, u76, u77, u78, u79, u80, u81, u82, u83, u84, u85, u86, u87, u88, u89, u90, u91, u92, u93, u94, u95, u96, u97, u98, u99, u100, u101, u102, u103, u104, u105, u106, u107, u108, u109, u110, u111, u112, u113, u114, u115, u116, u117, u118, u119, u120, u121, u122, u123, u124, u125, u126, u127, u128, u129, u130, u131, u132, u133, u134, u135, u136, u137, u138, u139, u140, u141, u142, u143, u144, u145, u146, u147, u148, u149, u150, u151, u152, u153, u154, u155, u156, u157, u158, u159, u160, u161, u162, u163, u164, u165, u166, u167, u168, u169, u170, u171, u172, u173, u174, u175, u176, u177, u178, u179, u180, u181, u182, u183, u184, u185, u186, u187, u188, u189, u190, u191, u192, u193, u194, u195, u196, u197, u198, u199, u200, u201, u202, u203, u204, u205, u206, u207, u208, u209, u210, u211, u212, u213, u214, u215, u216, u217, u218, u219, u220, u221, u222, u223, u224, u225, u226, u227, u228, u229, u230, u231, u232, u233, u234, u235, u236, u237, u238, u239, u240, u241, u242, u243, u244, u245, u246, u247, u248, u249, u250, u251, u252, u253, u254, u255, u256, u257, u258, u259, u260, u261, u262, u263, u264, u265, u266, u267, u268, u269, u270, u271, u272, u273, u274, u275, u276, u277, u278, u279, u280, u281, u282, u283, u284, u285, u286, u287, u288, u289, u290, u291, u292, u293, u294, u295, u296, u297, u298, u299, u300, u301, u302, u303, u304, u305, u306, u307, u308, u309, u310, u311, u312, u313, u314, u315, u316, u317, u318, u319, u320, u321, u322, u323, u324, u325, u326, u327, u328, u329, u330, u331, u332, u333, u334, u335, u336, u337, u338, u339, u340, u341, u342, u343, u344, u345, u346, u347, u348], []⟩ w := by
  conv => arg 2; whnf
  have cIn : ∀ (wx : World) (R1 : Nat → Row), Fk w0 wx R1 n B n F → (∀ x, x ≠ 73 → R1 x = R0 x) → ∀ i, i < n → wx.cell? ⟨bI, i, none⟩ = some (.bool (inn i)) := fun wx R1 h hR i hi => by
    have e : R1 18 = _ := (hR 18 (by omega)).trans hin
    exact h.cell0 (i := 18) (by omega) (by omega) (by rw [e]) (by rw [e]; exact tab_get hi)
  have HIN : Hid _ := cIn
  clear cIn
  go_wp2_with fail
  go_loopg [22] n (fun q s22 wx => ∃ (i : Nat) (R1 : Nat → Row), s22 = .int .i64 i ∧ i ≤ n ∧ n - i ≤ q ∧ Fk w0 wx R1 n B n F ∧ R1 73 = ⟨some S, n, 3, 1, n, tab n (fun a => .int .i64 ((szI inn F n i a : Nat) : Int))⟩ ∧ ∀ x, x ≠ 73 → R1 x = R0 x)
  case atStart => exact ⟨0, R0, rfl, Nat.zero_le _, Nat.le_refl _, hF, by rw [h73]; simp only [Row.mk.injEq, true_and]; exact tab_congr (fun a _ => by simp [szI]), fun _ _ => rfl⟩
  case round =>
    obtain ⟨i, R1, rfl, hil, hiq, hF1, h731, hR1⟩ := hrel
    clear hF h73
    by_cases hi : i < n
    · have i1 : (i : Int) < (n : Int) := by omega
      have ci := HIN.out wr R1 hF1 hR1 i hi
      cases hii : inn i with
      | false =>
        rw [hii] at ci
        have HF : Hid (Fk w0 wr R1 n B n F ∧ R1 73 = ⟨some S, n, 3, 1, n, tab n (fun a => .int .i64 ((szI inn F n (i + 1) a : Nat) : Int))⟩ ∧ ∀ x, x ≠ 73 → R1 x = R0 x) := ⟨hF1, by
          rw [h731]
          simp only [Row.mk.injEq, true_and]
          refine tab_congr (fun a _ => ?_)
          have : szI inn F n i a = szI inn F n (i + 1) a := by
            unfold szI
            by_cases e : a = i
            · subst e; rw [if_neg (by omega), if_neg (by rw [hii]; simp)]
            · by_cases h : a < i ∧ inn a = true
              · rw [if_pos h, if_pos ⟨by omega, h.2⟩]
              · rw [if_neg h, if_neg (fun q => h ⟨by omega, q.2⟩)]
          rw [this], hR1⟩
        clear hF1 h731 hR1
        go_wp2_with fail
        go_roundg (n - (i + 1))
        case measure => omega
        case rel =>
          obtain ⟨q1, q2, q3⟩ := HF.out
          exact ⟨i + 1, R1, by go_num, by omega, by omega, q1, q2, q3⟩
      | true =>
        rw [hii] at ci
        have h0 : R1 73 = ⟨some S, n, 3, 1, n, tab n (fun a => .int .i64 ((if a = i then szJ inn F i 0 else szI inn F n i a : Nat) : Int))⟩ := by
          rw [h731]
          simp only [Row.mk.injEq, true_and]
          refine tab_congr (fun a _ => ?_)
          by_cases e : a = i
          · subst e
            rw [if_pos rfl]
            simp [szI, szJ]
          · rw [if_neg e]
        clear h731
        have HF0 : Hid (Fk w0 wr R1 n B n F) := hF1
        have HR0 : Hid (∀ x, x ≠ 73 → R1 x = R0 x) := hR1
        have H0 : Hid _ := h0
        clear hF1 hR1 h0
        go_wp2_with fail
        clear ci
        go_loopg [23] n (fun q s23 wx => ∃ (j : Nat) (R1 : Nat → Row), s23 = .int .i64 j ∧ j ≤ n ∧ n - j ≤ q ∧ Fk w0 wx R1 n B n F ∧ R1 73 = ⟨some S, n, 3, 1, n, tab n (fun a => .int .i64 ((if a = i then szJ inn F i j else szI inn F n i a : Nat) : Int))⟩ ∧ ∀ x, x ≠ 73 → R1 x = R0 x)
        case atStart => exact ⟨0, R1, rfl, Nat.zero_le _, Nat.le_refl _, HF0.out, H0.out, HR0.out⟩
        case round =>
          clear HF0 HR0 H0
          obtain ⟨j, R1, rfl, hjl, hjq, hF1, h73, hR1⟩ := hrel
          by_cases hj : j < n
          · have j1 : (j : Int) < (n : Int) := by omega
            have cj := HIN.out wr R1 hF1 hR1 j hj
            cases hij : inn j with
            | false =>
              rw [hij] at cj
              have hp : szP inn F i j = false := by simp [szP, hij]
              have HF : Hid (Fk w0 wr R1 n B n F ∧ R1 73 = ⟨some S, n, 3, 1, n, tab n (fun a => .int .i64 ((if a = i then szJ inn F i (j + 1) else szI inn F n i a : Nat) : Int))⟩ ∧ ∀ x, x ≠ 73 → R1 x = R0 x) := ⟨hF1, by rw [szJ_f hp]; exact h73, hR1⟩
              clear hF1 h73 hR1
              go_wp2_with fail
              go_roundg (n - (j + 1))
              case measure => omega
              case rel =>
                obtain ⟨q1, q2, q3⟩ := HF.out
                exact ⟨j + 1, R1, by go_num, by omega, by omega, q1, q2, q3⟩
            | true =>
              rw [hij] at cj
              by_cases e : i = j
              · subst e
                have e2 : (i : Int) = (i : Int) := rfl
                have hp : szP inn F i i = true := by simp [szP, hij]
                have cs : wr.cell? ⟨S, i, none⟩ = some (.int .i64 ((szJ inn F i i : Nat) : Int)) := hF1.cell0 (i := 73) (by omega) (by omega) (by rw [h73]) (by rw [h73]; show (tab n _)[i]? = _; rw [tab_get hi, if_pos rfl])
                have fs : wr.frozen? ⟨S, i, none⟩ = false := hF1.free0 (i := 73) (by omega) (by omega) (by rw [h73]) i
                have hle := szJ_le inn F i i
                have h2 := hF1.set0 (i := 73) (d := S) (j := i) (v := .int .i64 ((szJ inn F i i : Nat) + 1 : Int)) (by omega) (by omega) (by rw [h73])
                rw [h73] at h2
                have HF : Hid (∃ R2, Fk w0 (wr.setCell ⟨S, i, none⟩ (.int .i64 ((szJ inn F i i : Nat) + 1 : Int))) R2 n B n F ∧ R2 73 = ⟨some S, n, 3, 1, n, tab n (fun a => .int .i64 ((if a = i then szJ inn F i (i + 1) else szI inn F n i a : Nat) : Int))⟩ ∧ ∀ x, x ≠ 73 → R2 x = R0 x) := ⟨_, h2, by
                  rw [put_eq, szJ_t hp]
                  simp only [Row.mk.injEq, true_and]
                  exact tab_set (by simp) (fun a ha => by simp [ha]), fun x hx => by rw [put_ne hx]; exact hR1 x hx⟩
                clear hF1 h73 hR1 h2
                go_wp2_with fail
                go_roundg (n - (i + 1))
                case measure => omega
                case rel =>
                  obtain ⟨R2, q1, q2, q3⟩ := HF.out
                  exact ⟨i + 1, R2, by go_num, by omega, by omega, q1, q2, q3⟩
              · have e2 : ¬ (i : Int) = (j : Int) := by omega
                obtain ⟨g1, c1, c2, -, -, -, -, -⟩ := hF1.at_ (Nat.le_refl _) hn hi hj
                obtain ⟨g2, d1, d2, -, -, -, -, -⟩ := hF1.at_ (Nat.le_refl _) hn hj hi
                cases h1 : F i j with
                | false =>
                  rw [h1] at c2
                  clear d1 d2
                  have hp : szP inn F i j = false := by simp [szP, hij, e, h1]
                  have HF : Hid (Fk w0 wr R1 n B n F ∧ R1 73 = ⟨some S, n, 3, 1, n, tab n (fun a => .int .i64 ((if a = i then szJ inn F i (j + 1) else szI inn F n i a : Nat) : Int))⟩ ∧ ∀ x, x ≠ 73 → R1 x = R0 x) := ⟨hF1, by rw [szJ_f hp]; exact h73, hR1⟩
                  clear hF1 h73 hR1
                  go_wp2_with fail
                  go_roundg (n - (j + 1))
                  case measure => omega
                  case rel =>
                    obtain ⟨q1, q2, q3⟩ := HF.out
                    exact ⟨j + 1, R1, by go_num, by omega, by omega, q1, q2, q3⟩
                | true =>
                  rw [h1] at c2
                  cases h2' : F j i with
                  | false =>
                    rw [h2'] at d2
                    have hp : szP inn F i j = false := by simp [szP, hij, e, h1, h2']
                    have HF : Hid (Fk w0 wr R1 n B n F ∧ R1 73 = ⟨some S, n, 3, 1, n, tab n (fun a => .int .i64 ((if a = i then szJ inn F i (j + 1) else szI inn F n i a : Nat) : Int))⟩ ∧ ∀ x, x ≠ 73 → R1 x = R0 x) := ⟨hF1, by rw [szJ_f hp]; exact h73, hR1⟩
                    clear hF1 h73 hR1
                    go_wp2_with fail
                    go_roundg (n - (j + 1))
                    case measure => omega
                    case rel =>
                      obtain ⟨q1, q2, q3⟩ := HF.out
                      exact ⟨j + 1, R1, by go_num, by omega, by omega, q1, q2, q3⟩
                  | true =>
                    rw [h2'] at d2
                    have hp : szP inn F i j = true := by simp [szP, hij, e, h1, h2']
                    have cs : wr.cell? ⟨S, i, none⟩ = some (.int .i64 ((szJ inn F i j : Nat) : Int)) := hF1.cell0 (i := 73) (by omega) (by omega) (by rw [h73]) (by rw [h73]; show (tab n _)[i]? = _; rw [tab_get hi, if_pos rfl])
                    have fs : wr.frozen? ⟨S, i, none⟩ = false := hF1.free0 (i := 73) (by omega) (by omega) (by rw [h73]) i
                    have hle := szJ_le inn F i j
                    have h2 := hF1.set0 (i := 73) (d := S) (j := i) (v := .int .i64 ((szJ inn F i j : Nat) + 1 : Int)) (by omega) (by omega) (by rw [h73])
                    rw [h73] at h2
                    have HF : Hid (∃ R2, Fk w0 (wr.setCell ⟨S, i, none⟩ (.int .i64 ((szJ inn F i j : Nat) + 1 : Int))) R2 n B n F ∧ R2 73 = ⟨some S, n, 3, 1, n, tab n (fun a => .int .i64 ((if a = i then szJ inn F i (j + 1) else szI inn F n i a : Nat) : Int))⟩ ∧ ∀ x, x ≠ 73 → R2 x = R0 x) := ⟨_, h2, by
                      rw [put_eq, szJ_t hp]
                      simp only [Row.mk.injEq, true_and]
                      exact tab_set (by simp) (fun a ha => by simp [ha]), fun x hx => by rw [put_ne hx]; exact hR1 x hx⟩
                    clear hF1 h73 hR1 h2
                    go_wp2_with fail
                    go_roundg (n - (j + 1))
                    case measure => omega
                    case rel =>
                      obtain ⟨R2, q1, q2, q3⟩ := HF.out
                      exact ⟨j + 1, R2, by go_num, by omega, by omega, q1, q2, q3⟩
          · obtain rfl : j = n := by omega
            have j1 : ¬ ((j : Nat) : Int) < (j : Int) := by omega
            have HF : Hid (Fk w0 wr R1 j B j F ∧ R1 73 = ⟨some S, j, 3, 1, j, tab j (fun a => .int .i64 ((szI inn F j (i + 1) a : Nat) : Int))⟩ ∧ ∀ x, x ≠ 73 → R1 x = R0 x) := ⟨hF1, by
              rw [h73]
              simp only [Row.mk.injEq, true_and]
              refine tab_congr (fun a _ => ?_)
              have : (if a = i then szJ inn F i j else szI inn F j i a) = szI inn F j (i + 1) a := by
                unfold szI
                by_cases e : a = i
                · subst e; rw [if_pos rfl, if_pos ⟨by omega, hii⟩]
                · rw [if_neg e]
                  by_cases h : a < i ∧ inn a = true
                  · rw [if_pos h, if_pos ⟨by omega, h.2⟩]
                  · rw [if_neg h, if_neg (fun q => h ⟨by omega, q.2⟩)]
              rw [this], hR1⟩
            clear hF1 h73 hR1
            go_wp2_with fail
            go_roundg (j - (i + 1))
            case measure => omega
            case rel =>
              obtain ⟨q1, q2, q3⟩ := HF.out
              exact ⟨i + 1, R1, by go_num, by omega, by omega, q1, q2, q3⟩
    · obtain rfl : i = n := by omega
      have i1 : ¬ ((i : Nat) : Int) < (i : Int) := by omega
      have HF : Hid (Fk w0 wr R1 i B i F) := hF1
      clear hF1
      go_wp2_with fail
      exact HQ.out _ _ _ _ _ _ _ _ _ _ _ _ _ _ _ _ _ _ _ _ _ _ _ _ _ _ _ _ _ _ _ _ _ _ _ _ _ _ _ _ _ _ _ _ _ _ _ _ _ _ _ R1 HF.out h731 hR1
end Go.Proofs.Ybulkajny
