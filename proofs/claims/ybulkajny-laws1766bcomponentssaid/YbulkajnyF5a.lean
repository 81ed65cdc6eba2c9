import Derived.Test.YbulkajnyBuild
import Derived.Test.YbulkajnyCyc0
namespace Go.Proofs.Ybulkajny
open Go.RowKit Go.Sort
set_option linter.unusedVariables false

/-- One key more in a mask. -/
def mstep (m : Int) (x : Nat) : Int := bits .or .u8 m (if x % 4 = 0 then 1 else if x % 4 = 1 then 2 else if x % 4 = 2 then 4 else 8)
def mval (l : List Nat) : Int := l.foldl mstep 0
theorem mval_snoc (l : List Nat) (x : Nat) : mval (l ++ [x]) = mstep (mval l) x := by simp [mval]
def maskRow (b n : Nat) (f : Nat → Int) : Row := ⟨some b, n, 5, 1, n, tab n (fun a => .int .u8 (f a))⟩
/-- The masks' rows: f and g. -/
def Mk (w0 w : World) (R0 : Nat → Row) (n B7 B8 : Nat) (f g : Nat → Int) (r : Row) : Prop :=
  ∃ R, Fam w0 w R none ∧ R 70 = maskRow B7 n f ∧ R 71 = maskRow B8 n g ∧ R 75 = r ∧ ∀ i, i ≠ 70 → i ≠ 71 → i ≠ 75 → R i = R0 i
section
variable {w0 w : World} {R0 : Nat → Row} {n B7 B8 : Nat} {f g : Nat → Int} {r : Row}
theorem Mk.at7 (h : Mk w0 w R0 n B7 B8 f g r) {i : Nat} (hi : i < n) : w.cell? ⟨B7, i, none⟩ = some (.int .u8 (f i)) ∧ w.frozen? ⟨B7, i, none⟩ = false ∧ ∀ v, Mk w0 (w.setCell ⟨B7, i, none⟩ (.int .u8 v)) R0 n B7 B8 (fun a => if a = i then v else f a) g r := by
  obtain ⟨R, h, h7, h8, h75, hR⟩ := h
  refine ⟨h.cell (i := 70) (by rw [h7]; rfl) (by rw [h7]; exact tab_get hi), h.free (i := 70) (by rw [h7]; rfl) i, fun v => ?_⟩
  have hs := h.set (i := 70) (b := B7) (j := i) (v := .int .u8 v) (by rw [h7]; rfl)
  rw [h7] at hs
  refine ⟨_, hs, ?_, by rw [put_ne (by omega)]; exact h8, by rw [put_ne (by omega)]; exact h75, fun a q1 q2 q3 => by rw [put_ne q1]; exact hR a q1 q2 q3⟩
  rw [put_eq]
  unfold maskRow
  simp only [Row.mk.injEq, true_and]
  exact tab_set (by simp) (fun a ha => by simp [ha])
theorem Mk.at8 (h : Mk w0 w R0 n B7 B8 f g r) {i : Nat} (hi : i < n) : w.cell? ⟨B8, i, none⟩ = some (.int .u8 (g i)) ∧ w.frozen? ⟨B8, i, none⟩ = false ∧ ∀ v, Mk w0 (w.setCell ⟨B8, i, none⟩ (.int .u8 v)) R0 n B7 B8 f (fun a => if a = i then v else g a) r := by
  obtain ⟨R, h, h7, h8, h75, hR⟩ := h
  refine ⟨h.cell (i := 71) (by rw [h8]; rfl) (by rw [h8]; exact tab_get hi), h.free (i := 71) (by rw [h8]; rfl) i, fun v => ?_⟩
  have hs := h.set (i := 71) (b := B8) (j := i) (v := .int .u8 v) (by rw [h8]; rfl)
  rw [h8] at hs
  refine ⟨_, hs, by rw [put_ne (by omega)]; exact h7, ?_, by rw [put_ne (by omega)]; exact h75, fun a q1 q2 q3 => by rw [put_ne q2]; exact hR a q1 q2 q3⟩
  rw [put_eq]
  unfold maskRow
  simp only [Row.mk.injEq, true_and]
  exact tab_set (by simp) (fun a ha => by simp [ha])
theorem Mk.tx (h : Mk w0 w R0 n B7 B8 f g r) (cs : Array Value) (hcs : cs.size = 1 * 3) : Mk w0 (w.alloc (.cells cs 41)) R0 n B7 B8 f g ⟨some w.heap.size, 1, 41, 3, 1, cs.toList⟩ := by
  obtain ⟨R, h, h7, h8, h75, hR⟩ := h
  exact ⟨_, h.make (i := 75) cs 41 3 1 hcs (by unfold maxLen; omega), by rw [put_ne (by omega)]; exact h7, by rw [put_ne (by omega)]; exact h8, put_eq, fun a q1 q2 q3 => by rw [put_ne q3]; exact hR a q1 q2 q3⟩
theorem Mk.txc (h : Mk w0 w R0 n B7 B8 f g r) {d j : Nat} {v : Value} (hb : r.blk = some d) (hj : r.xs[j]? = some v) : w.cell? ⟨d, j, none⟩ = some v := by
  obtain ⟨R, h, h7, h8, h75, hR⟩ := h
  exact h.cell (i := 75) (by rw [h75]; exact hb) (by rw [h75]; exact hj)
theorem Mk.fam (h : Mk w0 w R0 n B7 B8 f g r) : ∃ R, Fam w0 w R none := by
  obtain ⟨R, h, _⟩ := h
  exact ⟨R, h⟩
theorem Mk.congr {f' g' : Nat → Int} (h : Mk w0 w R0 n B7 B8 f g r) (hf : ∀ a, a < n → f a = f' a) (hg : ∀ a, a < n → g a = g' a) : Mk w0 w R0 n B7 B8 f' g' r := by
  obtain ⟨R, h, h7, h8, h75, hR⟩ := h
  refine ⟨R, h, ?_, ?_, h75, hR⟩
  · rw [h7]; unfold maskRow; simp only [Row.mk.injEq, true_and]; exact tab_congr (fun a ha => by rw [hf a ha])
  · rw [h8]; unfold maskRow; simp only [Row.mk.injEq, true_and]; exact tab_congr (fun a ha => by rw [hg a ha])
end

/-- The masks of the first i. -/
def mI (lv : Nat → List Nat) (i a : Nat) : Int := if a < i then mval (lv a) else 0
set_option maxRecDepth 100000 in
set_option maxHeartbeats 8000000 in
/-- The masks' loop. -/
theorem mask_any {w0 w : World} {R0 : Nat → Row} {n q B7 B8 : Nat} {A : Option Addr} {rv wv : Nat → List Nat} {out : Nat → Bool} {r0 : Row} {Q : Exit → Act → World → Prop} {u0 u1 u2 u3 u4 u5 u6 u9 u10 u11 u12 u13 u14 u15 u16 u17 u18 u19 u20 u21 u22 u23 u24 u25 u26 u27 u28 u29 u30 u31 u32 u33 u34 u35 u36 u37 u38 u39 u40 u41 u42 u43 u44 u45 u46 u47 u48 u52 u53 u54 u55 u56 u57 u58 u59 u60 u61 u62 u63 u64 u65 u66 u67 u68 u69 u70 u71 u72 u73 u74 u75 u76 u77 u78 u79 u80 u81 u82 u83 u84 u85 u86 u87 u88 u89 u90 u91 u92 u93 u94 u95 u96 u97 u98 u99 u100 u101 u102 u103 u104 u105 u106 u107 u108 u109 u110 u111 u112 u113 u114 u115 u116 u117 u118 u119 u120 u121 u122 u123 u124 u125 u126 u127 u128 u129 u130 u131 u132 u133 u134 u135 u136 u137 u138 u139 u140 u141 u142 u143 u144 u145 u146 u147 u148 u149 u150 u151 u152 u153 u154 u155 u156 u157 u158 u159 u160 u161 u162 u163 u164 u165 u166 u167 u168 u169 u170 u171 u172 u173 u174 u175 u176 u177 u178 u179 u180 u181 u182 u183 u184 u185 u186 u187 u188 u189 u190 u191 u192 u193 u194 u195 u196 u197 u198 u199 u200 u201 u202 u203 u204 u205 u206 u207 u208 u209 u210 u211 u212 u213 u214 u215 u216 u217 u218 u219 u220 u221 u222 u223 u224 u225 u226 u227 u228 u229 u230 u231 u232 u233 u234 u235 u236 u237 u238 u239 u240 u241 u242 u243 u244 u245 u246 u247 u248 u249 u250 u251 u252 u253 u254 u255 u256 u257 u258 u259 u260 u261 u262 u263 u264 u265 u266 u267 u268 u269 u270 u271 u272 u273 u274 u275 u276 u277 u278 u279 u280 u281 u282 u283 u284 u285 u286 u287 u288 u289 u290 u291 u292 u293 u294 u295 u296 u297 u298 u299 u300 u301 u302 u303 u304 u305 u306 u307 u308 u309 u310 u311 u312 u313 u314 u315 u316 u317 u318 u319 u320 u321 u322 u323 u324 u325 u326 u327 u328 u329 u330 u331 u332 u333 u334 u335 u336 u337 u338 u339 u340 u341 u342 u343 u344 u345 u346 u347 u348 : Value} (hM : Mk w0 w R0 n B7 B8 (fun _ => 0) (fun _ => 0) r0) (hA : Arg w0 A n rv wv out) (hn : n ≤ 64) (hlen : ∀ i, i < n → (rv i).length ≤ 256 ∧ (wv i).length ≤ 256) (hu : ∀ i, i < n → (∀ x, x ∈ rv i → x < 256) ∧ (∀ x, x ∈ wv i → x < 256))
    (HQ : Hid (∀ (y9 y10 y12 y14 y51 y52 y53 y54 y55 y56 y57 y58 y59 y60 y61 y62 y63 y64 y65 y66 y67 y68 y69 y70 y71 y72 y73 y74 y75 y76 y77 y78 y79 y80 y81 y82 y83 y84 y85 y86 y87 y88 y89 y90 : Value) (w' : World) (r : Row), Mk w0 w' R0 n B7 B8 (mI rv n) (mI wv n) r → Q .normal ⟨#[u0, u1, u2, u3, u4, u5, u6, .slice (some ⟨B7, 0, none⟩) n n, .slice (some ⟨B8, 0, none⟩) n n, y9, y10, u11, y12, u13, y14, u15, u16, u17, u18, u19, u20, u21, u22, u23, u24, u25, u26, u27, u28, u29, u30, u31, u32, u33, u34, u35, u36, u37, u38, u39, u40, u41, u42, u43, u44, u45, u46, u47, u48, .slice A n q, .int .i64 (n : Int), y51, y52, y53, y54, y55, y56, y57, y58, y59, y60, y61, y62, y63, y64, y65, y66, y67, y68, y69, y70, y71, y72, y73, y74, y75, y76, y77, y78, y79, y80, y81, y82, y83, y84, y85, y86, y87, y88, y89, y90, u91, u92, u93, u94, u95, u96, u97, u98, u99, u100, u101, u102, u103, u104, u105, u106, u107, u108, u109, u110, u111, u112, u113, u114, u115, u116, u117, u118, u119, u120, u121, u122, u123, u124, u125, u126, u127, u128, u129, u130, u131, u132, u133, u134, u135, u136, u137, u138, u139, u140, u141, u142, u143, u144, u145, u146, u147, u148, u149, u150, u151, u152, u153, u154, u155, u156, u157, u158, u159, u160, u161, u162, u163, u164, u165, u166, u167, u168, u169, u170, u171, u172, u173, u174, u175, u176, u177, u178, u179, u180, u181, u182, u183, u184, u185, u186, u187, u188, u189, u190, u191, u192, u193, u194, u195, u196, u197, u198, u199, u200, u201, u202, u203, u204, u205, u206, u207, u208, u209, u210, u211, u212, u213, u214, u215, u216, u217, u218, u219, u220, u221, u222, u223, u224, u225, u226, u227, u228, u229, u230, u231, u232, u233, u234, u235, u236, u237, u238, u239, u240, u241, u242, u243, u244, u245, u246, u247, u248, u249, u250, u251, u252, u253, u254, u255, u256, u257, u258, u259, u260, u261, u262, u263, u264, u265, u266, u267, u268, u269, u270, u271, u272, u273, u274, u275, u276, u277, u278, u279, u280, u281, u282, u283, u284, u285, u286, u287, u288, u289, u290, u291, u292, u293, u294, u295, u296, u297, u298, u299, u300, u301, u302, u303, u304, u305, u306, u307, u308, u309, u310, u311, u312, u313, u314, u315, u316, u317, u318, u319, u320, u321, u322, u323, u324, u325, u326, u327, u328, u329, u330, u331, u332, u333, u334, u335, u336, u337, u338, u339, u340, u341, u342, u343, u344, u345, u346, u347, u348], []⟩ w')) :
    Code.wp Yba.prog (nav [1, 1, 1, 1, 1, 1, 0, 1] (Yba.f5.body.getD .skip)) Q ⟨#[u0, u1, u2, u3, u4, u5, u6, .slice (some ⟨B7, 0, none⟩) n n, .slice (some ⟨B8, 0, none⟩) n n, u9, u10, u11, u12, u13, u14, u15, u16, u17, u18, u19, u20, u21, u22, u23, u24, u25, u26, u27, u28, u29, u30, u31, u32, u33, u34, u35, u36, u37, u38, u39, u40, u41, u42, u43, u44, u45, u46, u47, u48, .slice A n q, .int .i64 (n : Int), .int .i64 0, u52, u53, u54, u55, u56, u57, u58, u59, u60, u61, u62, u63, u64, u65, u66, u67, u68, u69, u70, u71, u72, u73, u74, u75, u76, u77, u78, u79, u80, u81, u82, u83, u84, u85, u86, u87, u88, u89, u90, u91, u92, u93, u94, u95, u96, u97, u98, u99, u100, u101, u102, u103, u104, u105, u106, u107, u108, u109, u110, u111, u112, u113, u114, u115, u116, u117, u118, u119, u120, u121, u122, u123, u124, u125, u126, u127, u128, u129, u130, u131, u132, u133, u134, u135, u136, u137, u138, u139, u140, u141, u142, u143, u144, u145, u146, u147, u148, u149, u150, u151, u152, u153, u154, u155, u156, u157, u158, u159, u160, u161, u162, u163, u164, u165, u166, u167, u168, u169, u170, u171, u172, u173, u174, u175, u176, u177, u178, u179, u180, u181, u182, u183, u184, u185, u186, u187, u188, u189, u190, u191, u192, u193, u194, u195, u196, u197, u198, u199, u200, u201, u202, u203, u204, u205, u206, u207, u208, u209, u210, u211, u212, u213, u214, u215, u216, u217, u218, u219, u220, u221, u222, u223, u224, u225, u226, u227, u228, u229, u230, u231, u232, u233, u234, u235, u236, u237, u238, u239, u240, u241, u242, u243, u244, u245, u246, u247, u248, u249, u250, u251, u252, u253, u254, u255, u256, u257, u258, u259, u260, u261, u262, u263, u264, u265, u266, u267, u268, u269, u270, u271, u272, u273, u274, u275, u276, u277, u278, u279, u280, u281, u282, u283, u284, u285, u286, u287, u288, u289, u290, u291, u292, u293, u294, u295, u296, u297, u298, u299, u300, u301, u302, u303, u304, u305, u306, u307, u308, u309, u310, u311, u312, u313, u314, u315, u316, u317, u318, u319, u320, u321, u322, u323, u324, u325, u326, u327, u328, u329, u330, u331, u332, u333, u334, u335, u336, u337, u338, u339, u340, u341, u342, u343, u344, u345, u346, u347, u348], []⟩ w := by
  conv => arg 2; whnf
  have HA : Hid (Arg w0 A n rv wv out) := hA
  clear hA
  go_wp2_with fail
  go_loopg [51] n (fun q s51 wx => ∃ (i : Nat) (r : Row), s51 = .int .i64 i ∧ i ≤ n ∧ n - i ≤ q ∧ Mk w0 wx R0 n B7 B8 (mI rv i) (mI wv i) r)
  case atStart => exact ⟨0, r0, rfl, Nat.zero_le _, Nat.le_refl _, hM.congr (fun a _ => by simp [mI]) (fun a _ => by simp [mI])⟩
  case round =>
    obtain ⟨i, r, rfl, hil, hiq, hM1⟩ := hrel
    clear hM
    by_cases hi : i < n
    · have i1 : (i : Int) < (n : Int) := by omega
      obtain ⟨g, o, rp, rc, wp, wc, rfl, a1, a2, a3, b1, b2⟩ := Arg.at_ HA.out i hi
      obtain ⟨Rq, hFq⟩ := hM1.fam
      have c1 := hFq.old a1
      have c2 := hFq.old a2
      have c3 := hFq.old a3
      clear hFq a1 a2 a3
      have HBR : Hid (Bytes w0 rp (rv i)) := b1
      have HBW : Hid (Bytes w0 wp (wv i)) := b2
      clear b1 b2
      have hl := hlen i hi
      have hM2 := hM1.tx #[.slice rp (rv i).length rc, .slice wp (wv i).length wc, .bool (out i)] rfl
      clear hM1
      have HM2 : Hid _ := hM2
      clear hM2
      refine wp_seq_k (fun K1 hK => ?_)
      have HK1 : Hid _ := hK
      clear hK
      go_wp2_with fail
      refine HK1.out _ _ ?_
      clear HK1
      refine wp_seq_k (fun K1 hK => ?_)
      have HK1 : Hid _ := hK
      clear hK
      go_wp2_with fail
      refine HK1.out _ _ ?_
      clear HK1
      refine wp_seq_k (fun K9 hK => ?_)
      have HK9 : Hid _ := hK
      clear hK
      refine wp_block ?_
      refine wp_seq_k (fun K1 hK => ?_)
      have HK1 : Hid _ := hK
      clear hK
      go_wp2_with fail
      refine HK1.out _ _ ?_
      clear HK1
      have hM2 : Mk w0 (wr.alloc (.cells #[.slice rp (rv i).length rc, .slice wp (wv i).length wc, .bool (out i)] 41)) R0 n B7 B8 (mI rv i) (mI wv i) ⟨some wr.heap.size, 1, 41, 3, 1, [.slice rp (rv i).length rc, .slice wp (wv i).length wc, .bool (out i)]⟩ := HM2.out
      clear HM2 c1 c2 c3
      generalize wr.alloc (.cells #[.slice rp (rv i).length rc, .slice wp (wv i).length wc, .bool (out i)] 41) = w2 at *
      generalize wr.heap.size = T at *
      have cT0 : w2.cell? ⟨T, 0, none⟩ = some (.slice rp (rv i).length rc) := hM2.txc rfl rfl
      have HM0 : Hid (Mk w0 w2 R0 n B7 B8 (fun a => if a = i then mval ((rv i).take 0) else mI rv i a) (mI wv i) ⟨some T, 1, 41, 3, 1, [.slice rp (rv i).length rc, .slice wp (wv i).length wc, .bool (out i)]⟩) := hM2.congr (fun a _ => by
        by_cases e : a = i
        · subst e; simp [mI, mval]
        · simp [e]) (fun a _ => rfl)
      clear hM2
      generalize hrx : (⟨some T, 1, 41, 3, 1, [.slice rp (rv i).length rc, .slice wp (wv i).length wc, .bool (out i)]⟩ : Row) = rx at *
      refine wp_seq_k (fun K1 hK => ?_)
      have HK1 : Hid _ := hK
      clear hK
      refine wp_seq_k (fun K2 hK => ?_)
      have HK2 : Hid _ := hK
      clear hK
      go_wp2_with fail
      refine HK2.out _ _ ?_
      clear HK2
      clear cT0
      go_wp2_with fail
      go_loopg [59] (rv i).length (fun q s59 wx => ∃ (j : Nat), s59 = .int .i64 j ∧ j ≤ (rv i).length ∧ (rv i).length - j ≤ q ∧ Mk w0 wx R0 n B7 B8 (fun a => if a = i then mval ((rv i).take (j)) else mI rv i a) (mI wv i) rx)
      case atStart => exact ⟨0, rfl, Nat.zero_le _, Nat.le_refl _, HM0.out⟩
      case round =>
        clear HM0
        obtain ⟨j, rfl, hjl, hjq, hMj⟩ := hrel
        by_cases hj : j < (rv i).length
        · have j1 : (j : Int) < ((rv i).length : Int) := by omega
          obtain ⟨x, hx⟩ : ∃ x, (rv i)[j]? = some x := ⟨(rv i)[j], List.getElem?_eq_getElem hj⟩
          obtain ⟨gb, ob, rfl, cb⟩ := HBR.out j x hx
          obtain ⟨Rq, hFq⟩ := hMj.fam
          have cb : wr.cell? ⟨gb, ob + j, none⟩ = some (.int .u8 (x : Int)) := hFq.old cb
          clear hFq
          obtain ⟨cm, fm, hset⟩ := hMj.at7 hi
          simp only [if_true] at cm
          have hmod : (x : Int).tmod 4 = ((x % 4 : Nat) : Int) := by rw [Int.tmod_eq_emod_of_nonneg (by omega)]; omega
          have htk : (rv i).take (j + 1) = (rv i).take j ++ [x] := by rw [List.take_add_one, hx]; rfl
          have hlt : x % 4 < 4 := Nat.mod_lt _ (by omega)
          have HS : Hid (∀ v, v = mstep (mval ((rv i).take j)) x → Mk w0 (wr.setCell ⟨B7, i, none⟩ (.int .u8 v)) R0 n B7 B8 (fun a => if a = i then mval ((rv i).take (j + 1)) else mI rv i a) (mI wv i) rx) := fun v hv => (hset v).congr (fun a ha => by
            by_cases e : a = i
            · subst e; simp only [if_true]; rw [hv, htk, mval_snoc]
            · simp only [if_neg e]) (fun a ha => by
            rfl)
          clear hset hMj
          have hmx : x % 4 = 0 ∨ x % 4 = 1 ∨ x % 4 = 2 ∨ x % 4 = 3 := by omega
          generalize mval ((rv i).take j) = mm at *
          unfold mstep at HS
          generalize x % 4 = y at *
          rcases hmx with rfl | rfl | rfl | rfl
          all_goals
            go_wp2_with fail
            go_roundg ((rv i).length - (j + 1))
            case measure => omega
            case rel => exact ⟨j + 1, by go_num, by omega, by omega, HS.out _ rfl⟩
        · obtain rfl : j = (rv i).length := by omega
          have j1 : ¬ (((rv i).length : Nat) : Int) < ((rv i).length : Int) := by omega
          have hM3 : Mk w0 wr R0 n B7 B8 (mI rv (i + 1)) (mI wv i) rx := hMj.congr (fun a ha => by
            by_cases e : a = i
            · subst e; simp only [if_true]; rw [List.take_length]; simp [mI]
            · simp only [if_neg e]
              unfold mI
              by_cases h : a < i
              · rw [if_pos h, if_pos (by omega)]
              · rw [if_neg h, if_neg (by omega)]) (fun a ha => rfl)
          have cT1 : wr.cell? ⟨T, 1, none⟩ = some (.slice wp (wv i).length wc) := hM3.txc (by rw [← hrx]) (by rw [← hrx]; rfl)
          have HM0 : Hid (Mk w0 wr R0 n B7 B8 (mI rv (i + 1)) (fun a => if a = i then mval ((wv i).take 0) else mI wv i a) rx) := hM3.congr (fun a _ => rfl) (fun a _ => by
            by_cases e : a = i
            · subst e; simp [mI, mval]
            · simp [e])
          clear hM3 hMj
          go_wp2_with fail
          refine HK1.out _ _ ?_
          clear HK1
          refine wp_seq_k (fun K2 hK => ?_)
          have HK2 : Hid _ := hK
          clear hK
          go_wp2_with fail
          refine HK2.out _ _ ?_
          clear HK2
          clear cT1
          go_wp2_with fail
          go_loopg [76] (wv i).length (fun q s76 wx => ∃ (j : Nat), s76 = .int .i64 j ∧ j ≤ (wv i).length ∧ (wv i).length - j ≤ q ∧ Mk w0 wx R0 n B7 B8 (mI rv (i + 1)) (fun a => if a = i then mval ((wv i).take (j)) else mI wv i a) rx)
          case atStart => exact ⟨0, rfl, Nat.zero_le _, Nat.le_refl _, HM0.out⟩
          case round =>
            clear HM0
            obtain ⟨j, rfl, hjl, hjq, hMj⟩ := hrel
            by_cases hj : j < (wv i).length
            · have j1 : (j : Int) < ((wv i).length : Int) := by omega
              obtain ⟨x, hx⟩ : ∃ x, (wv i)[j]? = some x := ⟨(wv i)[j], List.getElem?_eq_getElem hj⟩
              obtain ⟨gb, ob, rfl, cb⟩ := HBW.out j x hx
              obtain ⟨Rq, hFq⟩ := hMj.fam
              have cb : wr.cell? ⟨gb, ob + j, none⟩ = some (.int .u8 (x : Int)) := hFq.old cb
              clear hFq
              obtain ⟨cm, fm, hset⟩ := hMj.at8 hi
              simp only [if_true] at cm
              have hmod : (x : Int).tmod 4 = ((x % 4 : Nat) : Int) := by rw [Int.tmod_eq_emod_of_nonneg (by omega)]; omega
              have htk : (wv i).take (j + 1) = (wv i).take j ++ [x] := by rw [List.take_add_one, hx]; rfl
              have hlt : x % 4 < 4 := Nat.mod_lt _ (by omega)
              have HS : Hid (∀ v, v = mstep (mval ((wv i).take j)) x → Mk w0 (wr.setCell ⟨B8, i, none⟩ (.int .u8 v)) R0 n B7 B8 (mI rv (i + 1)) (fun a => if a = i then mval ((wv i).take (j + 1)) else mI wv i a) rx) := fun v hv => (hset v).congr (fun a ha => by
                rfl) (fun a ha => by
                by_cases e : a = i
                · subst e; simp only [if_true]; rw [hv, htk, mval_snoc]
                · simp only [if_neg e])
              clear hset hMj
              have hmx : x % 4 = 0 ∨ x % 4 = 1 ∨ x % 4 = 2 ∨ x % 4 = 3 := by omega
              generalize mval ((wv i).take j) = mm at *
              unfold mstep at HS
              generalize x % 4 = y at *
              rcases hmx with rfl | rfl | rfl | rfl
              all_goals
                go_wp2_with fail
                go_roundg ((wv i).length - (j + 1))
                case measure => omega
                case rel => exact ⟨j + 1, by go_num, by omega, by omega, HS.out _ rfl⟩
            · obtain rfl : j = (wv i).length := by omega
              have j1 : ¬ (((wv i).length : Nat) : Int) < ((wv i).length : Int) := by omega
              have HM4 : Hid (Mk w0 wr R0 n B7 B8 (mI rv (i + 1)) (mI wv (i + 1)) rx) := hMj.congr (fun a ha => rfl) (fun a ha => by
                by_cases e : a = i
                · subst e; simp only [if_true]; rw [List.take_length]; simp [mI]
                · simp only [if_neg e]
                  unfold mI
                  by_cases h : a < i
                  · rw [if_pos h, if_pos (by omega)]
                  · rw [if_neg h, if_neg (by omega)])
              clear hMj
              go_wp2_with fail
              refine HK9.out _ _ ?_
              clear HK9
              go_wp2_with fail
              go_roundg (n - (i + 1))
              case measure => omega
              case rel => exact ⟨i + 1, rx, by go_num, by omega, by omega, HM4.out⟩
    · obtain rfl : i = n := by omega
      have i1 : ¬ ((i : Nat) : Int) < (i : Int) := by omega
      have HM : Hid (Mk w0 wr R0 i B7 B8 (mI rv i) (mI wv i) r) := hM1
      clear hM1
      go_wp2_with fail
      exact HQ.out _ _ _ _ _ _ _ _ _ _ _ _ _ _ _ _ _ _ _ _ _ _ _ _ _ _ _ _ _ _ _ _ _ _ _ _ _ _ _ _ _ _ _ _ _ r HM.out
end Go.Proofs.Ybulkajny
