import Derived.Test.YbulkajnyFk
import Derived.Test.YbulkajnyFw
import Derived.Test.YbulkajnyCyc0
namespace Go.Proofs.Ybulkajny
open Go.RowKit Go.Sort
set_option linter.unusedVariables false

/-- The counts' row. -/
def Ck (w0 w : World) (R : Nat → Row) (C n : Nat) (cf : Nat → Nat) : Prop :=
  ∃ R1, Fam w0 w R1 none ∧ R1 74 = ⟨some C, n, 3, 1, n, tab n (fun a => .int .i64 ((cf a : Nat) : Int))⟩ ∧ ∀ i, i ≠ 74 → R1 i = R i
section
variable {w0 w w' : World} {R : Nat → Row} {C n : Nat} {cf : Nat → Nat}
theorem Ck.cell (h : Ck w0 w R C n cf) {i d j : Nat} {v : Value} (hi : i ≠ 74) (hd : (R i).blk = some d) (hj : (R i).xs[j]? = some v) : w.cell? ⟨d, j, none⟩ = some v := by
  obtain ⟨R1, h, _, hR⟩ := h
  exact h.cell (i := i) (by rw [hR i hi]; exact hd) (by rw [hR i hi]; exact hj)
theorem Ck.ok (h : Ck w0 w R C n cf) {i : Nat} (hi : i ≠ 74) : (R i).ok w0.heap.size w := by
  obtain ⟨R1, h, _, hR⟩ := h
  rw [← hR i hi]; exact h.ok i
theorem Ck.at_ (h : Ck w0 w R C n cf) {a : Nat} (ha : a < n) : w.cell? ⟨C, a, none⟩ = some (.int .i64 ((cf a : Nat) : Int)) ∧ w.frozen? ⟨C, a, none⟩ = false ∧ ∀ (v : Nat) (cf' : Nat → Nat), cf' a = v → (∀ x, x ≠ a → cf' x = cf x) → Ck w0 (w.setCell ⟨C, a, none⟩ (.int .i64 ((v : Nat) : Int))) R C n cf' := by
  obtain ⟨R1, h, h74, hR⟩ := h
  refine ⟨h.cell (i := 74) (by rw [h74]) (by rw [h74]; exact tab_get ha), h.free (i := 74) (by rw [h74]) a, fun v cf' q1 q2 => ?_⟩
  have hs := h.set (i := 74) (b := C) (j := a) (v := .int .i64 ((v : Nat) : Int)) (by rw [h74])
  rw [h74] at hs
  refine ⟨_, hs, ?_, fun i hi => by rw [put_ne hi]; exact hR i hi⟩
  rw [put_eq]
  simp only [Row.mk.injEq, true_and]
  exact tab_set (by rw [q1]) (fun x hx => by rw [q2 x hx])
theorem Ck.congr {cf' : Nat → Nat} (h : Ck w0 w R C n cf) (he : ∀ a, cf a = cf' a) : Ck w0 w R C n cf' := by
  have : cf = cf' := funext he
  rw [← this]; exact h
end
/-- What the checks read. -/
structure Chk (R : Nat → Row) (n B bI S : Nat) (F : Nat → Nat → Bool) (inn : Nat → Bool) (szf : Nat → Nat) : Prop where
  r18 : R 18 = ⟨some bI, n, 4, 1, n, tab n (fun i => .bool (inn i))⟩
  r72 : R 72 = ⟨some B, n, 36, 1, n, tab n (fun i => (R (1000 + i)).val)⟩
  rows : ∀ i, i < n → ∃ g, R (1000 + i) = ⟨some g, n, 4, 1, n, tab n (fun j => .bool (F i j))⟩
  r73 : R 73 = ⟨some S, n, 3, 1, n, tab n (fun a => .int .i64 ((szf a : Nat) : Int))⟩
section
variable {w0 w : World} {R : Nat → Row} {C n B bI S : Nat} {cf : Nat → Nat} {F : Nat → Nat → Bool} {inn : Nat → Bool} {szf : Nat → Nat}
theorem Chk.cIn (h : Chk R n B bI S F inn szf) (hC : Ck w0 w R C n cf) {i : Nat} (hi : i < n) : w.cell? ⟨bI, i, none⟩ = some (.bool (inn i)) := hC.cell (i := 18) (by omega) (by rw [h.r18]) (by rw [h.r18]; exact tab_get hi)
theorem Chk.cSz (h : Chk R n B bI S F inn szf) (hC : Ck w0 w R C n cf) {i : Nat} (hi : i < n) : w.cell? ⟨S, i, none⟩ = some (.int .i64 ((szf i : Nat) : Int)) := hC.cell (i := 73) (by omega) (by rw [h.r73]) (by rw [h.r73]; exact tab_get hi)
theorem Chk.cF (h : Chk R n B bI S F inn szf) (hC : Ck w0 w R C n cf) {i j : Nat} (hi : i < n) (hj : j < n) : ∃ g, w.cell? ⟨B, i, none⟩ = some (.slice (some ⟨g, 0, none⟩) n n) ∧ w.cell? ⟨g, j, none⟩ = some (.bool (F i j)) := by
  obtain ⟨g, hg⟩ := h.rows i hi
  refine ⟨g, ?_, hC.cell (i := 1000 + i) (by omega) (by rw [hg]) (by rw [hg]; exact tab_get hj)⟩
  have := hC.cell (i := 72) (d := B) (j := i) (v := (R (1000 + i)).val) (by omega) (by rw [h.r72]) (by rw [h.r72]; exact tab_get hi)
  rw [hg] at this
  exact this
end
theorem cnt_snoc (fr : List (List Nat)) (c : List Nat) (x : Nat) : cntOf (fr ++ [c]) x = cntOf fr x + (if x ∈ c then 1 else 0) := by
  unfold cntOf
  rw [List.filter_append, List.length_append]
  by_cases h : x ∈ c
  · simp [h]
  · simp [h]

set_option maxRecDepth 100000 in
set_option maxHeartbeats 8000000 in
/-- The loop that checks the components. -/
theorem chk_any {w0 w : World} {R : Nat → Row} {n B bI S C q7 : Nat} {p7 : Option Nat} {F : Nat → Nat → Bool} {inn : Nat → Bool} {szf : Nat → Nat} {found : List (List Nat)} {Q : Exit → Act → World → Prop} {u0 u1 u2 u4 u5 u7 u8 u9 u10 u11 u12 u13 u14 u16 u17 u18 u19 u20 u22 u23 u24 u25 u27 u28 u29 u30 u31 u32 u33 u34 u35 u36 u37 u38 u39 u40 u41 u42 u43 u44 u45 u46 u47 u48 u49 u50 u51 u52 u53 u54 u55 u56 u57 u58 u59 u60 u61 u62 u63 u64 u65 u66 u67 u68 u69 u70 u71 u72 u73 u74 u75 u76 u77 u78 u79 u80 u81 u82 u83 u84 u85 u86 u87 u88 u89 u90 u91 u92 u93 u94 u95 u96 u97 u98 u99 u100 u101 u102 u103 u104 u105 u106 u107 u108 u109 u110 u111 u112 u113 u114 u115 u116 u117 u118 u119 u120 u121 u122 u123 u124 u125 u126 u127 u128 u129 u130 u131 u132 u133 u134 u135 u136 u137 u138 u139 u140 u141 u142 u143 u144 u145 u146 u147 u148 u149 u150 u151 u152 u153 u154 u155 u156 u157 u158 u159 u160 u161 u162 u163 u164 u165 u166 u167 u168 u169 u170 u171 u172 u173 u174 u175 u176 u177 u178 u179 u180 u181 u182 u183 u184 u185 u186 u187 u188 u189 u190 u191 u192 u193 u194 u195 u196 u197 u198 u199 u200 u201 u202 u203 u204 u205 u206 u207 u208 u209 u210 u211 u212 u213 u214 u215 u216 u217 u218 u219 u220 u221 u222 u223 u224 u225 u226 u227 u228 u229 u230 u231 u232 u233 u234 u238 u239 u240 u241 u242 u243 u244 u245 u246 u247 u248 u249 u250 u251 u252 u253 u254 u255 u256 u257 u258 u259 u260 u261 u262 u263 u264 u265 u266 u267 u268 u269 u270 u271 u272 u273 u274 u275 u276 u277 u278 u279 u280 u281 u282 u283 u284 u285 u286 u287 u288 u289 u290 u291 u292 u293 u294 u295 u296 u297 u298 u299 u300 u301 u302 u303 u304 u305 u306 u307 u308 u309 u310 u311 u312 u313 u314 u315 u316 u317 u318 u319 u320 u321 u322 u323 u324 u325 u326 u327 u328 u329 u330 u331 u332 u333 u334 u335 u336 u337 u338 u339 u340 u341 u342 u343 u344 u345 u346 u347 u348 : Value} (hK : Chk R n B bI S F inn szf) (hF : Fd R 2000 found (.slice (p7.map fun b => ⟨b, 0, none⟩) found.length q7)) (hC : Ck w0 w R C n (fun _ => 0)) (hn : n ≤ 64) (hfl : found.length ≤ 500)
    (hP : ∀ c, c ∈ found → 2 ≤ c.length ∧ c.Pairwise (· < ·) ∧ (∀ t, t ∈ c → t < n ∧ inn t = true ∧ szf t = c.length) ∧ ∀ t u, t ∈ c → u ∈ c → u = t ∨ (F u t = true ∧ F t u = true)) (hpd : found.Pairwise (fun c d => ∀ t, t ∈ c → t ∉ d)) (hlen : ∀ c, c ∈ found → c.length ≤ 1000)
    (HQ : Hid (∀ (y2 y28 y29 y30 y31 y237 y238 y239 y240 y241 y242 y243 y244 y245 y246 y247 y248 y249 y250 y251 y252 y253 y254 y255 y256 y257 y258 y259 y260 y261 y262 y263 y264 y265 y266 y267 y268 y269 y270 y271 y272 y273 y274 y275 y276 y277 y278 y279 y280 y281 y282 y283 y284 y285 y286 y287 y288 y289 y290 y291 y292 y293 y294 y295 y296 y297 y298 y299 y300 y301 y302 y303 y304 y305 y306 y307 y308 y309 y310 y311 y312 y313 y314 y315 y316 y317 y318 y319 y320 y321 y322 y323 y324 y325 y326 : Value) (w' : World), Ck w0 w' R C n (cntOf found) → Q .normal ⟨#[u0, u1, y2, .int .i64 (n : Int), u4, u5, .slice (some ⟨bI, 0, none⟩) n n, u7, u8, u9, u10, u11, u12, u13, u14, .slice (some ⟨B, 0, none⟩) n n, u16, u17, u18, u19, u20, .slice (some ⟨S, 0, none⟩) n n, u22, u23, u24, u25, .slice (some ⟨C, 0, none⟩) n n, u27, y28, y29, y30, y31, u32, u33, u34, u35, u36, u37, u38, u39, u40, u41, u42, u43, u44, u45, u46, u47, u48, u49, u50, u51, u52, u53, u54, u55, u56, u57, u58, u59, u60, u61, u62, u63, u64, u65, u66, u67, u68, u69, u70, u71, u72, u73, u74, u75, u76, u77, u78, u79, u80, u81, u82, u83, u84, u85, u86, u87, u88, u89, u90, u91, u92, u93, u94, u95, u96, u97, u98, u99, u100, u101, u102, u103, u104, u105, u106, u107, u108, u109, u110, u111, u112, u113, u114, u115, u116, u117, u118, u119, u120, u121, u122, u123, u124, u125, u126, u127, u128, u129, u130, u131, u132, u133, u134, u135, u136, u137, u138, u139, u140, u141, u142, u143, u144, u145, u146, u147, u148, u149, u150, u151, u152, u153, u154, u155, u156, u157, u158, u159, u160, u161, u162, u163, u164, u165, u166, u167, u168, u169, u170, u171, u172, u173, u174, u175, u176, u177, u178, u179, u180, u181, u182, u183, u184, u185, u186, u187, u188, u189, u190, u191, u192, u193, u194, u195, u196, u197, u198, u199, u200, u201, u202, u203, u204, u205, u206, u207, u208, u209, u210, u211, u212, u213, u214, u215, u216, u217, u218, u219, u220, u221, u222, u223, u224, u225, u226, u227, u228, u229, u230, u231, u232, u233, u234, .slice (p7.map fun b => ⟨b, 0, none⟩) found.length q7, .int .i64 (found.length : Int), y237, y238, y239, y240, y241, y242, y243, y244, y245, y246, y247, y248, y249, y250, y251, y252, y253, y254, y255, y256, y257, y258, y259, y260, y261, y262, y263, y264, y265, y266, y267, y268, y269, y270, y271, y272, y273, y274, y275, y276, y277, y278, y279, y280, y281, y282, y283, y284, y285, y286, y287, y288, y289, y290, y291, y292, y293, y294, y295, y296, y297, y298, y299, y300, y301, y302, y303, y304, y305, y306, y307, y308, y309, y310, y311, y312, y313, y314, y315, y316, y317, y318, y319, y320, y321, y322, y323, y324, y325, y326, u327, u328, u329, u330, u331, u332, u333, u334, u335, u336, u337, u338, u339, u340, u341, u342, u343, u344, u345, u346, u347, u348], []⟩ w')) :
    Code.wp Yba.prog (nav [1, 1, 1, 1, 1, 1, 1, 1, 1, 1, 1, 1, 1, 1, 1, 0, 1] (Yba.f5.body.getD .skip)) Q ⟨#[u0, u1, u2, .int .i64 (n : Int), u4, u5, .slice (some ⟨bI, 0, none⟩) n n, u7, u8, u9, u10, u11, u12, u13, u14, .slice (some ⟨B, 0, none⟩) n n, u16, u17, u18, u19, u20, .slice (some ⟨S, 0, none⟩) n n, u22, u23, u24, u25, .slice (some ⟨C, 0, none⟩) n n, u27, u28, u29, u30, u31, u32, u33, u34, u35, u36, u37, u38, u39, u40, u41, u42, u43, u44, u45, u46, u47, u48, u49, u50, u51, u52, u53, u54, u55, u56, u57, u58, u59, u60, u61, u62, u63, u64, u65, u66, u67, u68, u69, u70, u71, u72, u73, u74, u75, u76, u77, u78, u79, u80, u81, u82, u83, u84, u85, u86, u87, u88, u89, u90, u91, u92, u93, u94, u95, u96, u97, u98, u99, u100, u101, u102, u103, u104, u105, u106, u107, u108, u109, u110, u111, u112, u113, u114, u115, u116, u117, u118, u119, u120, u121, u122, u123, u124, u125, u126, u127, u128, u129, u130, u131, u132, u133, u134, u135, u136, u137, u138, u139, u140, u141, u142, u143, u144, u145, u146, u147, u148, u149, u150, u151, u152, u153, u154, u155, u156, u157, u158, u159, u160, u161, u162, u163, u164, u165, u166, u167, u168, u169, u170, u171, u172, u173, u174, u175, u176, u177, u178, u179, u180, u181, u182, u183, u184, u185, u186, u187, u188, u189, u190, u191, u192, u193, u194, u195, u196, u197, u198, u199, u200, u201, u202, u203, u204, u205, u206, u207, u208, u209, u210, u211, u212, u213, u214, u215, u216, u217, u218, u219, u220, u221, u222, u223, u224, u225, u226, u227, u228, u229, u230, u231, u232, u233, u234, .slice (p7.map fun b => ⟨b, 0, none⟩) found.length q7, .int .i64 (found.length : Int), .int .i64 0, u238, u239, u240, u241, u242, u243, u244, u245, u246, u247, u248, u249, u250, u251, u252, u253, u254, u255, u256, u257, u258, u259, u260, u261, u262, u263, u264, u265, u266, u267, u268, u269, u270, u271, u272, u273, u274, u275, u276, u277, u278, u279, u280, u281, u282, u283, u284, u285, u286, u287, u288, u289, u290, u291, u292, u293, u294, u295, u296, u297, u298, u299, u300, u301, u302, u303, u304, u305, u306, u307, u308, u309, u310, u311, u312, u313, u314, u315, u316, u317, u318, u319, u320, u321, u322, u323, u324, u325, u326, u327, u328, u329, u330, u331, u332, u333, u334, u335, u336, u337, u338, u339, u340, u341, u342, u343, u344, u345, u346, u347, u348], []⟩ w := by
  conv => arg 2; whnf
  obtain ⟨p31, q31, h31, hv31⟩ := hF.row
  have hpp : p7 = p31 := by
    injection hv31 with hv1 _ hv3
    cases p7 <;> cases p31 <;> simp_all
  subst hpp
  clear hv31
  have hfr : found.reverse.length = found.length := List.length_reverse
  go_wp2_with fail
  go_loopg [237] found.length (fun q s237 wx => ∃ (a : Nat), s237 = .int .i64 a ∧ a ≤ found.length ∧ found.length - a ≤ q ∧ Ck w0 wx R C n (cntOf (found.reverse.take a)))
  case atStart => exact ⟨0, rfl, Nat.zero_le _, Nat.le_refl _, hC.congr (fun x => by simp [cntOf])⟩
  case round =>
    obtain ⟨a, rfl, hal, haq, hCa⟩ := hrel
    clear hC
    by_cases ha : a < found.length
    · have a1 : (a : Int) < (found.length : Int) := by omega
      obtain ⟨c, hc⟩ : ∃ c, found.reverse[a]? = some c := ⟨found.reverse[a], List.getElem?_eq_getElem (by omega)⟩
      have hcm : c ∈ found := by simpa using List.mem_of_getElem? hc
      obtain ⟨h2, hlt, hel, hmu⟩ := hP c hcm
      have hcl := hlen c hcm
      have hpw : (found.reverse.take a).Pairwise (fun c d => ∀ t, t ∈ c → t ∉ d) := ((List.pairwise_reverse.2 (hpd.imp (fun {x y} h t ht ht' => h t ht' ht))).sublist (List.take_sublist _ _))
      have hfta : found.reverse.take (a + 1) = found.reverse.take a ++ [c] := by rw [List.take_add_one, hc]; rfl
      obtain ⟨pc, qc, hrow⟩ := hF.comp a c hc
      obtain ⟨g31, rfl⟩ : ∃ g, p7 = some g := by
        have hok := hCa.ok (i := 31) (by omega)
        rw [h31] at hok
        cases p7 with
        | some g => exact ⟨g, rfl⟩
        | none =>
          rcases hok.2 with ⟨_, hn0⟩ | ⟨g, cap, cur, hv, _⟩
          · have hn0 : found.length = 0 := hn0
            omega
          · simp [Row.val] at hv
      obtain ⟨c0, hc0⟩ : ∃ x, c[0]? = some x := ⟨c[0], List.getElem?_eq_getElem (by omega)⟩
      obtain ⟨gc, rfl⟩ : ∃ g, pc = some g := by
        have hok := hCa.ok (i := 2000 + a) (by omega)
        rw [hrow] at hok
        exact hok.at hc0
      have hcell31 : wr.cell? ⟨g31, a, none⟩ = some (.slice (some ⟨gc, 0, none⟩) c.length qc) := by
        have := hCa.cell (i := 31) (d := g31) (j := a) (v := (R (2000 + a)).val) (by omega) (by rw [h31]) (by rw [h31]; exact tab_get ha)
        rw [hrow] at this
        exact this
      have cc0 : wr.cell? ⟨gc, 0, none⟩ = some (i32 c0) := hCa.cell (i := 2000 + a) (by omega) (by rw [hrow]) (by rw [hrow]; simp [hc0])
      have hm0 : c0 ∈ c := List.mem_of_getElem? hc0
      obtain ⟨z1, z2, z3⟩ := hel c0 hm0
      have csz : wr.cell? ⟨S, c0, none⟩ = some (.int .i64 ((c.length : Nat) : Int)) := by rw [← z3]; exact hK.cSz hCa z1
      have b1 : decide (((c.length : Nat) : Int) < 2) = false := by simp; omega
      have b1' : ¬ ((c.length : Nat) : Int) < 2 := by omega
      have b2 : decide ((c0 : Int) < 0) = false := by simp
      have b3 : decide ((n : Int) ≤ (c0 : Int)) = false := by simp; omega
      have b3' : decide ((c0 : Int) ≥ (n : Int)) = false := by simp; omega
      have b5 : (c0 : Int) < (n : Int) := by omega
      have b4 : ((c.length : Int) != (c.length : Int)) = false := by simp
      have l0 : (0 : Int) < ((c.length : Nat) : Int) := by omega
      have HCa : Hid (Ck w0 wr R C n (cntOf (found.reverse.take a))) := hCa
      clear hCa
      go_wp2_with fail
      clear cc0 csz hcell31 b1 b1' b2 b3 b3' b4
      have HC0 : Hid (Ck w0 wr R C n (fun x => cntOf (found.reverse.take a) x + (if x ∈ c.take (0) then 1 else 0))) := HCa.out.congr (fun x => by simp)
      clear HCa
      go_loopg [266] c.length (fun q s266 wx => ∃ (j : Nat), s266 = .int .i64 j ∧ j ≤ c.length ∧ c.length - j ≤ q ∧ Ck w0 wx R C n (fun x => cntOf (found.reverse.take a) x + (if x ∈ c.take (j) then 1 else 0)))
      case atStart => exact ⟨0, rfl, Nat.zero_le _, Nat.le_refl _, HC0.out⟩
      case round =>
        clear HC0
        obtain ⟨j, rfl, hjl, hjq, hCj⟩ := hrel
        by_cases hj : j < c.length
        · have j1 : (j : Int) < ((c.length : Nat) : Int) := by omega
          obtain ⟨t, htj⟩ : ∃ t, c[j]? = some t := ⟨c[j], List.getElem?_eq_getElem hj⟩
          have htm : t ∈ c := List.mem_of_getElem? htj
          have ht := hel t htm
          have htk : c.take (j + 1) = c.take j ++ [t] := by rw [List.take_add_one, htj]; rfl
          have ctj : wr.cell? ⟨gc, j, none⟩ = some (i32 t) := hCj.cell (i := 2000 + a) (by omega) (by rw [hrow]) (by rw [hrow]; simp [htj])
          have cin : wr.cell? ⟨bI, t, none⟩ = some (.bool true) := by rw [← ht.2.1]; exact hK.cIn hCj ht.1
          have hord : ∀ (j' t' : Nat), j' < j → c[j']? = some t' → t' < t := fun j' t' hlt' ht' => by
            obtain ⟨q1, rfl⟩ := List.getElem?_eq_some_iff.1 ht'
            obtain ⟨q2, rfl⟩ := List.getElem?_eq_some_iff.1 htj
            exact (List.pairwise_iff_getElem.1 hlt) j' j q1 q2 hlt'
          have hnt : t ∉ c.take j := fun hm => by
            obtain ⟨j', hj'⟩ := List.getElem?_of_mem hm
            rw [List.getElem?_take] at hj'
            split at hj'
            · rename_i hlt'
              exact Nat.lt_irrefl _ (hord j' t hlt' hj')
            · cases hj'
          have d2 : decide ((t : Int) < 0) = false := by simp
          have d3 : decide ((t : Int) ≥ (n : Int)) = false := by simp; omega
          have d3' : decide ((n : Int) ≤ (t : Int)) = false := by simp; omega
          have d5 : (t : Int) < (n : Int) := by omega
          by_cases hj0 : j = 0
          · subst hj0
            rw [hc0] at htj
            injection htj with htj
            have htj := htj.symm
            subst htj
            have e0 : decide ((0 : Int) < 0) = false := by simp
            have e1 : ((t : Int) != (t : Int)) = false := by simp
            obtain ⟨cc, fc, hset⟩ := hCj.at_ ht.1
            have hcc : (if t ∈ c.take 0 then 1 else 0 : Nat) = 0 := if_neg hnt
            rw [hcc, Nat.add_zero] at cc
            have HS : Hid (Ck w0 (wr.setCell ⟨C, t, none⟩ (.int .i64 ((cntOf (found.reverse.take a) t : Nat) + 1 : Int))) R C n (fun x => cntOf (found.reverse.take a) x + (if x ∈ c.take (0 + 1) then 1 else 0))) := hset (cntOf (found.reverse.take a) t + 1) _ (by
              (try dsimp only)
              rw [if_pos (by rw [htk]; simp)]) (fun x hx => by
              (try dsimp only)
              rw [htk]
              simp [hx])
            clear hset hcc hCj
            have hcle := cnt_le hpw t
            generalize cntOf (found.reverse.take a) t = ct at *
            go_wp2_with fail
            go_roundg (c.length - (0 + 1))
            case measure => omega
            case rel => exact ⟨0 + 1, by go_num, by omega, by omega, HS.out⟩
          · obtain ⟨tp, htp⟩ : ∃ x, c[j - 1]? = some x := ⟨c[j - 1], List.getElem?_eq_getElem (by omega)⟩
            have ctp : wr.cell? ⟨gc, j - 1, none⟩ = some (i32 tp) := hCj.cell (i := 2000 + a) (by omega) (by rw [hrow]) (by rw [hrow]; simp [htp])
            have hpl := hord (j - 1) tp (by omega) htp
            have h0l := hord 0 c0 (by omega) hc0
            have e0 : decide ((0 : Int) < (j : Int)) = true := by simp; omega
            have e1 : ((t : Int) != (c0 : Int)) = true := by simp; omega
            have e4 : decide ((t : Int) ≤ (tp : Int)) = false := by simp; omega
            have e4' : decide ((tp : Int) ≥ (t : Int)) = false := by simp; omega
            have ejm : (j : Int) - 1 = ((j - 1 : Nat) : Int) := by omega
            have ej1 : ((j - 1 : Nat) : Int) < ((c.length : Nat) : Int) := by omega
            obtain ⟨r1, r2⟩ := (hmu c0 t hm0 htm).resolve_left (by omega)
            obtain ⟨gt, x1, x2⟩ := hK.cF hCj ht.1 z1
            obtain ⟨g0, x3, x4⟩ := hK.cF hCj z1 ht.1
            rw [r1] at x2
            rw [r2] at x4
            generalize j - 1 = jm at *
            obtain ⟨cc, fc, hset⟩ := hCj.at_ ht.1
            have hcc : (if t ∈ c.take j then 1 else 0 : Nat) = 0 := if_neg hnt
            rw [hcc, Nat.add_zero] at cc
            have HS : Hid (Ck w0 (wr.setCell ⟨C, t, none⟩ (.int .i64 ((cntOf (found.reverse.take a) t : Nat) + 1 : Int))) R C n (fun x => cntOf (found.reverse.take a) x + (if x ∈ c.take (j + 1) then 1 else 0))) := hset (cntOf (found.reverse.take a) t + 1) _ (by
              (try dsimp only)
              rw [if_pos (by rw [htk]; simp)]) (fun x hx => by
              (try dsimp only)
              rw [htk]
              simp [hx])
            clear hset hcc hCj
            have hcle := cnt_le hpw t
            generalize cntOf (found.reverse.take a) t = ct at *
            go_wp2_with fail
            go_roundg (c.length - (j + 1))
            case measure => omega
            case rel => exact ⟨j + 1, by go_num, by omega, by omega, HS.out⟩
        · obtain rfl : j = c.length := by omega
          have j1 : ¬ ((c.length : Nat) : Int) < ((c.length : Nat) : Int) := by omega
          have HF : Hid (Ck w0 wr R C n (cntOf (found.reverse.take (a + 1)))) := hCj.congr (fun x => by rw [hfta, cnt_snoc, List.take_length])
          clear hCj
          go_wp2_with fail
          go_roundg (found.length - (a + 1))
          case measure => omega
          case rel => exact ⟨a + 1, by go_num, by omega, by omega, HF.out⟩
    · obtain rfl : a = found.length := by omega
      have a1 : ¬ ((found.length : Nat) : Int) < (found.length : Int) := by omega
      have HF : Hid (Ck w0 wr R C n (cntOf found)) := hCa.congr (fun x => by rw [← hfr, List.take_length, cnt_rev])
      clear hCa
      go_wp2_with fail
      exact HQ.out _ _ _ _ _ _ _ _ _ _ _ _ _ _ _ _ _ _ _ _ _ _ _ _ _ _ _ _ _ _ _ _ _ _ _ _ _ _ _ _ _ _ _ _ _ _ _ _ _ _ _ _ _ _ _ _ _ _ _ _ _ _ _ _ _ _ _ _ _ _ _ _ _ _ _ _ _ _ _ _ _ _ _ _ _ _ _ _ _ _ _ _ _ _ _ _ HF.out
end Go.Proofs.Ybulkajny
