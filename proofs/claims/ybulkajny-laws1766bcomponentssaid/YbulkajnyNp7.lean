import Derived.Test.YbulkajnyNp5
import Derived.Test.YbulkajnyNp6
import Derived.Test.YbulkajnyBuild
namespace Go.Proofs.Ybulkajny
open Go.RowKit Go.Sort Go.Maps
set_option linter.unusedVariables false

set_option maxRecDepth 100000 in
set_option maxHeartbeats 8000000 in
/-- One transaction. -/
theorem round15 {w0 w : World} {R0 : Nat → Row} {n mb G t : Nat} {b x : Nat → Nat} {rv wv : Nat → List Nat} {done : List Nat} {s : NS} {Q : Exit → Act → World → Prop} {gx : List Value} {z bI qs j : Nat} {ps : Option Nat} {set : List Nat} {out : Nat → Bool} {v13 v14 u1 u2 u3 u4 u10 u11 u12 u13 u14 u15 u16 u17 u18 u19 u20 u21 u22 u23 u24 u25 u26 u27 u28 u29 u30 u31 u32 u33 u34 u35 u36 u37 u38 u39 u41 u43 u44 u45 u46 u47 u48 u49 u50 u51 u52 u53 u54 u55 u56 u57 u58 u59 u60 u61 u62 u63 u64 u65 u66 u67 u68 u69 u70 u71 u72 u73 u74 u75 u76 u77 u78 u79 u80 u81 u82 u83 u84 u85 u86 u87 u88 u89 u90 u91 u92 u93 u94 u95 u96 u97 u98 u99 u100 u101 u102 u103 u104 u105 u106 u107 u108 u109 u110 u111 u112 u113 u114 u115 u116 u117 u118 u119 u120 u121 u122 u123 u124 u125 u126 u127 u128 u129 u130 u131 u132 u133 u134 u135 u136 u137 u138 u139 u140 u141 u142 u143 u144 u145 u146 u147 u148 u149 u150 u151 u152 u153 u154 u155 u156 u157 u158 u159 u160 u161 u162 u163 u164 u165 u166 u167 u168 u169 u170 u171 u172 u173 u174 u175 u176 u177 u178 u179 u180 u181 u182 u183 u184 u185 u186 u187 u188 u189 u190 u191 u192 u193 u194 u195 u196 u197 u198 u199 u200 u201 u202 u203 u204 u205 u206 u207 u208 u209 u210 u211 u212 u213 u214 u215 u216 u217 u218 u219 u220 u221 u222 u223 u224 u225 u226 u227 u228 u229 u230 u231 u232 u233 u234 u235 u236 u237 u238 u239 u240 u241 u242 u243 u244 u245 u246 u247 u248 u249 u250 u251 u252 u253 u254 u255 u256 u257 u258 u259 u260 u261 u262 u263 u264 u265 u266 : Value} (hN : Nj w0 w R0 n b x mb s v13 v14) (hP : Pl rv wv (set.take j) (fun _ => False) (fun _ => False) s) (hj : set[j]? = some t) (hnd : set.Nodup) (hsl : set.length ≤ 100)
    (hS : R0 20 = ⟨ps, qs, 21, 1, set.length, set.map i32⟩) (hB : Bs R0 n z bI rv wv out n) (hlen : (rv t).length ≤ 256 ∧ (wv t).length ≤ 256)
    (hG : R0 0 = ⟨some G, 1, 49, 15, 1, gx⟩) (hx0 : gx[0]? = some (.slice (some ⟨b 1, 0, none⟩) n n)) (hx1 : gx[1]? = some (.slice (some ⟨b 2, 0, none⟩) n n)) (hx2 : gx[2]? = some (.slice (some ⟨b 47, 0, none⟩) n n)) (ht : t < n) (hn : n ≤ 64)
    (HQ : Hid (∀ (y11 y12 y13 y14 y16 y17 y19 y20 y22 y44 y45 y46 y47 y48 y49 y50 y51 y52 y53 y54 y55 y56 y57 y58 y59 y60 y61 y62 y63 y64 y65 y66 y67 y68 y69 y70 y71 y72 y73 y74 y75 y76 y77 y78 y79 y80 y81 y82 y83 y84 y85 y86 y87 y88 y89 y90 y91 y92 y93 y94 y95 y96 y97 y98 y99 y100 y101 y102 y103 y104 y105 y106 y107 y108 y109 y110 y111 y112 y113 y114 y115 y116 y117 y118 y119 y120 y121 y122 y123 y124 y125 y126 y127 y128 y129 y130 y131 y132 y133 y134 y135 y136 y137 y138 y139 y140 y141 y142 y143 y144 y145 y146 y147 y148 y149 y150 y151 y152 y153 y154 y155 y156 y157 y158 y159 y160 y161 y162 y163 y164 y165 y166 y167 y168 y169 y170 y171 y172 y173 y174 y175 y176 y177 y178 y179 y180 y181 y182 y183 y184 y185 y186 y187 y188 y189 y190 y191 y192 y193 y194 y195 y196 y197 y198 y199 y200 y201 y202 : Value) (w' : World) (R1 : Nat → Row) (s' : NS), Nj w0 w' R1 n b x mb s' y13 y14 → (∀ i, i ≠ 48 → R1 i = R0 i) → Pl rv wv (set.take (j + 1)) (fun _ => False) (fun _ => False) s' → Q .normal ⟨#[.slice (some ⟨z, 0, none⟩) n n, u1, u2, u3, u4, .pointer (some ⟨G, 0, none⟩), .pointer (some ⟨x 43, 0, none⟩), .pointer (some ⟨x 44, 0, none⟩), .pointer (some ⟨x 42, 0, none⟩), .func (Fn.func 25) #[] #[.pointer (some ⟨x 42, 0, none⟩), .pointer (some ⟨x 43, 0, none⟩), .pointer (some ⟨x 44, 0, none⟩)], u10, y11, y12, y13, y14, u15, y16, y17, u18, y19, y20, u21, y22, u23, u24, u25, u26, u27, u28, u29, u30, u31, u32, u33, u34, u35, u36, u37, u38, u39, .slice (ps.map fun b => ⟨b, 0, none⟩) set.length qs, u41, .int .i64 (j : Int), u43, y44, y45, y46, y47, y48, y49, y50, y51, y52, y53, y54, y55, y56, y57, y58, y59, y60, y61, y62, y63, y64, y65, y66, y67, y68, y69, y70, y71, y72, y73, y74, y75, y76, y77, y78, y79, y80, y81, y82, y83, y84, y85, y86, y87, y88, y89, y90, y91, y92, y93, y94, y95, y96, y97, y98, y99, y100, y101, y102, y103, y104, y105, y106, y107, y108, y109, y110, y111, y112, y113, y114, y115, y116, y117, y118, y119, y120, y121, y122, y123, y124, y125, y126, y127, y128, y129, y130, y131, y132, y133, y134, y135, y136, y137, y138, y139, y140, y141, y142, y143, y144, y145, y146, y147, y148, y149, y150, y151, y152, y153, y154, y155, y156, y157, y158, y159, y160, y161, y162, y163, y164, y165, y166, y167, y168, y169, y170, y171, y172, y173, y174, y175, y176, y177, y178, y179, y180, y181, y182, y183, y184, y185, y186, y187, y188, y189, y190, y191, y192, y193, y194, y195, y196, y197, y198, y199, y200, y201, y202, u203, u204, u205, u206, u207, u208, u209, u210, u211, u212, u213, u214, u215, u216, u217, u218, u219, u220, u221, u222, u223, u224, u225, u226, u227, u228, u229, u230, u231, u232, u233, u234, u235, u236, u237, u238, u239, u240, u241, u242, u243, u244, u245, u246, u247, u248, u249, u250, u251, u252, u253, u254, u255, u256, u257, u258, u259, u260, u261, u262, u263, u264, u265, u266], []⟩ w')) :
    Code.wp Yba.prog (nav [1, 1, 1, 1, 1, 0, 1, 3, 2, 1, 1, 0, 3] (Yba.f15.body.getD .skip)) Q ⟨#[.slice (some ⟨z, 0, none⟩) n n, u1, u2, u3, u4, .pointer (some ⟨G, 0, none⟩), .pointer (some ⟨x 43, 0, none⟩), .pointer (some ⟨x 44, 0, none⟩), .pointer (some ⟨x 42, 0, none⟩), .func (Fn.func 25) #[] #[.pointer (some ⟨x 42, 0, none⟩), .pointer (some ⟨x 43, 0, none⟩), .pointer (some ⟨x 44, 0, none⟩)], u10, u11, u12, u13, u14, u15, u16, u17, u18, u19, u20, u21, u22, u23, u24, u25, u26, u27, u28, u29, u30, u31, u32, u33, u34, u35, u36, u37, u38, u39, .slice (ps.map fun b => ⟨b, 0, none⟩) set.length qs, u41, .int .i64 (j : Int), u43, u44, u45, u46, u47, u48, u49, u50, u51, u52, u53, u54, u55, u56, u57, u58, u59, u60, u61, u62, u63, u64, u65, u66, u67, u68, u69, u70, u71, u72, u73, u74, u75, u76, u77, u78, u79, u80, u81, u82, u83, u84, u85, u86, u87, u88, u89, u90, u91, u92, u93, u94, u95, u96, u97, u98, u99, u100, u101, u102, u103, u104, u105, u106, u107, u108, u109, u110, u111, u112, u113, u114, u115, u116, u117, u118, u119, u120, u121, u122, u123, u124, u125, u126, u127, u128, u129, u130, u131, u132, u133, u134, u135, u136, u137, u138, u139, u140, u141, u142, u143, u144, u145, u146, u147, u148, u149, u150, u151, u152, u153, u154, u155, u156, u157, u158, u159, u160, u161, u162, u163, u164, u165, u166, u167, u168, u169, u170, u171, u172, u173, u174, u175, u176, u177, u178, u179, u180, u181, u182, u183, u184, u185, u186, u187, u188, u189, u190, u191, u192, u193, u194, u195, u196, u197, u198, u199, u200, u201, u202, u203, u204, u205, u206, u207, u208, u209, u210, u211, u212, u213, u214, u215, u216, u217, u218, u219, u220, u221, u222, u223, u224, u225, u226, u227, u228, u229, u230, u231, u232, u233, u234, u235, u236, u237, u238, u239, u240, u241, u242, u243, u244, u245, u246, u247, u248, u249, u250, u251, u252, u253, u254, u255, u256, u257, u258, u259, u260, u261, u262, u263, u264, u265, u266], []⟩ w := by
  conv => arg 2; whnf
  have n20 : ¬ Nset 20 := by unfold Nset; omega
  have n19 : ¬ Nset 19 := by unfold Nset; omega
  have n48 : ¬ Nset 48 := by unfold Nset; omega
  have htd : t ∉ set.take j := fun hm => by
    obtain ⟨i, hi⟩ := List.getElem?_of_mem hm
    rw [List.getElem?_take] at hi
    split at hi
    · rename_i hij
      obtain ⟨h1, h2⟩ := List.getElem?_eq_some_iff.1 hi
      obtain ⟨h3, h4⟩ := List.getElem?_eq_some_iff.1 hj
      have e1 := hnd.idxOf_getElem i h1
      have e2 := hnd.idxOf_getElem j h3
      rw [h2] at e1
      rw [h4] at e2
      omega
    · cases hi
  have hjl : j < set.length := (List.getElem?_eq_some_iff.1 hj).1
  obtain ⟨gs, rfl⟩ : ∃ g, ps = some g := by
    have := hN.ok n20
    rw [hS] at this
    exact this.at hj
  have cs : w.cell? ⟨gs, j, none⟩ = some (i32 t) := hN.cell n20 (by rw [hS]) (by rw [hS]; simp [hj])
  obtain ⟨f, hb1, hb2⟩ := hB.blk
  obtain ⟨q1, q2, q0, q3⟩ := hb2 t ht
  obtain ⟨gr, hfr⟩ := hB.rs t ht
  obtain ⟨gw, hfw⟩ := hB.ws t ht
  have hxs : ∀ d, d < 4 → (R0 19).xs[t * 4 + d]? = some (f (t * 4 + d)) := fun d hd => by rw [hb1]; exact tab_get (by omega)
  have c0 : w.cell? ⟨z, t * 4, none⟩ = some (.string ⟨#[]⟩) := by rw [← q0]; exact hN.cell n19 (by rw [hb1]) (hxs 0 (by omega))
  have c1 : w.cell? ⟨z, t * 4 + 1, none⟩ = some (.slice (some ⟨gr, 0, none⟩) (rv t).length (rv t).length) := by rw [← hfr.val, ← q1]; exact hN.cell n19 (by rw [hb1]) (hxs 1 (by omega))
  have c2 : w.cell? ⟨z, t * 4 + 2, none⟩ = some (.slice (some ⟨gw, 0, none⟩) (wv t).length (wv t).length) := by rw [← hfw.val, ← q2]; exact hN.cell n19 (by rw [hb1]) (hxs 2 (by omega))
  have c3 : w.cell? ⟨z, t * 4 + 3, none⟩ = some (.slice none 0 0) := by rw [← q3]; exact hN.cell n19 (by rw [hb1]) (hxs 3 (by omega))
  have hN2 := (hN.make 48 n48 (by omega) #[.string ⟨#[]⟩, .slice (some ⟨gr, 0, none⟩) (rv t).length (rv t).length, .slice (some ⟨gw, 0, none⟩) (wv t).length (wv t).length, .slice none 0 0] 70 4 1 rfl (by unfold maxLen; omega)).fresh
  have hL2 := L2.start hP htd
  have t1 : (t : Int) < (n : Int) := by omega
  have j1 : (j : Int) < (set.length : Int) := by omega
  have HR1 : Hid (∀ i, i ≠ 48 → put R0 48 ⟨some w.heap.size, 1, 70, 4, 1, (#[.string ⟨#[]⟩, .slice (some ⟨gr, 0, none⟩) (rv t).length (rv t).length, .slice (some ⟨gw, 0, none⟩) (wv t).length (wv t).length, .slice none 0 0] : Array Value).toList⟩ i = R0 i) := fun i hi => put_ne hi
  have HR48 : Hid (put R0 48 ⟨some w.heap.size, 1, 70, 4, 1, (#[.string ⟨#[]⟩, .slice (some ⟨gr, 0, none⟩) (rv t).length (rv t).length, .slice (some ⟨gw, 0, none⟩) (wv t).length (wv t).length, .slice none 0 0] : Array Value).toList⟩ 48 = _) := put_eq
  generalize hR : put R0 48 ⟨some w.heap.size, 1, 70, 4, 1, (#[.string ⟨#[]⟩, .slice (some ⟨gr, 0, none⟩) (rv t).length (rv t).length, .slice (some ⟨gw, 0, none⟩) (wv t).length (wv t).length, .slice none 0 0] : Array Value).toList⟩ = R1 at *
  have HN2 : Hid (Nj w0 (w.alloc (.cells #[.string ⟨#[]⟩, .slice (some ⟨gr, 0, none⟩) (rv t).length (rv t).length, .slice (some ⟨gw, 0, none⟩) (wv t).length (wv t).length, .slice none 0 0] 70)) R1 n b x mb { s with lw := [], lp := [] } (.slice none 0 0) (.slice none 0 0)) := hN2
  clear hN hN2 hxs q0 q1 q2 q3
  refine wp_seq_k (fun K1 hK => ?_)
  have HK1 : Hid _ := hK
  clear hK
  go_wp2_with fail
  refine HK1.out _ _ ?_
  clear HK1
  refine wp_seq_k (fun K1 hK => ?_)
  have HK1 : Hid _ := hK
  clear hK
  go_wp2_with fail
  refine HK1.out _ _ ?_
  clear HK1
  refine wp_seq_k (fun K1 hK => ?_)
  have HK1 : Hid _ := hK
  clear hK
  go_wp2_with fail
  refine HK1.out _ _ ?_
  clear HK1
  clear cs c0 c1 c2 c3
  have hN2 : Nj w0 (w.alloc (.cells #[.string ⟨#[]⟩, .slice (some ⟨gr, 0, none⟩) (rv t).length (rv t).length, .slice (some ⟨gw, 0, none⟩) (wv t).length (wv t).length, .slice none 0 0] 70)) R1 n b x mb { s with lw := [], lp := [] } (.slice none 0 0) (.slice none 0 0) := HN2.out
  clear HN2
  have e48 := HR48.out
  clear HR48 hR
  have hR1 := HR1.out
  clear HR1
  generalize w.alloc (.cells #[.string ⟨#[]⟩, .slice (some ⟨gr, 0, none⟩) (rv t).length (rv t).length, .slice (some ⟨gw, 0, none⟩) (wv t).length (wv t).length, .slice none 0 0] 70) = w2 at *
  generalize w.heap.size = T at *
  have cT1 : w2.cell? ⟨T, 2, none⟩ = some (.slice (some ⟨gw, 0, none⟩) (wv t).length (wv t).length) := hN2.cell n48 (by rw [e48]) (by rw [e48]; rfl)
  have hfr1 : Filled R1 (400 + 2 * t) 65 2 gr (rv t) (rv t).length := hfr.congr (hR1 _ (by omega))
  have hfw1 : Filled R1 (401 + 2 * t) 68 3 gw (wv t) (wv t).length := hfw.congr (hR1 _ (by omega))
  have hG1 : R1 0 = ⟨some G, 1, 49, 15, 1, gx⟩ := (hR1 0 (by omega)).trans hG
  have HE : Hid (∀ i, i ≠ 48 → R1 i = R0 i) := hR1
  clear hR1
  refine wp_seq_k (fun K1 hK => ?_)
  have HK1 : Hid _ := hK
  clear hK
  refine wp_seq_k (fun K2 hK => ?_)
  have HK2 : Hid _ := hK
  clear hK
  go_wp2_with fail
  refine HK2.out _ _ ?_
  clear HK2
  clear cT1
  refine loop2_any hN2 hL2 (by omega) hfw1 hlen.2 ?_
  intro y13 _ _ _ _ _ _ _ _ _ _ _ _ _ _ _ _ _ _ _ _ _ _ _ _ _ _ _ w3 s3 hN3 hL3
  clear hN2 hL2
  refine HK1.out _ _ ?_
  clear HK1
  have cT2 : w3.cell? ⟨T, 1, none⟩ = some (.slice (some ⟨gr, 0, none⟩) (rv t).length (rv t).length) := hN3.cell n48 (by rw [e48]) (by rw [e48]; rfl)
  refine wp_seq_k (fun K1 hK => ?_)
  have HK1 : Hid _ := hK
  clear hK
  refine wp_seq_k (fun K2 hK => ?_)
  have HK2 : Hid _ := hK
  clear hK
  go_wp2_with fail
  refine HK2.out _ _ ?_
  clear HK2
  clear cT2
  refine loop3_any hN3 hL3.stop htd hfr1 hlen.1 hlen.2 hG1 hx0 hx1 hx2 ht hn ?_
  intro y14 _ _ _ _ _ _ _ _ _ _ _ _ _ _ _ _ _ _ _ _ _ _ _ _ _ _ _ _ _ _ _ _ _ _ _ _ _ _ _ _ _ _ _ _ _ _ _ _ _ _ w4 s4 hN4 hL4
  clear hN3 hL3
  have hl2 := hL4.l2
  refine HK1.out _ _ ?_
  clear HK1
  refine wp_seq_k (fun K1 hK => ?_)
  have HK1 : Hid _ := hK
  clear hK
  refine reg28 (rv := rv) (wv := wv) (done := set) hN4 hG1 hx0 hx1 hx2 ht hn (by omega) ?_
  intro _ _ _ _ _ _ _ _ _ _ _ _ _ _ _ w5 hN5
  clear hN4
  refine HK1.out _ _ ?_
  clear HK1
  refine wp_seq_k (fun K1 hK => ?_)
  have HK1 : Hid _ := hK
  clear hK
  refine reg29 (rv := rv) (wv := wv) (done := set) hN5 hG1 hx0 hx1 hx2 ht hn (by omega) ?_
  intro _ _ _ _ _ _ _ _ _ _ _ _ _ _ w6 hN6
  clear hN5
  refine HK1.out _ _ ?_
  clear HK1
  rw [n4_zero] at hN6
  obtain ⟨P13, c13, hv13⟩ : ∃ P c, y13 = .slice P s4.lw.length c := hN6.lwLen
  subst hv13
  refine wp_seq_k (fun K1 hK => ?_)
  have HK1 : Hid _ := hK
  clear hK
  refine wp_seq_k (fun K2 hK => ?_)
  have HK2 : Hid _ := hK
  clear hK
  go_wp2_with fail
  refine HK2.out _ _ ?_
  clear HK2
  refine loop4_any hN6 hL4 hlen.1 hlen.2 hG1 hx0 hx1 hx2 ht hn ?_
  intro _ _ _ _ _ _ _ _ _ _ _ _ _ _ _ _ _ _ _ _ _ _ _ _ _ _ _ _ _ w7 hN7
  clear hN6
  refine HK1.out _ _ ?_
  clear HK1
  have HFIN : Hid (∀ w8, Nj w0 w8 R1 n b x mb { n4 t s4 s4.lw.length with rds := ud (n4 t s4 s4.lw.length).rds t ((n4 t s4 s4.lw.length).rds t ++ (n4 t s4 s4.lw.length).lp) } (.slice P13 s4.lw.length c13) y14 → Nj w0 w8 R1 n b x mb (n5 t s4) (.slice P13 s4.lw.length c13) y14 ∧ Pl rv wv (set.take (j + 1)) (fun _ => False) (fun _ => False) (n5 t s4)) := fun w8 h8 => by
    refine ⟨h8, ?_⟩
    rw [List.take_add_one, hj]
    exact hL4.stop htd hlen.1 hlen.2
  by_cases h0 : s4.lp = []
  · refine reg36a (rv := rv) (wv := wv) (done := set) hN7 hG1 hx0 hx1 hx2 ht hn (by show (s4.rds t).length ≤ 1000000; omega) (by show s4.lp.length ≤ 1000; omega) h0 ?_
    intro _ _ _ _ _ _ _ _ _ _ _ _ _ _ _ w8 hN8
    obtain ⟨h1, h2⟩ := HFIN.out w8 hN8
    exact HQ.out _ _ _ _ _ _ _ _ _ _ _ _ _ _ _ _ _ _ _ _ _ _ _ _ _ _ _ _ _ _ _ _ _ _ _ _ _ _ _ _ _ _ _ _ _ _ _ _ _ _ _ _ _ _ _ _ _ _ _ _ _ _ _ _ _ _ _ _ _ _ _ _ _ _ _ _ _ _ _ _ _ _ _ _ _ _ _ _ _ _ _ _ _ _ _ _ _ _ _ _ _ _ _ _ _ _ _ _ _ _ _ _ _ _ _ _ _ _ _ _ _ _ _ _ _ _ _ _ _ _ _ _ _ _ _ _ _ _ _ _ _ _ _ _ _ _ _ _ _ _ _ _ _ _ _ _ _ _ _ _ _ _ _ _ _ _ _ _ _ R1 _ h1 HE.out h2
  · refine reg36b (rv := rv) (wv := wv) (done := set) hN7 hG1 hx0 hx1 hx2 ht hn (by show (s4.rds t).length ≤ 1000000; omega) (by show s4.lp.length ≤ 1000; omega) h0 ?_
    intro _ _ _ _ _ _ _ _ _ _ _ _ _ _ _ w8 hN8
    obtain ⟨h1, h2⟩ := HFIN.out w8 hN8
    exact HQ.out _ _ _ _ _ _ _ _ _ _ _ _ _ _ _ _ _ _ _ _ _ _ _ _ _ _ _ _ _ _ _ _ _ _ _ _ _ _ _ _ _ _ _ _ _ _ _ _ _ _ _ _ _ _ _ _ _ _ _ _ _ _ _ _ _ _ _ _ _ _ _ _ _ _ _ _ _ _ _ _ _ _ _ _ _ _ _ _ _ _ _ _ _ _ _ _ _ _ _ _ _ _ _ _ _ _ _ _ _ _ _ _ _ _ _ _ _ _ _ _ _ _ _ _ _ _ _ _ _ _ _ _ _ _ _ _ _ _ _ _ _ _ _ _ _ _ _ _ _ _ _ _ _ _ _ _ _ _ _ _ _ _ _ _ _ _ _ _ _ R1 _ h1 HE.out h2
end Go.Proofs.Ybulkajny
