import Derived.Test.YbulkajnyCyc3
import Derived.Deep.LoopGhost
import Derived.Deep.DeepCutAuto
namespace Go.Proofs.Ybulkajny
open Go.RowKit Go.Sort
set_option linter.unusedSimpArgs false
set_option linter.unusedVariables false

set_option maxRecDepth 100000 in
set_option maxHeartbeats 4000000 in
theorem pop_tail {w0 w : World} {R0 : Nat → Row} {E : Option (Nat × Obj)} {n K G B NB f0 v : Nat} {b : Nat → Nat} {s : TS} {succ : Nat → List Nat} {Q : Exit → Act → World → Prop} {v7 u0 u1 u3 u4 u8 u11 u13 u14 u15 u16 u17 u19 u20 u21 u22 u23 u24 u25 u26 u27 u28 u29 u30 u31 u32 u33 u34 u35 u36 u37 u38 u39 u40 u41 u42 u43 u44 u45 u46 u47 u48 u49 u50 u51 u52 u53 u54 u55 u56 u57 u58 u59 u60 u61 u62 u63 u64 u65 u66 u67 u68 u69 u70 u71 u72 u73 u74 u75 u76 u77 u78 u79 u80 u81 u82 u83 u84 u85 u86 u87 u88 u89 u90 u91 u92 u93 u94 u95 u96 u97 u98 u99 u100 u101 u102 u103 u104 u105 u106 u107 u108 u109 u110 u111 u112 u113 u114 u115 u116 u117 u118 u119 u120 u121 u122 u123 u124 u125 u126 u127 u128 u129 u130 u131 u132 u133 u134 u135 u136 u137 u138 u139 u140 u141 u142 u143 u144 u145 u146 u147 u148 u149 u150 u151 u152 u153 u154 u155 u156 u157 u158 u159 u160 u161 u162 u163 u164 u165 u166 u167 u168 u169 u170 u171 u172 u173 u174 u175 u176 u177 u178 u179 u180 u181 u182 u183 u184 u185 u186 u187 u188 u189 u190 u191 u192 u193 u194 u195 u196 u197 u198 u199 u200 u201 u202 u203 u204 u205 u206 u207 u208 u209 u210 u211 u212 u213 u214 u215 u216 u217 u218 u219 u220 u221 u222 u223 : Value} (hE : Env R0 n K G b succ B NB) (hT : Tj w0 w R0 E (n + K) b s) (hN : n + K ≤ 400) (hF : Fd R0 f0 s.found v7) (hf0 : 1000 ≤ f0) (hff : s.found.length ≤ 500) (hvs : v ∈ s.stk) (hlt : ∀ x, x ∈ s.stk → x < n + K) (hsl : s.stk.length ≤ 400)
    (HQ : Hid (∀ (x7 x20 x21 x167 x168 x169 x170 x171 x172 x173 x174 x175 x176 x177 x178 x179 x180 x181 x182 x183 x184 x185 x186 x187 x188 x189 x190 x191 x192 x193 x194 x195 x196 x197 x198 x199 x200 x201 x202 : Value) (w' : World) (R' : Nat → Row), (∀ i, ¬ Fset f0 i → R' i = R0 i) → Fd R' f0 (popN n s v).found x7 → Tj w0 w' R' E (n + K) b (popN n s v) → Q .normal ⟨#[u0, u1, .pointer (some ⟨B, 0, none⟩), u3, u4, .pointer (some ⟨NB, 0, none⟩), .func (Fn.func 27) #[] #[.pointer (some ⟨NB, 0, none⟩), .pointer (some ⟨B, 0, none⟩)], x7, u8, .pointer (some ⟨b 12, 0, none⟩), .pointer (some ⟨b 13, 0, none⟩), u11, .func (Fn.func 28) #[] #[.pointer (some ⟨b 11, 0, none⟩), .pointer (some ⟨B, 0, none⟩), .pointer (some ⟨b 13, 0, none⟩), .pointer (some ⟨b 14, 0, none⟩), .pointer (some ⟨b 12, 0, none⟩)], u13, u14, u15, u16, u17, i32 v, u19, x20, x21, u22, u23, u24, u25, u26, u27, u28, u29, u30, u31, u32, u33, u34, u35, u36, u37, u38, u39, u40, u41, u42, u43, u44, u45, u46, u47, u48, u49, u50, u51, u52, u53, u54, u55, u56, u57, u58, u59, u60, u61, u62, u63, u64, u65, u66, u67, u68, u69, u70, u71, u72, u73, u74, u75, u76, u77, u78, u79, u80, u81, u82, u83, u84, u85, u86, u87, u88, u89, u90, u91, u92, u93, u94, u95, u96, u97, u98, u99, u100, u101, u102, u103, u104, u105, u106, u107, u108, u109, u110, u111, u112, u113, u114, u115, u116, u117, u118, u119, u120, u121, u122, u123, u124, u125, u126, u127, u128, u129, u130, u131, u132, u133, u134, u135, u136, u137, u138, u139, u140, u141, u142, u143, u144, u145, u146, u147, u148, u149, u150, u151, u152, u153, u154, u155, u156, u157, u158, u159, u160, u161, u162, u163, u164, u165, u166, x167, x168, x169, x170, x171, x172, x173, x174, x175, x176, x177, x178, x179, x180, x181, x182, x183, x184, x185, x186, x187, x188, x189, x190, x191, x192, x193, x194, x195, x196, x197, x198, x199, x200, x201, x202, u203, u204, u205, u206, u207, u208, u209, u210, u211, u212, u213, u214, u215, u216, u217, u218, u219, u220, u221, u222, u223], []⟩ w')) :
    Code.wp Yba.prog (nav [1, 1, 1, 1, 1, 1, 1, 1, 1, 1, 0, 1, 3, 2, 1, 1, 0, 3, 1, 1, 1, 3, 2, 1, 3, 1, 1, 1, 1, 1, 1] (Yba.f16.body.getD .skip)) Q ⟨#[u0, u1, .pointer (some ⟨B, 0, none⟩), u3, u4, .pointer (some ⟨NB, 0, none⟩), .func (Fn.func 27) #[] #[.pointer (some ⟨NB, 0, none⟩), .pointer (some ⟨B, 0, none⟩)], v7, u8, .pointer (some ⟨b 12, 0, none⟩), .pointer (some ⟨b 13, 0, none⟩), u11, .func (Fn.func 28) #[] #[.pointer (some ⟨b 11, 0, none⟩), .pointer (some ⟨B, 0, none⟩), .pointer (some ⟨b 13, 0, none⟩), .pointer (some ⟨b 14, 0, none⟩), .pointer (some ⟨b 12, 0, none⟩)], u13, u14, u15, u16, u17, i32 v, u19, u20, u21, u22, u23, u24, u25, u26, u27, u28, u29, u30, u31, u32, u33, u34, u35, u36, u37, u38, u39, u40, u41, u42, u43, u44, u45, u46, u47, u48, u49, u50, u51, u52, u53, u54, u55, u56, u57, u58, u59, u60, u61, u62, u63, u64, u65, u66, u67, u68, u69, u70, u71, u72, u73, u74, u75, u76, u77, u78, u79, u80, u81, u82, u83, u84, u85, u86, u87, u88, u89, u90, u91, u92, u93, u94, u95, u96, u97, u98, u99, u100, u101, u102, u103, u104, u105, u106, u107, u108, u109, u110, u111, u112, u113, u114, u115, u116, u117, u118, u119, u120, u121, u122, u123, u124, u125, u126, u127, u128, u129, u130, u131, u132, u133, u134, u135, u136, u137, u138, u139, u140, u141, u142, u143, u144, u145, u146, u147, u148, u149, u150, u151, u152, u153, u154, u155, u156, u157, u158, u159, u160, u161, u162, u163, u164, u165, u166, u167, u168, u169, u170, u171, u172, u173, u174, u175, u176, u177, u178, u179, u180, u181, u182, u183, u184, u185, u186, u187, u188, u189, u190, u191, u192, u193, u194, u195, u196, u197, u198, u199, u200, u201, u202, u203, u204, u205, u206, u207, u208, u209, u210, u211, u212, u213, u214, u215, u216, u217, u218, u219, u220, u221, u222, u223], []⟩ w := by
  obtain ⟨i0, hi0, hz0, hz1, hz2⟩ := info_parts info21
  obtain ⟨i2, hi2, hy0, hy1, hy2⟩ := info_parts info22
  obtain ⟨gx, st, hg⟩ := hE.gs
  obtain ⟨pre0, hpre1, hpre2, hpre3⟩ := above_under v s.stk hvs
  conv => arg 2; whnf
  refine wp_seq_k (fun K0 hK => ?_)
  have HK0 : Hid _ := hK
  clear hK
  go_wp2_with fail
  refine HK0.out _ _ ?_
  clear HK0
  refine wp_seq_k (fun K1 hK => ?_)
  have HK1 : Hid _ := hK
  clear hK
  go_wp2_with fail
  go_loopg [20] s.stk.length (fun q s20 wx => ∃ (pre rest : List Nat) (R1 : Nat → Row) (p : Option Nat) (c : Nat), s.stk = pre ++ rest ∧ v ∈ rest ∧ v ∉ pre ∧ rest.length ≤ q ∧ Tj w0 wx R1 E (n + K) b { s with stk := rest, on := offAll s.on pre } ∧ (∀ i, i ≠ 30 → R1 i = R0 i) ∧ R1 30 = ⟨p, c, 21, 1, (pre.filter (fun x => decide (x < n))).length, (pre.filter (fun x => decide (x < n))).map i32⟩ ∧ s20 = .slice (p.map fun b => ⟨b, 0, none⟩) (pre.filter (fun x => decide (x < n))).length c)
  case atStart =>
    refine ⟨[], s.stk, put R0 30 ⟨none, 0, 21, 1, 0, []⟩, none, 0, rfl, hvs, by simp, Nat.le_refl _, ?_, fun i hi => put_ne hi, put_eq, rfl⟩
    have e : offAll s.on [] = s.on := by funext j; simp [offAll]
    rw [e]
    exact hT.dropRow (by omega) 21 1
  case round =>
    obtain ⟨pre, rest, R1, p, c, hst, hvr, hvp, hq, hT1, hR1, h30, rfl⟩ := hrel
    cases rest with
    | nil => cases hvr
    | cons x rest =>
      have hxN : x < n + K := hlt x (by rw [hst]; simp)
      have hrl : rest.length ≤ 400 := by rw [hst] at hsl; simp at hsl; omega
      obtain ⟨g, cc, c13, cx, hcc, hT2⟩ := hT1.stkTop (x := x) (rest := rest) rfl
      have f13 := hT1.free (i := 13) (by omega) (by omega) 0
      have a1 : IntKind.i64.wrap (((rest.length + 1 : Nat) : Int) - 1) = (rest.length : Int) := by rw [IntKind.wrap_i64]; omega
      have a2 : IntKind.i64.wrap (((rest.length : Int) + 1) - 1) = (rest.length : Int) := by rw [IntKind.wrap_i64]; omega
      have scut : ∀ w', (Instr.sliceAt 22 (.slice (some ⟨g, 0, none⟩) (rest.length + 1) cc) none (some (.int .i64 (rest.length : Int))) none).run Yba.prog w' = .ok (.slice (some ⟨g, 0, none⟩) rest.length cc) w' := fun w' => slice_cut22 g _ cc rest.length (by omega) w'
      have HT2 : Hid (Tj w0 (wr.setCell ⟨b 13, 0, none⟩ (.slice (some ⟨g, 0, none⟩) rest.length cc)) R1 E (n + K) b { s with stk := rest, on := offAll s.on pre }) := hT2
      clear hT2
      refine wp_block ?_
      refine wp_seq_k (fun K2 hK => ?_)
      have HK2 : Hid _ := hK
      clear hK
      go_wp2_with fail
      refine HK2.out _ _ ?_
      clear HK2
      refine wp_seq_k (fun K2 hK => ?_)
      have HK2 : Hid _ := hK
      clear hK
      go_wp2_with fail
      refine HK2.out _ _ ?_
      clear HK2 c13 cx f13 scut hT1
      generalize wr.setCell ⟨b 13, 0, none⟩ (.slice (some ⟨g, 0, none⟩) rest.length cc) = w2 at *
      have hT2 := HT2.out
      have cB : w2.cell? ⟨B, 0, none⟩ = some (.pointer (some ⟨G, 0, none⟩)) := hT2.cell (i := 21) (by omega) (by rw [hR1 21 (by omega), hE.box]) (by rw [hR1 21 (by omega), hE.box]; rfl)
      have cG10 : w2.cell? ⟨G, 10, none⟩ = some (.slice (some ⟨b 10, 0, none⟩) (n + K) (n + K)) := hT2.cell (i := 0) (by omega) (by rw [hR1 0 (by omega), hg.g0]) (by rw [hR1 0 (by omega), hg.g0]; exact hg.x10)
      have cO := hT2.cOn hxN
      have fO := hT2.free (i := 10) (by omega) (by omega) x
      have x1 : (x : Int) < ((n + K : Nat) : Int) := by omega
      have x2 : (x : Int) < (n : Int) + (K : Int) := by omega
      have HT3 : Hid (Tj w0 (w2.setCell ⟨b 10, x, none⟩ (.bool false)) R1 E (n + K) b { s with stk := rest, on := ud (offAll s.on pre) x false }) := hT2.setOn x false
      clear hT2 HT2
      refine wp_seq_k (fun K2 hK => ?_)
      have HK2 : Hid _ := hK
      clear hK
      go_wp2_with fail
      refine HK2.out _ _ ?_
      clear HK2 cB cG10 cO fO
      generalize w2.setCell ⟨b 10, x, none⟩ (.bool false) = w3 at *
      have hT3 := HT3.out
      clear HT3
      have hoff : ud (offAll s.on pre) x false = offAll s.on (pre ++ [x]) := by
        funext y
        by_cases e : y = x
        · subst e; simp [ud_eq, offAll]
        · rw [ud_ne e]; simp [offAll, e]
      rw [hoff] at hT3
      have cNB : w3.cell? ⟨NB, 0, none⟩ = some (i32 n) := hT3.cell (i := 22) (by omega) (by rw [hR1 22 (by omega), hE.nb]) (by rw [hR1 22 (by omega), hE.nb]; rfl)
      have hfl : (pre.filter (fun x => decide (x < n))).length ≤ 1000 := by
        have h1 := List.length_filter_le (fun x => decide (x < n)) pre
        rw [hst] at hsl
        simp at hsl
        omega
      have hst' : s.stk = (pre ++ [x]) ++ rest := by rw [hst]; simp
      have hsf : x ≠ v → v ∈ rest ∧ v ∉ pre ++ [x] := fun hne => ⟨(List.mem_cons.1 hvr).resolve_left (fun e => hne e.symm), fun hm => by
        rcases List.mem_append.1 hm with hm | hm
        · exact hvp hm
        · exact hne (List.mem_singleton.1 hm).symm⟩
      have hse : x = v → pre ++ [x] = above v s.stk ∧ rest = under v s.stk := fun e => by
        subst e
        obtain ⟨q1, q2⟩ := above_app pre rest hvp
        rw [hst, q1, q2]; exact ⟨rfl, rfl⟩
      by_cases hxn : x < n
      · have xn : (x : Int) < (n : Int) := by omega
        have hfe : (pre ++ [x]).filter (fun x => decide (x < n)) = pre.filter (fun x => decide (x < n)) ++ [x] := by simp [hxn]
        obtain ⟨RR, hf, hts, hRR⟩ := hT3
        have HROW : Hid (RR 30 = _) := (hRR 30 (by omega)).trans h30
        refine wp_seq_k (fun K2 hK => ?_)
        have HK2 : Hid _ := hK
        clear hK
        go_wp2_with (at_builtin; refine wpList_fam_app (by rfl) _ _ _ (by rfl) 21 i0 _ 1 4 Yba.underlying22 hi0 hz0 hz1 hz2 rfl (by omega) (by omega) RR 30 p c (pre.filter (fun x => decide (x < n))).length ((pre.filter (fun x => decide (x < n))).map i32) HROW.out (by first | exact hf.alloc _ | exact (hf.alloc _).drew) (by rfl) (by omega) ⟨w3.heap.size, 0, none⟩ 1 [i32 x] (by rfl) (by rfl) (World.news_of_block (cs := #[i32 x]) (t := 21) (fr := (0, 0)) (heap_alloc_new w3 _)) (by simp [Value.oneCell']) ?_; intro gg cap w4 h4)
        refine HK2.out _ _ ?_
        clear HK2 cNB
        have hT4 := Tj.turnRow hts hRR (i := 30) (by omega) h4
        have h30' : put R1 30 ⟨some gg, cap, 21, 1, (pre.filter (fun x => decide (x < n))).length + 1, (pre.filter (fun x => decide (x < n))).map i32 ++ [i32 x]⟩ 30 = ⟨some gg, cap, 21, 1, ((pre ++ [x]).filter (fun x => decide (x < n))).length, ((pre ++ [x]).filter (fun x => decide (x < n))).map i32⟩ := by rw [put_eq, hfe]; simp
        have hR2 : ∀ i, i ≠ 30 → put R1 30 ⟨some gg, cap, 21, 1, (pre.filter (fun x => decide (x < n))).length + 1, (pre.filter (fun x => decide (x < n))).map i32 ++ [i32 x]⟩ i = R0 i := fun i hi => by rw [put_ne hi]; exact hR1 i hi
        generalize put R1 30 ⟨some gg, cap, 21, 1, (pre.filter (fun x => decide (x < n))).length + 1, (pre.filter (fun x => decide (x < n))).map i32 ++ [i32 x]⟩ = R2 at *
        have hlen : (pre.filter (fun x => decide (x < n))).length + 1 = ((pre ++ [x]).filter (fun x => decide (x < n))).length := by rw [hfe]; simp
        rw [hlen]
        clear h4 hf hts hRR HROW h30 hR1 hT
        by_cases hxv : x = v
        · have xv : ((x : Int) == (v : Int)) = true := by simp [hxv]
          obtain ⟨q1, q2⟩ := hse hxv
          rw [q1] at hT4 h30' ⊢
          rw [q2] at hT4
          have HT4 : Hid _ := hT4
          have hF2 : Fd R2 f0 s.found v7 := by
            obtain ⟨a, b', c1, c2⟩ := hF.row
            exact ⟨⟨a, b', by rw [hR2 31 (by omega), c1]; simp only [Row.mk.injEq, true_and]; exact tab_congr (fun j _ => by rw [hR2 _ (by omega)]), c2⟩, fun j l hj => by rw [hR2 _ (by omega)]; exact hF.comp j l hj⟩
          have HF2 : Hid _ := hF2
          clear hT4 hF2 hF
          go_wp2_with fail
          refine HK1.out _ _ ?_
          clear HK1
          refine pop_end (comp := compOf n v s.stk) (s := { s with stk := under v s.stk, on := offAll s.on (above v s.stk) }) HT4.out HF2.out hf0 hff h30' ?_ ?_
          · have h4 := List.length_filter_le (fun x => decide (x < n)) (above v s.stk)
            have h5 : (above v s.stk).length ≤ s.stk.length := by
              have h6 := congrArg List.length hpre1
              rw [hpre2]
              simp at h6 ⊢
              omega
            show (List.filter _ _).length ≤ 1000
            omega
          · intro x7 x20 x194 x195 x196 x197 x198 x199 x200 x201 x202 w' R' e1 e2 e3
            exact HQ.out _ _ _ _ _ _ _ _ _ _ _ _ _ _ _ _ _ _ _ _ _ _ _ _ _ _ _ _ _ _ _ _ _ _ _ _ _ _ _ _ R' (fun i hi => (e1 i hi).trans (hR2 i (fun e => hi (.inl e)))) e2 e3
        · have xv : ((x : Int) == (v : Int)) = false := by rw [beq_eq_false_iff_ne]; omega
          obtain ⟨q1, q2⟩ := hsf hxv
          have HT4 : Hid _ := hT4
          clear hT4
          go_wp2_with fail
          go_roundg rest.length
          case measure => simp at hq; omega
          case rel => exact ⟨pre ++ [x], rest, R2, some gg, cap, hst', q1, q2, Nat.le_refl _, HT4.out, hR2, h30', rfl⟩
      · have xn : ¬ (x : Int) < (n : Int) := by omega
        have hfe : (pre ++ [x]).filter (fun x => decide (x < n)) = pre.filter (fun x => decide (x < n)) := by simp [hxn]
        refine wp_seq_k (fun K2 hK => ?_)
        have HK2 : Hid _ := hK
        clear hK
        go_wp2_with fail
        refine HK2.out _ _ ?_
        clear HK2 cNB hT
        by_cases hxv : x = v
        · have xv : ((x : Int) == (v : Int)) = true := by simp [hxv]
          obtain ⟨q1, q2⟩ := hse hxv
          have hce : pre.filter (fun x => decide (x < n)) = compOf n v s.stk := by rw [compOf, ← q1, hfe]
          rw [hce] at h30 ⊢
          rw [q1, q2] at hT3
          clear hfe hce
          have HT4 : Hid _ := hT3
          have hF2 : Fd R1 f0 s.found v7 := by
            obtain ⟨a, b', c1, c2⟩ := hF.row
            exact ⟨⟨a, b', by rw [hR1 31 (by omega), c1]; simp only [Row.mk.injEq, true_and]; exact tab_congr (fun j _ => by rw [hR1 _ (by omega)]), c2⟩, fun j l hj => by rw [hR1 _ (by omega)]; exact hF.comp j l hj⟩
          have HF2 : Hid _ := hF2
          clear hT3 hF2 hF
          go_wp2_with fail
          refine HK1.out _ _ ?_
          clear HK1
          refine pop_end (comp := compOf n v s.stk) (s := { s with stk := under v s.stk, on := offAll s.on (above v s.stk) }) HT4.out HF2.out hf0 hff h30 ?_ ?_
          · have h4 := List.length_filter_le (fun x => decide (x < n)) (above v s.stk)
            have h5 : (above v s.stk).length ≤ s.stk.length := by
              have h6 := congrArg List.length hpre1
              rw [hpre2]
              simp at h6 ⊢
              omega
            show (List.filter _ _).length ≤ 1000
            omega
          · intro x7 x20 x194 x195 x196 x197 x198 x199 x200 x201 x202 w' R' e1 e2 e3
            exact HQ.out _ _ _ _ _ _ _ _ _ _ _ _ _ _ _ _ _ _ _ _ _ _ _ _ _ _ _ _ _ _ _ _ _ _ _ _ _ _ _ _ R' (fun i hi => (e1 i hi).trans (hR1 i (fun e => hi (.inl e)))) e2 e3
        · have xv : ((x : Int) == (v : Int)) = false := by rw [beq_eq_false_iff_ne]; omega
          obtain ⟨q1, q2⟩ := hsf hxv
          have HT4 : Hid _ := hT3
          clear hT3
          go_wp2_with fail
          go_roundg rest.length
          case measure => simp at hq; omega
          case rel => exact ⟨pre ++ [x], rest, R1, p, c, hst', q1, q2, Nat.le_refl _, HT4.out, hR1, by rw [hfe]; exact h30, by rw [hfe]⟩
end Go.Proofs.Ybulkajny
