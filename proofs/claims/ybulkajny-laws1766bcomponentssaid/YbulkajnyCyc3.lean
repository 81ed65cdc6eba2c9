import Derived.Test.YbulkajnyPopS
namespace Go.Proofs.Ybulkajny
open Go.RowKit Go.Sort
set_option linter.unusedVariables false

theorem above_app {v : Nat} (pre rest : List Nat) (h : v ∉ pre) : above v (pre ++ v :: rest) = pre ++ [v] ∧ under v (pre ++ v :: rest) = rest := by
  induction pre with
  | nil => simp [above, under]
  | cons x xs ih =>
    have hx : x ≠ v := fun e => h (by rw [e]; exact List.mem_cons_self)
    obtain ⟨h1, h2⟩ := ih (fun e => h (List.mem_cons_of_mem _ e))
    exact ⟨by rw [List.cons_append, above, if_neg hx, h1]; rfl, by rw [List.cons_append, under, if_neg hx, h2]⟩
theorem Tj.found {w0 w : World} {R0 : Nat → Row} {E : Option (Nat × Obj)} {N : Nat} {b : Nat → Nat} {s : TS} (h : Tj w0 w R0 E N b s) (f : List (List Nat)) : Tj w0 w R0 E N b { s with found := f } := by
  obtain ⟨R, h, ht, hR⟩ := h
  exact ⟨R, h, ⟨ht.idx, ht.low, ht.on, ht.ctr, ht.cbox, ht.sbox, ht.ebox, ht.calls, ht.stk, ht.seen⟩, hR⟩
theorem tab_snoc {N : Nat} {f g : Nat → Value} {x : Value} (h1 : ∀ j, j < N → g j = f j) (h2 : g N = x) : tab N f ++ [x] = tab (N + 1) g := by
  unfold tab
  rw [List.range_succ, List.map_append]
  congr 1
  · exact List.map_congr_left (fun j hj => (h1 j (by simpa using hj)).symm)
  · simp [h2]

set_option maxRecDepth 100000 in
set_option maxHeartbeats 4000000 in
theorem pop_end {w0 w : World} {R1 : Nat → Row} {E : Option (Nat × Obj)} {n K B NB f0 c : Nat} {b : Nat → Nat} {s : TS} {comp : List Nat} {p : Option Nat} {Q : Exit → Act → World → Prop} {v7 u0 u1 u3 u4 u8 u11 u13 u14 u15 u16 u17 u18 u19 u21 u22 u23 u24 u25 u26 u27 u28 u29 u30 u31 u32 u33 u34 u35 u36 u37 u38 u39 u40 u41 u42 u43 u44 u45 u46 u47 u48 u49 u50 u51 u52 u53 u54 u55 u56 u57 u58 u59 u60 u61 u62 u63 u64 u65 u66 u67 u68 u69 u70 u71 u72 u73 u74 u75 u76 u77 u78 u79 u80 u81 u82 u83 u84 u85 u86 u87 u88 u89 u90 u91 u92 u93 u94 u95 u96 u97 u98 u99 u100 u101 u102 u103 u104 u105 u106 u107 u108 u109 u110 u111 u112 u113 u114 u115 u116 u117 u118 u119 u120 u121 u122 u123 u124 u125 u126 u127 u128 u129 u130 u131 u132 u133 u134 u135 u136 u137 u138 u139 u140 u141 u142 u143 u144 u145 u146 u147 u148 u149 u150 u151 u152 u153 u154 u155 u156 u157 u158 u159 u160 u161 u162 u163 u164 u165 u166 u167 u168 u169 u170 u171 u172 u173 u174 u175 u176 u177 u178 u179 u180 u181 u182 u183 u184 u185 u186 u187 u188 u189 u190 u191 u192 u193 u194 u195 u196 u197 u198 u199 u200 u201 u202 u203 u204 u205 u206 u207 u208 u209 u210 u211 u212 u213 u214 u215 u216 u217 u218 u219 u220 u221 u222 u223 : Value} (hT : Tj w0 w R1 E (n + K) b s) (hF : Fd R1 f0 s.found v7) (hf0 : 1000 ≤ f0) (hff : s.found.length ≤ 500) (h30 : R1 30 = ⟨p, c, 21, 1, comp.length, comp.map i32⟩) (hcl : comp.length ≤ 1000)
    (HQ : Hid (∀ (x7 x20 x194 x195 x196 x197 x198 x199 x200 x201 x202 : Value) (w' : World) (R' : Nat → Row), (∀ i, ¬ Fset f0 i → R' i = R1 i) → Fd R' f0 (if 2 ≤ comp.length then sortN comp :: s.found else s.found) x7 → Tj w0 w' R' E (n + K) b { s with found := if 2 ≤ comp.length then sortN comp :: s.found else s.found } → Q .normal ⟨#[u0, u1, .pointer (some ⟨B, 0, none⟩), u3, u4, .pointer (some ⟨NB, 0, none⟩), .func (Fn.func 27) #[] #[.pointer (some ⟨NB, 0, none⟩), .pointer (some ⟨B, 0, none⟩)], x7, u8, .pointer (some ⟨b 12, 0, none⟩), .pointer (some ⟨b 13, 0, none⟩), u11, .func (Fn.func 28) #[] #[.pointer (some ⟨b 11, 0, none⟩), .pointer (some ⟨B, 0, none⟩), .pointer (some ⟨b 13, 0, none⟩), .pointer (some ⟨b 14, 0, none⟩), .pointer (some ⟨b 12, 0, none⟩)], u13, u14, u15, u16, u17, u18, u19, x20, u21, u22, u23, u24, u25, u26, u27, u28, u29, u30, u31, u32, u33, u34, u35, u36, u37, u38, u39, u40, u41, u42, u43, u44, u45, u46, u47, u48, u49, u50, u51, u52, u53, u54, u55, u56, u57, u58, u59, u60, u61, u62, u63, u64, u65, u66, u67, u68, u69, u70, u71, u72, u73, u74, u75, u76, u77, u78, u79, u80, u81, u82, u83, u84, u85, u86, u87, u88, u89, u90, u91, u92, u93, u94, u95, u96, u97, u98, u99, u100, u101, u102, u103, u104, u105, u106, u107, u108, u109, u110, u111, u112, u113, u114, u115, u116, u117, u118, u119, u120, u121, u122, u123, u124, u125, u126, u127, u128, u129, u130, u131, u132, u133, u134, u135, u136, u137, u138, u139, u140, u141, u142, u143, u144, u145, u146, u147, u148, u149, u150, u151, u152, u153, u154, u155, u156, u157, u158, u159, u160, u161, u162, u163, u164, u165, u166, u167, u168, u169, u170, u171, u172, u173, u174, u175, u176, u177, u178, u179, u180, u181, u182, u183, u184, u185, u186, u187, u188, u189, u190, u191, u192, u193, x194, x195, x196, x197, x198, x199, x200, x201, x202, u203, u204, u205, u206, u207, u208, u209, u210, u211, u212, u213, u214, u215, u216, u217, u218, u219, u220, u221, u222, u223], []⟩ w')) :
    Code.wp Yba.prog (nav [1, 1, 1, 1, 1, 1, 1, 1, 1, 1, 0, 1, 3, 2, 1, 1, 0, 3, 1, 1, 1, 3, 2, 1, 3, 1, 1, 1, 1, 1, 1, 1, 1] (Yba.f16.body.getD .skip)) Q ⟨#[u0, u1, .pointer (some ⟨B, 0, none⟩), u3, u4, .pointer (some ⟨NB, 0, none⟩), .func (Fn.func 27) #[] #[.pointer (some ⟨NB, 0, none⟩), .pointer (some ⟨B, 0, none⟩)], v7, u8, .pointer (some ⟨b 12, 0, none⟩), .pointer (some ⟨b 13, 0, none⟩), u11, .func (Fn.func 28) #[] #[.pointer (some ⟨b 11, 0, none⟩), .pointer (some ⟨B, 0, none⟩), .pointer (some ⟨b 13, 0, none⟩), .pointer (some ⟨b 14, 0, none⟩), .pointer (some ⟨b 12, 0, none⟩)], u13, u14, u15, u16, u17, u18, u19, .slice (p.map fun b => ⟨b, 0, none⟩) comp.length c, u21, u22, u23, u24, u25, u26, u27, u28, u29, u30, u31, u32, u33, u34, u35, u36, u37, u38, u39, u40, u41, u42, u43, u44, u45, u46, u47, u48, u49, u50, u51, u52, u53, u54, u55, u56, u57, u58, u59, u60, u61, u62, u63, u64, u65, u66, u67, u68, u69, u70, u71, u72, u73, u74, u75, u76, u77, u78, u79, u80, u81, u82, u83, u84, u85, u86, u87, u88, u89, u90, u91, u92, u93, u94, u95, u96, u97, u98, u99, u100, u101, u102, u103, u104, u105, u106, u107, u108, u109, u110, u111, u112, u113, u114, u115, u116, u117, u118, u119, u120, u121, u122, u123, u124, u125, u126, u127, u128, u129, u130, u131, u132, u133, u134, u135, u136, u137, u138, u139, u140, u141, u142, u143, u144, u145, u146, u147, u148, u149, u150, u151, u152, u153, u154, u155, u156, u157, u158, u159, u160, u161, u162, u163, u164, u165, u166, u167, u168, u169, u170, u171, u172, u173, u174, u175, u176, u177, u178, u179, u180, u181, u182, u183, u184, u185, u186, u187, u188, u189, u190, u191, u192, u193, u194, u195, u196, u197, u198, u199, u200, u201, u202, u203, u204, u205, u206, u207, u208, u209, u210, u211, u212, u213, u214, u215, u216, u217, u218, u219, u220, u221, u222, u223], []⟩ w := by
  obtain ⟨i2, hi2, hy0, hy1, hy2⟩ := info_parts info22
  conv => arg 2; whnf
  by_cases h2 : 2 ≤ comp.length
  · have e : (if 2 ≤ comp.length then sortN comp :: s.found else s.found) = sortN comp :: s.found := if_pos h2
    rw [e] at HQ
    obtain ⟨g, rfl⟩ : ∃ g, p = some g := by
      cases p with
      | some g => exact ⟨g, rfl⟩
      | none =>
        have := hT.row (i := 30) (by omega)
        rw [h30] at this
        rcases this.2 with ⟨_, hn⟩ | ⟨g, cap, cur, hv, _⟩
        · have hn' : comp.length = 0 := hn
          omega
        · simp [Row.val] at hv
    have d1 : (2 : Int) ≤ (comp.length : Int) := by omega
    have HS : Hid _ := hT.sorted (i := 30) (by omega) h30 (by omega)
    go_wp2_with fail
    refine Calls.mono HS.out ?_
    rintro e w1 ⟨rfl, hT1⟩
    clear HS
    have hsl : (sortN comp).length = comp.length := List.length_mergeSort _
    rw [hsl] at hT1
    obtain ⟨p31, q31, h31, hv7⟩ := hF.row
    have h31' : put R1 30 ⟨some g, c, 21, 1, comp.length, (sortN comp).map i32⟩ 31 = ⟨p31, q31, 22, 1, s.found.length, tab s.found.length (fun j => (R1 (f0 + j)).val)⟩ := by rw [put_ne (by omega)]; exact h31
    generalize hR2 : put R1 30 ⟨some g, c, 21, 1, comp.length, (sortN comp).map i32⟩ = R2 at *
    have HR2 : Hid _ := hR2
    clear hR2
    obtain ⟨RR, hf, hts, hRR⟩ := hT1
    have HROW : Hid (RR 31 = _) := (hRR 31 (by omega)).trans h31'
    have HTS : Hid (Ts RR (n + K) b s) := hts
    have HRR : Hid (∀ i, ¬ (8 ≤ i ∧ i ≤ 17) → RR i = R2 i) := hRR
    have HFD : Hid _ := hF
    clear hts hRR h31 h31' hF hT
    subst hv7
    go_wp2_with (at_builtin; refine wpList_fam_app (by rfl) _ _ _ (by rfl) 22 i2 _ 1 24 Yba.underlying46 hi2 hy0 hy1 hy2 rfl (by omega) (by omega) RR 31 p31 q31 s.found.length (tab s.found.length (fun j => (R1 (f0 + j)).val)) HROW.out (by first | exact hf.alloc _ | exact (hf.alloc _).drew) (by rfl) (by omega) ⟨w1.heap.size, 0, none⟩ 1 [.slice (some ⟨g, 0, none⟩) comp.length c] (by rfl) (by rfl) (World.news_of_block (cs := #[.slice (some ⟨g, 0, none⟩) comp.length c]) (t := 22) (fr := (0, 0)) (heap_alloc_new w1 _)) (by simp [Value.oneCell']) ?_; intro gg cap w4 h4)
    have hT4 := Tj.turnRow HTS.out HRR.out (by omega) h4
    have hT5 := hT4.moveRow (i := 30) (j := f0 + s.found.length) (by omega) (by omega) (by omega)
    have e30 : put R2 31 ⟨some gg, cap, 22, 1, s.found.length + 1, tab s.found.length (fun j => (R1 (f0 + j)).val) ++ [.slice (some ⟨g, 0, none⟩) comp.length c]⟩ 30 = ⟨some g, c, 21, 1, comp.length, (sortN comp).map i32⟩ := by rw [put_ne (by omega), ← HR2.out, put_eq]
    rw [e30] at hT5
    have k1 : ∀ i, ¬ Fset f0 i → R2 i = R1 i := fun i hi => by rw [← HR2.out, put_ne (fun e => hi (.inl e))]
    refine HQ.out _ _ _ _ _ _ _ _ _ _ _ _ _ (fun i hi => ?_) ⟨⟨some gg, cap, ?_, rfl⟩, fun j l hj => ?_⟩ (hT5.found _)
    · rw [put_ne (fun e => hi (.inl e)), put_ne (fun e => hi (.inr (.inr (by omega)))), put_ne (fun e => hi (.inr (.inl e)))]
      exact k1 i hi
    · rw [put_ne (by omega), put_ne (by omega), put_eq]
      simp only [Row.mk.injEq, true_and, List.length_cons]
      refine tab_snoc (fun j hj => ?_) ?_
      · rw [put_ne (by omega), put_ne (by omega), put_ne (by omega), ← HR2.out, put_ne (by omega)]
      · rw [put_ne (by omega), put_eq]; rfl
    · rw [List.reverse_cons] at hj
      by_cases hjl : j < s.found.reverse.length
      · rw [List.getElem?_append_left hjl] at hj
        obtain ⟨p', q', hc'⟩ := HFD.out.comp j l hj
        have hjl' : j < s.found.length := by simpa using hjl
        refine ⟨p', q', ?_⟩
        rw [put_ne (by omega), put_ne (by omega), put_ne (by omega), ← HR2.out, put_ne (by omega)]
        exact hc'
      · rw [List.getElem?_append_right (by omega)] at hj
        have hjl' : ¬ j < s.found.length := by simpa using hjl
        have hj0 : j - s.found.reverse.length = 0 := by
          have := (List.getElem?_eq_some_iff.1 hj).1
          simp at this
          simp; omega
        rw [hj0] at hj
        simp at hj
        have : j = s.found.length := by simp at hj0; omega
        subst this
        subst hj
        exact ⟨some g, c, by rw [put_ne (by omega), put_eq, hsl]⟩
  · have e : (if 2 ≤ comp.length then sortN comp :: s.found else s.found) = s.found := if_neg h2
    rw [e] at HQ
    have d1 : ¬ (2 : Int) ≤ (comp.length : Int) := by omega
    have HT : Hid _ := hT
    have HF : Hid _ := hF
    clear hT hF
    go_wp2_with fail
    exact HQ.out _ _ _ _ _ _ _ _ _ _ _ _ R1 (fun _ _ => rfl) HF.out (Tj.found HT.out _)
end Go.Proofs.Ybulkajny
