import Derived.Test.YbulkakawTail14
import Derived.Deep.DeepCutAuto
namespace Go.Proofs.Ybulkakaw
open Go.RowKit Go.Sort

set_option maxRecDepth 1000000 in
set_option maxHeartbeats 4000000 in
theorem tail12 (w : World) (b0 o0 c0 : Nat) (B : Nat → Nat) (j : Nat) (hn : j ≤ 1024) (due : Nat → Int) (run : Nat → Bool) (p C : Nat) (W PI : Bool) (now : Int) (hw0 : -2147483648 ≤ now) (hw1 : now ≤ 2147483647) (wc : World) (hpn : p < j) (HS : Hid (St w j due run B j wc)) (HCC : Hid (cnt due run j = C)) (HW : Hid ((!(due p == 0) && !(decide (now < due p))) = W)) (HPI : Hid ((!(due p == 0) && !(run p)) = PI)) (hcl : C ≤ j)
    (HC2 : Hid (∀ i, i < j → ∀ w', Only (fun _ => False) w w' → w'.cell? ⟨b0, o0 + i, none⟩ = some (.int .i32 (due i)))) (HD : Hid (∀ i, -2147483648 ≤ due i ∧ due i ≤ 2147483647))
    {u1 u2 u4 u5 u6 u7 u8 u12 u13 u17 u19 u20 u21 u22 u23 u24 u25 u26 u27 u28 u29 u30 u31 u32 u33 u34 u35 u36 u37 u38 u39 u40 u41 u42 u43 u44 u45 u46 u47 u48 u49 u50 u51 u52 u53 u54 u55 u56 u57 u58 u59 u60 u61 u62 u63 u64 u65 u66 u67 u68 u69 u70 u71 u72 u73 u74 u75 u76 u77 u78 u79 u80 u81 u82 u83 u84 u85 u86 u87 u88 u89 u90 u91 u92 u93 u94 u95 u96 u97 u98 u99 u100 u101 u102 u103 u104 u105 u106 u107 u108 u109 u110 u111 u112 u113 u114 u115 u116 u117 u118 u119 u120 u121 u122 u123 u124 u125 u126 u127 u128 u129 u130 u131 u132 u133 u134 u135 u136 u137 u138 u139 u140 u141 u142 u143 u144 u145 u146 u147 u148 u149 u150 u151 u152 u153 u154 u155 u156 u157 u158 u159 u160 u161 u162 u163 u164 u165 u166 u167 u168 u169 u170 u171 u172 u173 u174 u175 u176 u177 u178 u179 u180 u181 u182 u183 u184 u185 u186 u187 u188 u189 u190 u191 u192 u193 u194 u195 u196 u197 u198 u199 u200 u201 u202 u203 u204 u205 u206 u207 u208 u209 u210 u211 u212 u213 u214 u215 u216 u217 u218 u219 u220 u221 u222 u223 u224 u225 u226 u227 u228 u229 u230 u231 u232 u233 u234 u235 u236 u237 u238 u239 u240 u241 u242 u243 u244 u245 : Value} (Q : Exit → Act → World → Prop) (HQ : Hid (Q = bodyPost Yba.prog Yba.f3 fun e w' => e = .returned (.bool true) ∧ Below w.heap.size w w')) :
    Code.wp Yba.prog (tailC 12 (Yba.f3.body.getD .skip)) Q ⟨#[.slice (some ⟨b0, o0, none⟩) j c0, u1, u2, .int .i32 now, u4, u5, u6, u7, u8, .int .i64 (j : Int), .pointer (some ⟨w.heap.size, 0, none⟩), .slice (some ⟨w.heap.size + 1, 0, none⟩) j j, u12, u13, .int .i64 (p : Int), .bool W, .int .i64 (C : Int), u17, .bool PI, u19, u20, u21, u22, u23, u24, u25, u26, u27, u28, u29, u30, u31, u32, u33, u34, u35, u36, u37, u38, u39, u40, u41, u42, u43, u44, u45, u46, u47, u48, u49, u50, u51, u52, u53, u54, u55, u56, u57, u58, u59, u60, u61, u62, u63, u64, u65, u66, u67, u68, u69, u70, u71, u72, u73, u74, u75, u76, u77, u78, u79, u80, u81, u82, u83, u84, u85, u86, u87, u88, u89, u90, u91, u92, u93, u94, u95, u96, u97, u98, u99, u100, u101, u102, u103, u104, u105, u106, u107, u108, u109, u110, u111, u112, u113, u114, u115, u116, u117, u118, u119, u120, u121, u122, u123, u124, u125, u126, u127, u128, u129, u130, u131, u132, u133, u134, u135, u136, u137, u138, u139, u140, u141, u142, u143, u144, u145, u146, u147, u148, u149, u150, u151, u152, u153, u154, u155, u156, u157, u158, u159, u160, u161, u162, u163, u164, u165, u166, u167, u168, u169, u170, u171, u172, u173, u174, u175, u176, u177, u178, u179, u180, u181, u182, u183, u184, u185, u186, u187, u188, u189, u190, u191, u192, u193, u194, u195, u196, u197, u198, u199, u200, u201, u202, u203, u204, u205, u206, u207, u208, u209, u210, u211, u212, u213, u214, u215, u216, u217, u218, u219, u220, u221, u222, u223, u224, u225, u226, u227, u228, u229, u230, u231, u232, u233, u234, u235, u236, u237, u238, u239, u240, u241, u242, u243, u244, u245], []⟩ wc := by
  conv => arg 2; whnf
  have htp := HS.out.tsCell p hpn
  have hWW : (W == W) = true := by simp
  have HST : Hid (∀ w1, Only (fun _ => False) wc w1 → Calls Yba.prog 6 #[.pointer (some ⟨w.heap.size, 0, none⟩), .pointer (some ⟨B p, 0, none⟩), tval now] w1 fun e w' => e = .returned (.bool W) ∧ St w j (if W = true then due else upd due p 0) run B j w') := by
    intro w1 o1
    have R := (HS.out.only0 o1).stop hn p hpn now
    rw [HW.out] at R
    exact R
  clear HS
  refine wp_seq_k (fun K1 hK => ?_)
  have HK1 : Hid _ := hK
  clear hK
  go_wp2_with fail
  go_region_held3 (fun w' => w'.cell? ⟨w.heap.size + 1, p, none⟩ = some (.pointer (some ⟨B p, 0, none⟩))) (go_keep)
    (first
      | (go_at_call 5; refine (at_any now _ hw0 hw1).mono ?_; rintro e w1 ⟨rfl, ho1⟩; have q1 := keep1 ho1 htp)
      | (go_at_call 6; refine (HST.out _ ((only_drew _).trans ho1)).mono ?_; rintro e w2 ⟨rfl, hS2⟩; have q2 := hS2.tsCell p hpn))
  have HS2 : Hid _ := hS2
  clear hS2 HST htp q1 q2 ho1
  go_wp2_with fail
  refine HK1.out _ _ ?_
  refine wp_seq_k (fun K2 hK => ?_)
  have HK2 : Hid _ := hK
  clear hK
  go_wp2_with fail
  refine HK2.out _ _ ?_
  exact tail14 w b0 o0 c0 B j hn due _ run p C W PI w2 hpn HS2.out HCC rfl HPI hcl HC2 HD Q HQ

set_option maxRecDepth 1000000 in
set_option maxHeartbeats 4000000 in
theorem tail11 (w : World) (b0 o0 c0 : Nat) (B : Nat → Nat) (j : Nat) (hn : j ≤ 1024) (due : Nat → Int) (run : Nat → Bool) (p C : Nat) (W : Bool) (now : Int) (hw0 : -2147483648 ≤ now) (hw1 : now ≤ 2147483647) (wr : World) (hpn : p < j) (HS : Hid (St w j due run B j wr)) (HCC : Hid (cnt due run j = C)) (HW : Hid ((!(due p == 0) && !(decide (now < due p))) = W)) (hcl : C ≤ j)
    (HC2 : Hid (∀ i, i < j → ∀ w', Only (fun _ => False) w w' → w'.cell? ⟨b0, o0 + i, none⟩ = some (.int .i32 (due i)))) (HD : Hid (∀ i, -2147483648 ≤ due i ∧ due i ≤ 2147483647))
    {u1 u2 u4 u5 u6 u7 u8 u12 u13 u17 u18 u19 u20 u21 u22 u23 u24 u25 u26 u27 u28 u29 u30 u31 u32 u33 u34 u35 u36 u37 u38 u39 u40 u41 u42 u43 u44 u45 u46 u47 u48 u49 u50 u51 u52 u53 u54 u55 u56 u57 u58 u59 u60 u61 u62 u63 u64 u65 u66 u67 u68 u69 u70 u71 u72 u73 u74 u75 u76 u77 u78 u79 u80 u81 u82 u83 u84 u85 u86 u87 u88 u89 u90 u91 u92 u93 u94 u95 u96 u97 u98 u99 u100 u101 u102 u103 u104 u105 u106 u107 u108 u109 u110 u111 u112 u113 u114 u115 u116 u117 u118 u119 u120 u121 u122 u123 u124 u125 u126 u127 u128 u129 u130 u131 u132 u133 u134 u135 u136 u137 u138 u139 u140 u141 u142 u143 u144 u145 u146 u147 u148 u149 u150 u151 u152 u153 u154 u155 u156 u157 u158 u159 u160 u161 u162 u163 u164 u165 u166 u167 u168 u169 u170 u171 u172 u173 u174 u175 u176 u177 u178 u179 u180 u181 u182 u183 u184 u185 u186 u187 u188 u189 u190 u191 u192 u193 u194 u195 u196 u197 u198 u199 u200 u201 u202 u203 u204 u205 u206 u207 u208 u209 u210 u211 u212 u213 u214 u215 u216 u217 u218 u219 u220 u221 u222 u223 u224 u225 u226 u227 u228 u229 u230 u231 u232 u233 u234 u235 u236 u237 u238 u239 u240 u241 u242 u243 u244 u245 : Value} (Q : Exit → Act → World → Prop) (HQ : Hid (Q = bodyPost Yba.prog Yba.f3 fun e w' => e = .returned (.bool true) ∧ Below w.heap.size w w')) :
    Code.wp Yba.prog (tailC 11 (Yba.f3.body.getD .skip)) Q ⟨#[.slice (some ⟨b0, o0, none⟩) j c0, u1, u2, .int .i32 now, u4, u5, u6, u7, u8, .int .i64 (j : Int), .pointer (some ⟨w.heap.size, 0, none⟩), .slice (some ⟨w.heap.size + 1, 0, none⟩) j j, u12, u13, .int .i64 (p : Int), .bool W, .int .i64 (C : Int), u17, u18, u19, u20, u21, u22, u23, u24, u25, u26, u27, u28, u29, u30, u31, u32, u33, u34, u35, u36, u37, u38, u39, u40, u41, u42, u43, u44, u45, u46, u47, u48, u49, u50, u51, u52, u53, u54, u55, u56, u57, u58, u59, u60, u61, u62, u63, u64, u65, u66, u67, u68, u69, u70, u71, u72, u73, u74, u75, u76, u77, u78, u79, u80, u81, u82, u83, u84, u85, u86, u87, u88, u89, u90, u91, u92, u93, u94, u95, u96, u97, u98, u99, u100, u101, u102, u103, u104, u105, u106, u107, u108, u109, u110, u111, u112, u113, u114, u115, u116, u117, u118, u119, u120, u121, u122, u123, u124, u125, u126, u127, u128, u129, u130, u131, u132, u133, u134, u135, u136, u137, u138, u139, u140, u141, u142, u143, u144, u145, u146, u147, u148, u149, u150, u151, u152, u153, u154, u155, u156, u157, u158, u159, u160, u161, u162, u163, u164, u165, u166, u167, u168, u169, u170, u171, u172, u173, u174, u175, u176, u177, u178, u179, u180, u181, u182, u183, u184, u185, u186, u187, u188, u189, u190, u191, u192, u193, u194, u195, u196, u197, u198, u199, u200, u201, u202, u203, u204, u205, u206, u207, u208, u209, u210, u211, u212, u213, u214, u215, u216, u217, u218, u219, u220, u221, u222, u223, u224, u225, u226, u227, u228, u229, u230, u231, u232, u233, u234, u235, u236, u237, u238, u239, u240, u241, u242, u243, u244, u245], []⟩ wr := by
  conv => arg 2; whnf
  have hcp := HC2.out p hpn wr HS.out.only
  have htp := HS.out.tsCell p hpn
  have i1 : (p : Int) < (j : Int) := by omega
  obtain ⟨ix, tp, _⟩ := HS.out.task p hpn
  have hrp : wr.cell? ⟨B p, 7, none⟩ = some (.bool (run p)) := cell_of_block tp rfl
  clear tp
  refine wp_seq_k (fun K1 hK => ?_)
  have HK1 : Hid _ := hK
  clear hK
  by_cases h0 : due p = 0
  · have h0b : (due p == 0) = true := by simp [h0]
    have HPI : Hid ((!(due p == 0) && !(run p)) = false) := by show _ = _; rw [h0b]; rfl
    go_wp2_with fail
    refine HK1.out _ _ ?_
    exact tail12 w b0 o0 c0 B j hn due run p C W _ now hw0 hw1 wr hpn HS HCC HW HPI hcl HC2 HD Q HQ
  · have h0b : (due p == 0) = false := by simp [h0]
    have HPI : Hid ((!(due p == 0) && !(run p)) = (due p != 0 && !(run p))) := by show _ = _; simp only [bne, h0b]
    go_wp2_with fail
    refine HK1.out _ _ ?_
    exact tail12 w b0 o0 c0 B j hn due run p C W _ now hw0 hw1 wr hpn HS HCC HW HPI hcl HC2 HD Q HQ

end Go.Proofs.Ybulkakaw
