import Derived.Test.YbulkakawTail17
import Derived.Deep.DeepCutAuto
namespace Go.Proofs.Ybulkakaw
open Go.RowKit Go.Sort

set_option maxRecDepth 1000000 in
set_option maxHeartbeats 4000000 in
theorem tail15 (w : World) (B : Nat → Nat) (i : Nat) (hn : i ≤ 1024) (due d' : Nat → Int) (run : Nat → Bool) (p C : Nat) (W PI : Bool) (wr : World) (hpn : p < i) (HSi : Hid (St w i d' run B i wr)) (HCC : Hid (cnt due run i = C)) (HD' : Hid ((if W = true then due else upd due p 0) = d')) (HPI : Hid ((!(due p == 0) && !(run p)) = PI)) (hcl : C ≤ i)
    {u0 u1 u2 u3 u4 u5 u6 u7 u8 u9 u11 u12 u13 u14 u17 u19 u20 u21 u22 u23 u24 u25 u26 u27 u28 u29 u30 u31 u32 u33 u34 u35 u36 u37 u38 u39 u40 u41 u42 u43 u44 u45 u46 u47 u48 u49 u50 u51 u52 u53 u54 u55 u56 u57 u58 u59 u60 u61 u62 u63 u64 u65 u66 u67 u68 u69 u70 u71 u72 u73 u74 u75 u76 u77 u78 u79 u80 u81 u82 u83 u84 u85 u86 u87 u88 u89 u90 u91 u92 u93 u94 u95 u96 u97 u98 u99 u100 u101 u102 u103 u104 u105 u106 u107 u108 u109 u110 u111 u112 u113 u114 u115 u116 u117 u118 u119 u120 u121 u122 u123 u124 u125 u126 u127 u128 u129 u130 u131 u132 u133 u134 u135 u136 u137 u138 u139 u140 u141 u142 u143 u144 u145 u146 u147 u148 u149 u150 u151 u152 u153 u154 u155 u156 u157 u158 u159 u160 u161 u162 u163 u164 u165 u166 u167 u168 u169 u170 u171 u172 u173 u174 u175 u176 u177 u178 u179 u180 u181 u182 u183 u184 u185 u186 u187 u188 u189 u190 u191 u192 u193 u194 u195 u196 u197 u198 u199 u200 u201 u202 u203 u204 u205 u206 u207 u208 u209 u210 u211 u212 u213 u214 u215 u216 u217 u218 u219 u220 u221 u222 u223 u224 u225 u226 u227 u228 u229 u230 u231 u232 u233 u234 u235 u236 u237 u238 u239 u240 u241 u242 u243 u244 u245 : Value} (Q : Exit → Act → World → Prop) (HQ : Hid (Q = bodyPost Yba.prog Yba.f3 fun e w' => e = .returned (.bool true) ∧ Below w.heap.size w w')) :
    Code.wp Yba.prog (tailC 15 (Yba.f3.body.getD .skip)) Q ⟨#[u0, u1, u2, u3, u4, u5, u6, u7, u8, u9, .pointer (some ⟨w.heap.size, 0, none⟩), u11, u12, u13, u14, .bool W, .int .i64 (C : Int), u17, .bool PI, u19, u20, u21, u22, u23, u24, u25, u26, u27, u28, u29, u30, u31, u32, u33, u34, u35, u36, u37, u38, u39, u40, u41, u42, u43, u44, u45, u46, u47, u48, u49, u50, u51, u52, u53, u54, u55, u56, u57, u58, u59, u60, u61, u62, u63, u64, u65, u66, u67, u68, u69, u70, u71, u72, u73, u74, u75, u76, u77, u78, u79, u80, u81, u82, u83, u84, u85, u86, u87, u88, u89, u90, u91, u92, u93, u94, u95, u96, u97, u98, u99, u100, u101, u102, u103, u104, u105, u106, u107, u108, u109, u110, u111, u112, u113, u114, u115, u116, u117, u118, u119, u120, u121, u122, u123, u124, u125, u126, u127, u128, u129, u130, u131, u132, u133, u134, u135, u136, u137, u138, u139, u140, u141, u142, u143, u144, u145, u146, u147, u148, u149, u150, u151, u152, u153, u154, u155, u156, u157, u158, u159, u160, u161, u162, u163, u164, u165, u166, u167, u168, u169, u170, u171, u172, u173, u174, u175, u176, u177, u178, u179, u180, u181, u182, u183, u184, u185, u186, u187, u188, u189, u190, u191, u192, u193, u194, u195, u196, u197, u198, u199, u200, u201, u202, u203, u204, u205, u206, u207, u208, u209, u210, u211, u212, u213, u214, u215, u216, u217, u218, u219, u220, u221, u222, u223, u224, u225, u226, u227, u228, u229, u230, u231, u232, u233, u234, u235, u236, u237, u238, u239, u240, u241, u242, u243, u244, u245], []⟩ wr := by
  conv => arg 2; whnf
  obtain ⟨idx, pp, cc, xs, hI⟩ := HSi.out.has
  have hcount := hI.cnt
  have hle := hI.size_le
  have HI : Hid (Inv w.heap.size B i d' run idx w.heap.size pp cc xs wr) := hI
  have hK := hI.q.cell
  have HEX : Hid (if (!W && PI) = true then C = xs.size + 1 else C = xs.size) := by
    show if _ then _ else _
    rw [hcount, ← HCC.out, ← HD'.out]
    have U := cnt_upd (due := due) (run := run) p i
    cases hWc : W with
    | true => simp
    | false =>
      have hP := HPI.out
      by_cases hin : due p ≠ 0 ∧ run p = false
      · rw [if_pos ⟨hpn, hin⟩] at U
        have : PI = true := by rw [← hP]; simp [hin.1, hin.2]
        simp [this]; omega
      · rw [if_neg (fun h => hin h.2)] at U
        have : PI = false := by
          rw [← hP]
          by_cases h0 : due p = 0
          · simp [h0]
          · cases hr : run p with
            | true => simp
            | false => exact absurd ⟨h0, hr⟩ hin
        simp [this]; omega
  clear hI hcount
  obtain ⟨N, hN⟩ : ∃ N, xs.size = N := ⟨_, rfl⟩
  have HN : Hid (xs.size = N) := hN
  rw [hN] at hK HEX hle
  clear hN
  have HOWC : Hid (Only (fun _ => False) w wr) := HSi.out.only
  have hNle : N ≤ 1024 := by omega
  clear hK
  refine wp_seq_k (fun K1 hK => ?_)
  have HK1 : Hid _ := hK
  clear hK
  go_wp2_with fail
  refine HK1.out _ _ ?_
  refine wp_seq_k (fun K2 hK => ?_)
  have HK2 : Hid _ := hK
  clear hK
  cases W with
  | true =>
    have hCN0 : C = N := by have := HEX.out; simpa using this
    subst hCN0
    go_wp2_with fail
    refine HK2.out _ _ ?_
    exact tail17 w B i d' run idx pp cc xs C wr HI HN hNle HOWC Q HQ
  | false =>
    cases PI with
    | true =>
      have hCN0 : C = N + 1 := by have := HEX.out; simpa using this
      have e1 : ((N + 1 : Nat) : Int) = (N : Int) + 1 := by omega
      subst hCN0
      rw [e1]
      clear e1
      go_wp2_with fail
      refine HK2.out _ _ ?_
      exact tail17 w B i d' run idx pp cc xs N wr HI HN hNle HOWC Q HQ
    | false =>
      have hCN0 : C = N := by have := HEX.out; simpa using this
      subst hCN0
      go_wp2_with fail
      refine HK2.out _ _ ?_
      exact tail17 w B i d' run idx pp cc xs C wr HI HN hNle HOWC Q HQ

end Go.Proofs.Ybulkakaw
