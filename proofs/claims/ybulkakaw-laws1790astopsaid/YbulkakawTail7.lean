import Derived.Test.YbulkakawTail11
import Derived.Deep.DeepCutAuto
namespace Go.Proofs.Ybulkakaw
open Go.RowKit Go.Sort

set_option maxRecDepth 1000000 in
set_option maxHeartbeats 4000000 in
theorem tail9 (w : World) (b0 o0 c0 : Nat) (B : Nat → Nat) (k : Nat) (hn : k ≤ 1024) (due : Nat → Int) (run : Nat → Bool) (p : Nat) (W : Bool) (now : Int) (hw0 : -2147483648 ≤ now) (hw1 : now ≤ 2147483647) (wc : World) (hpn : p < k) (HS : Hid (St w k due run B k wc)) (HW : Hid ((!(due p == 0) && !(decide (now < due p))) = W))
    (HC2 : Hid (∀ i, i < k → ∀ w', Only (fun _ => False) w w' → w'.cell? ⟨b0, o0 + i, none⟩ = some (.int .i32 (due i)))) (HD : Hid (∀ i, -2147483648 ≤ due i ∧ due i ≤ 2147483647))
    {u1 u2 u4 u5 u6 u7 u8 u12 u13 u16 u17 u18 u19 u20 u21 u22 u23 u24 u25 u26 u27 u28 u29 u30 u31 u32 u33 u34 u35 u36 u37 u38 u39 u40 u41 u42 u43 u44 u45 u46 u47 u48 u49 u50 u51 u52 u53 u54 u55 u56 u57 u58 u59 u60 u61 u62 u63 u64 u65 u66 u67 u68 u69 u70 u71 u72 u73 u74 u75 u76 u77 u78 u79 u80 u81 u82 u83 u84 u85 u86 u87 u88 u89 u90 u91 u92 u93 u94 u95 u96 u97 u98 u99 u100 u101 u102 u103 u104 u105 u106 u107 u108 u109 u110 u111 u112 u113 u114 u115 u116 u117 u118 u119 u120 u121 u122 u123 u124 u125 u126 u127 u128 u129 u130 u131 u132 u133 u134 u135 u136 u137 u138 u139 u140 u141 u142 u143 u144 u145 u146 u147 u148 u149 u150 u151 u152 u153 u154 u155 u156 u157 u158 u159 u160 u161 u162 u163 u164 u165 u166 u167 u168 u169 u170 u171 u172 u173 u174 u175 u176 u177 u178 u179 u180 u181 u182 u183 u184 u185 u186 u187 u188 u189 u190 u191 u192 u193 u194 u195 u196 u197 u198 u199 u200 u201 u202 u203 u204 u205 u206 u207 u208 u209 u210 u211 u212 u213 u214 u215 u216 u217 u218 u219 u220 u221 u222 u223 u224 u225 u226 u227 u228 u229 u230 u231 u232 u233 u234 u235 u236 u237 u238 u239 u240 u241 u242 u243 u244 u245 : Value} (Q : Exit → Act → World → Prop) (HQ : Hid (Q = bodyPost Yba.prog Yba.f3 fun e w' => e = .returned (.bool true) ∧ Below w.heap.size w w')) :
    Code.wp Yba.prog (tailC 9 (Yba.f3.body.getD .skip)) Q ⟨#[.slice (some ⟨b0, o0, none⟩) k c0, u1, u2, .int .i32 now, u4, u5, u6, u7, u8, .int .i64 (k : Int), .pointer (some ⟨w.heap.size, 0, none⟩), .slice (some ⟨w.heap.size + 1, 0, none⟩) k k, u12, u13, .int .i64 (p : Int), .bool W, u16, u17, u18, u19, u20, u21, u22, u23, u24, u25, u26, u27, u28, u29, u30, u31, u32, u33, u34, u35, u36, u37, u38, u39, u40, u41, u42, u43, u44, u45, u46, u47, u48, u49, u50, u51, u52, u53, u54, u55, u56, u57, u58, u59, u60, u61, u62, u63, u64, u65, u66, u67, u68, u69, u70, u71, u72, u73, u74, u75, u76, u77, u78, u79, u80, u81, u82, u83, u84, u85, u86, u87, u88, u89, u90, u91, u92, u93, u94, u95, u96, u97, u98, u99, u100, u101, u102, u103, u104, u105, u106, u107, u108, u109, u110, u111, u112, u113, u114, u115, u116, u117, u118, u119, u120, u121, u122, u123, u124, u125, u126, u127, u128, u129, u130, u131, u132, u133, u134, u135, u136, u137, u138, u139, u140, u141, u142, u143, u144, u145, u146, u147, u148, u149, u150, u151, u152, u153, u154, u155, u156, u157, u158, u159, u160, u161, u162, u163, u164, u165, u166, u167, u168, u169, u170, u171, u172, u173, u174, u175, u176, u177, u178, u179, u180, u181, u182, u183, u184, u185, u186, u187, u188, u189, u190, u191, u192, u193, u194, u195, u196, u197, u198, u199, u200, u201, u202, u203, u204, u205, u206, u207, u208, u209, u210, u211, u212, u213, u214, u215, u216, u217, u218, u219, u220, u221, u222, u223, u224, u225, u226, u227, u228, u229, u230, u231, u232, u233, u234, u235, u236, u237, u238, u239, u240, u241, u242, u243, u244, u245], []⟩ wc := by
  conv => arg 2; whnf
  refine wp_seq_k (fun K1 hK => ?_)
  have HK1 : Hid _ := hK
  clear hK
  go_wp2_with fail
  refine HK1.out _ _ ?_
  refine wp_seq_k (fun K2 hK => ?_)
  have HK2 : Hid _ := hK
  clear hK
  go_wp2_with fail
  go_loopg [16, 17] k (fun q s16 s17 wx => ∃ j : Nat, s16 = .int .i64 (cnt due run j) ∧ s17 = .int .i64 j ∧ j ≤ k ∧ k - j ≤ q ∧ wx = wc)
  case atStart => exact ⟨0, rfl, rfl, Nat.zero_le _, Nat.le_refl _, rfl⟩
  case round =>
    obtain ⟨j, rfl, rfl, hjk, hjq, rfl⟩ := hrel
    have hcl := cnt_le (due := due) (run := run) j
    by_cases hj : j < k
    · have j1 : (j : Int) < (k : Int) := by omega
      have hcj := HC2.out j hj wr HS.out.only
      have htj := HS.out.tsCell j hj
      obtain ⟨ix, tj, _⟩ := HS.out.task j hj
      have hrj : wr.cell? ⟨B j, 7, none⟩ = some (.bool (run j)) := cell_of_block tj rfl
      clear tj
      by_cases h0 : due j = 0
      · have h0b : (due j == 0) = true := by simp [h0]
        have HCN : Hid (cnt due run (j + 1) = cnt due run j) := cnt_succ_out j (.inl h0)
        generalize cnt due run j = cj at *
        go_wp2_with fail
        go_roundg (k - (j + 1))
        case measure => omega
        case rel => exact ⟨j + 1, by rw [HCN.out], by go_num, by omega, by omega, rfl⟩
      · have h0b : (due j == 0) = false := by simp [h0]
        cases hrn : run j with
        | true =>
          have HCN : Hid (cnt due run (j + 1) = cnt due run j) := cnt_succ_out j (.inr hrn)
          rw [hrn] at hrj
          generalize cnt due run j = cj at *
          go_wp2_with fail
          go_roundg (k - (j + 1))
          case measure => omega
          case rel => exact ⟨j + 1, by rw [HCN.out], by go_num, by omega, by omega, rfl⟩
        | false =>
          have HCN : Hid (cnt due run (j + 1) = cnt due run j + 1) := cnt_succ_in j h0 hrn
          rw [hrn] at hrj
          generalize cnt due run j = cj at *
          go_wp2_with fail
          go_roundg (k - (j + 1))
          case measure => omega
          case rel => exact ⟨j + 1, by rw [HCN.out]; go_num, by go_num, by omega, by omega, rfl⟩
    · obtain rfl : j = k := by omega
      have j0 : ¬ (j : Int) < (j : Int) := by omega
      obtain ⟨C, hC⟩ : ∃ C, cnt due run j = C := ⟨_, rfl⟩
      have HCC : Hid (cnt due run j = C) := hC
      rw [hC] at hcl
      rw [hC]
      clear hC
      go_wp2_with fail
      refine HK2.out _ _ ?_
      exact tail11 w b0 o0 c0 B j hn due run p C W now hw0 hw1 _ hpn HS HCC HW hcl HC2 HD Q HQ

set_option maxRecDepth 1000000 in
set_option maxHeartbeats 4000000 in
theorem tail7 (w : World) (b0 o0 c0 : Nat) (B : Nat → Nat) (k : Nat) (hn0 : 0 < k) (hn : k ≤ 1024) (due : Nat → Int) (run : Nat → Bool) (pk : Nat) (hpk : pk ≤ 255) (now : Int) (hw0 : -2147483648 ≤ now) (hw1 : now ≤ 2147483647) (wr : World) (HS : Hid (St w k due run B k wr))
    (HC2 : Hid (∀ i, i < k → ∀ w', Only (fun _ => False) w w' → w'.cell? ⟨b0, o0 + i, none⟩ = some (.int .i32 (due i)))) (HD : Hid (∀ i, -2147483648 ≤ due i ∧ due i ≤ 2147483647))
    {u1 u4 u5 u6 u7 u8 u12 u13 u14 u15 u16 u17 u18 u19 u20 u21 u22 u23 u24 u25 u26 u27 u28 u29 u30 u31 u32 u33 u34 u35 u36 u37 u38 u39 u40 u41 u42 u43 u44 u45 u46 u47 u48 u49 u50 u51 u52 u53 u54 u55 u56 u57 u58 u59 u60 u61 u62 u63 u64 u65 u66 u67 u68 u69 u70 u71 u72 u73 u74 u75 u76 u77 u78 u79 u80 u81 u82 u83 u84 u85 u86 u87 u88 u89 u90 u91 u92 u93 u94 u95 u96 u97 u98 u99 u100 u101 u102 u103 u104 u105 u106 u107 u108 u109 u110 u111 u112 u113 u114 u115 u116 u117 u118 u119 u120 u121 u122 u123 u124 u125 u126 u127 u128 u129 u130 u131 u132 u133 u134 u135 u136 u137 u138 u139 u140 u141 u142 u143 u144 u145 u146 u147 u148 u149 u150 u151 u152 u153 u154 u155 u156 u157 u158 u159 u160 u161 u162 u163 u164 u165 u166 u167 u168 u169 u170 u171 u172 u173 u174 u175 u176 u177 u178 u179 u180 u181 u182 u183 u184 u185 u186 u187 u188 u189 u190 u191 u192 u193 u194 u195 u196 u197 u198 u199 u200 u201 u202 u203 u204 u205 u206 u207 u208 u209 u210 u211 u212 u213 u214 u215 u216 u217 u218 u219 u220 u221 u222 u223 u224 u225 u226 u227 u228 u229 u230 u231 u232 u233 u234 u235 u236 u237 u238 u239 u240 u241 u242 u243 u244 u245 : Value} (Q : Exit → Act → World → Prop) (HQ : Hid (Q = bodyPost Yba.prog Yba.f3 fun e w' => e = .returned (.bool true) ∧ Below w.heap.size w w')) :
    Code.wp Yba.prog (tailC 7 (Yba.f3.body.getD .skip)) Q ⟨#[.slice (some ⟨b0, o0, none⟩) k c0, u1, .int .u8 (pk : Int), .int .i32 now, u4, u5, u6, u7, u8, .int .i64 (k : Int), .pointer (some ⟨w.heap.size, 0, none⟩), .slice (some ⟨w.heap.size + 1, 0, none⟩) k k, u12, u13, u14, u15, u16, u17, u18, u19, u20, u21, u22, u23, u24, u25, u26, u27, u28, u29, u30, u31, u32, u33, u34, u35, u36, u37, u38, u39, u40, u41, u42, u43, u44, u45, u46, u47, u48, u49, u50, u51, u52, u53, u54, u55, u56, u57, u58, u59, u60, u61, u62, u63, u64, u65, u66, u67, u68, u69, u70, u71, u72, u73, u74, u75, u76, u77, u78, u79, u80, u81, u82, u83, u84, u85, u86, u87, u88, u89, u90, u91, u92, u93, u94, u95, u96, u97, u98, u99, u100, u101, u102, u103, u104, u105, u106, u107, u108, u109, u110, u111, u112, u113, u114, u115, u116, u117, u118, u119, u120, u121, u122, u123, u124, u125, u126, u127, u128, u129, u130, u131, u132, u133, u134, u135, u136, u137, u138, u139, u140, u141, u142, u143, u144, u145, u146, u147, u148, u149, u150, u151, u152, u153, u154, u155, u156, u157, u158, u159, u160, u161, u162, u163, u164, u165, u166, u167, u168, u169, u170, u171, u172, u173, u174, u175, u176, u177, u178, u179, u180, u181, u182, u183, u184, u185, u186, u187, u188, u189, u190, u191, u192, u193, u194, u195, u196, u197, u198, u199, u200, u201, u202, u203, u204, u205, u206, u207, u208, u209, u210, u211, u212, u213, u214, u215, u216, u217, u218, u219, u220, u221, u222, u223, u224, u225, u226, u227, u228, u229, u230, u231, u232, u233, u234, u235, u236, u237, u238, u239, u240, u241, u242, u243, u244, u245], []⟩ wr := by
  conv => arg 2; whnf
  have hnz : ((k : Int) == 0) = false := beq_eq_false_iff_ne.2 (by omega)
  obtain ⟨p, hp⟩ : ∃ p : Nat, (pk : Int).tmod (k : Int) = (p : Int) := ⟨pk % k, by rw [Int.tmod_eq_emod_of_nonneg (by omega)]; omega⟩
  have hpn : p < k := by
    have := Int.tmod_eq_emod_of_nonneg (a := (pk : Int)) (b := (k : Int)) (by omega)
    have h2 := Int.emod_lt_of_pos (pk : Int) (b := (k : Int)) (by omega)
    omega
  have i1 : (p : Int) < (k : Int) := by omega
  have hdp := HD.out p
  have hcp := HC2.out p hpn wr HS.out.only
  refine wp_seq_k (fun K1 hK => ?_)
  have HK1 : Hid _ := hK
  clear hK
  go_wp2_with fail
  refine HK1.out _ _ ?_
  refine wp_seq_k (fun K2 hK => ?_)
  have HK2 : Hid _ := hK
  clear hK
  by_cases h0 : due p = 0
  · have h0b : (due p == 0) = true := by simp [h0]
    have HW : Hid ((!(due p == 0) && !(decide (now < due p))) = false) := by show _ = _; rw [h0b]; rfl
    go_wp2_with fail
    refine HK2.out _ _ ?_
    exact tail9 w b0 o0 c0 B k hn due run p _ now hw0 hw1 wr hpn HS HW HC2 HD Q HQ
  · have h0b : (due p == 0) = false := by simp [h0]
    have HW : Hid ((!(due p == 0) && !(decide (now < due p))) = (due p != 0 && decide (due p ≤ now))) := by
      show _ = _
      simp only [bne, h0b]
      by_cases h : now < due p
      · have h' : ¬ due p ≤ now := by omega
        simp [h, h']
      · have h' : due p ≤ now := by omega
        simp [h, h']
    go_wp2_with fail
    refine HK2.out _ _ ?_
    exact tail9 w b0 o0 c0 B k hn due run p _ now hw0 hw1 wr hpn HS HW HC2 HD Q HQ

end Go.Proofs.Ybulkakaw
