import Derived.Test.YbulkakawTail15
import Derived.Deep.CutRange
import Derived.Deep.DeepCutAuto
namespace Go.Proofs.Ybulkakaw
open Go.RowKit Go.Sort

set_option maxRecDepth 1000000 in
set_option maxHeartbeats 4000000 in
theorem tail14 (w : World) (b0 o0 c0 : Nat) (B : Nat → Nat) (j : Nat) (hn : j ≤ 1024) (due d' : Nat → Int) (run : Nat → Bool) (p C : Nat) (W PI : Bool) (w2 : World) (hpn : p < j) (hS2 : St w j d' run B j w2) (HCC : Hid (cnt due run j = C)) (HD' : Hid ((if W = true then due else upd due p 0) = d')) (HPI : Hid ((!(due p == 0) && !(run p)) = PI)) (hcl : C ≤ j)
    (HC2 : Hid (∀ i, i < j → ∀ w', Only (fun _ => False) w w' → w'.cell? ⟨b0, o0 + i, none⟩ = some (.int .i32 (due i)))) (HD : Hid (∀ i, -2147483648 ≤ due i ∧ due i ≤ 2147483647))
    {u1 u2 u3 u4 u5 u6 u7 u8 u12 u13 u17 u19 u20 u21 u22 u23 u24 u25 u26 u27 u28 u29 u30 u31 u32 u33 u34 u35 u36 u37 u38 u39 u40 u41 u42 u43 u44 u45 u46 u47 u48 u49 u50 u51 u52 u53 u54 u55 u56 u57 u58 u59 u60 u61 u62 u63 u64 u65 u66 u67 u68 u69 u70 u71 u72 u73 u74 u75 u76 u77 u78 u79 u80 u81 u82 u83 u84 u85 u86 u87 u88 u89 u90 u91 u92 u93 u94 u95 u96 u97 u98 u99 u100 u101 u102 u103 u104 u105 u106 u107 u108 u109 u110 u111 u112 u113 u114 u115 u116 u117 u118 u119 u120 u121 u122 u123 u124 u125 u126 u127 u128 u129 u130 u131 u132 u133 u134 u135 u136 u137 u138 u139 u140 u141 u142 u143 u144 u145 u146 u147 u148 u149 u150 u151 u152 u153 u154 u155 u156 u157 u158 u159 u160 u161 u162 u163 u164 u165 u166 u167 u168 u169 u170 u171 u172 u173 u174 u175 u176 u177 u178 u179 u180 u181 u182 u183 u184 u185 u186 u187 u188 u189 u190 u191 u192 u193 u194 u195 u196 u197 u198 u199 u200 u201 u202 u203 u204 u205 u206 u207 u208 u209 u210 u211 u212 u213 u214 u215 u216 u217 u218 u219 u220 u221 u222 u223 u224 u225 u226 u227 u228 u229 u230 u231 u232 u233 u234 u235 u236 u237 u238 u239 u240 u241 u242 u243 u244 u245 : Value} (Q : Exit → Act → World → Prop) (HQ : Hid (Q = bodyPost Yba.prog Yba.f3 fun e w' => e = .returned (.bool true) ∧ Below w.heap.size w w')) :
    Code.wp Yba.prog (tailC 14 (Yba.f3.body.getD .skip)) Q ⟨#[.slice (some ⟨b0, o0, none⟩) j c0, u1, u2, u3, u4, u5, u6, u7, u8, .int .i64 (j : Int), .pointer (some ⟨w.heap.size, 0, none⟩), .slice (some ⟨w.heap.size + 1, 0, none⟩) j j, u12, u13, .int .i64 (p : Int), .bool W, .int .i64 (C : Int), u17, .bool PI, u19, u20, u21, u22, u23, u24, u25, u26, u27, u28, u29, u30, u31, u32, u33, u34, u35, u36, u37, u38, u39, u40, u41, u42, u43, u44, u45, u46, u47, u48, u49, u50, u51, u52, u53, u54, u55, u56, u57, u58, u59, u60, u61, u62, u63, u64, u65, u66, u67, u68, u69, u70, u71, u72, u73, u74, u75, u76, u77, u78, u79, u80, u81, u82, u83, u84, u85, u86, u87, u88, u89, u90, u91, u92, u93, u94, u95, u96, u97, u98, u99, u100, u101, u102, u103, u104, u105, u106, u107, u108, u109, u110, u111, u112, u113, u114, u115, u116, u117, u118, u119, u120, u121, u122, u123, u124, u125, u126, u127, u128, u129, u130, u131, u132, u133, u134, u135, u136, u137, u138, u139, u140, u141, u142, u143, u144, u145, u146, u147, u148, u149, u150, u151, u152, u153, u154, u155, u156, u157, u158, u159, u160, u161, u162, u163, u164, u165, u166, u167, u168, u169, u170, u171, u172, u173, u174, u175, u176, u177, u178, u179, u180, u181, u182, u183, u184, u185, u186, u187, u188, u189, u190, u191, u192, u193, u194, u195, u196, u197, u198, u199, u200, u201, u202, u203, u204, u205, u206, u207, u208, u209, u210, u211, u212, u213, u214, u215, u216, u217, u218, u219, u220, u221, u222, u223, u224, u225, u226, u227, u228, u229, u230, u231, u232, u233, u234, u235, u236, u237, u238, u239, u240, u241, u242, u243, u244, u245], []⟩ w2 := by
  conv => arg 2; whnf
  refine wp_seq_k (fun K1 hK => ?_)
  have HK1 : Hid _ := hK
  clear hK
  go_wp2_with fail
  go_loopg [20] j (fun q s20 wx => ∃ i : Nat, s20 = .int .i64 i ∧ i ≤ j ∧ j - i ≤ q ∧ St w j d' run B j wx)
  case atStart => exact ⟨0, rfl, Nat.zero_le _, Nat.le_refl _, hS2⟩
  case round =>
    obtain ⟨i, rfl, hij, hiq, hSi⟩ := hrel
    have HSi : Hid (St w j d' run B j wr) := hSi
    clear hSi hS2
    by_cases hi : i < j
    · have i3 : (i : Int) < (j : Int) := by omega
      have hti := HSi.out.tsCell i hi
      obtain ⟨ix, ti, hix⟩ := HSi.out.task i hi
      have TI : Hid (wr.heap[B i]? = some (.cells (tcells (B i) (d' i) ix (run i)) 47 (0, 0))) := ti
      have k0 : wr.cell? ⟨B i, 2, none⟩ = some (.int .u64 (tw (d' i))) := cell_of_block ti rfl
      have k1 : wr.cell? ⟨B i, 3, none⟩ = some (.int .i64 (te (d' i))) := cell_of_block ti rfl
      have k2 : wr.cell? ⟨B i, 4, none⟩ = some (.pointer none) := cell_of_block ti rfl
      have hci := HC2.out i hi wr HSi.out.only
      have hdi := HD.out i
      clear ti
      by_cases hA : i = p ∧ W = false
      · obtain ⟨rfl, rfl⟩ := hA
        have e0 : d' i = 0 := by rw [← HD'.out]; simp [eq_upd]
        have hix0 := hix e0
        subst hix0
        have HZI : Hid (∀ w, Calls Yba.prog 7 #[.agg #[.int .u64 (tw (d' i)), .int .i64 (te (d' i)), .pointer none]] w fun e w' => e = .returned (.bool true) ∧ Only (fun _ => False) w w') := fun w => by
          have := isZero_any (d' i) w
          rw [e0] at this ⊢
          exact this
        have hii : ((i : Int) == (i : Int)) = true := by simp
        clear e0 hix
        go_wp2_with fail
        refine (HZI.out _).mono ?_
        rintro e w1 ⟨rfl, o1⟩
        have t1 := o1.at_block TI.out (fun h => h)
        have d5 : w1.cell? ⟨B i, 5, none⟩ = some (.int .i64 (-1)) := cell_of_block t1 rfl
        have dt := keep0 o1 hti
        have HS1 : Hid (St w j d' run B j w1) := HSi.out.only0 o1
        clear o1 t1 k0 k1 k2 hci hti TI HSi
        go_wp2_with fail
        go_roundg (j - (i + 1))
        case measure => omega
        case rel => exact ⟨i + 1, by go_num, by omega, by omega, HS1.out⟩
      · have e0 : d' i = due i := by
          rw [← HD'.out]
          cases hWc : W with
          | true => simp
          | false =>
            have : i ≠ p := fun e => hA ⟨e, hWc⟩
            simp [ne_upd this]
        have HEQ : Hid (∀ w, Calls Yba.prog 8 #[.agg #[.int .u64 (tw (d' i)), .int .i64 (te (d' i)), .pointer none], tval (due i)] w fun e w' => e = .returned (.bool true) ∧ Only (fun _ => False) w w') := fun w => by
          have := equal_any (d' i) (due i) w
          have e1 : (d' i == due i) = true := by simp [e0]
          rw [e1] at this
          exact this
        clear e0 hix TI
        generalize d' i = di at *
        generalize B i = bi at *
        go_upto_region 32 with fail
        go_cut [143] from 132 to 179 (fun s143 wx => s143 = .bool false ∧ wx = wr)
        case first =>
          by_cases hip : i = p
          · have hWt : W = true := by
              cases hWc : W with
              | true => rfl
              | false => exact absurd ⟨hip, hWc⟩ hA
            have hii : ((i : Int) == (p : Int)) = true := by simp [hip]
            have hWn : (!W) = false := by rw [hWt]; rfl
            clear hWt
            go_wp2_with fail
            go_meet
            exact ⟨rfl, rfl⟩
          · have hii : ((i : Int) == (p : Int)) = false := beq_eq_false_iff_ne.2 (by omega)
            go_wp2_with fail
            go_meet
            exact ⟨rfl, rfl⟩
        case rest =>
          obtain ⟨rfl, rfl⟩ := hcut
          go_wp2_with fail
          go_region_held3 (fun w' => w'.cell? ⟨w.heap.size + 1, i, none⟩ = some (.pointer (some ⟨bi, 0, none⟩)) ∧ w'.cell? ⟨bi, 2, none⟩ = some (.int .u64 (tw di)) ∧ w'.cell? ⟨bi, 3, none⟩ = some (.int .i64 (te di)) ∧ w'.cell? ⟨bi, 4, none⟩ = some (.pointer none) ∧ w'.cell? ⟨b0, o0 + i, none⟩ = some (.int .i32 (due i))) (go_keep)
            (first
              | (go_at_call 5; refine (at_any (due i) _ hdi.1 hdi.2).mono ?_; rintro e w1 ⟨rfl, ho1⟩; have q1 := keep1 ho1 hti; have q2 := keep1 ho1 k0; have q3 := keep1 ho1 k1; have q4 := keep1 ho1 k2; have q5 := keep1 ho1 hci)
              | (go_at_call 8; refine (HEQ.out _).mono ?_; rintro e w2 ⟨rfl, ho2⟩; have r1 := keep0 ho2 q1; have r2 := keep0 ho2 q2; have r3 := keep0 ho2 q3; have r4 := keep0 ho2 q4; have r5 := keep0 ho2 q5))
          have HS1 : Hid (St w j d' run B j w2) := HSi.out.only0 ((only_drew _).trans (ho1.trans ho2))
          clear ho1 ho2 q1 q2 q3 q4 q5 r1 r2 r3 r4 r5 k0 k1 k2 hci hti HSi
          go_wp2_with fail
          go_roundg (j - (i + 1))
          case measure => omega
          case rel => exact ⟨i + 1, by go_num, by omega, by omega, HS1.out⟩
    · obtain rfl : i = j := by omega
      have i3 : ¬ (i : Int) < (i : Int) := by omega
      go_wp2_with fail
      refine HK1.out _ _ ?_
      exact tail15 w B i hn due d' run p C W PI wr hpn HSi HCC HD' HPI hcl Q HQ

end Go.Proofs.Ybulkakaw
