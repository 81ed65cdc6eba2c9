import Derived.Test.YbulkakawState
import Derived.Deep.DeepCutAuto
namespace Go.Proofs.Ybulkakaw
open Go.RowKit Go.Sort

/-- The code behind the first k statements. -/
def tailC : Nat → Code → Code
  | 0, c => c
  | k + 1, .seq _ b => tailC k b
  | _ + 1, c => c

set_option maxRecDepth 1000000 in
set_option maxHeartbeats 4000000 in
theorem tail17 (w : World) (B : Nat → Nat) (i : Nat) (d' : Nat → Int) (run : Nat → Bool) (idx : Nat → Int) (pp : Option Addr) (cc : Nat) (xs : Array Nat) (N : Nat) (wc : World) (HI : Hid (Inv w.heap.size B i d' run idx w.heap.size pp cc xs wc)) (HN : Hid (xs.size = N)) (hle : N ≤ 1024) (HOWC : Hid (Only (fun _ => False) w wc))
    {u0 u1 u2 u3 u4 u5 u6 u7 u8 u9 u11 u12 u13 u14 u15 u16 u17 u18 u19 u20 u22 u23 u24 u25 u26 u27 u28 u29 u30 u31 u32 u33 u34 u35 u36 u37 u38 u39 u40 u41 u42 u43 u44 u45 u46 u47 u48 u49 u50 u51 u52 u53 u54 u55 u56 u57 u58 u59 u60 u61 u62 u63 u64 u65 u66 u67 u68 u69 u70 u71 u72 u73 u74 u75 u76 u77 u78 u79 u80 u81 u82 u83 u84 u85 u86 u87 u88 u89 u90 u91 u92 u93 u94 u95 u96 u97 u98 u99 u100 u101 u102 u103 u104 u105 u106 u107 u108 u109 u110 u111 u112 u113 u114 u115 u116 u117 u118 u119 u120 u121 u122 u123 u124 u125 u126 u127 u128 u129 u130 u131 u132 u133 u134 u135 u136 u137 u138 u139 u140 u141 u142 u143 u144 u145 u146 u147 u148 u149 u150 u151 u152 u153 u154 u155 u156 u157 u158 u159 u160 u161 u162 u163 u164 u165 u166 u167 u168 u169 u170 u171 u172 u173 u174 u175 u176 u177 u178 u179 u180 u181 u182 u183 u184 u185 u186 u187 u188 u189 u190 u191 u192 u193 u194 u195 u196 u197 u198 u199 u200 u201 u202 u203 u204 u205 u206 u207 u208 u209 u210 u211 u212 u213 u214 u215 u216 u217 u218 u219 u220 u221 u222 u223 u224 u225 u226 u227 u228 u229 u230 u231 u232 u233 u234 u235 u236 u237 u238 u239 u240 u241 u242 u243 u244 u245 : Value} (Q : Exit → Act → World → Prop) (HQ : Hid (Q = bodyPost Yba.prog Yba.f3 fun e w' => e = .returned (.bool true) ∧ Below w.heap.size w w')) :
    Code.wp Yba.prog (tailC 17 (Yba.f3.body.getD .skip)) Q ⟨#[u0, u1, u2, u3, u4, u5, u6, u7, u8, u9, .pointer (some ⟨w.heap.size, 0, none⟩), u11, u12, u13, u14, u15, u16, u17, u18, u19, u20, .int .i64 (N : Int), u22, u23, u24, u25, u26, u27, u28, u29, u30, u31, u32, u33, u34, u35, u36, u37, u38, u39, u40, u41, u42, u43, u44, u45, u46, u47, u48, u49, u50, u51, u52, u53, u54, u55, u56, u57, u58, u59, u60, u61, u62, u63, u64, u65, u66, u67, u68, u69, u70, u71, u72, u73, u74, u75, u76, u77, u78, u79, u80, u81, u82, u83, u84, u85, u86, u87, u88, u89, u90, u91, u92, u93, u94, u95, u96, u97, u98, u99, u100, u101, u102, u103, u104, u105, u106, u107, u108, u109, u110, u111, u112, u113, u114, u115, u116, u117, u118, u119, u120, u121, u122, u123, u124, u125, u126, u127, u128, u129, u130, u131, u132, u133, u134, u135, u136, u137, u138, u139, u140, u141, u142, u143, u144, u145, u146, u147, u148, u149, u150, u151, u152, u153, u154, u155, u156, u157, u158, u159, u160, u161, u162, u163, u164, u165, u166, u167, u168, u169, u170, u171, u172, u173, u174, u175, u176, u177, u178, u179, u180, u181, u182, u183, u184, u185, u186, u187, u188, u189, u190, u191, u192, u193, u194, u195, u196, u197, u198, u199, u200, u201, u202, u203, u204, u205, u206, u207, u208, u209, u210, u211, u212, u213, u214, u215, u216, u217, u218, u219, u220, u221, u222, u223, u224, u225, u226, u227, u228, u229, u230, u231, u232, u233, u234, u235, u236, u237, u238, u239, u240, u241, u242, u243, u244, u245], []⟩ wc := by
  conv => arg 2; whnf
  have hK := HI.out.q.cell
  rw [HN.out] at hK
  have hNN : ((N : Int) == (N : Int)) = true := by simp
  go_wp2_with fail
  have hKK : ∀ w', Only (fun _ => False) wc w' → w'.cell? ⟨w.heap.size, 2, none⟩ = some (.slice pp N cc) := fun w' o => keep0 o hK
  have HKK : Hid _ := hKK
  clear hKK hK
  go_loopg [22, 23] N (fun q s22 _ wx => ∃ k : Nat, s22 = .int .i64 k ∧ k ≤ N ∧ N - k ≤ q ∧ Only (fun _ => False) wc wx)
  case atStart => exact ⟨0, rfl, Nat.zero_le _, Nat.le_refl _, Only.refl _ _⟩
  case round =>
    obtain ⟨k, rfl, hkN, hkq, ho⟩ := hrel
    have hK := HKK.out wr ho
    have HO : Hid (Only (fun _ => False) wc wr) := ho
    clear ho
    by_cases hk : k < N
    · have k3 : (k : Int) < (N : Int) := by omega
      obtain ⟨g, rfl, hQ⟩ := HI.out.q.toQs (by rw [HN.out]; omega)
      have hmx := hQ.mem k (by rw [HN.out]; omega)
      have hqx := HI.out.q.task _ hmx
      rw [HI.out.ix k (by rw [HN.out]; omega)] at hqx
      have hxx := (HI.out.mem xs[k]!).1 (get_mem (by rw [HN.out]; omega))
      have hgx : wr.cell? ⟨g, k, none⟩ = some (.pointer (some ⟨B xs[k]!, 2, none⟩)) := keep0 HO.out (hQ.row.cells k (by rw [HN.out]; omega)).1
      have tx := HO.out.at_block hqx (fun h => h)
      rw [hxx.2.2] at tx
      have dx0 : (d' xs[k]! == 0) = false := by simp [hxx.2.1]
      have HZI : Hid (∀ w, Calls Yba.prog 7 #[.agg #[.int .u64 (tw (d' xs[k]!)), .int .i64 (te (d' xs[k]!)), .pointer none]] w fun e w' => e = .returned (.bool false) ∧ Only (fun _ => False) w w') := fun w => by
        have := isZero_any (d' xs[k]!) w
        rw [dx0] at this
        exact this
      have HBF : Hid (∀ y, d' xs[k]! < d' y → False) → True := fun _ => trivial
      clear HBF
      have x2 : wr.cell? ⟨B xs[k]!, 2, none⟩ = some (.int .u64 (tw (d' xs[k]!))) := cell_of_block tx rfl
      have x3 : wr.cell? ⟨B xs[k]!, 3, none⟩ = some (.int .i64 (te (d' xs[k]!))) := cell_of_block tx rfl
      have x4 : wr.cell? ⟨B xs[k]!, 4, none⟩ = some (.pointer none) := cell_of_block tx rfl
      have x5 : wr.cell? ⟨B xs[k]!, 5, none⟩ = some (.int .i64 k) := cell_of_block tx rfl
      have hkk : ((k : Int) == (k : Int)) = true := by simp
      have TX : Hid _ := tx
      have HPAR : Hid (0 < k → (k - 1) / 2 < N ∧ (∀ w, Calls Yba.prog 9 #[.agg #[.int .u64 (tw (d' xs[k]!)), .int .i64 (te (d' xs[k]!)), .pointer none], .agg #[.int .u64 (tw (d' xs[(k - 1) / 2]!)), .int .i64 (te (d' xs[(k - 1) / 2]!)), .pointer none]] w fun e w' => e = .returned (.bool false) ∧ Only (fun _ => False) w w') ∧
          ∀ w', Only (fun _ => False) wr w' → w'.cell? ⟨g, (k - 1) / 2, none⟩ = some (.pointer (some ⟨B xs[(k - 1) / 2]!, 2, none⟩)) ∧ w'.cell? ⟨B xs[(k - 1) / 2]!, 2, none⟩ = some (.int .u64 (tw (d' xs[(k - 1) / 2]!))) ∧ w'.cell? ⟨B xs[(k - 1) / 2]!, 3, none⟩ = some (.int .i64 (te (d' xs[(k - 1) / 2]!))) ∧ w'.cell? ⟨B xs[(k - 1) / 2]!, 4, none⟩ = some (.pointer none)) := by
        intro hk0
        have hlt : (k - 1) / 2 < xs.size := by rw [HN.out]; omega
        have hhp := HI.out.hp ((k - 1) / 2) k (by omega) (by rw [HN.out]; omega)
        have ty := HI.out.q.task _ (hQ.mem _ hlt)
        refine ⟨by omega, fun w => ?_, fun w' o' => ?_⟩
        · have := before_any (d' xs[k]!) (d' xs[(k - 1) / 2]!) w
          have e1 : decide (d' xs[k]! < d' xs[(k - 1) / 2]!) = false := hhp
          rw [e1] at this
          exact this
        · have o2 := HO.out.trans o'
          have ty' := o2.at_block ty (fun h => h)
          exact ⟨keep0 o2 (hQ.row.cells _ hlt).1, cell_of_block ty' rfl, cell_of_block ty' rfl, cell_of_block ty' rfl⟩
      clear hqx hmx hxx tx dx0 hQ
      generalize xs[k]! = x at *
      go_wp2_with fail
      refine (HZI.out _).mono ?_
      rintro e w1 ⟨rfl, o1⟩
      have t1 := o1.at_block TX.out (fun h => h)
      have y2 : w1.cell? ⟨B x, 2, none⟩ = some (.int .u64 (tw (d' x))) := cell_of_block t1 rfl
      have y3 : w1.cell? ⟨B x, 3, none⟩ = some (.int .i64 (te (d' x))) := cell_of_block t1 rfl
      have y4 : w1.cell? ⟨B x, 4, none⟩ = some (.pointer none) := cell_of_block t1 rfl
      have y6 : w1.cell? ⟨B x, 6, none⟩ = some (.pointer (some ⟨B x, 0, none⟩)) := cell_of_block t1 rfl
      have y7 : w1.cell? ⟨B x, 7, none⟩ = some (.bool false) := cell_of_block t1 rfl
      have hK1 := keep0 o1 hK
      have HO1 : Hid (Only (fun _ => False) wr w1) := o1
      clear o1 t1 x2 x3 x4 x5 hK hgx TX
      by_cases hk0 : 0 < k
      · have k4 : (0 : Int) < (k : Int) := by omega
        obtain ⟨hpl, HBE, hcells⟩ := HPAR.out hk0
        obtain ⟨z1, z2, z3, z4⟩ := hcells w1 HO1.out
        have HBEH : Hid _ := HBE
        have hh := half_int k hk0
        clear hcells HBE HPAR
        generalize (k - 1) / 2 = pr at *
        generalize xs[pr]! = y at *
        have k5 : (pr : Int) < (N : Int) := by omega
        have k6 : (0 : Int) ≤ (pr : Int) := by omega
        have k7 : (k : Int) ≤ 1024 := by omega
        have k8 : (pr : Int) ≤ 1024 := by omega
        have k9 : IntKind.i64.wrap ((k : Int) - 1) = (k : Int) - 1 := by rw [IntKind.wrap_i64]; omega
        have k10 : IntKind.i64.wrap (pr : Int) = (pr : Int) := by rw [IntKind.wrap_i64]; omega
        generalize d' x = dx at *
        generalize d' y = dy at *
        generalize B x = bx at *
        generalize B y = by' at *
        go_wp2_with fail
        go_region_held3 (fun w' => w'.cell? ⟨w.heap.size, 2, none⟩ = some (.slice (some ⟨g, 0, none⟩) N cc) ∧ w'.cell? ⟨g, pr, none⟩ = some (.pointer (some ⟨by', 2, none⟩)) ∧ w'.cell? ⟨bx, 2, none⟩ = some (.int .u64 (tw dx)) ∧ w'.cell? ⟨bx, 3, none⟩ = some (.int .i64 (te dx)) ∧ w'.cell? ⟨bx, 4, none⟩ = some (.pointer none) ∧ w'.cell? ⟨by', 2, none⟩ = some (.int .u64 (tw dy)) ∧ w'.cell? ⟨by', 3, none⟩ = some (.int .i64 (te dy)) ∧ w'.cell? ⟨by', 4, none⟩ = some (.pointer none)) (go_keep)
          ((go_at_call 9; refine (HBEH.out _).mono ?_; rintro e w2 ⟨rfl, ho2⟩; have q1 := keep1 ho2 hK1; have q2 := keep1 ho2 z1; have q3 := keep1 ho2 y2; have q4 := keep1 ho2 y3; have q5 := keep1 ho2 y4; have q6 := keep1 ho2 z2; have q7 := keep1 ho2 z3; have q8 := keep1 ho2 z4))
        have HO2 : Hid (Only (fun _ => False) wc w2) := HO.out.trans (HO1.out.trans ((only_drew _).trans ho2))
        clear q1 q2 q3 q4 q5 q6 q7 q8 z1 z2 z3 z4 y2 y3 y4 y6 y7 hK1 ho2
        go_wp2_with fail
        go_roundg (N - (k + 1))
        case measure => omega
        case rel => exact ⟨k + 1, by go_num, by omega, by omega, HO2.out⟩
      · obtain rfl : k = 0 := by omega
        have HO2 : Hid (∀ w2, Only (fun _ => False) w1 w2 → Only (fun _ => False) wc w2) := fun w2 o2 => HO.out.trans (HO1.out.trans o2)
        have k4 : decide ((0 : Int) < ((0 : Nat) : Int)) = false := by decide
        clear HPAR
        go_wp2_with fail
        go_region
        go_wp2_with fail
        go_roundg (N - 1)
        case measure => omega
        case rel => exact ⟨1, rfl, by omega, by omega, HO2.out _ (only_drew _)⟩
    · obtain rfl : k = N := by omega
      have k3 : ¬ (k : Int) < (k : Int) := by omega
      go_wp2_with fail
      rw [HQ.out]
      go_ret
      refine ⟨rfl, ?_⟩
      exact (HOWC.out.trans HO.out).below (Nat.le_refl _) (fun _ _ hf => hf.elim)

end Go.Proofs.Ybulkakaw
