import Derived.Test.YbulkajnySt
import Derived.Test.YbulkajnyHeapPush
import Derived.BigRegion
namespace Go.Proofs.Ybulkajny
open Go.RowKit Go.Sort

theorem info76 : (Yba.prog.info? 76).map (fun i => (i.zero, i.size, i.bytes)) = some (some (.agg #[.int .i32 0, .int .i32 0]), 2, 8) := by kernel_rfl

set_option maxRecDepth 100000 in
set_option maxHeartbeats 1600000 in
theorem open_any {w0 w : World} {R0 : Nat → Row} {E : Option (Nat × Obj)} {n K G : Nat} {b : Nat → Nat} {gx : List Value} {st : Nat} {s : TS} (hg : Gs R0 n K G b gx st) (hT : Tj w0 w R0 E (n + K) b s)
    (B : Nat) (hB : R0 21 = ⟨some B, 1, 44, 1, 1, [.pointer (some ⟨G, 0, none⟩)]⟩) (v : Nat) (hv : v < n + K) (hc : s.ctr ≤ 1000) (hl1 : s.calls.length ≤ 1000) (hl2 : s.stk.length ≤ 1000) (hl3 : s.seen.length ≤ 1000) :
    Calls Yba.prog 28 #[i32 v, .pointer (some ⟨b 11, 0, none⟩), .pointer (some ⟨B, 0, none⟩), .pointer (some ⟨b 13, 0, none⟩), .pointer (some ⟨b 14, 0, none⟩), .pointer (some ⟨b 12, 0, none⟩)] w fun e w' => e = .returned (.tuple #[]) ∧
      Tj w0 w' R0 E (n + K) b (openN s v) := by
  obtain ⟨i0, hi0, hz0, hz1, hz2⟩ := info_parts info21
  obtain ⟨i1, hi1, hy0, hy1, hy2⟩ := info_parts info76
  have cc := hT.cCtr
  have fc := hT.free (i := 11) (by omega) (by omega) 0
  have hw : IntKind.i32.wrap ((s.ctr : Int) + 1) = (s.ctr : Int) + 1 := by rw [IntKind.wrap_i32]; omega
  have HT1 : Hid (Tj w0 (w.setCell ⟨b 11, 0, none⟩ (.int .i32 ((s.ctr : Int) + 1))) R0 E (n + K) b { s with ctr := s.ctr + 1 }) := hT.setCtr (s.ctr + 1)
  go_enter Yba.func28, Yba.ntmps28
  refine wp_seq_k (fun K1 hK => ?_)
  have HK1 : Hid _ := hK
  clear hK
  go_wp2_with fail
  refine HK1.out _ _ ?_
  clear HK1 cc fc hw
  have hT1 := HT1.out
  clear HT1
  generalize hw1 : w.setCell ⟨b 11, 0, none⟩ (.int .i32 ((s.ctr : Int) + 1)) = w1 at *
  have cc := hT1.cCtr
  have cB : w1.cell? ⟨B, 0, none⟩ = some (.pointer (some ⟨G, 0, none⟩)) := hT1.cell (i := 21) (by omega) (by rw [hB]) (by rw [hB]; rfl)
  have c8 : w1.cell? ⟨G, 8, none⟩ = some (.slice (some ⟨b 8, 0, none⟩) (n + K) (n + K)) := hT1.cell (i := 0) (by omega) (by rw [hg.g0]) (by rw [hg.g0]; exact hg.x8)
  have c9 : w1.cell? ⟨G, 9, none⟩ = some (.slice (some ⟨b 9, 0, none⟩) (n + K) (n + K)) := hT1.cell (i := 0) (by omega) (by rw [hg.g0]) (by rw [hg.g0]; exact hg.x9)
  have hi := hT1.cIdx hv
  have hl := hT1.cLow hv
  have fi := hT1.free (i := 8) (by omega) (by omega) v
  have fl := hT1.free (i := 9) (by omega) (by omega) v
  have n1 : b 8 ≠ b 9 := hT1.ne (by omega) (by omega) (by omega) (by omega) (by omega)
  have n2 : b 8 ≠ b 11 := hT1.ne (by omega) (by omega) (by omega) (by omega) (by omega)
  have n3 : b 9 ≠ b 11 := hT1.ne (by omega) (by omega) (by omega) (by omega) (by omega)
  have n4 : b 8 ≠ G := hT1.ne0 (j := 0) (by omega) (by omega) (by omega) (by rw [hg.g0])
  have n5 : b 9 ≠ G := hT1.ne0 (j := 0) (by omega) (by omega) (by omega) (by rw [hg.g0])
  have n6 : b 8 ≠ B := hT1.ne0 (j := 21) (by omega) (by omega) (by omega) (by rw [hB])
  have n7 : b 9 ≠ B := hT1.ne0 (j := 21) (by omega) (by omega) (by omega) (by rw [hB])
  have hv1 : (v : Int) < ((n + K : Nat) : Int) := by omega
  have hv0 : (0 : Int) ≤ (v : Int) := by omega
  have HT2 : Hid (Tj w0 ((w1.setCell ⟨b 8, v, none⟩ (.int .i32 ((s.ctr : Int) + 1))).setCell ⟨b 9, v, none⟩ (.int .i32 ((s.ctr : Int) + 1))) R0 E (n + K) b { s with ctr := s.ctr + 1, idx := ud s.idx v (s.ctr + 1), low := ud s.low v (s.ctr + 1) }) := (hT1.setIdx v (s.ctr + 1)).setLow v (s.ctr + 1)
  refine wp_seq_k (fun K1 hK => ?_)
  have HK1 : Hid _ := hK
  clear hK
  go_wp2_with fail
  go_region
  refine HK1.out _ _ ?_
  clear HK1 cc cB c8 c9 hi hl fi fl hT1 n1 n2 n3 n4 n5 n6 n7
  have hT2 := HT2.out
  clear HT2
  generalize hw2 : (w1.setCell ⟨b 8, v, none⟩ (.int .i32 ((s.ctr : Int) + 1))).setCell ⟨b 9, v, none⟩ (.int .i32 ((s.ctr : Int) + 1)) = w2 at *
  have cB : w2.cell? ⟨B, 0, none⟩ = some (.pointer (some ⟨G, 0, none⟩)) := hT2.cell (i := 21) (by omega) (by rw [hB]) (by rw [hB]; rfl)
  have c10 : w2.cell? ⟨G, 10, none⟩ = some (.slice (some ⟨b 10, 0, none⟩) (n + K) (n + K)) := hT2.cell (i := 0) (by omega) (by rw [hg.g0]) (by rw [hg.g0]; exact hg.x10)
  have hon := hT2.cOn hv
  have fon := hT2.free (i := 10) (by omega) (by omega) v
  have HT3 : Hid (Tj w0 (w2.setCell ⟨b 10, v, none⟩ (.bool true)) R0 E (n + K) b { s with ctr := s.ctr + 1, idx := ud s.idx v (s.ctr + 1), low := ud s.low v (s.ctr + 1), on := ud s.on v true }) := hT2.setOn v true
  refine wp_seq_k (fun K1 hK => ?_)
  have HK1 : Hid _ := hK
  clear hK
  go_wp2_with fail
  refine HK1.out _ _ ?_
  clear HK1 cB c10 hon fon hT2
  have hT3 := HT3.out
  clear HT3
  generalize hw3 : w2.setCell ⟨b 10, v, none⟩ (.bool true) = w3 at *
  clear hw1 hw2 hw3 w1 w2 w hT
  obtain ⟨R, h, ht, hR⟩ := hT3
  obtain ⟨p, c, hrow⟩ := ht.stk
  have cS : w3.cell? ⟨b 13, 0, none⟩ = some (.slice (p.map fun b => ⟨b, 0, none⟩) s.stk.length c) := h.cell (i := 13) (by rw [ht.sbox]) (by rw [ht.sbox, hrow]; rfl)
  refine wp_seq_k (fun K1 hK => ?_)
  have HK1 : Hid _ := hK
  clear hK
  have HT4 : Hid (∀ g cap w4, Fam w0 w4 (put R 16 ⟨some g, cap, 21, 1, s.stk.length + 1, s.stk.reverse.map i32 ++ [i32 v]⟩) E → Tj w0 (w4.setCell ⟨b 13, 0, none⟩ (.slice (some ⟨g, 0, none⟩) (s.stk.length + 1) cap)) R0 E (n + K) b { s with ctr := s.ctr + 1, idx := ud s.idx v (s.ctr + 1), low := ud s.low v (s.ctr + 1), on := ud s.on v true, stk := v :: s.stk }) :=
    fun g cap w4 h4 => Tj.boxStk ht hR (by simp) (by simp) h4
  have HF : Hid (∀ j, 8 ≤ j → j ≤ 14 → (R j).blk = some (b j)) := fun j h1 h2 => ht.blk h1 h2
  have HS : Hid (R 13 = _) := ht.sbox
  have HC : Hid (R 16 = _) := hrow
  clear ht hrow
  go_wp2_with (at_builtin; refine wpList_fam_app (by rfl) _ _ _ (by rfl) 21 i0 _ 1 4 Yba.underlying22 hi0 hz0 hz1 hz2 rfl (by omega) (by omega) R 16 p c s.stk.length (s.stk.reverse.map i32) HC.out (by first | exact h.alloc _ | exact (h.alloc _).drew) (by rfl) (by omega) ⟨w3.heap.size, 0, none⟩ 1 [i32 v] (by rfl) (by rfl) (World.news_of_block (cs := #[i32 v]) (t := 21) (fr := (0, 0)) (heap_alloc_new w3 _)) (by simp [Value.oneCell']) ?_; intro gg cap w4 h4; have cw1 : w4.cell? ⟨b 13, 0, none⟩ = some (R 16).val := (h4.cell (i := 13) (by rw [put_ne (by omega)]; exact HF.out 13 (by omega) (by omega)) (by rw [put_ne (by omega), HS.out]; rfl)); have fw1 : w4.frozen? ⟨b 13, 0, none⟩ = false := (h4.free (i := 13) (by rw [put_ne (by omega)]; exact HF.out 13 (by omega) (by omega)) 0))
  refine HK1.out _ _ ?_
  clear HK1
  have hT4 := HT4.out gg cap w4 h4
  clear HT4
  generalize hw5 : w4.setCell ⟨b 13, 0, none⟩ (.slice (some ⟨gg, 0, none⟩) (s.stk.length + 1) cap) = w5 at *
  clear hw5 h4 cw1 fw1 w4 h hR HF HS HC cS
  obtain ⟨R, h, ht, hR⟩ := hT4
  obtain ⟨p, c, hrow⟩ := ht.seen
  have cS : w5.cell? ⟨b 14, 0, none⟩ = some (.slice (p.map fun b => ⟨b, 0, none⟩) s.seen.length c) := h.cell (i := 14) (by rw [ht.ebox]) (by rw [ht.ebox, hrow]; rfl)
  refine wp_seq_k (fun K1 hK => ?_)
  have HK1 : Hid _ := hK
  clear hK
  have HT4 : Hid (∀ g cap w4, Fam w0 w4 (put R 17 ⟨some g, cap, 21, 1, s.seen.length + 1, s.seen.reverse.map i32 ++ [i32 v]⟩) E → Tj w0 (w4.setCell ⟨b 14, 0, none⟩ (.slice (some ⟨g, 0, none⟩) (s.seen.length + 1) cap)) R0 E (n + K) b { s with ctr := s.ctr + 1, idx := ud s.idx v (s.ctr + 1), low := ud s.low v (s.ctr + 1), on := ud s.on v true, stk := v :: s.stk, seen := v :: s.seen }) :=
    fun g cap w4 h4 => Tj.boxSeen ht hR (by simp) (by simp) h4
  have HF : Hid (∀ j, 8 ≤ j → j ≤ 14 → (R j).blk = some (b j)) := fun j h1 h2 => ht.blk h1 h2
  have HS : Hid (R 14 = _) := ht.ebox
  have HC : Hid (R 17 = _) := hrow
  clear ht hrow
  go_wp2_with (at_builtin; refine wpList_fam_app (by rfl) _ _ _ (by rfl) 21 i0 _ 1 4 Yba.underlying22 hi0 hz0 hz1 hz2 rfl (by omega) (by omega) R 17 p c s.seen.length (s.seen.reverse.map i32) HC.out (by first | exact h.alloc _ | exact (h.alloc _).drew) (by rfl) (by omega) ⟨w5.heap.size, 0, none⟩ 1 [i32 v] (by rfl) (by rfl) (World.news_of_block (cs := #[i32 v]) (t := 21) (fr := (0, 0)) (heap_alloc_new w5 _)) (by simp [Value.oneCell']) ?_; intro gg cap w4 h4; have cw1 : w4.cell? ⟨b 14, 0, none⟩ = some (R 17).val := (h4.cell (i := 14) (by rw [put_ne (by omega)]; exact HF.out 14 (by omega) (by omega)) (by rw [put_ne (by omega), HS.out]; rfl)); have fw1 : w4.frozen? ⟨b 14, 0, none⟩ = false := (h4.free (i := 14) (by rw [put_ne (by omega)]; exact HF.out 14 (by omega) (by omega)) 0))
  refine HK1.out _ _ ?_
  clear HK1
  have hT4 := HT4.out gg cap w4 h4
  clear HT4
  generalize hw6 : w4.setCell ⟨b 14, 0, none⟩ (.slice (some ⟨gg, 0, none⟩) (s.seen.length + 1) cap) = w6 at *
  clear hw6 h4 cw1 fw1 w4 h hR HF HS HC cS
  obtain ⟨R, h, ht, hR⟩ := hT4
  obtain ⟨p, c, hrow⟩ := ht.calls
  have cS : w6.cell? ⟨b 12, 0, none⟩ = some (.slice (p.map fun b => ⟨b, 0, none⟩) s.calls.length c) := h.cell (i := 12) (by rw [ht.cbox]) (by rw [ht.cbox, hrow]; rfl)
  have HT4 : Hid (∀ g cap w4, Fam w0 w4 (put R 15 ⟨some g, cap, 76, 2, s.calls.length + 1, s.calls.reverse.flatMap (fun f => [i32 f.1, i32 f.2]) ++ [i32 v, i32 0]⟩) E → Tj w0 (w4.setCell ⟨b 12, 0, none⟩ (.slice (some ⟨g, 0, none⟩) (s.calls.length + 1) cap)) R0 E (n + K) b (openN s v)) :=
    fun g cap w4 h4 => Tj.boxCalls ht hR (by simp) (by simp) h4
  have HF : Hid (∀ j, 8 ≤ j → j ≤ 14 → (R j).blk = some (b j)) := fun j h1 h2 => ht.blk h1 h2
  have HS : Hid (R 12 = _) := ht.cbox
  have HC : Hid (R 15 = _) := hrow
  clear ht hrow
  go_wp2_with (at_builtin; refine wpList_fam_app (by rfl) _ _ _ (by rfl) 76 i1 _ 2 8 Yba.underlying78 hi1 hy0 hy1 hy2 rfl (by omega) (by omega) R 15 p c s.calls.length (s.calls.reverse.flatMap (fun f => [i32 f.1, i32 f.2])) HC.out (by first | exact h.alloc _ | exact (h.alloc _).drew) (by rfl) (by omega) ⟨w6.heap.size, 0, none⟩ 1 [i32 v, i32 0] (by rfl) (by rfl) (World.news_of_block (cs := #[i32 v, i32 0]) (t := 76) (fr := (0, 0)) (heap_alloc_new w6 _)) (by simp [Value.oneCell']) ?_; intro gg cap w4 h4; have cw1 : w4.cell? ⟨b 12, 0, none⟩ = some (R 15).val := (h4.cell (i := 12) (by rw [put_ne (by omega)]; exact HF.out 12 (by omega) (by omega)) (by rw [put_ne (by omega), HS.out]; rfl)); have fw1 : w4.frozen? ⟨b 12, 0, none⟩ = false := (h4.free (i := 12) (by rw [put_ne (by omega)]; exact HF.out 12 (by omega) (by omega)) 0))
  go_end0
  exact ⟨rfl, HT4.out gg cap w4 h4⟩
end Go.Proofs.Ybulkajny
