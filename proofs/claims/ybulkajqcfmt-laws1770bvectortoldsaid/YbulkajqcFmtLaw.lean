import Derived.Test.YbulkajqcFmtPlain
import Derived.Laws.AppendOwnNone
import Derived.Deep.AppendLies
import Derived.WalkSmall
namespace Go.Proofs.YbulkajqcFmt
open Go.RowKit Go.Sort Go.Extern.Stop Go.Stop Go.Extern

theorem below_of_only {S : Nat → Prop} {w wr w' : World} (h : Below w.heap.size w wr) (ho : Only S wr w') (hS : ∀ k, S k → w.heap.size ≤ k) : Below w.heap.size w w' := h.trans (ho.below h.size (fun k _ hk => hS k hk))
theorem mod8 (s : Int) (_h : 0 ≤ s) : ∃ m : Nat, s % 8 = (m : Int) ∧ m < 8 := ⟨(s % 8).toNat, by omega, by omega⟩

theorem info5 : (Ybaf.prog.info? 5).map (fun i => (i.zero, i.size, i.bytes)) = some (some (.int .u8 0), 1, 1) := by kernel_rfl

theorem news_new (w : World) (cs : Array Value) : ∀ j u, cs.toList[j]? = some u → (w.alloc (.cells cs 5)).cell? ((⟨w.heap.size, 0, none⟩ : Addr).add j) = some u :=
  World.news_of_block (cs := cs) (t := 5) (fr := (0, 0)) (heap_alloc_new w _)

theorem built_start {w w1 w2 w3 : World} {cap : Nat} {xs : List Int} {o : Obj} (h1 : (w.alloc (.cells tabCells 23)).grownBy w1 none) (h2 : w1.grownBy w2 (some (w.heap.size + 1))) (h3 : (w2.alloc o).grownBy w3 (some (w.heap.size + 1)))
    (hown : w3.ownsRow (w.heap.size + 1) 5 1 (.slice (some ⟨w.heap.size + 1, 0, none⟩) xs.length cap) xs.length (xs.map e8)) : Built w cap xs w3 := by
  have t0 : (w.alloc (.cells tabCells 23)).heap[w.heap.size]? = some (.cells tabCells 23 (0, 0)) := heap_alloc_new w _
  have o0 : Only (fun k => some k = some (w.heap.size + 1)) (w.alloc (.cells tabCells 23)) w3 :=
    (((only_grownBy h1).mono (fun k _ hk => by cases hk)).step (only_grownBy h2) (fun _ _ hk => hk)).step (((only_alloc w2 o).mono (fun _ _ hf => hf.elim)).step (only_grownBy h3) (fun _ _ hk => hk)) (fun _ _ hk => hk)
  exact ⟨hown, o0.at_block t0 (by simp), ((Below.refl _ w).alloc (Nat.le_refl _) _).trans (o0.below (by simp) (fun k _ hk => by simp at hk; omega))⟩

set_option maxRecDepth 100000 in
set_option maxHeartbeats 3200000 in
theorem law_some_pad (F : Interp) (a0 : Option Addr) (np c0 : Nat) (P : List Int) (cnt : Int) (b o ns c3 : Nat) (S : List Int) (base : Int) (w : World) (hF : F.answers w.tape)
    (hnp : np ≤ 1024) (hns : ns ≤ 1024) (hP : P.length = np) (hS : S.length = ns) (h0 : a0 = none → np = 0 ∧ c0 = 0) (hc0 : ∀ ad, a0 = some ad → ∀ j, j < np → w.cell? (ad.add j) = some (.int .u8 (P.getD j 0)))
    (hc3 : ∀ j, j < ns → w.cell? ⟨b, o + j, none⟩ = some (.int .u8 (S.getD j 0))) (hs3 : ∀ j, j < ns → 0 ≤ S.getD j 0 ∧ S.getD j 0 ≤ 255) (hcnt0 : 0 ≤ cnt) (hcnt : cnt ≤ 255) :
    Calls Ybaf.prog 3 #[.slice a0 np c0, .int .u8 cnt, .bool true, .slice (some ⟨b, o, none⟩) ns c3, .int .i64 base] w fun e w' => e = .returned (.bool true) ∧ Below w.heap.size w w' := by
  have hg1 : ¬ (1024 : Int) < (np : Int) := by omega
  have hg2 : ¬ (1024 : Int) < (ns : Int) := by omega
  have hg1' : decide ((1024 : Int) < (np : Int)) = false := decide_eq_false (by omega)
  have hg2' : decide ((1024 : Int) < (ns : Int)) = false := decide_eq_false (by omega)
  obtain ⟨i0, hi, hz0, hz1, hz2⟩ := info_parts info5
  obtain ⟨n, hn⟩ : ∃ n : Nat, cnt % 128 = (n : Int) := ⟨(cnt % 128).toNat, by omega⟩
  have hn128 : n < 128 := by omega
  obtain ⟨a1, a2, a3, a4, a5, a6, a7⟩ := and127 n hn128
  clear a1 a2 a3 a4 a6 a7
  have hPn : ∀ (w' : World), (∀ k, k < w.heap.size → w'.heap[k]? = w.heap[k]?) → ∀ ad, a0 = some ad → ∀ j u, (P.map e8)[j]? = some u → w'.cell? (ad.add j) = some u := by
    intro w' hw' ad had j u hu
    have hj : j < np := by have := (List.getElem?_eq_some_iff.1 hu).1; simpa [hP] using this
    have hcell := hc0 ad had j hj
    have hu' : u = .int .u8 (P.getD j 0) := by
      simp at hu
      obtain ⟨z, hz, rfl⟩ := hu
      simp [hz]
    rw [hu', ← hcell]
    exact World.cell?_of_block (hw' _ (World.block_lt_of_cell? w _ hcell))
  have HP : Hid (P.length = np) := hP
  have HS : Hid (S.length = ns) := hS
  go_enter Ybaf.func3, Ybaf.ntmps3
  go_wp2_with (first
    | (at_make; refine wpList_make_own _ rfl _ (.tmp 39) 22 rfl (w.heap.size + 1) 5 i0 (.int .u8 0) 1 Ybaf.underlying22 hi hz0 hz1 .i64 .i64 _ (np + 2 + ns) rfl rfl (by omega) (by rw [hz2]; omega) (by unfold maxLen; omega) (by simp) ?_; intro w1 hown1 hgr1; simp only [World.size_alloc] at hown1 hgr1)
    | (at_builtin; refine wpList_append_fits_any _ rfl (.tmp 41) (.tmp 42) 22 rfl (w.heap.size + 1) 5 i0 1 Ybaf.underlying22 hi hz1 (w.heap.size + 1) 0 (np + 2 + ns) [] rfl hown1 a0 np c0 (P.map e8) rfl (by simp [hP]) h0 (hPn w1 (fun k hk => (hgr1.block k (by simp; omega) (by simp)).trans (Below.heap_alloc _ _ _ hk))) (ints_oneCell _ _) (by omega) ?_; intro w2 hown2 hgr2; simp only [Nat.zero_add, List.nil_append] at hown2)
    | (at_builtin; refine wpList_append_fits _ rfl (.tmp 45) (.tmp 49) 22 rfl (w.heap.size + 1) 5 i0 1 Ybaf.underlying22 hi hz1 (w.heap.size + 1) np (np + 2 + ns) (P.map e8) rfl (hown2.alloc _) ⟨w2.heap.size, 0, none⟩ 2 2 [.int .u8 ((n : Int) + 128), .int .u8 0] rfl rfl (news_new w2 #[.int .u8 ((n : Int) + 128), .int .u8 0]) (by simp [Value.oneCell']) (by omega) ?_; intro w3 hown3 hgr3))
  have hB3 : Built w (np + 2 + ns) (P ++ [(n : Int) + 128, 0]) w3 := built_start hgr1 hgr2 hgr3 (by simpa [HP.out] using hown3)
  clear hown1 hown2 hown3 hgr1 hgr2 hgr3 hPn hc0 h0 hP hS
  go_loopw [13, 60] (fun v i wr => ∃ k : Nat, i = .int .i64 k ∧ k ≤ ns ∧ v = .slice (some ⟨w.heap.size + 1, 0, none⟩) (np + 2 + k) (np + 2 + ns) ∧ Built w (np + 2 + ns) (P ++ [(n : Int) + 128, 0] ++ (S.take k).map tbl) wr) (fun _ i _ => ns - (intOf i).toNat)
  case atStart => exact ⟨0, rfl, Nat.zero_le _, rfl, by simpa using hB3⟩
  case round =>
    obtain ⟨k, rfl, hk, rfl, hB⟩ := hrel
    clear hB3
    by_cases hlt : k < ns
    · have i1 : (k : Int) < (ns : Int) := by omega
      have hck := (hB.below.cell (p := ⟨b, o + k, none⟩) (World.block_lt_of_cell? w _ (hc3 k hlt))).trans (hc3 k hlt)
      obtain ⟨hs0, hs1⟩ := hs3 k hlt
      have hTK := take_tbl S k (by have := HS.out; omega)
      have HTK : Hid ((S.take (k + 1)).map tbl = (S.take k).map tbl ++ [tbl (S.getD k 0)]) := hTK
      obtain ⟨m, hm, hm8⟩ := mod8 (S.getD k 0) hs0
      have htb := tab_cell hB.tab (S.getD k 0) m hm
      have HB : Hid (Built w (np + 2 + ns) (P ++ [(n : Int) + 128, 0] ++ (S.take k).map tbl) wr) := hB
      have hlen : (P ++ [(n : Int) + 128, 0] ++ (S.take k).map tbl).length = np + 2 + k := by have := HS.out; have := HP.out; simp; omega
      have hown := hB.own
      rw [hlen] at hown
      have HLN : Hid ((P ++ [(n : Int) + 128, 0] ++ (S.take k).map tbl).length = np + 2 + k) := hlen
      generalize tbl (S.getD k 0) = t at *
      generalize S.getD k 0 = sv at *
      clear hc3 hs3 hTK hlen hB
      go_wp2_with (at_builtin; refine wpList_append_fits _ rfl (.tmp 64) (.tmp 69) 22 rfl (w.heap.size + 1) 5 i0 1 Ybaf.underlying22 hi hz1 (w.heap.size + 1) (np + 2 + k) (np + 2 + ns) ((P ++ [(n : Int) + 128, 0] ++ (S.take k).map tbl).map e8) rfl (hown.alloc _) ⟨wr.heap.size, 0, none⟩ 1 1 [.int .u8 t] rfl rfl (news_new wr #[.int .u8 t]) (by simp [Value.oneCell']) (by omega) ?_; intro w4 hown4 hgr4)
      have HB4 : Hid (Built w (np + 2 + ns) (P ++ [(n : Int) + 128, 0] ++ (S.take (k + 1)).map tbl) w4) := by
        refine HB.out.grown (only_alloc wr _) hgr4 ?_
        rw [HTK.out]
        have e1 : (P ++ [(n : Int) + 128, 0] ++ ((S.take k).map tbl ++ [t])).length = np + 2 + k + 1 := by rw [← List.append_assoc, List.length_append, HLN.out]; rfl
        rw [e1]
        have e2 : (P ++ [(n : Int) + 128, 0] ++ ((S.take k).map tbl ++ [t])).map e8 = (P ++ [(n : Int) + 128, 0] ++ (S.take k).map tbl).map e8 ++ [.int .u8 t] := by rw [← List.append_assoc, List.map_append]; rfl
        rw [e2]
        exact hown4
      clear hown4 hgr4 hown HB HTK HLN
      go_roundw
      case rel => exact ⟨k + 1, by go_num, by omega, by simp; omega, HB4.out⟩
      case measure => simp [intOf]; omega
    · obtain rfl : k = ns := by omega
      have hB' : Built w (np + 2 + k) (P ++ [(n : Int) + 128, 0] ++ S.map tbl) wr := by have := hB; rw [List.take_of_length_le (by have := HS.out; omega)] at this; exact this
      have HBS : Hid ((bsOf P [(n : Int) + 128, 0] S).size = np + 2 + k ∧ (bsOf P [(n : Int) + 128, 0] S)[np]! = (n : Int) + 128 ∧ (bsOf P [(n : Int) + 128, 0] S)[np + 1]! = 0) := ⟨by rw [bsOf_size, HP.out, HS.out]; simp, ⟨by have := bsOf_hdr P [(n : Int) + 128, 0] S 0 (by simp); rw [HP.out] at this; simpa using this, by have := bsOf_hdr P [(n : Int) + 128, 0] S 1 (by simp); rw [HP.out] at this; simpa using this⟩⟩
      have hrd := hB'.rd (base := base) (np + 2 + k) np HBS.out.1.symm
      have HL : Hid (U32Ok wr.heap.size (w.heap.size + 1) (np + 2 + k) (bsOf P [(n : Int) + 128, 0] S) (np + 2) base n _) := u32_of _ _ _ _ _ _ _ n hn128 (leb_two _ _ _ _ np base _ hrd (by rw [HBS.out.1]; omega) (by rw [HBS.out.1]; omega) n hn128 HBS.out.2.1 HBS.out.2.2)
      have HSEL : Hid (∀ j, j < k → (bsOf P [(n : Int) + 128, 0] S)[np + 2 + j]! = tbl (S.getD j 0)) := fun j hj => by
        have := bsOf_sel P [(n : Int) + 128, 0] S j (by have := HS.out; omega); rw [HP.out] at this; simpa using this
      have O0 : Hid (Only (fun _ => False) wr (wr.alloc (.cells #[.slice (some ⟨w.heap.size + 1, 0, none⟩) (np + 2 + k) (np + 2 + k), .int .i64 np, .int .i64 base] 26))) := only_alloc wr _
      have HBL : Hid (Below w.heap.size w wr) := hB'.below
      have HTB : Hid (wr.heap[w.heap.size]? = some (.cells tabCells 23 (0, 0))) := hB'.tab
      have HF2 : Hid (F.answers wr.tape) := by rw [hB'.below.tape]; exact hF
      have HC3 : Hid (∀ j, j < k → w.cell? ⟨b, o + j, none⟩ = some (.int .u8 (S.getD j 0))) := hc3
      have HS3 : Hid (∀ j, j < k → 0 ≤ S.getD j 0 ∧ S.getD j 0 ≤ 255) := hs3
      have q27 := fun (w : World) (a : Option Addr) (n c n' c' : Nat) => Lib.run_eql_slice_nil (P := Ybaf.prog) w 27 32 a n c n' c' Ybaf.underlying27
      clear hB hB' hrd hF hc3 hs3
      go_wp2_with fail
      generalize wr.alloc (.cells #[.slice (some ⟨w.heap.size + 1, 0, none⟩) (np + 2 + k) (np + 2 + k), .int .i64 np, .int .i64 base] 26) = w4 at *
      generalize hR : wr.heap.size = R at *
      have HR : Hid (wr.heap.size = R) := hR
      clear hR
      have HF4 : Hid (F.answers w4.tape) := by rw [O0.out.tape]; exact HF2.out
      by_cases hgt : k < n
      · have hgt' : (k : Int) < (n : Int) := by omega
        refine (types_err R w4 (count_err F R (w.heap.size + 1) (np + 2 + k) (bsOf P [(n : Int) + 128, 0] S) (np + 2) base w4 HF4.out n hn128 (by rw [HBS.out.1]; omega) (by rw [HBS.out.1]; omega) (by rw [HBS.out.1]; omega) HL.out)).mono ?_
        rintro e w5 ⟨⟨a, rfl⟩, o5⟩
        have B5 : Hid (Below w.heap.size w w5) := below_of_only HBL.out ((O0.out.mono (fun _ _ hf => hf.elim)).trans o5) (fun i (hi : i = R) => by have h1 := HR.out; have h2 := HBL.out.size; omega)
        clear o5
        go_wp2_with fail
        go_ret
        exact ⟨rfl, B5.out⟩
      · have hgt' : ¬ (k : Int) < (n : Int) := by omega
        refine (types_any F R (w.heap.size + 1) (np + 2 + k) (bsOf P [(n : Int) + 128, 0] S) (np + 2) base n w4 HF4.out hn128 (by rw [HBS.out.1]; omega) (by rw [HBS.out.1]; omega) (fun j hj => ?_) (count_ok R (w.heap.size + 1) (np + 2 + k) (bsOf P [(n : Int) + 128, 0] S) (np + 2) base w4 n hn128 (by rw [HBS.out.1]; omega) (by rw [HBS.out.1]; omega) (by rw [HBS.out.1]; omega) HL.out)).mono ?_
        · rw [HSEL.out j (by omega)]
          obtain ⟨m, hm, _⟩ := mod8 _ (HS3.out j (by omega)).1
          exact (tbl_ok _ m hm).2
        · rintro e w5 (⟨hall, T, rfl, hV⟩ | ⟨hbad, ⟨a, rfl⟩, o5⟩)
          · have o5 : Only (fun i => i = R) wr w5 := (O0.out.mono (fun _ _ hf => hf.elim)).trans hV.only
            have B5 : Hid (Below w.heap.size w w5) := below_of_only HBL.out o5 (fun i (hi : i = R) => by have h1 := HR.out; have h2 := HBL.out.size; omega)
            have TB5 : Hid (w5.heap[w.heap.size]? = some (.cells tabCells 23 (0, 0))) := o5.at_block HTB.out (by have h1 := HR.out; have h2 := (Array.getElem?_eq_some_iff.1 HTB.out).1; omega)
            have hps := hV.rd.c1
            have ROW : Hid (∀ j, j < n → w5.cell? ⟨T, j, none⟩ = some (.int .u8 (tbl (S.getD j 0)))) := fun j hj => by
              rw [hV.row.cell hj, if_pos hj, HSEL.out j (by omega)]
            have HALL : Hid (∀ j m : Nat, j < n → S.getD j 0 % 8 = (m : Int) → m < 6) := fun j m hj hm => by
              have h1 := hall j hj
              rw [HSEL.out j (by omega), (tbl_ok _ m hm).1] at h1
              simpa using h1
            have C5 : Hid (∀ j, j < k → w5.cell? ⟨b, o + j, none⟩ = some (.int .u8 (S.getD j 0))) := fun j hj =>
              (B5.out.cell (p := ⟨b, o + j, none⟩) (World.block_lt_of_cell? w _ (HC3.out j hj))).trans (HC3.out j hj)
            have hpn : ((np + 2 + n : Nat) : Int) = (np : Int) + 2 + (n : Int) := by omega
            rw [hpn] at hps
            clear o5 hV hall hpn O0 HBL HTB HF2 HF4 HL HC3 HBS HSEL
            go_wp2_with fail
            go_loop [20] (fun i => ∃ j : Nat, i = .int .i64 j ∧ j ≤ n) (fun i => n - (intOf i).toNat)
            case atStart => exact ⟨0, rfl, Nat.zero_le _⟩
            case round =>
              obtain ⟨j, rfl, hjn⟩ := hrel
              by_cases hj : j < n
              · have i2 : (j : Int) < (n : Int) := by omega
                have i3 : (j : Int) < (k : Int) := by omega
                obtain ⟨s0, s1⟩ := HS3.out j (by omega)
                obtain ⟨m, hm, hm8⟩ := mod8 _ s0
                have hm6 := HALL.out j m hj hm
                have hcj := C5.out j (by omega)
                generalize S.getD j 0 = sv at *
                go_wp2_with fail
                go_round
                case rel => exact ⟨j + 1, by go_num, by omega⟩
                case measure => simp [intOf]; omega
              · go_wp2_with fail
                go_loopw [21] (fun i wq => ∃ j q : Nat, i = .int .i64 j ∧ j ≤ n ∧ wq = w5.drewN q) (fun i _ => n - (intOf i).toNat)
                case atStart => exact ⟨0, 0, rfl, Nat.zero_le _, rfl⟩
                case round =>
                  obtain ⟨j2, q, rfl, hjn2, hwq⟩ := hrel
                  have HWQ : Hid (wr = w5.drewN q) := hwq
                  by_cases hj2 : j2 < n
                  · have i2 : (j2 : Int) < (n : Int) := by omega
                    have i3 : (j2 : Int) < (k : Int) := by omega
                    obtain ⟨s0, s1⟩ := HS3.out j2 (by omega)
                    obtain ⟨m, hm, hm8⟩ := mod8 _ s0
                    have hcj : wr.cell? ⟨b, o + j2, none⟩ = some (.int .u8 (S.getD j2 0)) := by rw [hwq]; exact C5.out j2 (by omega)
                    have htj : wr.cell? ⟨w.heap.size, m, none⟩ = some (.int .u8 (tbl (S.getD j2 0))) := by rw [hwq]; exact tab_cell TB5.out _ m hm
                    have hrj : wr.cell? ⟨T, j2, none⟩ = some (.int .u8 (tbl (S.getD j2 0))) := by rw [hwq]; exact ROW.out j2 hj2
                    have i4 : (m : Int) < 8 := by omega
                    clear hwq hps
                    generalize tbl (S.getD j2 0) = tv at *
                    generalize S.getD j2 0 = sv at *
                    go_wp2_with fail
                    go_quiet (fail)
                    go_wp2_with fail
                    go_roundw
                    case rel => exact ⟨j2 + 1, q + nq, by go_num, by omega, by rw [HWQ.out]; simp⟩
                    case measure => simp [intOf]; omega
                  · clear hwq hps
                    go_wp2_with fail
                    go_ret
                    exact ⟨rfl, by rw [HWQ.out]; exact below_drewN B5.out q⟩
          · have o5' : Only (fun i => i = R) wr w5 := (O0.out.mono (fun _ _ hf => hf.elim)).trans o5
            have B5 : Hid (Below w.heap.size w w5) := below_of_only HBL.out o5' (fun i (hi : i = R) => by have h1 := HR.out; have h2 := HBL.out.size; omega)
            have HBAD : Hid (∃ j m : Nat, j < n ∧ S.getD j 0 % 8 = (m : Int) ∧ 6 ≤ m) := by
              obtain ⟨j, hj, hjb⟩ := hbad
              obtain ⟨m, hm, _⟩ := mod8 _ (HS3.out j (by omega)).1
              rw [HSEL.out j (by omega), (tbl_ok _ m hm).1] at hjb
              exact ⟨j, m, hj, hm, by simpa using hjb⟩
            have C5 : Hid (∀ j, j < k → w5.cell? ⟨b, o + j, none⟩ = some (.int .u8 (S.getD j 0))) := fun j hj =>
              (B5.out.cell (p := ⟨b, o + j, none⟩) (World.block_lt_of_cell? w _ (HC3.out j hj))).trans (HC3.out j hj)
            clear o5 o5' hbad O0 HBL HTB HF2 HF4 HL HC3 HBS HSEL
            go_wp2_with fail
            go_loop [20] (fun i => ∃ j : Nat, i = .int .i64 j ∧ j ≤ n ∧ ∀ t m : Nat, t < j → S.getD t 0 % 8 = (m : Int) → m < 6) (fun i => n - (intOf i).toNat)
            case atStart => exact ⟨0, rfl, Nat.zero_le _, fun t m ht => absurd ht (Nat.not_lt_zero _)⟩
            case round =>
              obtain ⟨j, rfl, hjn, hgood⟩ := hrel
              have HG : Hid (∀ t m : Nat, t < j → S.getD t 0 % 8 = (m : Int) → m < 6) := hgood
              clear hgood
              have hj : j < n := by
                obtain ⟨t, m, ht, htm, h6⟩ := HBAD.out
                by_cases hjt : t < j
                · have := HG.out t m hjt htm; omega
                · omega
              have i2 : (j : Int) < (n : Int) := by omega
              have i3 : (j : Int) < (k : Int) := by omega
              obtain ⟨s0, s1⟩ := HS3.out j (by omega)
              obtain ⟨m, hm, hm8⟩ := mod8 _ s0
              have HM : Hid (S.getD j 0 % 8 = (m : Int)) := hm
              have hcj := C5.out j (by omega)
              by_cases h6 : 6 ≤ m
              · have h6' : (6 : Int) ≤ (m : Int) := by omega
                generalize S.getD j 0 = sv at *
                go_wp2_with fail
                go_ret
                exact ⟨rfl, B5.out⟩
              · have h6' : ¬ (6 : Int) ≤ (m : Int) := by omega
                have HJ : Hid (∀ m' : Nat, S.getD j 0 % 8 = (m' : Int) → m' < 6) := fun m' hm' => by have := HM.out; omega
                clear HM
                generalize hsv : S.getD j 0 = sv at hm hcj s0 s1
                clear hsv
                go_wp2_with fail
                go_round
                case rel =>
                  refine ⟨j + 1, by go_num, by omega, fun t m' ht hm' => ?_⟩
                  by_cases htj : t = j
                  · subst htj; exact HJ.out m' hm'
                  · exact HG.out t m' (by omega) hm'
                case measure => simp [intOf]; omega

set_option maxRecDepth 100000 in
set_option maxHeartbeats 3200000 in
theorem law_some_one (F : Interp) (a0 : Option Addr) (np c0 : Nat) (P : List Int) (cnt : Int) (b o ns c3 : Nat) (S : List Int) (base : Int) (w : World) (hF : F.answers w.tape)
    (hnp : np ≤ 1024) (hns : ns ≤ 1024) (hP : P.length = np) (hS : S.length = ns) (h0 : a0 = none → np = 0 ∧ c0 = 0) (hc0 : ∀ ad, a0 = some ad → ∀ j, j < np → w.cell? (ad.add j) = some (.int .u8 (P.getD j 0)))
    (hc3 : ∀ j, j < ns → w.cell? ⟨b, o + j, none⟩ = some (.int .u8 (S.getD j 0))) (hs3 : ∀ j, j < ns → 0 ≤ S.getD j 0 ∧ S.getD j 0 ≤ 255) (hcnt0 : 0 ≤ cnt) (hcnt : cnt ≤ 255) :
    Calls Ybaf.prog 3 #[.slice a0 np c0, .int .u8 cnt, .bool false, .slice (some ⟨b, o, none⟩) ns c3, .int .i64 base] w fun e w' => e = .returned (.bool true) ∧ Below w.heap.size w w' := by
  have hg1 : ¬ (1024 : Int) < (np : Int) := by omega
  have hg2 : ¬ (1024 : Int) < (ns : Int) := by omega
  have hg1' : decide ((1024 : Int) < (np : Int)) = false := decide_eq_false (by omega)
  have hg2' : decide ((1024 : Int) < (ns : Int)) = false := decide_eq_false (by omega)
  obtain ⟨i0, hi, hz0, hz1, hz2⟩ := info_parts info5
  obtain ⟨n, hn⟩ : ∃ n : Nat, cnt % 128 = (n : Int) := ⟨(cnt % 128).toNat, by omega⟩
  have hn128 : n < 128 := by omega
  obtain ⟨a1, a2, a3, a4, a5, a6, a7⟩ := and127 n hn128
  clear a1 a2 a3 a4 a6 a7
  have hPn : ∀ (w' : World), (∀ k, k < w.heap.size → w'.heap[k]? = w.heap[k]?) → ∀ ad, a0 = some ad → ∀ j u, (P.map e8)[j]? = some u → w'.cell? (ad.add j) = some u := by
    intro w' hw' ad had j u hu
    have hj : j < np := by have := (List.getElem?_eq_some_iff.1 hu).1; simpa [hP] using this
    have hcell := hc0 ad had j hj
    have hu' : u = .int .u8 (P.getD j 0) := by
      simp at hu
      obtain ⟨z, hz, rfl⟩ := hu
      simp [hz]
    rw [hu', ← hcell]
    exact World.cell?_of_block (hw' _ (World.block_lt_of_cell? w _ hcell))
  have HP : Hid (P.length = np) := hP
  have HS : Hid (S.length = ns) := hS
  go_enter Ybaf.func3, Ybaf.ntmps3
  go_wp2_with (first
    | (at_make; refine wpList_make_own _ rfl _ (.tmp 39) 22 rfl (w.heap.size + 1) 5 i0 (.int .u8 0) 1 Ybaf.underlying22 hi hz0 hz1 .i64 .i64 _ (np + 2 + ns) rfl rfl (by omega) (by rw [hz2]; omega) (by unfold maxLen; omega) (by simp) ?_; intro w1 hown1 hgr1; simp only [World.size_alloc] at hown1 hgr1)
    | (at_builtin; refine wpList_append_fits_any _ rfl (.tmp 41) (.tmp 42) 22 rfl (w.heap.size + 1) 5 i0 1 Ybaf.underlying22 hi hz1 (w.heap.size + 1) 0 (np + 2 + ns) [] rfl hown1 a0 np c0 (P.map e8) rfl (by simp [hP]) h0 (hPn w1 (fun k hk => (hgr1.block k (by simp; omega) (by simp)).trans (Below.heap_alloc _ _ _ hk))) (ints_oneCell _ _) (by omega) ?_; intro w2 hown2 hgr2; simp only [Nat.zero_add, List.nil_append] at hown2)
    | (at_builtin; refine wpList_append_fits _ rfl (.tmp 51) (.tmp 54) 22 rfl (w.heap.size + 1) 5 i0 1 Ybaf.underlying22 hi hz1 (w.heap.size + 1) np (np + 2 + ns) (P.map e8) rfl (hown2.alloc _) ⟨w2.heap.size, 0, none⟩ 1 1 [.int .u8 (n : Int)] rfl rfl (news_new w2 #[.int .u8 (n : Int)]) (by simp [Value.oneCell']) (by omega) ?_; intro w3 hown3 hgr3))
  have hB3 : Built w (np + 2 + ns) (P ++ [(n : Int)]) w3 := built_start hgr1 hgr2 hgr3 (by simpa [HP.out] using hown3)
  clear hown1 hown2 hown3 hgr1 hgr2 hgr3 hPn hc0 h0 hP hS
  go_loopw [13, 60] (fun v i wr => ∃ k : Nat, i = .int .i64 k ∧ k ≤ ns ∧ v = .slice (some ⟨w.heap.size + 1, 0, none⟩) (np + 1 + k) (np + 2 + ns) ∧ Built w (np + 2 + ns) (P ++ [(n : Int)] ++ (S.take k).map tbl) wr) (fun _ i _ => ns - (intOf i).toNat)
  case atStart => exact ⟨0, rfl, Nat.zero_le _, rfl, by simpa using hB3⟩
  case round =>
    obtain ⟨k, rfl, hk, rfl, hB⟩ := hrel
    clear hB3
    by_cases hlt : k < ns
    · have i1 : (k : Int) < (ns : Int) := by omega
      have hck := (hB.below.cell (p := ⟨b, o + k, none⟩) (World.block_lt_of_cell? w _ (hc3 k hlt))).trans (hc3 k hlt)
      obtain ⟨hs0, hs1⟩ := hs3 k hlt
      have hTK := take_tbl S k (by have := HS.out; omega)
      have HTK : Hid ((S.take (k + 1)).map tbl = (S.take k).map tbl ++ [tbl (S.getD k 0)]) := hTK
      obtain ⟨m, hm, hm8⟩ := mod8 (S.getD k 0) hs0
      have htb := tab_cell hB.tab (S.getD k 0) m hm
      have HB : Hid (Built w (np + 2 + ns) (P ++ [(n : Int)] ++ (S.take k).map tbl) wr) := hB
      have hlen : (P ++ [(n : Int)] ++ (S.take k).map tbl).length = np + 1 + k := by have := HS.out; have := HP.out; simp; omega
      have hown := hB.own
      rw [hlen] at hown
      have HLN : Hid ((P ++ [(n : Int)] ++ (S.take k).map tbl).length = np + 1 + k) := hlen
      generalize tbl (S.getD k 0) = t at *
      generalize S.getD k 0 = sv at *
      clear hc3 hs3 hTK hlen hB
      go_wp2_with (at_builtin; refine wpList_append_fits _ rfl (.tmp 64) (.tmp 69) 22 rfl (w.heap.size + 1) 5 i0 1 Ybaf.underlying22 hi hz1 (w.heap.size + 1) (np + 1 + k) (np + 2 + ns) ((P ++ [(n : Int)] ++ (S.take k).map tbl).map e8) rfl (hown.alloc _) ⟨wr.heap.size, 0, none⟩ 1 1 [.int .u8 t] rfl rfl (news_new wr #[.int .u8 t]) (by simp [Value.oneCell']) (by omega) ?_; intro w4 hown4 hgr4)
      have HB4 : Hid (Built w (np + 2 + ns) (P ++ [(n : Int)] ++ (S.take (k + 1)).map tbl) w4) := by
        refine HB.out.grown (only_alloc wr _) hgr4 ?_
        rw [HTK.out]
        have e1 : (P ++ [(n : Int)] ++ ((S.take k).map tbl ++ [t])).length = np + 1 + k + 1 := by rw [← List.append_assoc, List.length_append, HLN.out]; rfl
        rw [e1]
        have e2 : (P ++ [(n : Int)] ++ ((S.take k).map tbl ++ [t])).map e8 = (P ++ [(n : Int)] ++ (S.take k).map tbl).map e8 ++ [.int .u8 t] := by rw [← List.append_assoc, List.map_append]; rfl
        rw [e2]
        exact hown4
      clear hown4 hgr4 hown HB HTK HLN
      go_roundw
      case rel => exact ⟨k + 1, by go_num, by omega, by simp; omega, HB4.out⟩
      case measure => simp [intOf]; omega
    · obtain rfl : k = ns := by omega
      have hB' : Built w (np + 2 + k) (P ++ [(n : Int)] ++ S.map tbl) wr := by have := hB; rw [List.take_of_length_le (by have := HS.out; omega)] at this; exact this
      have HBS : Hid ((bsOf P [(n : Int)] S).size = np + 1 + k ∧ (bsOf P [(n : Int)] S)[np]! = (n : Int) ∧ True) := ⟨by rw [bsOf_size, HP.out, HS.out]; simp, ⟨by have := bsOf_hdr P [(n : Int)] S 0 (by simp); rw [HP.out] at this; simpa using this, trivial⟩⟩
      have hrd := hB'.rd (base := base) (np + 1 + k) np HBS.out.1.symm
      have HL : Hid (U32Ok wr.heap.size (w.heap.size + 1) (np + 2 + k) (bsOf P [(n : Int)] S) (np + 1) base n _) := u32_of _ _ _ _ _ _ _ n hn128 (leb_one _ _ _ _ np base _ hrd (by rw [HBS.out.1]; omega) (by rw [HBS.out.1]; omega) n hn128 HBS.out.2.1)
      have HSEL : Hid (∀ j, j < k → (bsOf P [(n : Int)] S)[np + 1 + j]! = tbl (S.getD j 0)) := fun j hj => by
        have := bsOf_sel P [(n : Int)] S j (by have := HS.out; omega); rw [HP.out] at this; simpa using this
      have O0 : Hid (Only (fun _ => False) wr (wr.alloc (.cells #[.slice (some ⟨w.heap.size + 1, 0, none⟩) (np + 1 + k) (np + 2 + k), .int .i64 np, .int .i64 base] 26))) := only_alloc wr _
      have HBL : Hid (Below w.heap.size w wr) := hB'.below
      have HTB : Hid (wr.heap[w.heap.size]? = some (.cells tabCells 23 (0, 0))) := hB'.tab
      have HF2 : Hid (F.answers wr.tape) := by rw [hB'.below.tape]; exact hF
      have HC3 : Hid (∀ j, j < k → w.cell? ⟨b, o + j, none⟩ = some (.int .u8 (S.getD j 0))) := hc3
      have HS3 : Hid (∀ j, j < k → 0 ≤ S.getD j 0 ∧ S.getD j 0 ≤ 255) := hs3
      have q27 := fun (w : World) (a : Option Addr) (n c n' c' : Nat) => Lib.run_eql_slice_nil (P := Ybaf.prog) w 27 32 a n c n' c' Ybaf.underlying27
      clear hB hB' hrd hF hc3 hs3
      go_wp2_with fail
      generalize wr.alloc (.cells #[.slice (some ⟨w.heap.size + 1, 0, none⟩) (np + 1 + k) (np + 2 + k), .int .i64 np, .int .i64 base] 26) = w4 at *
      generalize hR : wr.heap.size = R at *
      have HR : Hid (wr.heap.size = R) := hR
      clear hR
      have HF4 : Hid (F.answers w4.tape) := by rw [O0.out.tape]; exact HF2.out
      by_cases hgt : k < n
      · have hgt' : (k : Int) < (n : Int) := by omega
        refine (types_err R w4 (count_err F R (w.heap.size + 1) (np + 2 + k) (bsOf P [(n : Int)] S) (np + 1) base w4 HF4.out n hn128 (by rw [HBS.out.1]; omega) (by rw [HBS.out.1]; omega) (by rw [HBS.out.1]; omega) HL.out)).mono ?_
        rintro e w5 ⟨⟨a, rfl⟩, o5⟩
        have B5 : Hid (Below w.heap.size w w5) := below_of_only HBL.out ((O0.out.mono (fun _ _ hf => hf.elim)).trans o5) (fun i (hi : i = R) => by have h1 := HR.out; have h2 := HBL.out.size; omega)
        clear o5
        go_wp2_with fail
        go_ret
        exact ⟨rfl, B5.out⟩
      · have hgt' : ¬ (k : Int) < (n : Int) := by omega
        refine (types_any F R (w.heap.size + 1) (np + 2 + k) (bsOf P [(n : Int)] S) (np + 1) base n w4 HF4.out hn128 (by rw [HBS.out.1]; omega) (by rw [HBS.out.1]; omega) (fun j hj => ?_) (count_ok R (w.heap.size + 1) (np + 2 + k) (bsOf P [(n : Int)] S) (np + 1) base w4 n hn128 (by rw [HBS.out.1]; omega) (by rw [HBS.out.1]; omega) (by rw [HBS.out.1]; omega) HL.out)).mono ?_
        · rw [HSEL.out j (by omega)]
          obtain ⟨m, hm, _⟩ := mod8 _ (HS3.out j (by omega)).1
          exact (tbl_ok _ m hm).2
        · rintro e w5 (⟨hall, T, rfl, hV⟩ | ⟨hbad, ⟨a, rfl⟩, o5⟩)
          · have o5 : Only (fun i => i = R) wr w5 := (O0.out.mono (fun _ _ hf => hf.elim)).trans hV.only
            have B5 : Hid (Below w.heap.size w w5) := below_of_only HBL.out o5 (fun i (hi : i = R) => by have h1 := HR.out; have h2 := HBL.out.size; omega)
            have TB5 : Hid (w5.heap[w.heap.size]? = some (.cells tabCells 23 (0, 0))) := o5.at_block HTB.out (by have h1 := HR.out; have h2 := (Array.getElem?_eq_some_iff.1 HTB.out).1; omega)
            have hps := hV.rd.c1
            have ROW : Hid (∀ j, j < n → w5.cell? ⟨T, j, none⟩ = some (.int .u8 (tbl (S.getD j 0)))) := fun j hj => by
              rw [hV.row.cell hj, if_pos hj, HSEL.out j (by omega)]
            have HALL : Hid (∀ j m : Nat, j < n → S.getD j 0 % 8 = (m : Int) → m < 6) := fun j m hj hm => by
              have h1 := hall j hj
              rw [HSEL.out j (by omega), (tbl_ok _ m hm).1] at h1
              simpa using h1
            have C5 : Hid (∀ j, j < k → w5.cell? ⟨b, o + j, none⟩ = some (.int .u8 (S.getD j 0))) := fun j hj =>
              (B5.out.cell (p := ⟨b, o + j, none⟩) (World.block_lt_of_cell? w _ (HC3.out j hj))).trans (HC3.out j hj)
            have hpn : ((np + 1 + n : Nat) : Int) = (np : Int) + 1 + (n : Int) := by omega
            rw [hpn] at hps
            clear o5 hV hall hpn O0 HBL HTB HF2 HF4 HL HC3 HBS HSEL
            go_wp2_with fail
            go_loop [20] (fun i => ∃ j : Nat, i = .int .i64 j ∧ j ≤ n) (fun i => n - (intOf i).toNat)
            case atStart => exact ⟨0, rfl, Nat.zero_le _⟩
            case round =>
              obtain ⟨j, rfl, hjn⟩ := hrel
              by_cases hj : j < n
              · have i2 : (j : Int) < (n : Int) := by omega
                have i3 : (j : Int) < (k : Int) := by omega
                obtain ⟨s0, s1⟩ := HS3.out j (by omega)
                obtain ⟨m, hm, hm8⟩ := mod8 _ s0
                have hm6 := HALL.out j m hj hm
                have hcj := C5.out j (by omega)
                generalize S.getD j 0 = sv at *
                go_wp2_with fail
                go_round
                case rel => exact ⟨j + 1, by go_num, by omega⟩
                case measure => simp [intOf]; omega
              · go_wp2_with fail
                go_loopw [21] (fun i wq => ∃ j q : Nat, i = .int .i64 j ∧ j ≤ n ∧ wq = w5.drewN q) (fun i _ => n - (intOf i).toNat)
                case atStart => exact ⟨0, 0, rfl, Nat.zero_le _, rfl⟩
                case round =>
                  obtain ⟨j2, q, rfl, hjn2, hwq⟩ := hrel
                  have HWQ : Hid (wr = w5.drewN q) := hwq
                  by_cases hj2 : j2 < n
                  · have i2 : (j2 : Int) < (n : Int) := by omega
                    have i3 : (j2 : Int) < (k : Int) := by omega
                    obtain ⟨s0, s1⟩ := HS3.out j2 (by omega)
                    obtain ⟨m, hm, hm8⟩ := mod8 _ s0
                    have hcj : wr.cell? ⟨b, o + j2, none⟩ = some (.int .u8 (S.getD j2 0)) := by rw [hwq]; exact C5.out j2 (by omega)
                    have htj : wr.cell? ⟨w.heap.size, m, none⟩ = some (.int .u8 (tbl (S.getD j2 0))) := by rw [hwq]; exact tab_cell TB5.out _ m hm
                    have hrj : wr.cell? ⟨T, j2, none⟩ = some (.int .u8 (tbl (S.getD j2 0))) := by rw [hwq]; exact ROW.out j2 hj2
                    have i4 : (m : Int) < 8 := by omega
                    clear hwq hps
                    generalize tbl (S.getD j2 0) = tv at *
                    generalize S.getD j2 0 = sv at *
                    go_wp2_with fail
                    go_quiet (fail)
                    go_wp2_with fail
                    go_roundw
                    case rel => exact ⟨j2 + 1, q + nq, by go_num, by omega, by rw [HWQ.out]; simp⟩
                    case measure => simp [intOf]; omega
                  · clear hwq hps
                    go_wp2_with fail
                    go_ret
                    exact ⟨rfl, by rw [HWQ.out]; exact below_drewN B5.out q⟩
          · have o5' : Only (fun i => i = R) wr w5 := (O0.out.mono (fun _ _ hf => hf.elim)).trans o5
            have B5 : Hid (Below w.heap.size w w5) := below_of_only HBL.out o5' (fun i (hi : i = R) => by have h1 := HR.out; have h2 := HBL.out.size; omega)
            have HBAD : Hid (∃ j m : Nat, j < n ∧ S.getD j 0 % 8 = (m : Int) ∧ 6 ≤ m) := by
              obtain ⟨j, hj, hjb⟩ := hbad
              obtain ⟨m, hm, _⟩ := mod8 _ (HS3.out j (by omega)).1
              rw [HSEL.out j (by omega), (tbl_ok _ m hm).1] at hjb
              exact ⟨j, m, hj, hm, by simpa using hjb⟩
            have C5 : Hid (∀ j, j < k → w5.cell? ⟨b, o + j, none⟩ = some (.int .u8 (S.getD j 0))) := fun j hj =>
              (B5.out.cell (p := ⟨b, o + j, none⟩) (World.block_lt_of_cell? w _ (HC3.out j hj))).trans (HC3.out j hj)
            clear o5 o5' hbad O0 HBL HTB HF2 HF4 HL HC3 HBS HSEL
            go_wp2_with fail
            go_loop [20] (fun i => ∃ j : Nat, i = .int .i64 j ∧ j ≤ n ∧ ∀ t m : Nat, t < j → S.getD t 0 % 8 = (m : Int) → m < 6) (fun i => n - (intOf i).toNat)
            case atStart => exact ⟨0, rfl, Nat.zero_le _, fun t m ht => absurd ht (Nat.not_lt_zero _)⟩
            case round =>
              obtain ⟨j, rfl, hjn, hgood⟩ := hrel
              have HG : Hid (∀ t m : Nat, t < j → S.getD t 0 % 8 = (m : Int) → m < 6) := hgood
              clear hgood
              have hj : j < n := by
                obtain ⟨t, m, ht, htm, h6⟩ := HBAD.out
                by_cases hjt : t < j
                · have := HG.out t m hjt htm; omega
                · omega
              have i2 : (j : Int) < (n : Int) := by omega
              have i3 : (j : Int) < (k : Int) := by omega
              obtain ⟨s0, s1⟩ := HS3.out j (by omega)
              obtain ⟨m, hm, hm8⟩ := mod8 _ s0
              have HM : Hid (S.getD j 0 % 8 = (m : Int)) := hm
              have hcj := C5.out j (by omega)
              by_cases h6 : 6 ≤ m
              · have h6' : (6 : Int) ≤ (m : Int) := by omega
                generalize S.getD j 0 = sv at *
                go_wp2_with fail
                go_ret
                exact ⟨rfl, B5.out⟩
              · have h6' : ¬ (6 : Int) ≤ (m : Int) := by omega
                have HJ : Hid (∀ m' : Nat, S.getD j 0 % 8 = (m' : Int) → m' < 6) := fun m' hm' => by have := HM.out; omega
                clear HM
                generalize hsv : S.getD j 0 = sv at hm hcj s0 s1
                clear hsv
                go_wp2_with fail
                go_round
                case rel =>
                  refine ⟨j + 1, by go_num, by omega, fun t m' ht hm' => ?_⟩
                  by_cases htj : t = j
                  · subst htj; exact HJ.out m' hm'
                  · exact HG.out t m' (by omega) hm'
                case measure => simp [intOf]; omega

set_option maxRecDepth 100000 in
set_option maxHeartbeats 3200000 in
theorem law_none_pad (F : Interp) (a0 : Option Addr) (np c0 : Nat) (P : List Int) (cnt : Int) (s0 : Option Addr) (c3 : Nat) (base : Int) (w : World) (hF : F.answers w.tape)
    (hnp : np ≤ 1024) (hP : P.length = np) (h0 : a0 = none → np = 0 ∧ c0 = 0) (hc0 : ∀ ad, a0 = some ad → ∀ j, j < np → w.cell? (ad.add j) = some (.int .u8 (P.getD j 0))) (hcnt0 : 0 ≤ cnt) (hcnt : cnt ≤ 255) :
    Calls Ybaf.prog 3 #[.slice a0 np c0, .int .u8 cnt, .bool true, .slice s0 0 c3, .int .i64 base] w fun e w' => e = .returned (.bool true) ∧ Below w.heap.size w w' := by
  have hg1 : ¬ (1024 : Int) < (np : Int) := by omega
  have hg1' : decide ((1024 : Int) < (np : Int)) = false := decide_eq_false (by omega)
  obtain ⟨i0, hi, hz0, hz1, hz2⟩ := info_parts info5
  obtain ⟨n, hn⟩ : ∃ n : Nat, cnt % 128 = (n : Int) := ⟨(cnt % 128).toNat, by omega⟩
  have hn128 : n < 128 := by omega
  obtain ⟨a1, a2, a3, a4, a5, a6, a7⟩ := and127 n hn128
  clear a1 a2 a3 a4 a6 a7
  have hPn : ∀ (w' : World), (∀ k, k < w.heap.size → w'.heap[k]? = w.heap[k]?) → ∀ ad, a0 = some ad → ∀ j u, (P.map e8)[j]? = some u → w'.cell? (ad.add j) = some u := by
    intro w' hw' ad had j u hu
    have hj : j < np := by have := (List.getElem?_eq_some_iff.1 hu).1; simpa [hP] using this
    have hcell := hc0 ad had j hj
    have hu' : u = .int .u8 (P.getD j 0) := by
      simp at hu
      obtain ⟨z, hz, rfl⟩ := hu
      simp [hz]
    rw [hu', ← hcell]
    exact World.cell?_of_block (hw' _ (World.block_lt_of_cell? w _ hcell))
  have HP : Hid (P.length = np) := hP
  go_enter Ybaf.func3, Ybaf.ntmps3
  go_wp2_with (first
    | (at_make; refine wpList_make_own _ rfl _ (.tmp 39) 22 rfl (w.heap.size + 1) 5 i0 (.int .u8 0) 1 Ybaf.underlying22 hi hz0 hz1 .i64 .i64 _ (np + 2) rfl rfl (by omega) (by rw [hz2]; omega) (by unfold maxLen; omega) (by simp) ?_; intro w1 hown1 hgr1; simp only [World.size_alloc] at hown1 hgr1)
    | (at_builtin; refine wpList_append_fits_any _ rfl (.tmp 41) (.tmp 42) 22 rfl (w.heap.size + 1) 5 i0 1 Ybaf.underlying22 hi hz1 (w.heap.size + 1) 0 (np + 2) [] rfl hown1 a0 np c0 (P.map e8) rfl (by simp [hP]) h0 (hPn w1 (fun k hk => (hgr1.block k (by simp; omega) (by simp)).trans (Below.heap_alloc _ _ _ hk))) (ints_oneCell _ _) (by omega) ?_; intro w2 hown2 hgr2; simp only [Nat.zero_add, List.nil_append] at hown2)
    | (at_builtin; refine wpList_append_fits _ rfl (.tmp 45) (.tmp 49) 22 rfl (w.heap.size + 1) 5 i0 1 Ybaf.underlying22 hi hz1 (w.heap.size + 1) np (np + 2) (P.map e8) rfl (hown2.alloc _) ⟨w2.heap.size, 0, none⟩ 2 2 [.int .u8 ((n : Int) + 128), .int .u8 0] rfl rfl (news_new w2 #[.int .u8 ((n : Int) + 128), .int .u8 0]) (by simp [Value.oneCell']) (by omega) ?_; intro w3 hown3 hgr3))
  have hB3 : Built w (np + 2) (P ++ [(n : Int) + 128, 0]) w3 := built_start hgr1 hgr2 hgr3 (by simpa [HP.out] using hown3)
  clear hown1 hown2 hown3 hgr1 hgr2 hgr3 hPn hc0 h0 hP
  go_loopw [13, 60] (fun v i wr => ∃ k : Nat, i = .int .i64 k ∧ k ≤ 0 ∧ v = .slice (some ⟨w.heap.size + 1, 0, none⟩) (np + 2 + k) (np + 2) ∧ Built w (np + 2) (P ++ [(n : Int) + 128, 0]) wr) (fun _ i _ => 0 - (intOf i).toNat)
  case atStart => exact ⟨0, rfl, Nat.zero_le _, rfl, hB3⟩
  case round =>
    obtain ⟨k, rfl, hk, rfl, hB⟩ := hrel
    obtain rfl : k = 0 := by omega
    clear hB3
    have HBS : Hid ((bsOf P [(n : Int) + 128, 0] []).size = np + 2 ∧ (bsOf P [(n : Int) + 128, 0] [])[np]! = (n : Int) + 128 ∧ (bsOf P [(n : Int) + 128, 0] [])[np + 1]! = 0) := ⟨by rw [bsOf_size, HP.out]; simp, ⟨by have := bsOf_hdr P [(n : Int) + 128, 0] [] 0 (by simp); rw [HP.out] at this; simpa using this, by have := bsOf_hdr P [(n : Int) + 128, 0] [] 1 (by simp); rw [HP.out] at this; simpa using this⟩⟩
    have hrd := (show Built w (np + 2) (P ++ [(n : Int) + 128, 0] ++ ([] : List Int).map tbl) wr by simpa using hB).rd (base := base) (np + 2) np HBS.out.1.symm
    have HL : Hid (U32Ok wr.heap.size (w.heap.size + 1) (np + 2) (bsOf P [(n : Int) + 128, 0] []) (np + 2) base n _) := u32_of _ _ _ _ _ _ _ n hn128 (leb_two _ _ _ _ np base _ hrd (by rw [HBS.out.1]; omega) (by rw [HBS.out.1]; omega) n hn128 HBS.out.2.1 HBS.out.2.2)
    have O0 : Hid (Only (fun _ => False) wr (wr.alloc (.cells #[.slice (some ⟨w.heap.size + 1, 0, none⟩) (np + 2) (np + 2), .int .i64 np, .int .i64 base] 26))) := only_alloc wr _
    have HBL : Hid (Below w.heap.size w wr) := hB.below
    have HTB : Hid (wr.heap[w.heap.size]? = some (.cells tabCells 23 (0, 0))) := hB.tab
    have HF2 : Hid (F.answers wr.tape) := by rw [hB.below.tape]; exact hF
    have q27 := fun (w : World) (a : Option Addr) (n c n' c' : Nat) => Lib.run_eql_slice_nil (P := Ybaf.prog) w 27 32 a n c n' c' Ybaf.underlying27
    clear hB hrd hF
    go_wp2_with fail
    generalize wr.alloc (.cells #[.slice (some ⟨w.heap.size + 1, 0, none⟩) (np + 2) (np + 2), .int .i64 np, .int .i64 base] 26) = w4 at *
    generalize hR : wr.heap.size = R at *
    have HR : Hid (wr.heap.size = R) := hR
    clear hR
    have HF4 : Hid (F.answers w4.tape) := by rw [O0.out.tape]; exact HF2.out
    by_cases hgt : 0 < n
    · have hgt' : (0 : Int) < (n : Int) := by omega
      refine (types_err R w4 (count_err F R (w.heap.size + 1) (np + 2) (bsOf P [(n : Int) + 128, 0] []) (np + 2) base w4 HF4.out n hn128 (by rw [HBS.out.1]; omega) (by rw [HBS.out.1]; omega) (by rw [HBS.out.1]; omega) HL.out)).mono ?_
      rintro e w5 ⟨⟨a, rfl⟩, o5⟩
      have B5 : Hid (Below w.heap.size w w5) := below_of_only HBL.out ((O0.out.mono (fun _ _ hf => hf.elim)).trans o5) (fun i (hi : i = R) => by have h1 := HR.out; have h2 := HBL.out.size; omega)
      clear o5
      go_wp2_with fail
      go_ret
      exact ⟨rfl, B5.out⟩
    · have hgt' : ¬ (0 : Int) < (n : Int) := by omega
      refine (types_any F R (w.heap.size + 1) (np + 2) (bsOf P [(n : Int) + 128, 0] []) (np + 2) base n w4 HF4.out hn128 (by rw [HBS.out.1]; omega) (by rw [HBS.out.1]; omega) (fun j hj => absurd hj (by omega)) (count_ok R (w.heap.size + 1) (np + 2) (bsOf P [(n : Int) + 128, 0] []) (np + 2) base w4 n hn128 (by rw [HBS.out.1]; omega) (by rw [HBS.out.1]; omega) (by rw [HBS.out.1]; omega) HL.out)).mono ?_
      · rintro e w5 (⟨hall, T, rfl, hV⟩ | ⟨⟨j, hj, _⟩, _⟩)
        · obtain rfl : n = 0 := by omega
          have o5 : Only (fun i => i = R) wr w5 := (O0.out.mono (fun _ _ hf => hf.elim)).trans hV.only
          have B5 : Hid (Below w.heap.size w w5) := below_of_only HBL.out o5 (fun i (hi : i = R) => by have h1 := HR.out; have h2 := HBL.out.size; omega)
          have hps := hV.rd.c1
          have hpn : ((np + 2 + 0 : Nat) : Int) = (np : Int) + 2 := by omega
          rw [hpn] at hps
          clear o5 hV hall hpn O0 HBL HTB HF2 HF4 HL HBS
          go_wp2_with fail
          refine wp_loop_rounds 1 ?_
          rw [rounds_succ]
          go_wp2_with fail
          refine wp_loop_rounds 1 ?_
          rw [rounds_succ]
          go_wp2_with fail
          go_ret
          exact ⟨rfl, B5.out⟩
        · exact absurd hj (by omega)

set_option maxRecDepth 100000 in
set_option maxHeartbeats 3200000 in
theorem law_none_one (F : Interp) (a0 : Option Addr) (np c0 : Nat) (P : List Int) (cnt : Int) (s0 : Option Addr) (c3 : Nat) (base : Int) (w : World) (hF : F.answers w.tape)
    (hnp : np ≤ 1024) (hP : P.length = np) (h0 : a0 = none → np = 0 ∧ c0 = 0) (hc0 : ∀ ad, a0 = some ad → ∀ j, j < np → w.cell? (ad.add j) = some (.int .u8 (P.getD j 0))) (hcnt0 : 0 ≤ cnt) (hcnt : cnt ≤ 255) :
    Calls Ybaf.prog 3 #[.slice a0 np c0, .int .u8 cnt, .bool false, .slice s0 0 c3, .int .i64 base] w fun e w' => e = .returned (.bool true) ∧ Below w.heap.size w w' := by
  have hg1 : ¬ (1024 : Int) < (np : Int) := by omega
  have hg1' : decide ((1024 : Int) < (np : Int)) = false := decide_eq_false (by omega)
  obtain ⟨i0, hi, hz0, hz1, hz2⟩ := info_parts info5
  obtain ⟨n, hn⟩ : ∃ n : Nat, cnt % 128 = (n : Int) := ⟨(cnt % 128).toNat, by omega⟩
  have hn128 : n < 128 := by omega
  obtain ⟨a1, a2, a3, a4, a5, a6, a7⟩ := and127 n hn128
  clear a1 a2 a3 a4 a6 a7
  have hPn : ∀ (w' : World), (∀ k, k < w.heap.size → w'.heap[k]? = w.heap[k]?) → ∀ ad, a0 = some ad → ∀ j u, (P.map e8)[j]? = some u → w'.cell? (ad.add j) = some u := by
    intro w' hw' ad had j u hu
    have hj : j < np := by have := (List.getElem?_eq_some_iff.1 hu).1; simpa [hP] using this
    have hcell := hc0 ad had j hj
    have hu' : u = .int .u8 (P.getD j 0) := by
      simp at hu
      obtain ⟨z, hz, rfl⟩ := hu
      simp [hz]
    rw [hu', ← hcell]
    exact World.cell?_of_block (hw' _ (World.block_lt_of_cell? w _ hcell))
  have HP : Hid (P.length = np) := hP
  go_enter Ybaf.func3, Ybaf.ntmps3
  go_wp2_with (first
    | (at_make; refine wpList_make_own _ rfl _ (.tmp 39) 22 rfl (w.heap.size + 1) 5 i0 (.int .u8 0) 1 Ybaf.underlying22 hi hz0 hz1 .i64 .i64 _ (np + 2) rfl rfl (by omega) (by rw [hz2]; omega) (by unfold maxLen; omega) (by simp) ?_; intro w1 hown1 hgr1; simp only [World.size_alloc] at hown1 hgr1)
    | (at_builtin; refine wpList_append_fits_any _ rfl (.tmp 41) (.tmp 42) 22 rfl (w.heap.size + 1) 5 i0 1 Ybaf.underlying22 hi hz1 (w.heap.size + 1) 0 (np + 2) [] rfl hown1 a0 np c0 (P.map e8) rfl (by simp [hP]) h0 (hPn w1 (fun k hk => (hgr1.block k (by simp; omega) (by simp)).trans (Below.heap_alloc _ _ _ hk))) (ints_oneCell _ _) (by omega) ?_; intro w2 hown2 hgr2; simp only [Nat.zero_add, List.nil_append] at hown2)
    | (at_builtin; refine wpList_append_fits _ rfl (.tmp 51) (.tmp 54) 22 rfl (w.heap.size + 1) 5 i0 1 Ybaf.underlying22 hi hz1 (w.heap.size + 1) np (np + 2) (P.map e8) rfl (hown2.alloc _) ⟨w2.heap.size, 0, none⟩ 1 1 [.int .u8 (n : Int)] rfl rfl (news_new w2 #[.int .u8 (n : Int)]) (by simp [Value.oneCell']) (by omega) ?_; intro w3 hown3 hgr3))
  have hB3 : Built w (np + 2) (P ++ [(n : Int)]) w3 := built_start hgr1 hgr2 hgr3 (by simpa [HP.out] using hown3)
  clear hown1 hown2 hown3 hgr1 hgr2 hgr3 hPn hc0 h0 hP
  go_loopw [13, 60] (fun v i wr => ∃ k : Nat, i = .int .i64 k ∧ k ≤ 0 ∧ v = .slice (some ⟨w.heap.size + 1, 0, none⟩) (np + 1 + k) (np + 2) ∧ Built w (np + 2) (P ++ [(n : Int)]) wr) (fun _ i _ => 0 - (intOf i).toNat)
  case atStart => exact ⟨0, rfl, Nat.zero_le _, rfl, hB3⟩
  case round =>
    obtain ⟨k, rfl, hk, rfl, hB⟩ := hrel
    obtain rfl : k = 0 := by omega
    clear hB3
    have HBS : Hid ((bsOf P [(n : Int)] []).size = np + 1 ∧ (bsOf P [(n : Int)] [])[np]! = (n : Int) ∧ True) := ⟨by rw [bsOf_size, HP.out]; simp, ⟨by have := bsOf_hdr P [(n : Int)] [] 0 (by simp); rw [HP.out] at this; simpa using this, trivial⟩⟩
    have hrd := (show Built w (np + 2) (P ++ [(n : Int)] ++ ([] : List Int).map tbl) wr by simpa using hB).rd (base := base) (np + 1) np HBS.out.1.symm
    have HL : Hid (U32Ok wr.heap.size (w.heap.size + 1) (np + 2) (bsOf P [(n : Int)] []) (np + 1) base n _) := u32_of _ _ _ _ _ _ _ n hn128 (leb_one _ _ _ _ np base _ hrd (by rw [HBS.out.1]; omega) (by rw [HBS.out.1]; omega) n hn128 HBS.out.2.1)
    have O0 : Hid (Only (fun _ => False) wr (wr.alloc (.cells #[.slice (some ⟨w.heap.size + 1, 0, none⟩) (np + 1) (np + 2), .int .i64 np, .int .i64 base] 26))) := only_alloc wr _
    have HBL : Hid (Below w.heap.size w wr) := hB.below
    have HTB : Hid (wr.heap[w.heap.size]? = some (.cells tabCells 23 (0, 0))) := hB.tab
    have HF2 : Hid (F.answers wr.tape) := by rw [hB.below.tape]; exact hF
    have q27 := fun (w : World) (a : Option Addr) (n c n' c' : Nat) => Lib.run_eql_slice_nil (P := Ybaf.prog) w 27 32 a n c n' c' Ybaf.underlying27
    clear hB hrd hF
    go_wp2_with fail
    generalize wr.alloc (.cells #[.slice (some ⟨w.heap.size + 1, 0, none⟩) (np + 1) (np + 2), .int .i64 np, .int .i64 base] 26) = w4 at *
    generalize hR : wr.heap.size = R at *
    have HR : Hid (wr.heap.size = R) := hR
    clear hR
    have HF4 : Hid (F.answers w4.tape) := by rw [O0.out.tape]; exact HF2.out
    by_cases hgt : 0 < n
    · have hgt' : (0 : Int) < (n : Int) := by omega
      refine (types_err R w4 (count_err F R (w.heap.size + 1) (np + 2) (bsOf P [(n : Int)] []) (np + 1) base w4 HF4.out n hn128 (by rw [HBS.out.1]; omega) (by rw [HBS.out.1]; omega) (by rw [HBS.out.1]; omega) HL.out)).mono ?_
      rintro e w5 ⟨⟨a, rfl⟩, o5⟩
      have B5 : Hid (Below w.heap.size w w5) := below_of_only HBL.out ((O0.out.mono (fun _ _ hf => hf.elim)).trans o5) (fun i (hi : i = R) => by have h1 := HR.out; have h2 := HBL.out.size; omega)
      clear o5
      go_wp2_with fail
      go_ret
      exact ⟨rfl, B5.out⟩
    · have hgt' : ¬ (0 : Int) < (n : Int) := by omega
      refine (types_any F R (w.heap.size + 1) (np + 2) (bsOf P [(n : Int)] []) (np + 1) base n w4 HF4.out hn128 (by rw [HBS.out.1]; omega) (by rw [HBS.out.1]; omega) (fun j hj => absurd hj (by omega)) (count_ok R (w.heap.size + 1) (np + 2) (bsOf P [(n : Int)] []) (np + 1) base w4 n hn128 (by rw [HBS.out.1]; omega) (by rw [HBS.out.1]; omega) (by rw [HBS.out.1]; omega) HL.out)).mono ?_
      · rintro e w5 (⟨hall, T, rfl, hV⟩ | ⟨⟨j, hj, _⟩, _⟩)
        · obtain rfl : n = 0 := by omega
          have o5 : Only (fun i => i = R) wr w5 := (O0.out.mono (fun _ _ hf => hf.elim)).trans hV.only
          have B5 : Hid (Below w.heap.size w w5) := below_of_only HBL.out o5 (fun i (hi : i = R) => by have h1 := HR.out; have h2 := HBL.out.size; omega)
          have hps := hV.rd.c1
          have hpn : ((np + 1 + 0 : Nat) : Int) = (np : Int) + 1 := by omega
          rw [hpn] at hps
          clear o5 hV hall hpn O0 HBL HTB HF2 HF4 HL HBS
          go_wp2_with fail
          refine wp_loop_rounds 1 ?_
          rw [rounds_succ]
          go_wp2_with fail
          refine wp_loop_rounds 1 ?_
          rw [rounds_succ]
          go_wp2_with fail
          go_ret
          exact ⟨rfl, B5.out⟩
        · exact absurd hj (by omega)
end Go.Proofs.YbulkajqcFmt
