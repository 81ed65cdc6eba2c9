import Derived.Test.YbulkajnyBuildS
namespace Go.Proofs.Ybulkajny
open Go.RowKit Go.Sort

theorem Bs.start {w0 w : World} {R : Nat → Row} {E : Option (Nat × Obj)} {n : Nat} {rv wv : Nat → List Nat} {out : Nat → Bool} (h : Fam w0 w R E) (z : Array Value) (hn : n ≤ 64) :
    ∃ R', Fam w0 ((w.alloc (.cells (madeCells z (n * 4)) 70)).alloc (.cells (madeCells #[.bool false] n) 4)) R' E ∧ Bs R' n w.heap.size (w.heap.size + 1) rv wv out 0 ∧ R' 20 = ⟨none, 0, 21, 1, 0, []⟩ ∧ (∀ i, i ≠ 18 → i ≠ 19 → i ≠ 20 → R' i = R i) := by
  have m1 := h.make (i := 19) (madeCells z (n * 4)) 70 4 n (by simp [madeCells]) (by unfold maxLen; omega)
  have m2 := m1.make (i := 18) (madeCells #[.bool false] n) 4 1 n (by simp [madeCells]) (by unfold maxLen; omega)
  have m3 := m2.turn 20 ⟨none, 0, 21, 1, 0, []⟩ (Only.refl _ _) ⟨by simp, .inl ⟨rfl, rfl⟩⟩ (fun c hc => by cases hc)
  refine ⟨_, m3, ⟨⟨fun i => z[i % z.size]!, ?_, fun i hi => absurd hi (Nat.not_lt_zero _)⟩, fun i hi => absurd hi (Nat.not_lt_zero _), fun i hi => absurd hi (Nat.not_lt_zero _), ?_⟩, put_eq, fun i h1 h2 h3 => by rw [put_ne h3, put_ne h1, put_ne h2]⟩
  · rw [put_ne (by omega), put_ne (by omega), put_eq, made_toList]
  · rw [put_ne (by omega), put_eq, made_toList]
    have e : (w.alloc (.cells (madeCells z (n * 4)) 70)).heap.size = w.heap.size + 1 := by simp
    rw [e]
    simp only [Row.mk.injEq, true_and]
    exact tab_congr (fun j _ => by simp [Nat.mod_one])


theorem Bytes.fam {w0 w : World} {R : Nat → Row} {E : Option (Nat × Obj)} {P : Option Addr} {l : List Nat} (h : Bytes w0 P l) (hf : Fam w0 w R E) : Bytes w P l := h.only0 ⟨hf.below.os, hf.below.tape, hf.below.output, hf.below.size, fun k hk _ => hf.below.block k hk⟩
/-- The rows that build turns. -/
def Bset (i : Nat) : Prop := i = 18 ∨ i = 19 ∨ i = 20 ∨ i = 41 ∨ (400 ≤ i ∧ i < 600)


def BuildPost (w0 : World) (R : Nat → Row) (E : Option (Nat × Obj)) (n : Nat) (rv wv : Nat → List Nat) (out : Nat → Bool) (e : Ending) (w' : World) : Prop :=
  ∃ R' z p c, e = .returned (.tuple #[.slice (some ⟨z, 0, none⟩) n n, .slice (p.map fun b => ⟨b, 0, none⟩) (setTo out n).length c, .slice (some ⟨z + 1, 0, none⟩) n n]) ∧ Fam w0 w' R' E ∧ Bs R' n z (z + 1) rv wv out n ∧ R' 20 = ⟨p, c, 21, 1, (setTo out n).length, (setTo out n).map i32⟩ ∧ ∀ i, ¬ Bset i → R' i = R i

theorem Bs.next {R R' : Nat → Row} {n bB bI gr gw : Nat} {rv wv : Nat → List Nat} {out : Nat → Bool} {j : Nat} (h : Bs R n bB bI rv wv out j) (hr : Filled R (400 + 2 * j) 65 2 gr (rv j) (rv j).length) (hw : Filled R (401 + 2 * j) 68 3 gw (wv j) (wv j).length)
    (hb : ∃ f, R' 19 = ⟨some bB, n, 70, 4, n, tab (n * 4) f⟩ ∧ ∀ i, i < j + 1 → f (i * 4 + 1) = (R' (400 + 2 * i)).val ∧ f (i * 4 + 2) = (R' (401 + 2 * i)).val ∧ f (i * 4) = .string ⟨#[]⟩ ∧ f (i * 4 + 3) = .slice none 0 0) (he : ∀ i, (400 ≤ i ∧ i < 600) → R' i = R i) (hj : j < 64)
    (hi : R' 18 = ⟨some bI, n, 4, 1, n, tab n (fun i => .bool (decide (i < j + 1) && !out i))⟩) : Bs R' n bB bI rv wv out (j + 1) := by
  refine ⟨hb, fun i hi => ?_, fun i hi => ?_, hi⟩
  · by_cases e : i = j
    · subst e; exact ⟨gr, hr.congr (he _ (by omega))⟩
    · obtain ⟨g, hg⟩ := h.rs i (by omega)
      exact ⟨g, hg.congr (he _ (by omega))⟩
  · by_cases e : i = j
    · subst e; exact ⟨gw, hw.congr (he _ (by omega))⟩
    · obtain ⟨g, hg⟩ := h.ws i (by omega)
      exact ⟨g, hg.congr (he _ (by omega))⟩

set_option maxRecDepth 100000 in
set_option maxHeartbeats 4000000 in
theorem build_any {w0 w : World} {R : Nat → Row} {E : Option (Nat × Obj)} {A : Option Addr} {n q : Nat} {rv wv : Nat → List Nat} {out : Nat → Bool} (h : Fam w0 w R E) (hA : Arg w0 A n rv wv out) (hn : n ≤ 64) (hb : ∀ i, i < n → (rv i).length ≤ 256 ∧ (wv i).length ≤ 256) (hu : ∀ i, i < n → (∀ x, x ∈ rv i → x < 256) ∧ (∀ x, x ∈ wv i → x < 256)) :
    Calls Yba.prog 14 #[.slice A n q] w (BuildPost w0 R E n rv wv out) := by
  have H : Hid (Arg w0 A n rv wv out) := hA
  have m35 := run_make_n 35 70 _ 4 88 Yba.underlying35 info70 (by omega) n (by omega)
  have m36 := run_make_n 36 4 _ 1 1 Yba.underlying36 info4 (by omega) n (by omega)
  obtain ⟨i0, hi0, hz0, hz1, hz2⟩ := info_parts info21
  obtain ⟨R1, f1, s1, h20, e1⟩ := Bs.start (rv := rv) (wv := wv) (out := out) h #[.string ⟨#[]⟩, .slice none 0 0, .slice none 0 0, .slice none 0 0] hn
  have HF1 : Hid _ := f1
  clear hA f1
  go_enter Yba.func14, Yba.ntmps14
  go_wp2_with fail
  clear m35 m36
  have f1 := HF1.out
  clear HF1
  generalize (w.alloc (.cells (madeCells #[.string ⟨#[]⟩, .slice none 0 0, .slice none 0 0, .slice none 0 0] (n * 4)) 70)).alloc (.cells (madeCells #[.bool false] n) 4) = w1 at *
  generalize w.heap.size = z at *
  have HR : Hid (∀ i, i ≠ 18 → i ≠ 19 → i ≠ 20 → R1 i = R i) := e1
  clear h e1
  go_loopg [8, 25] n (fun q s8 s25 wx => ∃ (j : Nat) (Rx : Nat → Row) (p : Option Nat) (c : Nat), s25 = .int .i64 j ∧ j ≤ n ∧ n - j ≤ q ∧ Fam w0 wx Rx E ∧ Bs Rx n z (z + 1) rv wv out j ∧ (∀ i, ¬ Bset i → Rx i = R i) ∧ Rx 20 = ⟨p, c, 21, 1, (setTo out j).length, (setTo out j).map i32⟩ ∧ s8 = .slice (p.map fun b => ⟨b, 0, none⟩) (setTo out j).length c)
  case atStart =>
    exact ⟨0, R1, none, 0, rfl, Nat.zero_le _, Nat.le_refl _, f1, s1, fun i hi => HR.out i (fun e => hi (.inl e)) (fun e => hi (.inr (.inl e))) (fun e => hi (.inr (.inr (.inl e)))), h20, rfl⟩
  case round =>
    obtain ⟨j, Rx, p, c, rfl, hjl, hjq, hF, hB, hRx, h20, rfl⟩ := hrel
    clear f1 s1 HR
    by_cases hj : j < n
    · obtain ⟨g, o, rp, rc, wp, wc, rfl, d1, d2, d3, b1, b2⟩ := Arg.at_ H.out j hj
      have c1 := hF.old d1
      have c2 := hF.old d2
      have c3 := hF.old d3
      clear d1 d2 d3
      have j1 : (j : Int) < (n : Int) := by omega
      obtain ⟨l1, l2⟩ := hb j hj
      obtain ⟨u1, u2⟩ := hu j hj
      have m61 := run_make_n 61 65 _ 2 24 Yba.underlying61 info65 (by omega) (rv j).length (by omega)
      have k1 := hF.make (i := 41) #[.slice rp (rv j).length rc, .slice wp (wv j).length wc, .bool (out j)] 41 3 1 rfl (by unfold maxLen; omega)
      obtain ⟨R2, k2, fl2, e2⟩ := Filled.new k1 (400 + 2 * j) 65 2 #[.string ⟨#[]⟩, .pointer none] (rv j) (by omega) zc65
      have HK2 : Hid _ := k2
      have hsz : (wr.alloc (.cells #[.slice rp (rv j).length rc, .slice wp (wv j).length wc, .bool (out j)] 41)).heap.size = wr.heap.size + 1 := by simp
      rw [hsz] at fl2
      have h41 : R2 41 = ⟨some wr.heap.size, 1, 41, 3, 1, [.slice rp (rv j).length rc, .slice wp (wv j).length wc, .bool (out j)]⟩ := by rw [e2 41 (by omega), put_eq]
      have HE2 : Hid (∀ i, i ≠ 400 + 2 * j → i ≠ 41 → R2 i = Rx i) := fun i a1 a2 => (e2 i a1).trans (put_ne a2)
      clear k1 k2 e2
      refine wp_seq_k (fun K1 hK => ?_)
      have HK1 : Hid _ := hK
      clear hK
      go_wp2_with fail
      refine HK1.out _ _ ?_
      clear HK1
      refine wp_seq_k (fun K1 hK => ?_)
      have HK1 : Hid _ := hK
      clear hK
      go_wp2_with fail
      refine HK1.out _ _ ?_
      clear HK1
      refine wp_seq_k (fun K9 hK => ?_)
      have HK9 : Hid _ := hK
      clear hK
      refine wp_block ?_
      refine wp_seq_k (fun K1 hK => ?_)
      have HK1 : Hid _ := hK
      clear hK
      go_wp2_with fail
      refine HK1.out _ _ ?_
      clear HK1
      refine wp_seq_k (fun K1 hK => ?_)
      have HK1 : Hid _ := hK
      clear hK
      go_wp2_with fail
      refine HK1.out _ _ ?_
      clear HK1
      have k2 := HK2.out
      clear HK2 m61 hsz
      generalize (wr.alloc (.cells #[.slice rp (rv j).length rc, .slice wp (wv j).length wc, .bool (out j)] 41)).alloc (.cells (madeCells #[.string ⟨#[]⟩, .pointer none] ((rv j).length * 2)) 65) = w2 at *
      generalize wr.heap.size = T at *
      have cT0 : w2.cell? ⟨T, 0, none⟩ = some (.slice rp (rv j).length rc) := k2.cell (i := 41) (by rw [h41]) (by rw [h41]; rfl)
      clear c1 c2 c3 hF
      refine wp_seq_k (fun K1 hK => ?_)
      have HK1 : Hid _ := hK
      clear hK
      go_wp2_with fail
      go_loopg [37] (rv j).length (fun q s37 wx => ∃ (i : Nat) (Ry : Nat → Row), s37 = .int .i64 i ∧ i ≤ (rv j).length ∧ (rv j).length - i ≤ q ∧ Fam w0 wx Ry E ∧ Filled Ry (400 + 2 * j) 65 2 (T + 1) (rv j) i ∧ (∀ k, k ≠ 400 + 2 * j → Ry k = R2 k))
      case atStart => exact ⟨0, R2, rfl, Nat.zero_le _, Nat.le_refl _, k2, fl2, fun _ _ => rfl⟩
      case round =>
        clear k2 fl2
        obtain ⟨i, Ry, rfl, hil, hiq, hFy, hfl, hRy⟩ := hrel
        by_cases hi : i < (rv j).length
        · obtain ⟨x, hx⟩ : ∃ x, (rv j)[i]? = some x := ⟨(rv j)[i], List.getElem?_eq_getElem hi⟩
          have hxx := u1 x (List.mem_of_getElem? hx)
          obtain ⟨g5, o5, rfl, cx⟩ := (b1.fam hFy) i x hx
          have i1 : (i : Int) < ((rv j).length : Int) := by omega
          obtain ⟨v0, z0⟩ := hfl.cell hFy (k := i * 2) (by omega)
          have y0 := hfl.free hFy (k := i * 2)
          obtain ⟨v1, z1⟩ := hfl.cell hFy (k := i * 2 + 1) (by omega)
          have y1 := hfl.free hFy (k := i * 2 + 1)
          have HPUT : Hid _ := hfl.put2 hFy hx
          clear hFy hfl
          go_wp2_with fail
          refine (key_any x _ hxx).mono ?_
          rintro e w3 ⟨rfl, hw⟩
          subst hw
          clear cx
          generalize keyS x = ks at *
          go_wp2_with fail
          go_roundg ((rv j).length - (i + 1))
          case measure => omega
          case rel =>
            obtain ⟨R', f', fl', e'⟩ := HPUT.out
            exact ⟨i + 1, R', by go_num, by omega, by omega, f', fl', fun k hk => (e' k hk).trans (hRy k hk)⟩
        · obtain rfl : i = (rv j).length := by omega
          have i1 : ¬ ((rv j).length : Int) < ((rv j).length : Int) := by omega
          have HFY : Hid _ := hFy
          have HFL : Hid _ := hfl
          clear hFy hfl
          go_wp2_with fail
          refine HK1.out _ _ ?_
          clear HK1
          have hFy := HFY.out
          have hfl := HFL.out
          clear HFY HFL
          have e41 : Ry 41 = _ := (hRy 41 (by omega)).trans h41
          have cT1 : wr.cell? ⟨T, 1, none⟩ = some (.slice wp (wv j).length wc) := Fam.cell (i := 41) hFy (by rw [e41]) (by rw [e41]; rfl)
          have m66 := run_make_n 66 68 _ 3 40 Yba.underlying66 info68 (by omega) (wv j).length (by omega)
          obtain ⟨R3, k2, fl2, e3⟩ := Filled.new hFy (401 + 2 * j) 68 3 #[.string ⟨#[]⟩, .string ⟨#[]⟩, .bool false] (wv j) (by omega) zc68
          have hflr : Filled R3 (400 + 2 * j) 65 2 (T + 1) (rv j) (rv j).length := Filled.congr hfl (e3 _ (by omega))
          have HK2 : Hid _ := k2
          clear k2 cT0
          refine wp_seq_k (fun K1 hK => ?_)
          have HK1 : Hid _ := hK
          clear hK
          go_wp2_with fail
          refine HK1.out _ _ ?_
          clear HK1
          have k2 := HK2.out
          clear HK2 m66 cT1
          generalize wr.alloc (.cells (madeCells #[.string ⟨#[]⟩, .string ⟨#[]⟩, .bool false] ((wv j).length * 3)) 68) = w4 at *
          generalize wr.heap.size = T2 at *
          have e41' : R3 41 = _ := (e3 41 (by omega)).trans e41
          have cT1 : w4.cell? ⟨T, 1, none⟩ = some (.slice wp (wv j).length wc) := k2.cell (i := 41) (by rw [e41']) (by rw [e41']; rfl)
          clear hFy
          refine wp_seq_k (fun K1 hK => ?_)
          have HK1 : Hid _ := hK
          clear hK
          go_wp2_with fail
          go_loopg [56] (wv j).length (fun q s56 wx => ∃ (i : Nat) (Rz : Nat → Row), s56 = .int .i64 i ∧ i ≤ (wv j).length ∧ (wv j).length - i ≤ q ∧ Fam w0 wx Rz E ∧ Filled Rz (401 + 2 * j) 68 3 (T2) (wv j) i ∧ (∀ k, k ≠ 401 + 2 * j → Rz k = R3 k))
          case atStart => exact ⟨0, R3, rfl, Nat.zero_le _, Nat.le_refl _, k2, fl2, fun _ _ => rfl⟩
          case round =>
            clear k2 fl2
            obtain ⟨i, Rz, rfl, hil, hiq, hFz, hflw, hRz2⟩ := hrel
            by_cases hi : i < (wv j).length
            · obtain ⟨x, hx⟩ : ∃ x, (wv j)[i]? = some x := ⟨(wv j)[i], List.getElem?_eq_getElem hi⟩
              have hxx := u2 x (List.mem_of_getElem? hx)
              obtain ⟨g5, o5, rfl, cx⟩ := (b2.fam hFz) i x hx
              have i1 : (i : Int) < ((wv j).length : Int) := by omega
              obtain ⟨v0, z0⟩ := hflw.cell hFz (k := i * 3) (by omega)
              have y0 := hflw.free hFz (k := i * 3)
              obtain ⟨v1, z1⟩ := hflw.cell hFz (k := i * 3 + 1) (by omega)
              have y1 := hflw.free hFz (k := i * 3 + 1)
              obtain ⟨v2, z2⟩ := hflw.cell hFz (k := i * 3 + 2) (by omega)
              have y2 := hflw.free hFz (k := i * 3 + 2)
              have HPUT : Hid _ := hflw.put3 hFz hx
              clear hFz hflw
              go_wp2_with fail
              refine (key_any x _ hxx).mono ?_
              rintro e w3 ⟨rfl, hw⟩
              subst hw
              clear cx
              generalize keyS x = ks at *
              go_wp2_with fail
              go_roundg ((wv j).length - (i + 1))
              case measure => omega
              case rel =>
                obtain ⟨R', f', fl', e'⟩ := HPUT.out
                exact ⟨i + 1, R', by go_num, by omega, by omega, f', fl', fun k hk => (e' k hk).trans (hRz2 k hk)⟩
            · obtain rfl : i = (wv j).length := by omega
              have i1 : ¬ ((wv j).length : Int) < ((wv j).length : Int) := by omega
              have HFY : Hid _ := hFz
              have HFL : Hid _ := hflw
              clear hFz hflw
              go_wp2_with fail
              refine HK1.out _ _ ?_
              clear HK1
              have hFz := HFY.out
              have hflw := HFL.out
              clear HFY HFL
              have e41z : Rz 41 = _ := (hRz2 41 (by omega)).trans e41'
              have hfr : Filled Rz (400 + 2 * j) 65 2 (T + 1) (rv j) (rv j).length := hflr.congr (hRz2 _ (by omega))
              have hchain : ∀ i, i ≠ 400 + 2 * j → i ≠ 401 + 2 * j → i ≠ 41 → Rz i = Rx i := fun i a1 a2 a3 => ((hRz2 i a2).trans (e3 i a2)).trans ((hRy i a1).trans (HE2.out i a1 a3))
              have hBz : Bs Rz n z (z + 1) rv wv out j := hB.congr (fun i hi => hchain i (by omega) (by omega) (by omega))
              obtain ⟨⟨x0, a0⟩, y0⟩ := hBz.cells hFz (k := j * 4) (by omega)
              obtain ⟨⟨x1, a1⟩, y1⟩ := hBz.cells hFz (k := j * 4 + 1) (by omega)
              obtain ⟨⟨x2, a2⟩, y2⟩ := hBz.cells hFz (k := j * 4 + 2) (by omega)
              obtain ⟨⟨x3, a3⟩, y3⟩ := hBz.cells hFz (k := j * 4 + 3) (by omega)
              obtain ⟨R4, f4, hblk4, e4⟩ := hBz.lay hFz hfr hflw
              have HF4 : Hid _ := f4
              clear f4 hFz cT1
              refine wp_seq_k (fun K1 hK => ?_)
              have HK1 : Hid _ := hK
              clear hK
              go_wp2_with fail
              refine HK1.out _ _ ?_
              clear HK1
              have f4 := HF4.out
              clear HF4 a0 a1 a2 a3 y0 y1 y2 y3
              generalize (((wr.setCell ⟨z, j * 4, none⟩ (.string ⟨#[]⟩)).setCell ⟨z, j * 4 + 1, none⟩ (.slice (some ⟨T + 1, 0, none⟩) (rv j).length (rv j).length)).setCell ⟨z, j * 4 + 2, none⟩ (.slice (some ⟨T2, 0, none⟩) (wv j).length (wv j).length)).setCell ⟨z, j * 4 + 3, none⟩ (.slice none 0 0) = w5 at *
              have e41w : R4 41 = _ := (e4 41 (by omega)).trans e41z
              have cT2 : w5.cell? ⟨T, 2, none⟩ = some (.bool (out j)) := f4.cell (i := 41) (by rw [e41w]) (by rw [e41w]; rfl)
              have h204 : R4 20 = ⟨p, c, 21, 1, (setTo out j).length, (setTo out j).map i32⟩ := (e4 20 (by omega)).trans ((hchain 20 (by omega) (by omega) (by omega)).trans h20)
              have hin4 : R4 18 = ⟨some (z + 1), n, 4, 1, n, tab n (fun i => .bool (decide (i < j) && !out i))⟩ := (e4 18 (by omega)).trans hBz.ins
              have hRB : ∀ i, ¬ Bset i → R4 i = R i := fun i hi => (e4 i (fun e => hi (by unfold Bset; omega))).trans ((hchain i (fun e => hi (by unfold Bset; omega)) (fun e => hi (by unfold Bset; omega)) (fun e => hi (by unfold Bset; omega))).trans (hRx i hi))
              have hlen := setTo_len out j
              cases ho : out j with
              | true =>
                rw [ho] at cT2
                have hb5 : Bs R4 n z (z + 1) rv wv out (j + 1) := hBz.next hfr hflw hblk4 (fun i hi => e4 i (by omega)) (by omega) (hin4.trans (by
                  simp only [Row.mk.injEq, true_and]
                  exact tab_congr (fun i _ => by
                    by_cases e : i = j
                    · subst e; simp [ho]
                    · have : decide (i < j) = decide (i < j + 1) := by rw [decide_eq_decide]; omega
                      rw [this])))
                have HB5 : Hid _ := hb5
                have HF5 : Hid _ := f4
                clear hb5 f4 hBz hfr hflw hblk4
                go_wp2_with fail
                refine HK9.out _ _ ?_
                go_wp2_with fail
                go_roundg (n - (j + 1))
                case measure => omega
                case rel => exact ⟨j + 1, R4, p, c, by go_num, by omega, by omega, HF5.out, HB5.out, hRB, by rw [setTo_out ho]; exact h204, by rw [setTo_out ho]⟩
              | false =>
                rw [ho] at cT2
                have hwj : IntKind.i32.wrap (j : Int) = (j : Int) := by rw [IntKind.wrap_i32]; omega
                have HCELL : Hid (∀ g cap w6, Fam w0 w6 (put R4 20 ⟨some g, cap, 21, 1, (setTo out j).length + 1, (setTo out j).map i32 ++ [i32 j]⟩) E → (∃ v, w6.cell? ⟨z + 1, j, none⟩ = some v) ∧ w6.frozen? ⟨z + 1, j, none⟩ = false ∧
                    ∃ R5, Fam w0 (w6.setCell ⟨z + 1, j, none⟩ (.bool true)) R5 E ∧ Bs R5 n z (z + 1) rv wv out (j + 1) ∧ (∀ i, ¬ Bset i → R5 i = R i) ∧ R5 20 = ⟨some g, cap, 21, 1, (setTo out (j + 1)).length, (setTo out (j + 1)).map i32⟩) := by
                  intro g cap w6 h6
                  have e18 : put R4 20 ⟨some g, cap, 21, 1, (setTo out j).length + 1, (setTo out j).map i32 ++ [i32 j]⟩ 18 = ⟨some (z + 1), n, 4, 1, n, tab n (fun i => .bool (decide (i < j) && !out i))⟩ := by rw [put_ne (by omega)]; exact hin4
                  have h7 := h6.set (i := 18) (b := z + 1) (j := j) (v := .bool true) (by rw [e18])
                  refine ⟨⟨_, h6.cell (i := 18) (by rw [e18]) (by rw [e18]; exact tab_get hj)⟩, h6.free (i := 18) (by rw [e18]) j, _, h7, ?_, fun i hi => ?_, ?_⟩
                  · refine hBz.next hfr hflw ?_ (fun i hi => by rw [put_ne (by omega), put_ne (by omega)]; exact e4 i (by omega)) (by omega) ?_
                    · obtain ⟨f, q1, q2⟩ := hblk4
                      refine ⟨f, by rw [put_ne (by omega), put_ne (by omega)]; exact q1, fun i hi => ?_⟩
                      rw [put_ne (by omega), put_ne (by omega), put_ne (by omega), put_ne (by omega)]
                      exact q2 i hi
                    · rw [put_eq, e18]
                      simp only [Row.mk.injEq, true_and]
                      refine tab_set (by simp [ho]) (fun i hi => ?_)
                      have : decide (i < j + 1) = decide (i < j) := by rw [decide_eq_decide]; omega
                      rw [this]
                  · rw [put_ne (fun e => hi (by unfold Bset; omega)), put_ne (fun e => hi (by unfold Bset; omega))]; exact hRB i hi
                  · rw [put_ne (by omega), put_eq, setTo_in ho]; simp
                have HROW : Hid _ := h204
                clear hBz hfr hflw hblk4 h204
                go_wp2_with (at_builtin; refine wpList_fam_app (by rfl) _ _ _ (by rfl) 21 i0 _ 1 4 Yba.underlying22 hi0 hz0 hz1 hz2 rfl (by omega) (by omega) R4 20 p c (setTo out j).length ((setTo out j).map i32) HROW.out (by first | exact f4.alloc _ | exact (f4.alloc _).drew) (by rfl) (by omega) ⟨w5.heap.size, 0, none⟩ 1 [i32 j] (by rfl) (by rfl) (World.news_of_block (cs := #[i32 j]) (t := 21) (fr := (0, 0)) (heap_alloc_new w5 _)) (by simp [Value.oneCell']) ?_; intro gg cap w6 h6; obtain ⟨⟨vv, q1⟩, q2, q3⟩ := HCELL.out gg cap w6 h6)
                refine HK9.out _ _ ?_
                go_wp2_with fail
                go_roundg (n - (j + 1))
                case measure => omega
                case rel =>
                  obtain ⟨R5, r1, r2, r3, r4⟩ := q3
                  exact ⟨j + 1, R5, some gg, cap, by go_num, by omega, by omega, r1, r2, r3, r4, by rw [setTo_in ho]; simp⟩
    · obtain rfl : j = n := by omega
      have j1 : ¬ (j : Int) < (j : Int) := by omega
      have HFF : Hid _ := hF
      clear hF
      go_wp2_with fail
      go_ret3
      exact ⟨Rx, z, p, c, rfl, HFF.out, hB, h20, hRx⟩
end Go.Proofs.Ybulkajny
