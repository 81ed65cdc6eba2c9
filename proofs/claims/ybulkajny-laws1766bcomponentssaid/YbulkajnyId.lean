import Derived.Test.YbulkajnyIds
import Derived.Maps.OwnOps
namespace Go.Proofs.Ybulkajny
open Go.RowKit Go.Sort Go.Maps

/-- The rows of newPrecedence's captured variables: 42 the map's box, 43, 44 the boxes of 'written', 'read', 45, 46 their rows. -/
structure Cap (R : Nat → Row) (x : Nat → Nat) (mb : Nat) (wl rl : List Nat) : Prop where
  b42 : R 42 = ⟨some (x 42), 1, 71, 1, 1, [.map (some mb)]⟩
  b43 : R 43 = ⟨some (x 43), 1, 22, 1, 1, [(R 45).val]⟩
  b44 : R 44 = ⟨some (x 44), 1, 22, 1, 1, [(R 46).val]⟩
  r45 : ∃ p c, R 45 = ⟨p, c, 21, 1, wl.length, wl.map i32⟩
  r46 : ∃ p c, R 46 = ⟨p, c, 21, 1, rl.length, rl.map i32⟩

def IdPost (w0 : World) (R : Nat → Row) (x : Nat → Nat) (mb : Nat) (ks wl rl : List Nat) (y : Nat) (e : Ending) (w' : World) : Prop :=
  ∃ R' o' D' ks' wl' rl', e = .returned (i32 (ks'.idxOf y)) ∧ Fam w0 w' R' (some (mb, o')) ∧ Ids w' mb ks' D' ∧ Cap R' x mb wl' rl' ∧ y ∈ ks' ∧ (∀ i, ¬ (43 ≤ i ∧ i ≤ 46) → R' i = R i) ∧
    ((y ∈ ks ∧ ks' = ks ∧ wl' = wl ∧ rl' = rl) ∨ (y ∉ ks ∧ ks' = ks ++ [y] ∧ wl' = wl ++ [0] ∧ rl' = rl ++ [0]))

theorem idxOf_of {ks : List Nat} {i y : Nat} (hd : ks.Nodup) (h : ks[i]? = some y) : ks.idxOf y = i := by
  obtain ⟨hi, rfl⟩ := List.getElem?_eq_some_iff.1 h
  exact hd.idxOf_getElem i hi

set_option maxRecDepth 100000 in
set_option maxHeartbeats 1600000 in
theorem id_any {w0 w : World} {R : Nat → Row} {x : Nat → Nat} {mb : Nat} {o : Obj} {ks wl rl : List Nat} {D : DataW Unit} (h : Fam w0 w R (some (mb, o))) (hI : Ids w mb ks D) (hC : Cap R x mb wl rl) {v : Nat} (hl : wl.length ≤ 100) (hr : rl.length ≤ 100) :
    Calls Yba.prog 25 #[.string (keyS v), .pointer (some ⟨x 42, 0, none⟩), .pointer (some ⟨x 43, 0, none⟩), .pointer (some ⟨x 44, 0, none⟩)] w (IdPost w0 R x mb ks wl rl (v % 4)) := by
  have hlt : v % 4 < 4 := Nat.mod_lt _ (by omega)
  have hkey : keyOf Yba.prog 9 (.string (keyS v)) = some (kLit (v % 4)) := by rw [(kLit_mod v).1]; exact keyOf_any v
  have cM : w.cell? ⟨x 42, 0, none⟩ = some (.map (some mb)) := h.cell (i := 42) (by rw [hC.b42]) (by rw [hC.b42]; rfl)
  have hhas := hI.has (v % 4) hlt
  have hown := hI.own
  by_cases hm : v % 4 ∈ ks
  · have ht : Maps.has D (kLit (v % 4)) = true := by rw [hhas]; simp [hm]
    obtain ⟨i, hi⟩ := List.getElem?_of_mem hm
    have hat := hI.at_ i _ hi
    have hidx := idxOf_of hI.nd hi
    have HP : Hid (IdPost w0 R x mb ks wl rl (v % 4) (.returned (.int .i32 (i : Int))) w) := ⟨R, o, D, ks, wl, rl, by rw [hidx], h, hI, hC, hm, fun _ _ => rfl, .inl ⟨hm, rfl, rfl, rfl⟩⟩
    clear hI h hC
    generalize v % 4 = y at *
    go_enter Yba.func25, Yba.ntmps25
    go_wp2_with (at_lookup; refine wpList_lookup_own_ok_int _ (by rfl) _ _ 71 (by rfl) 9 21 .i32 law9 Yba.underlying71 Yba.underlying21 (zero21 _) mb ks.length D (by rfl) hown _ (kLit y) (by rfl) hkey ?_; intro c hc _; rw [ht]; obtain rfl : c = (i : Int) := (by rw [hat] at hc; injection hc with hc; injection hc with _ hc; exact hc.symm))
    go_ret
    exact HP.out
  · have hf : Maps.has D (kLit (v % 4)) = false := by rw [hhas]; simp [hm]
    obtain ⟨i0, hi0, hz0, hz1, hz2⟩ := info_parts info21
    obtain ⟨p5, c5, h45⟩ := hC.r45
    obtain ⟨p6, c6, h46⟩ := hC.r46
    have hsize := hI.size
    have hks := hI.le
    have hwk : IntKind.i32.wrap (ks.length : Int) = (ks.length : Int) := by rw [IntKind.wrap_i32]; omega
    have HW1 : Hid (∀ w1, w1.ownsMap Yba.prog 9 (plainElem (H := Unit) Yba.prog 21) mb (ks.length + 1) (D.put (kLit (v % 4)) (.lit (.int .i32 (ks.length : Int)))) → w.grownBy w1 (some mb) → ∃ o1, Fam w0 w1 R (some (mb, o1)) ∧ Ids w1 mb (ks ++ [v % 4]) (D.put (kLit (v % 4)) (.lit (.int .i32 (ks.length : Int)))) ∧ w1.cell? ⟨x 43, 0, none⟩ = some (.slice (p5.map fun b => ⟨b, 0, none⟩) wl.length c5)) := by
      intro w1 h1 hg
      have hI1 := hI.put hlt hm h1
      obtain ⟨es, clock, hb, _⟩ := h1
      have hF1 := h.turnE ((only_grownBy hg).mono (fun k _ hk => by injection hk)) hb
      exact ⟨_, hF1, hI1, hF1.cell (i := 43) (by rw [hC.b43]) (by rw [hC.b43, h45]; rfl)⟩
    have HW2 : Hid (∀ w1 o1 g cap w2, Fam w0 w1 R (some (mb, o1)) → Ids w1 mb (ks ++ [v % 4]) (D.put (kLit (v % 4)) (.lit (.int .i32 (ks.length : Int)))) → Fam w0 w2 (put R 45 ⟨some g, cap, 21, 1, wl.length + 1, wl.map i32 ++ [i32 0]⟩) (some (mb, o1)) →
        (∃ u, w2.cell? ⟨x 43, 0, none⟩ = some u) ∧ w2.frozen? ⟨x 43, 0, none⟩ = false ∧ ∃ R2, Fam w0 (w2.setCell ⟨x 43, 0, none⟩ (.slice (some ⟨g, 0, none⟩) (wl.length + 1) cap)) R2 (some (mb, o1)) ∧ Cap R2 x mb (wl ++ [0]) rl ∧ (∀ i, ¬ (43 ≤ i ∧ i ≤ 46) → R2 i = R i) ∧ R2 46 = ⟨p6, c6, 21, 1, rl.length, rl.map i32⟩ ∧
          (w2.setCell ⟨x 43, 0, none⟩ (.slice (some ⟨g, 0, none⟩) (wl.length + 1) cap)).cell? ⟨x 44, 0, none⟩ = some (.slice (p6.map fun b => ⟨b, 0, none⟩) rl.length c6)) := by
      intro w1 o1 g cap w2 hF1 hI1 hF2
      have e43 : put R 45 ⟨some g, cap, 21, 1, wl.length + 1, wl.map i32 ++ [i32 0]⟩ 43 = _ := (put_ne (by omega)).trans hC.b43
      have hs := hF2.set (i := 43) (b := x 43) (j := 0) (v := .slice (some ⟨g, 0, none⟩) (wl.length + 1) cap) (by rw [e43])
      rw [e43] at hs
      have q44 : put (put R 45 ⟨some g, cap, 21, 1, wl.length + 1, wl.map i32 ++ [i32 0]⟩) 43 ⟨some (x 43), 1, 22, 1, 1, [(R 45).val].set 0 (.slice (some ⟨g, 0, none⟩) (wl.length + 1) cap)⟩ 44 = ⟨some (x 44), 1, 22, 1, 1, [(R 46).val]⟩ := by rw [put_ne (by omega), put_ne (by omega)]; exact hC.b44
      refine ⟨⟨_, hF2.cell (i := 43) (by rw [e43]) (by rw [e43]; rfl)⟩, hF2.free (i := 43) (by rw [e43]) 0, _, hs, ⟨?_, ?_, ?_, ⟨some g, cap, ?_⟩, ?_⟩, fun i hi => ?_, ?_, hs.cell (i := 44) (by rw [q44]) (by rw [q44, h46]; rfl)⟩
      · rw [put_ne (by omega), put_ne (by omega)]; exact hC.b42
      · rw [put_eq, put_ne (by omega), put_eq]; rfl
      · rw [q44, put_ne (by omega), put_ne (by omega)]
      · rw [put_ne (by omega), put_eq]; simp
      · rw [put_ne (by omega), put_ne (by omega)]; exact hC.r46
      · rw [put_ne (by omega), put_ne (by omega)]
      · rw [put_ne (by omega), put_ne (by omega)]; exact h46
    have HW3 : Hid (∀ w3 o1 R2 g cap w4, (∃ w1, Ids w1 mb (ks ++ [v % 4]) (D.put (kLit (v % 4)) (.lit (.int .i32 (ks.length : Int)))) ∧ w1.heap[mb]? = some o1) → Cap R2 x mb (wl ++ [0]) rl → (∀ i, ¬ (43 ≤ i ∧ i ≤ 46) → R2 i = R i) → Fam w0 w3 R2 (some (mb, o1)) → Fam w0 w4 (put R2 46 ⟨some g, cap, 21, 1, rl.length + 1, rl.map i32 ++ [i32 0]⟩) (some (mb, o1)) →
        (∃ u, w4.cell? ⟨x 44, 0, none⟩ = some u) ∧ w4.frozen? ⟨x 44, 0, none⟩ = false ∧ IdPost w0 R x mb ks wl rl (v % 4) (.returned (.int .i32 (ks.length : Int))) (w4.setCell ⟨x 44, 0, none⟩ (.slice (some ⟨g, 0, none⟩) (rl.length + 1) cap))) := by
      intro w3 o1 R2 g cap w4 hI1 hC2 hR2 hF3 hF4
      obtain ⟨w1, hI1, ho1⟩ := hI1
      have e44 : put R2 46 ⟨some g, cap, 21, 1, rl.length + 1, rl.map i32 ++ [i32 0]⟩ 44 = _ := (put_ne (by omega)).trans hC2.b44
      have hs := hF4.set (i := 44) (b := x 44) (j := 0) (v := .slice (some ⟨g, 0, none⟩) (rl.length + 1) cap) (by rw [e44])
      rw [e44] at hs
      refine ⟨⟨_, hF4.cell (i := 44) (by rw [e44]) (by rw [e44]; rfl)⟩, hF4.free (i := 44) (by rw [e44]) 0, _, o1, _, ks ++ [v % 4], wl ++ [0], rl ++ [0], ?_, hs, hI1.block ((hs.ext mb o1 rfl).1.trans ho1.symm), ⟨?_, ?_, ?_, ?_, ⟨some g, cap, ?_⟩⟩, by simp, fun i hi => ?_, .inr ⟨hm, rfl, rfl, rfl⟩⟩
      · have : (ks ++ [v % 4]).idxOf (v % 4) = ks.length := idxOf_of hI1.nd (by simp)
        rw [this]
      · rw [put_ne (by omega), put_ne (by omega)]; exact hC2.b42
      · rw [put_ne (by omega), put_ne (by omega), put_ne (by omega), put_ne (by omega)]; exact hC2.b43
      · rw [put_eq, put_ne (by omega), put_eq]; rfl
      · rw [put_ne (by omega), put_ne (by omega)]; exact hC2.r45
      · rw [put_ne (by omega), put_eq]; simp
      · rw [put_ne (by omega), put_ne (by omega)]; exact hR2 i hi
    have H45 : Hid _ := h45
    clear hI h hC h45 h46 hhas
    generalize v % 4 = y at *
    go_enter Yba.func25, Yba.ntmps25
    go_wp2_with (first | (at_lookup; refine wpList_lookup_own_ok_int _ (by rfl) _ _ 71 (by rfl) 9 21 .i32 law9 Yba.underlying71 Yba.underlying21 (zero21 _) mb ks.length D (by rfl) hown _ (kLit y) (by rfl) hkey ?_; intro c hc _; rw [hf]) | (at_len; refine wpList_len_own _ (by rfl) _ 71 (by rfl) 9 21 Yba.underlying71 _ mb ks.length D (by rfl) hown ?_; rw [hsize]) | (at_mapUpdate; refine wpList_mapUpdate_own _ (by rfl) _ _ _ 71 (by rfl) 9 21 law9 Yba.underlying71 _ mb ks.length D (by rfl) hown (by unfold maxLen; omega) _ _ (kLit y) (by rfl) (by rfl) hkey _ [] (plainElem_int Yba.underlying21 (WalkArith.wf_i32 ⟨by omega, by omega⟩)) ?_; intro w1 hown1 hg1; obtain ⟨o1, hF1, hI1, c43⟩ := HW1.out w1 hown1 hg1) | (at_builtin; refine wpList_fam_app (by rfl) _ _ _ (by rfl) 21 i0 _ 1 4 Yba.underlying22 hi0 hz0 hz1 hz2 rfl (by omega) (by omega) R 45 p5 c5 wl.length (wl.map i32) H45.out (by first | exact hF1.alloc _ | exact (hF1.alloc _).drew) (by rfl) (by omega) ⟨w1.heap.size, 0, none⟩ 1 [i32 0] (by rfl) (by rfl) (World.news_of_block (cs := #[i32 0]) (t := 21) (fr := (0, 0)) (heap_alloc_new w1 _)) (by simp [Value.oneCell']) ?_; intro g1 cap1 w2 hF2; obtain ⟨⟨u1, q1⟩, q2, R2, q3, q4, q5, q6, q7⟩ := HW2.out w1 o1 g1 cap1 w2 hF1 hI1 hF2; have hnew : ((w2.setCell ⟨x 43, 0, none⟩ (.slice (some ⟨g1, 0, none⟩) (wl.length + 1) cap1)).alloc (.cells #[i32 0] 21)).heap[w2.heap.size]? = some (.cells #[i32 0] 21 (0, 0)) := (by have hh := heap_alloc_new (w2.setCell ⟨x 43, 0, none⟩ (.slice (some ⟨g1, 0, none⟩) (wl.length + 1) cap1)) (.cells #[i32 0] 21); have hs : (w2.setCell ⟨x 43, 0, none⟩ (.slice (some ⟨g1, 0, none⟩) (wl.length + 1) cap1)).heap.size = w2.heap.size := (by simp [World.setCell]); rw [hs] at hh; exact hh); have HIX : Hid (∃ w1, Ids w1 mb (ks ++ [y]) (D.put (kLit y) (.lit (.int .i32 (ks.length : Int)))) ∧ w1.heap[mb]? = some o1) := ⟨w1, hI1, (hF1.ext mb o1 rfl).1⟩; have HNEW : Hid _ := hnew; clear hnew) | (at_builtin; refine wpList_fam_app (by rfl) _ _ _ (by rfl) 21 i0 _ 1 4 Yba.underlying22 hi0 hz0 hz1 hz2 rfl (by omega) (by omega) R2 46 p6 c6 rl.length (rl.map i32) q6 (by first | exact q3.alloc _ | exact (q3.alloc _).drew) (by rfl) (by omega) ⟨w2.heap.size, 0, none⟩ 1 [i32 0] (by rfl) (by rfl) (World.news_of_block (cs := #[i32 0]) (t := 21) (fr := (0, 0)) HNEW.out) (by simp [Value.oneCell']) ?_; intro g2 cap2 w4 hF4; obtain ⟨⟨u2, r1⟩, r2, r3⟩ := HW3.out _ o1 R2 g2 cap2 w4 HIX.out q4 q5 q3 hF4; have HR3 : Hid _ := r3; clear r3))
    go_ret
    exact HR3.out
end Go.Proofs.Ybulkajny
