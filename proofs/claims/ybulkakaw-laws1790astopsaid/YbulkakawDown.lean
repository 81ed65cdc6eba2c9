import Derived.Test.YbulkakawQueue
namespace Go.Proofs.Ybulkakaw
open Go.RowKit Go.Sort
variable {base : Nat} {B : Nat → Nat} {m : Nat} {due : Nat → Int} {run : Nat → Bool} {idx : Nat → Int} {K g c : Nat} {xs : Array Nat} {w w' : World}
section
variable {α : Type} [Inhabited α] (lt : α → α → Bool)
theorem hd_end {n r : Nat} (d : Array α) (h : n ≤ 2 * r + 1) : heapDown lt n r d = d := sd_end (revLt lt) d h
theorem hd_right_stop {n r : Nat} (d : Array α) (h1 : 2 * r + 2 < n) (h2 : lt d[2 * r + 2]! d[2 * r + 1]! = true) (h3 : lt d[2 * r + 2]! d[r]! = false) : heapDown lt n r d = d :=
  sd_right_stop (revLt lt) d h1 (by simpa [revLt] using h2) (by simpa [revLt] using h3)
theorem hd_right_go {n r : Nat} (d : Array α) (h1 : 2 * r + 2 < n) (h2 : lt d[2 * r + 2]! d[2 * r + 1]! = true) (h3 : lt d[2 * r + 2]! d[r]! = true) : heapDown lt n r d = heapDown lt n (2 * r + 2) (swp d r (2 * r + 2)) := by
  have := sd_right_go (revLt lt) (F := 0) d h1 (by simpa [revLt] using h2) (by simpa [revLt] using h3)
  simpa [heapDown] using this
theorem hd_left_stop {n r : Nat} (d : Array α) (h0 : 2 * r + 1 < n) (h1 : 2 * r + 2 < n → lt d[2 * r + 2]! d[2 * r + 1]! = false) (h3 : lt d[2 * r + 1]! d[r]! = false) : heapDown lt n r d = d :=
  sd_left_stop (revLt lt) d h0 (by simpa [revLt] using h1) (by simpa [revLt] using h3)
theorem hd_left_go {n r : Nat} (d : Array α) (h0 : 2 * r + 1 < n) (h1 : 2 * r + 2 < n → lt d[2 * r + 2]! d[2 * r + 1]! = false) (h3 : lt d[2 * r + 1]! d[r]! = true) : heapDown lt n r d = heapDown lt n (2 * r + 1) (swp d r (2 * r + 1)) := by
  have := sd_left_go (revLt lt) (F := 0) d h0 (by simpa [revLt] using h1) (by simpa [revLt] using h3)
  simpa [heapDown] using this
end


/-- What 'down' from r0 tells: it moved, and then a child lay below r0; or it did not, and none did. -/
def Told (lt : Nat → Nat → Bool) (n r0 : Nat) (d : Array Nat) (b : Bool) : Prop :=
  (b = true ∧ ∃ k, (k = 2 * r0 + 1 ∨ k = 2 * r0 + 2) ∧ k < n ∧ lt d[k]! d[r0]! = true) ∨
  (b = false ∧ heapDown lt n r0 d = d ∧ ∀ k, (k = 2 * r0 + 1 ∨ k = 2 * r0 + 2) → k < n → lt d[k]! d[r0]! = false)

set_option maxRecDepth 100000 in
set_option maxHeartbeats 1600000 in
theorem down_any (h : Qs base B m due run idx K g c xs w) (hix : ∀ k, k < xs.size → idx xs[k]! = (k : Int)) (hnd : xs.toList.Nodup) (r0 n : Nat) (hr0 : r0 < n) (hn : n ≤ xs.size) (hsz : xs.size < 4611686018427387904) :
    Calls Yba.prog 23 #[.iface 61 (.pointer (some ⟨K, 2, none⟩)), .int .i64 r0, .int .i64 n] w fun e w' => (∃ b, e = .returned (.bool b) ∧ Told (ld due) n r0 xs b) ∧ ∃ idx', Mv base B m due run K g c idx xs w idx' (heapDown (ld due) n r0 xs) w' := by
  go_enter Yba.func23, Yba.ntmps23
  go_wp2_with fail
  go_loopg [7] (n - r0) (fun k s7 wr => ∃ (r : Nat) (dk : Array Nat) (ik : Nat → Int), s7 = .int .i64 r ∧ r0 ≤ r ∧ r < n ∧ n - r ≤ k ∧ Mv base B m due run K g c idx xs w ik dk wr ∧ heapDown (ld due) n r dk = heapDown (ld due) n r0 xs ∧
    ((r = r0 ∧ dk = xs) ∨ (r0 < r ∧ ∃ k, (k = 2 * r0 + 1 ∨ k = 2 * r0 + 2) ∧ k < n ∧ ld due xs[k]! xs[r0]! = true)))
  case atStart => exact ⟨r0, xs, idx, rfl, Nat.le_refl _, hr0, Nat.le_refl _, Mv.refl h hix, rfl, .inl ⟨rfl, rfl⟩⟩
  case round =>
    obtain ⟨r, dk, ik, rfl, hr1, hrn, hk0, hmv, heq, hor⟩ := hrel
    have hds := hmv.sz
    have HM : Hid (Mv base B m due run K g c idx xs w ik dk wr) := hmv
    have HE : Hid (heapDown (ld due) n r dk = heapDown (ld due) n r0 xs) := heq
    have HO : Hid ((r = r0 ∧ dk = xs) ∨ (r0 < r ∧ ∃ k, (k = 2 * r0 + 1 ∨ k = 2 * r0 + 2) ∧ k < n ∧ ld due xs[k]! xs[r0]! = true)) := hor
    have hcell := hmv.qs.cell
    rw [hds] at hcell
    clear hmv heq hor
    -- the end of a round that does not move
    have END : Hid (∀ (w1 : World), Mv base B m due run K g c idx xs w ik dk w1 → heapDown (ld due) n r dk = dk → (∀ k, (k = 2 * r + 1 ∨ k = 2 * r + 2) → k < n → ld due dk[k]! dk[r]! = false) →
        (∃ b, Ending.returned (Value.bool (decide (r0 < r))) = .returned (.bool b) ∧ Told (ld due) n r0 xs b) ∧ ∃ idx', Mv base B m due run K g c idx xs w idx' (heapDown (ld due) n r0 xs) w1) := by
      intro w1 hm1 he hno
      refine ⟨⟨_, rfl, ?_⟩, ik, ?_⟩
      · rcases HO.out with ⟨e1, e2⟩ | ⟨e1, e2⟩
        · subst e1 e2
          exact .inr ⟨decide_eq_false (by omega), he, hno⟩
        · exact .inl ⟨decide_eq_true (by omega), e2⟩
      · rw [← HE.out, he]
        exact hm1
    -- a move keeps the telling
    have GO : Hid (∀ k, (k = 2 * r + 1 ∨ k = 2 * r + 2) → k < n → ld due dk[k]! dk[r]! = true → (r0 < k ∧ ∃ k, (k = 2 * r0 + 1 ∨ k = 2 * r0 + 2) ∧ k < n ∧ ld due xs[k]! xs[r0]! = true)) := by
      intro k hk hkn hl
      rcases HO.out with ⟨e1, e2⟩ | ⟨e1, e2⟩
      · subst e1 e2
        exact ⟨by omega, k, hk, hkn, hl⟩
      · exact ⟨by omega, e2⟩
    clear HO
    by_cases h0 : n ≤ 2 * r + 1
    · have h0z : (n : Int) ≤ 2 * (r : Int) + 1 := by omega
      go_wp2_with fail
      go_ret
      exact END.out _ HM.out (hd_end (ld due) dk h0) (fun k hk hkn => by omega)
    · have h0z : ¬ ((n : Int) ≤ 2 * (r : Int) + 1) := by omega
      have h0y : ¬ (2 * (r : Int) + 1 < 0) := by omega
      by_cases h1 : 2 * r + 2 < n
      · have h1z : 2 * (r : Int) + 1 + 1 < (n : Int) := by omega
        have hm := method_less ⟨K, 2, none⟩ _ wr hcell
        clear hcell
        go_wp2_with fail
        refine (less_any HM.out.qs _ hds (2 * r + 2) (2 * r + 1) _ _ (by omega) (by omega) (by omega) (by omega)).mono ?_
        rintro e w1 ⟨rfl, ho1⟩
        have HM1 : Hid (Mv base B m due run K g c idx xs w ik dk w1) := HM.out.only0 ho1
        have hcell := HM1.out.qs.cell
        rw [hds] at hcell
        clear hm ho1
        cases hL : decide (due dk[2 * r + 2]! < due dk[2 * r + 1]!) with
        | true =>
          have hm2 := method_less ⟨K, 2, none⟩ _ w1 hcell
          clear hcell
          go_wp2_with fail
          refine (less_any HM1.out.qs _ hds (2 * r + 2) r _ _ (by omega) (by omega) (by omega) (by omega)).mono ?_
          rintro e w2 ⟨rfl, ho2⟩
          have HM2 : Hid (Mv base B m due run K g c idx xs w ik dk w2) := HM1.out.only0 ho2
          have hcell := HM2.out.qs.cell
          rw [hds] at hcell
          have hms := method_swap ⟨K, 2, none⟩ _ w2 hcell
          clear hm2 ho2 hcell
          cases hl : decide (due dk[2 * r + 2]! < due dk[r]!) with
          | false =>
            go_wp2_with fail
            go_ret
            exact END.out _ HM2.out (hd_right_stop (ld due) dk h1 hL hl) (fun k hk hkn => by
                        have a1 := of_decide_eq_true hL
                        have a2 := of_decide_eq_false hl
                        rcases hk with rfl | rfl
                        · exact decide_eq_false (by omega)
                        · exact hl)
          | true =>
            go_wp2_with fail
            refine (swap_any HM2.out.qs _ hds r (2 * r + 2) _ _ (by omega) (by omega) (by omega) (by omega) (by omega) (fun e => absurd (nodup_get (HM2.out.nd hnd) (by omega) (by omega) e) (by omega))).mono ?_
            rintro e w3 ⟨rfl, q3, o3⟩
            have HM3 : Hid _ := HM2.out.swap hnd (i := r) (j := 2 * r + 2) (by omega) (by omega) (by omega) q3 o3
            clear q3 o3 hms
            go_wp2_with fail
            go_roundg (n - (2 * r + 2))
            case measure => omega
            case rel =>
              refine ⟨2 * r + 2, swp dk r (2 * r + 2), _, by go_num, by omega, by omega, by omega, HM3.out, ?_, .inr (GO.out _ (by omega) (by omega) hl)⟩
              rw [← HE.out, hd_right_go (ld due) dk h1 hL hl]
        | false =>
          have hm2 := method_less ⟨K, 2, none⟩ _ w1 hcell
          clear hcell
          go_wp2_with fail
          refine (less_any HM1.out.qs _ hds (2 * r + 1) r _ _ (by omega) (by omega) (by omega) (by omega)).mono ?_
          rintro e w2 ⟨rfl, ho2⟩
          have HM2 : Hid (Mv base B m due run K g c idx xs w ik dk w2) := HM1.out.only0 ho2
          have hcell := HM2.out.qs.cell
          rw [hds] at hcell
          have hms := method_swap ⟨K, 2, none⟩ _ w2 hcell
          clear hm2 ho2 hcell
          cases hl : decide (due dk[2 * r + 1]! < due dk[r]!) with
          | false =>
            go_wp2_with fail
            go_ret
            exact END.out _ HM2.out (hd_left_stop (ld due) dk (by omega) (fun _ => hL) hl) (fun k hk hkn => by
                        have a1 := of_decide_eq_false hL
                        have a2 := of_decide_eq_false hl
                        rcases hk with rfl | rfl
                        · exact hl
                        · exact decide_eq_false (by omega))
          | true =>
            go_wp2_with fail
            refine (swap_any HM2.out.qs _ hds r (2 * r + 1) _ _ (by omega) (by omega) (by omega) (by omega) (by omega) (fun e => absurd (nodup_get (HM2.out.nd hnd) (by omega) (by omega) e) (by omega))).mono ?_
            rintro e w3 ⟨rfl, q3, o3⟩
            have HM3 : Hid _ := HM2.out.swap hnd (i := r) (j := 2 * r + 1) (by omega) (by omega) (by omega) q3 o3
            clear q3 o3 hms
            go_wp2_with fail
            go_roundg (n - (2 * r + 1))
            case measure => omega
            case rel =>
              refine ⟨2 * r + 1, swp dk r (2 * r + 1), _, by go_num, by omega, by omega, by omega, HM3.out, ?_, .inr (GO.out _ (by omega) (by omega) hl)⟩
              rw [← HE.out, hd_left_go (ld due) dk (by omega) (fun _ => hL) hl]
      · have h1z : decide (2 * (r : Int) + 1 + 1 < (n : Int)) = false := decide_eq_false (by omega)
        have HM1 : Hid (Mv base B m due run K g c idx xs w ik dk wr) := HM.out
        have hm2 := method_less ⟨K, 2, none⟩ _ wr hcell
        clear hcell
        go_wp2_with fail
        refine (less_any HM1.out.qs _ hds (2 * r + 1) r _ _ (by omega) (by omega) (by omega) (by omega)).mono ?_
        rintro e w2 ⟨rfl, ho2⟩
        have HM2 : Hid (Mv base B m due run K g c idx xs w ik dk w2) := HM1.out.only0 ho2
        have hcell := HM2.out.qs.cell
        rw [hds] at hcell
        have hms := method_swap ⟨K, 2, none⟩ _ w2 hcell
        clear hm2 ho2 hcell
        cases hl : decide (due dk[2 * r + 1]! < due dk[r]!) with
        | false =>
          go_wp2_with fail
          go_ret
          exact END.out _ HM2.out (hd_left_stop (ld due) dk (by omega) (fun h => absurd h h1) hl) (fun k hk hkn => by
                      rcases hk with rfl | rfl
                      · exact hl
                      · exact absurd hkn h1)
        | true =>
          go_wp2_with fail
          refine (swap_any HM2.out.qs _ hds r (2 * r + 1) _ _ (by omega) (by omega) (by omega) (by omega) (by omega) (fun e => absurd (nodup_get (HM2.out.nd hnd) (by omega) (by omega) e) (by omega))).mono ?_
          rintro e w3 ⟨rfl, q3, o3⟩
          have HM3 : Hid _ := HM2.out.swap hnd (i := r) (j := 2 * r + 1) (by omega) (by omega) (by omega) q3 o3
          clear q3 o3 hms
          go_wp2_with fail
          go_roundg (n - (2 * r + 1))
          case measure => omega
          case rel =>
            refine ⟨2 * r + 1, swp dk r (2 * r + 1), _, by go_num, by omega, by omega, by omega, HM3.out, ?_, .inr (GO.out _ (by omega) (by omega) hl)⟩
            rw [← HE.out, hd_left_go (ld due) dk (by omega) (fun h => absurd h h1) hl]
end Go.Proofs.Ybulkakaw
