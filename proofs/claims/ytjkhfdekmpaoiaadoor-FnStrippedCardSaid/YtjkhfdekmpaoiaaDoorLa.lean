/- The walk of the law FnStripped. -/
import Derived.Test.YtjkhfdekmpaoiaaDoorUb
import Derived.Test.YtjkhfdekmpaoiaaDoorUc
import Derived.Test.YtjkhfdekmpaoiaaDoorIe
import Derived.Test.YtjkhfdekmpaoiaaDoorPb
namespace Go.Proofs.YtjkhfdekmpaoiaaDoor
open Go.RowKit Go.Proofs.YtjkhfdekmpaoiaaDoorW.PrintWords Go.Proofs.YtjkhfdekmpaoiaaDoor.Kinds
set_option linter.unusedVariables false
set_option linter.unusedSimpArgs false

theorem good_strips {t : S24} (g : Good t) : ∃ n y, Strips n t y := by
  induction g with
  | uno K T S hk t0 g0 ih =>
    simp only [ones, List.mem_cons, Prod.mk.injEq, List.not_mem_nil, or_false] at hk
    rcases hk with ⟨rfl, _⟩ | ⟨rfl, _⟩
    · obtain ⟨n, y, h⟩ := ih
      exact ⟨n + 1, y, .step n t0 y h⟩
    · exact ⟨0, _, .stop _ (show (⟨#[115, 108, 105, 99, 101, 116, 121, 112, 101]⟩ : ByteArray) ≠ _ by decide)⟩
  | duo K T S hk t0 t1 g0 g1 ih0 ih1 =>
    simp only [twos, List.mem_cons, Prod.mk.injEq, List.not_mem_nil, or_false] at hk
    refine ⟨0, _, .stop _ ?_⟩
    rcases hk with ⟨rfl, _⟩ | ⟨rfl, _⟩ | ⟨rfl, _⟩ | ⟨rfl, _⟩ | ⟨rfl, _⟩ <;> (simp only; decide)
  | lit K q hk s =>
    simp only [lits, List.mem_cons, Prod.mk.injEq, List.not_mem_nil, or_false] at hk
    refine ⟨0, _, .stop _ ?_⟩
    rcases hk with ⟨rfl, _⟩ | ⟨rfl, _⟩ | ⟨rfl, _⟩ | ⟨rfl, _⟩ | ⟨rfl, _⟩ <;> (simp only; decide)
  | _ => exact ⟨0, _, .stop _ (by simp only; decide)⟩
theorem zz_tells (t : S24) : ∃ r, laws_zzFits3.f t.f0 t.f1 t.f2 = some r := by
  unfold laws_zzFits3.f
  repeat' split
  all_goals exact ⟨_, rfl⟩
set_option maxHeartbeats 2000000 in
theorem fnStripped_any (t : S24) (hf : Fits t) (w : World) (A : Option Addr) (c : Nat) (hC : Kd.C k24 w A t.f2.length t.f2) (hc : t.f2.length ≤ c) (hl : Laid w) :
    Calls Tryd.prog 3 #[.agg #[.string t.f0, .string t.f1, .slice A t.f2.length c]] w fun e w' => e = .returned (.bool true) ∧ Below w.heap.size w w' := by
  obtain ⟨r, hr⟩ := zz_tells t
  have HC := Aside0.mk hC
  have HR := Aside0.mk hr
  have HL := Aside0.mk hl
  have HF := Aside0.mk hf
  clear hC hr hl hf
  cases r with
  | false =>
    go_enter Tryd.func3, Tryd.ntmps3
    go_wp2_with (first | (go_at_call 5; (with_reducible refine (laws_zzFits3.calls t.f0 t.f1 A c t.f2 false _ (Kd.C_alloc HC.out _) hc HR.out).mono ?_); rintro e w1 ⟨rfl, hb⟩; have HB := Aside0.mk (below_step (below_alloc (Below.refl _ _) _) hb); clear hb))
    go_ret
    exact ⟨rfl, HB.out⟩
  | true =>
    have hK := blk_new w (.cells #[.string t.f0, .string t.f1, .slice A t.f2.length c] 24)
    have HK := Aside0.mk hK
    clear hK
    go_enter Tryd.func3, Tryd.ntmps3
    go_wp2_with (first | (go_at_call 5; (with_reducible refine (laws_zzFits3.calls t.f0 t.f1 A c t.f2 true _ (Kd.C_alloc HC.out _) hc HR.out).mono ?_); rintro e w1 ⟨rfl, hb⟩; have HB := Aside0.mk (below_step (below_alloc (Below.refl _ _) _) hb); have HK1 := Aside0.mk (blk_below HK.out hb); clear hb))
    have g0 : w1.cell? ⟨w.heap.size, 0, none⟩ = some (.string t.f0) := (blk_cell HK1.out 0).trans rfl
    have g1 : w1.cell? ⟨w.heap.size, 1, none⟩ = some (.string t.f1) := (blk_cell HK1.out 1).trans rfl
    have g2 : w1.cell? ⟨w.heap.size, 2, none⟩ = some (.slice A t.f2.length c) := (blk_cell HK1.out 2).trans rfl
    have HW := Aside0.mk (below_drew (Below.refl w1.heap.size w1))
    refine wp_region_held_drew (S := fun w' => w'.cell? ⟨w.heap.size, 0, none⟩ = some (.string t.f0) ∧ w'.cell? ⟨w.heap.size, 1, none⟩ = some (.string t.f1) ∧ w'.cell? ⟨w.heap.size, 2, none⟩ = some (.slice A t.f2.length c)) (by kernel_rfl) ⟨g0, g1, g2⟩ (fun hHeld => ?_)
    refine wpAnyH_take (i := 0) (oi := ⟨some 6, _, _, _, _, _⟩) (v := (.agg #[.string t.f0, .string t.f1, .slice A t.f2.length c])) rfl (by kernel_rfl) (by kernel_rfl) (by kernel_rfl) (fun _ _ _ h => h) (Or.inl ⟨by rfl, by (intro u hu; (try dsimp only at hu); go_simp)⟩) (by assumption) ?_
    simp only [Act.put, List.setIfInBounds_toArray, List.set_cons_zero, List.set_cons_succ]
    refine wpAnyH_ready (rs := [1]) (by kernel_rfl) (by simp) ?_
    refine AllReadyH.cons rfl (fun K hK => ?_) AllReadyH.nil
    go_simp
    ((with_reducible refine ((isMade_go t HF.out).go _ A c (Kd.C_below (Kd.C_below HC.out HB.out) HW.out) hc).mono ?_); rintro e w2 ⟨b, rfl, hg, hb⟩)
    have hn := Aside0.mk (below_step HW.out hb)
    clear HW
    have HW := hn
    clear hn hb
    cases b with
    | false =>
      refine hK.out _ _ ⟨cell_up HW.out g0, cell_up HW.out g1, cell_up HW.out g2⟩ (fun hHeld => ?_)
      clear hK K
      (try simp only [Act.put, List.setIfInBounds_toArray, List.set_cons_zero, List.set_cons_succ])
      refine wpAnyH_take (i := 2) (oi := ⟨some 8, _, _, _, _, _⟩) (v := (.bool true)) rfl (by kernel_rfl) (by kernel_rfl) (by kernel_rfl) (fun _ _ _ h => h) (Or.inl ⟨by rfl, by (intro u hu; (try dsimp only at hu); go_simp)⟩) (by assumption) ?_
      simp only [Act.put, List.setIfInBounds_toArray, List.set_cons_zero, List.set_cons_succ]
      refine wpAnyH_take (i := 3) (oi := ⟨some 9, _, _, _, _, _⟩) (v := (.bool true)) rfl (by kernel_rfl) (by kernel_rfl) (by kernel_rfl) (fun _ _ _ h => h) (Or.inl ⟨by rfl, by (intro u hu; (try dsimp only at hu); go_simp)⟩) (by assumption) ?_
      simp only [Act.put, List.setIfInBounds_toArray, List.set_cons_zero, List.set_cons_succ]
      refine wpAnyH_take (i := 4) (oi := ⟨some 10, _, _, _, _, _⟩) (v := undef) rfl (by kernel_rfl) (by kernel_rfl) (by kernel_rfl) (fun _ _ _ h => h) (Or.inr ⟨by rfl, rfl⟩) (by assumption) ?_
      simp only [Act.put, List.setIfInBounds_toArray, List.set_cons_zero, List.set_cons_succ]
      refine wpAnyH_take (i := 5) (oi := ⟨some 11, _, _, _, _, _⟩) (v := undef) rfl (by kernel_rfl) (by kernel_rfl) (by kernel_rfl) (fun _ _ _ h => h) (Or.inr ⟨by rfl, rfl⟩) (by assumption) ?_
      simp only [Act.put, List.setIfInBounds_toArray, List.set_cons_zero, List.set_cons_succ]
      refine wpAnyH_take (i := 6) (oi := ⟨some 12, _, _, _, _, _⟩) (v := undef) rfl (by kernel_rfl) (by kernel_rfl) (by kernel_rfl) (fun _ _ _ h => h) (Or.inr ⟨by rfl, rfl⟩) (by assumption) ?_
      simp only [Act.put, List.setIfInBounds_toArray, List.set_cons_zero, List.set_cons_succ]
      refine wpAnyH_take (i := 7) (oi := ⟨some 13, _, _, _, _, _⟩) (v := undef) rfl (by kernel_rfl) (by kernel_rfl) (by kernel_rfl) (fun _ _ _ h => h) (Or.inr ⟨by rfl, rfl⟩) (by assumption) ?_
      simp only [Act.put, List.setIfInBounds_toArray, List.set_cons_zero, List.set_cons_succ]
      refine wpAnyH_take (i := 8) (oi := ⟨some 14, _, _, _, _, _⟩) (v := undef) rfl (by kernel_rfl) (by kernel_rfl) (by kernel_rfl) (fun _ _ _ h => h) (Or.inr ⟨by rfl, rfl⟩) (by assumption) ?_
      simp only [Act.put, List.setIfInBounds_toArray, List.set_cons_zero, List.set_cons_succ]
      refine wpAnyH_take (i := 9) (oi := ⟨some 15, _, _, _, _, _⟩) (v := (.bool true)) rfl (by kernel_rfl) (by kernel_rfl) (by kernel_rfl) (fun _ _ _ h => h) (Or.inl ⟨by rfl, by (intro u hu; (try dsimp only at hu); go_simp)⟩) (by assumption) ?_
      simp only [Act.put, List.setIfInBounds_toArray, List.set_cons_zero, List.set_cons_succ]
      refine wpAnyH_take (i := 10) (oi := ⟨some 2, _, _, _, _, _⟩) (v := (.bool true)) rfl (by kernel_rfl) (by kernel_rfl) (by kernel_rfl) (fun _ _ _ h => h) (Or.inl ⟨by rfl, by (intro u hu; (try dsimp only at hu); go_simp)⟩) (by assumption) ?_
      simp only [Act.put, List.setIfInBounds_toArray, List.set_cons_zero, List.set_cons_succ]
      refine wpAnyH_done (by kernel_rfl) ?_ _
      go_wp2
      go_ret
      exact ⟨rfl, below_step HB.out HW.out⟩
    | true =>
      have hg2 := (hg rfl).1
      obtain ⟨n, y, hs⟩ := good_strips hg2
      obtain ⟨kk, hkk⟩ := same_self y (hs.fits HF.out)
      have HS := Aside0.mk hs
      have HG := Aside0.mk hg2
      have HKK := Aside0.mk hkk
      clear hs hg hg2 hkk
      refine hK.out _ _ ⟨cell_up HW.out g0, cell_up HW.out g1, cell_up HW.out g2⟩ (fun hHeld => ?_)
      clear hK K
      (try simp only [Act.put, List.setIfInBounds_toArray, List.set_cons_zero, List.set_cons_succ])
      refine wpAnyH_take (i := 2) (oi := ⟨some 8, _, _, _, _, _⟩) (v := (.bool false)) rfl (by kernel_rfl) (by kernel_rfl) (by kernel_rfl) (fun _ _ _ h => h) (Or.inl ⟨by rfl, by (intro u hu; (try dsimp only at hu); go_simp)⟩) (by assumption) ?_
      simp only [Act.put, List.setIfInBounds_toArray, List.set_cons_zero, List.set_cons_succ]
      refine wpAnyH_take (i := 3) (oi := ⟨some 9, _, _, _, _, _⟩) (v := (.bool false)) rfl (by kernel_rfl) (by kernel_rfl) (by kernel_rfl) (fun _ _ _ h => h) (Or.inl ⟨by rfl, by (intro u hu; (try dsimp only at hu); go_simp)⟩) (by assumption) ?_
      simp only [Act.put, List.setIfInBounds_toArray, List.set_cons_zero, List.set_cons_succ]
      refine wpAnyH_take (i := 4) (oi := ⟨some 10, _, _, _, _, _⟩) (v := (.agg #[.string t.f0, .string t.f1, .slice A t.f2.length c])) rfl (by kernel_rfl) (by kernel_rfl) (by kernel_rfl) (fun _ _ _ h => h) (Or.inl ⟨by rfl, by (intro u hu; (try dsimp only at hu); go_simp)⟩) (by assumption) ?_
      simp only [Act.put, List.setIfInBounds_toArray, List.set_cons_zero, List.set_cons_succ]
      refine wpAnyH_take (i := 6) (oi := ⟨some 12, _, _, _, _, _⟩) (v := (.agg #[.string t.f0, .string t.f1, .slice A t.f2.length c])) rfl (by kernel_rfl) (by kernel_rfl) (by kernel_rfl) (fun _ _ _ h => h) (Or.inl ⟨by rfl, by (intro u hu; (try dsimp only at hu); go_simp)⟩) (by assumption) ?_
      simp only [Act.put, List.setIfInBounds_toArray, List.set_cons_zero, List.set_cons_succ]
      refine wpAnyH_ready (rs := [5]) (by kernel_rfl) (by simp) ?_
      refine AllReadyH.cons rfl (fun K hK => ?_) AllReadyH.nil
      go_simp
      ((with_reducible refine (implStripped_any n t y HS.out HG.out HF.out _ A c (Kd.C_below (Kd.C_below HC.out HB.out) HW.out) hc ((HL.out.grow HB.out).grow HW.out)).mono ?_); rintro e w3 ⟨v2, rfl, hm, hb⟩)
      obtain ⟨A8, c8, rfl⟩ := Kd.R_slice hm
      have HM := Aside0.mk (Kd.R_reads' hm).2
      have hn := Aside0.mk (below_step HW.out hb)
      clear HW
      have HW := hn
      clear hn hb hm
      refine hK.out _ _ ⟨cell_up HW.out g0, cell_up HW.out g1, cell_up HW.out g2⟩ (fun hHeld => ?_)
      clear hK K
      (try simp only [Act.put, List.setIfInBounds_toArray, List.set_cons_zero, List.set_cons_succ])
      refine wpAnyH_ready (rs := [7]) (by kernel_rfl) (by simp) ?_
      refine AllReadyH.cons rfl (fun K hK => ?_) AllReadyH.nil
      go_simp
      ((with_reducible refine (specStripped_any n t y HS.out _ A c (Kd.C_below (Kd.C_below HC.out HB.out) HW.out) hc).mono ?_); rintro e w4 ⟨A9, c9, rfl, h9, l9, hb⟩)
      have HM2 := Aside0.mk (Kd.C_below HM.out.2 hb)
      have H9 := Aside0.mk (Kd.C_below h9 hb)
      have hn := Aside0.mk (below_step HW.out hb)
      clear HW
      have HW := hn
      clear hn hb h9
      refine hK.out _ _ ⟨cell_up HW.out g0, cell_up HW.out g1, cell_up HW.out g2⟩ (fun hHeld => ?_)
      clear hK K
      (try simp only [Act.put, List.setIfInBounds_toArray, List.set_cons_zero, List.set_cons_succ])
      refine wpAnyH_ready (rs := [8]) (by kernel_rfl) (by simp) ?_
      refine AllReadyH.cons rfl (fun K hK => ?_) AllReadyH.nil
      go_simp
      ((with_reducible refine (spec_Same.calls kk y.f0 y.f1 A8 c8 y.f2 y.f0 y.f1 A9 c9 y.f2 true _ HM2.out HM.out.1 H9.out l9 HKK.out).mono ?_); rintro e w5 ⟨rfl, hb⟩)
      have hn := Aside0.mk (below_step HW.out hb)
      clear HW
      have HW := hn
      clear hn hb
      refine hK.out _ _ ⟨cell_up HW.out g0, cell_up HW.out g1, cell_up HW.out g2⟩ (fun hHeld => ?_)
      clear hK K
      (try simp only [Act.put, List.setIfInBounds_toArray, List.set_cons_zero, List.set_cons_succ])
      refine wpAnyH_take (i := 9) (oi := ⟨some 15, _, _, _, _, _⟩) (v := (.bool true)) rfl (by kernel_rfl) (by kernel_rfl) (by kernel_rfl) (fun _ _ _ h => h) (Or.inl ⟨by rfl, by (intro u hu; (try dsimp only at hu); go_simp)⟩) (by assumption) ?_
      simp only [Act.put, List.setIfInBounds_toArray, List.set_cons_zero, List.set_cons_succ]
      refine wpAnyH_take (i := 10) (oi := ⟨some 2, _, _, _, _, _⟩) (v := (.bool true)) rfl (by kernel_rfl) (by kernel_rfl) (by kernel_rfl) (fun _ _ _ h => h) (Or.inl ⟨by rfl, by (intro u hu; (try dsimp only at hu); go_simp)⟩) (by assumption) ?_
      simp only [Act.put, List.setIfInBounds_toArray, List.set_cons_zero, List.set_cons_succ]
      refine wpAnyH_done (by kernel_rfl) ?_ _
      go_wp2
      go_ret
      exact ⟨rfl, below_step HB.out HW.out⟩
end Go.Proofs.YtjkhfdekmpaoiaaDoor
