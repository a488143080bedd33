/- The walk of made, a theorem for each kind of node (slices): the call comes to the expression that is made of the tree. -/
import Derived.Test.YtjkhfdekmpaoiaaDoorMb
namespace Go.Proofs.YtjkhfdekmpaoiaaDoor
open Go.RowKit Go.Proofs.YtjkhfdekmpaoiaaDoorW.PrintWords Go.Proofs.YtjkhfdekmpaoiaaDoor.Kinds
set_option linter.unusedVariables false
set_option linter.unusedSimpArgs false

set_option maxHeartbeats 2000000 in
set_option maxRecDepth 100000 in
theorem made_slice_f (t0 t1 t2 t3 : S24) (I0 : MadeC t0) (I1 : MadeC t1) (I2 : MadeC t2) (I3 : MadeC t3) : MadeC ⟨(⟨#[115, 108, 105, 99, 101]⟩ : ByteArray), (⟨#[102, 117, 108, 108]⟩ : ByteArray), [t0, t1, t2, t3]⟩ := by
  intro w A c hC hc hl
  obtain ⟨ad, A0, c0, rfl, h00, h01, h02, h03, h04⟩ := kid_cells hC 0 t0 rfl
  obtain ⟨ad', A1, c1, e, h10, h11, h12, h13, h14⟩ := kid_cells hC 1 t1 rfl
  obtain rfl := Option.some.inj e
  clear e
  obtain ⟨ad', A2, c2, e, h20, h21, h22, h23, h24⟩ := kid_cells hC 2 t2 rfl
  obtain rfl := Option.some.inj e
  clear e
  obtain ⟨ad', A3, c3, e, h30, h31, h32, h33, h34⟩ := kid_cells hC 3 t3 rfl
  obtain rfl := Option.some.inj e
  clear e
  rw [show ad.add (0 * 3) = ad from rfl] at h00 h01 h02
  rw [show ad.add (1 * 3) = ⟨ad.block, ad.off + 3, none⟩ from rfl] at h10 h11 h12
  rw [show ad.add (2 * 3) = ⟨ad.block, ad.off + 6, none⟩ from rfl] at h20 h21 h22
  rw [show ad.add (3 * 3) = ⟨ad.block, ad.off + 9, none⟩ from rfl] at h30 h31 h32
  go_enter Tryd.func15, Tryd.ntmps15
  go_wp2
  have hB : Below w.heap.size w (w.alloc (.cells #[.string (⟨#[115, 108, 105, 99, 101]⟩ : ByteArray), .string (⟨#[102, 117, 108, 108]⟩ : ByteArray), .slice (some ad) 4 c] 24)) := below_alloc (Below.refl _ _) _
  have hb := blk_new w (.cells #[.string (⟨#[115, 108, 105, 99, 101]⟩ : ByteArray), .string (⟨#[102, 117, 108, 108]⟩ : ByteArray), .slice (some ad) 4 c] 24)
  obtain ⟨B, hBe⟩ : ∃ B, B = w.heap.size := ⟨_, rfl⟩
  rw [← hBe] at hb
  simp only [← hBe]
  generalize w.alloc (.cells #[.string (⟨#[115, 108, 105, 99, 101]⟩ : ByteArray), .string (⟨#[102, 117, 108, 108]⟩ : ByteArray), .slice (some ad) 4 c] 24) = W at hB hb ⊢
  have HB := Aside0.mk hB
  have HL := Aside0.mk (hl.grow hB)
  have g1 : W.cell? ⟨B, 1, none⟩ = some (.string (⟨#[102, 117, 108, 108]⟩ : ByteArray)) := (blk_cell hb 1).trans rfl
  have g0 : W.cell? ⟨B, 2, none⟩ = some (.slice (some ad) 4 c) := (blk_cell hb 2).trans rfl
  have i00 := cell_up hB h00
  have i01 := cell_up hB h01
  have i02 := cell_up hB h02
  have HC0 := Aside0.mk (Kd.C_below h04 hB)
  have i10 := cell_up hB h10
  have i11 := cell_up hB h11
  have i12 := cell_up hB h12
  have HC1 := Aside0.mk (Kd.C_below h14 hB)
  have i20 := cell_up hB h20
  have i21 := cell_up hB h21
  have i22 := cell_up hB h22
  have HC2 := Aside0.mk (Kd.C_below h24 hB)
  have i30 := cell_up hB h30
  have i31 := cell_up hB h31
  have i32 := cell_up hB h32
  have HC3 := Aside0.mk (Kd.C_below h34 hB)
  clear h00 h01 h02 h04 h10 h11 h12 h14 h20 h21 h22 h24 h30 h31 h32 h34 hB hC hBe hb hl
  have HW := Aside0.mk (below_drew (Below.refl W.heap.size W))
  go_region_held3 (fun w' => w'.cell? ⟨B, 1, none⟩ = some (.string (⟨#[102, 117, 108, 108]⟩ : ByteArray)) ∧ w'.cell? ⟨B, 2, none⟩ = some (.slice (some ad) 4 c) ∧ w'.cell? ad = some (.string t0.f0) ∧ w'.cell? ⟨ad.block, ad.off + 1, none⟩ = some (.string t0.f1) ∧ w'.cell? ⟨ad.block, ad.off + 2, none⟩ = some (.slice A0 t0.f2.length c0) ∧ w'.cell? ⟨ad.block, ad.off + 3, none⟩ = some (.string t1.f0) ∧ w'.cell? ⟨ad.block, ad.off + 3 + 1, none⟩ = some (.string t1.f1) ∧ w'.cell? ⟨ad.block, ad.off + 3 + 2, none⟩ = some (.slice A1 t1.f2.length c1) ∧ w'.cell? ⟨ad.block, ad.off + 6, none⟩ = some (.string t2.f0) ∧ w'.cell? ⟨ad.block, ad.off + 6 + 1, none⟩ = some (.string t2.f1) ∧ w'.cell? ⟨ad.block, ad.off + 6 + 2, none⟩ = some (.slice A2 t2.f2.length c2) ∧ w'.cell? ⟨ad.block, ad.off + 9, none⟩ = some (.string t3.f0) ∧ w'.cell? ⟨ad.block, ad.off + 9 + 1, none⟩ = some (.string t3.f1) ∧ w'.cell? ⟨ad.block, ad.off + 9 + 2, none⟩ = some (.slice A3 t3.f2.length c3))
    (first | exact ⟨cell_up HW.out g1, cell_up HW.out g0, cell_up HW.out i00, cell_up HW.out i01, cell_up HW.out i02, cell_up HW.out i10, cell_up HW.out i11, cell_up HW.out i12, cell_up HW.out i20, cell_up HW.out i21, cell_up HW.out i22, cell_up HW.out i30, cell_up HW.out i31, cell_up HW.out i32⟩ | exact ⟨cell_up (below_alloc HW.out _) g1, cell_up (below_alloc HW.out _) g0, cell_up (below_alloc HW.out _) i00, cell_up (below_alloc HW.out _) i01, cell_up (below_alloc HW.out _) i02, cell_up (below_alloc HW.out _) i10, cell_up (below_alloc HW.out _) i11, cell_up (below_alloc HW.out _) i12, cell_up (below_alloc HW.out _) i20, cell_up (below_alloc HW.out _) i21, cell_up (below_alloc HW.out _) i22, cell_up (below_alloc HW.out _) i30, cell_up (below_alloc HW.out _) i31, cell_up (below_alloc HW.out _) i32⟩)
    (first
      | (go_at_call 15; (with_reducible refine (I0.go _ A0 c0 (Kd.C_below HC0.out HW.out) h03 (HL.out.grow HW.out)).mono ?_); rintro e w1 ⟨v0, rfl, hm, hb⟩; have hv0 := hm.cells; unfold Value.cells at hv0; have hm2 := hm.lower (Nat.le_trans HB.out.size HW.out.size); have hn := Aside0.mk (below_step HW.out hb); clear HW; have HW := hn; clear hn; have HM0 := Aside0.mk hm2; clear hm hm2 hb)
      | (go_at_call 15; (with_reducible refine (I1.go _ A1 c1 (Kd.C_below HC1.out HW.out) h13 (HL.out.grow HW.out)).mono ?_); rintro e w2 ⟨v1, rfl, hm, hb⟩; have hv1 := hm.cells; unfold Value.cells at hv1; have hm2 := hm.lower (Nat.le_trans HB.out.size HW.out.size); have hn := Aside0.mk (below_step HW.out hb); clear HW; have HW := hn; clear hn; have hn := Aside0.mk (HM0.out.grow hb); clear HM0; have HM0 := hn; clear hn; have HM1 := Aside0.mk hm2; clear hm hm2 hb)
      | (go_at_call 15; (with_reducible refine (I2.go _ A2 c2 (Kd.C_below HC2.out HW.out) h23 (HL.out.grow HW.out)).mono ?_); rintro e w3 ⟨v2, rfl, hm, hb⟩; have hv2 := hm.cells; unfold Value.cells at hv2; have hm2 := hm.lower (Nat.le_trans HB.out.size HW.out.size); have hn := Aside0.mk (below_step HW.out hb); clear HW; have HW := hn; clear hn; have hn := Aside0.mk (HM0.out.grow hb); clear HM0; have HM0 := hn; clear hn; have hn := Aside0.mk (HM1.out.grow hb); clear HM1; have HM1 := hn; clear hn; have HM2 := Aside0.mk hm2; clear hm hm2 hb)
      | (go_at_call 15; (with_reducible refine (I3.go _ A3 c3 (Kd.C_below HC3.out HW.out) h33 (HL.out.grow HW.out)).mono ?_); rintro e w4 ⟨v3, rfl, hm, hb⟩; have hv3 := hm.cells; unfold Value.cells at hv3; have hm2 := hm.lower (Nat.le_trans HB.out.size HW.out.size); have hn := Aside0.mk (below_step HW.out hb); clear HW; have HW := hn; clear hn; have hn := Aside0.mk (HM0.out.grow hb); clear HM0; have HM0 := hn; clear hn; have hn := Aside0.mk (HM1.out.grow hb); clear HM1; have HM1 := hn; clear hn; have hn := Aside0.mk (HM2.out.grow hb); clear HM2; have HM2 := hn; clear hn; have HM3 := Aside0.mk hm2; clear hm hm2 hb))
  go_wp2
  go_ret
  exact ⟨_, rfl, Made.slice_ (f := true) HM0.out HM1.out HM2.out HM3.out rfl rfl rfl rfl rfl (Nat.le_trans HB.out.size HW.out.size), below_alloc (below_step HB.out HW.out) _⟩

set_option maxHeartbeats 2000000 in
set_option maxRecDepth 100000 in
theorem made_slice_e (t0 t1 t2 t3 : S24) (I0 : MadeC t0) (I1 : MadeC t1) (I2 : MadeC t2) (I3 : MadeC t3) : MadeC ⟨(⟨#[115, 108, 105, 99, 101]⟩ : ByteArray), (⟨#[]⟩ : ByteArray), [t0, t1, t2, t3]⟩ := by
  intro w A c hC hc hl
  obtain ⟨ad, A0, c0, rfl, h00, h01, h02, h03, h04⟩ := kid_cells hC 0 t0 rfl
  obtain ⟨ad', A1, c1, e, h10, h11, h12, h13, h14⟩ := kid_cells hC 1 t1 rfl
  obtain rfl := Option.some.inj e
  clear e
  obtain ⟨ad', A2, c2, e, h20, h21, h22, h23, h24⟩ := kid_cells hC 2 t2 rfl
  obtain rfl := Option.some.inj e
  clear e
  obtain ⟨ad', A3, c3, e, h30, h31, h32, h33, h34⟩ := kid_cells hC 3 t3 rfl
  obtain rfl := Option.some.inj e
  clear e
  rw [show ad.add (0 * 3) = ad from rfl] at h00 h01 h02
  rw [show ad.add (1 * 3) = ⟨ad.block, ad.off + 3, none⟩ from rfl] at h10 h11 h12
  rw [show ad.add (2 * 3) = ⟨ad.block, ad.off + 6, none⟩ from rfl] at h20 h21 h22
  rw [show ad.add (3 * 3) = ⟨ad.block, ad.off + 9, none⟩ from rfl] at h30 h31 h32
  go_enter Tryd.func15, Tryd.ntmps15
  go_wp2
  have hB : Below w.heap.size w (w.alloc (.cells #[.string (⟨#[115, 108, 105, 99, 101]⟩ : ByteArray), .string (⟨#[]⟩ : ByteArray), .slice (some ad) 4 c] 24)) := below_alloc (Below.refl _ _) _
  have hb := blk_new w (.cells #[.string (⟨#[115, 108, 105, 99, 101]⟩ : ByteArray), .string (⟨#[]⟩ : ByteArray), .slice (some ad) 4 c] 24)
  obtain ⟨B, hBe⟩ : ∃ B, B = w.heap.size := ⟨_, rfl⟩
  rw [← hBe] at hb
  simp only [← hBe]
  generalize w.alloc (.cells #[.string (⟨#[115, 108, 105, 99, 101]⟩ : ByteArray), .string (⟨#[]⟩ : ByteArray), .slice (some ad) 4 c] 24) = W at hB hb ⊢
  have HB := Aside0.mk hB
  have HL := Aside0.mk (hl.grow hB)
  have g1 : W.cell? ⟨B, 1, none⟩ = some (.string (⟨#[]⟩ : ByteArray)) := (blk_cell hb 1).trans rfl
  have g0 : W.cell? ⟨B, 2, none⟩ = some (.slice (some ad) 4 c) := (blk_cell hb 2).trans rfl
  have i00 := cell_up hB h00
  have i01 := cell_up hB h01
  have i02 := cell_up hB h02
  have HC0 := Aside0.mk (Kd.C_below h04 hB)
  have i10 := cell_up hB h10
  have i11 := cell_up hB h11
  have i12 := cell_up hB h12
  have HC1 := Aside0.mk (Kd.C_below h14 hB)
  have i20 := cell_up hB h20
  have i21 := cell_up hB h21
  have i22 := cell_up hB h22
  have HC2 := Aside0.mk (Kd.C_below h24 hB)
  have i30 := cell_up hB h30
  have i31 := cell_up hB h31
  have i32 := cell_up hB h32
  have HC3 := Aside0.mk (Kd.C_below h34 hB)
  clear h00 h01 h02 h04 h10 h11 h12 h14 h20 h21 h22 h24 h30 h31 h32 h34 hB hC hBe hb hl
  have HW := Aside0.mk (below_drew (Below.refl W.heap.size W))
  go_region_held3 (fun w' => w'.cell? ⟨B, 1, none⟩ = some (.string (⟨#[]⟩ : ByteArray)) ∧ w'.cell? ⟨B, 2, none⟩ = some (.slice (some ad) 4 c) ∧ w'.cell? ad = some (.string t0.f0) ∧ w'.cell? ⟨ad.block, ad.off + 1, none⟩ = some (.string t0.f1) ∧ w'.cell? ⟨ad.block, ad.off + 2, none⟩ = some (.slice A0 t0.f2.length c0) ∧ w'.cell? ⟨ad.block, ad.off + 3, none⟩ = some (.string t1.f0) ∧ w'.cell? ⟨ad.block, ad.off + 3 + 1, none⟩ = some (.string t1.f1) ∧ w'.cell? ⟨ad.block, ad.off + 3 + 2, none⟩ = some (.slice A1 t1.f2.length c1) ∧ w'.cell? ⟨ad.block, ad.off + 6, none⟩ = some (.string t2.f0) ∧ w'.cell? ⟨ad.block, ad.off + 6 + 1, none⟩ = some (.string t2.f1) ∧ w'.cell? ⟨ad.block, ad.off + 6 + 2, none⟩ = some (.slice A2 t2.f2.length c2) ∧ w'.cell? ⟨ad.block, ad.off + 9, none⟩ = some (.string t3.f0) ∧ w'.cell? ⟨ad.block, ad.off + 9 + 1, none⟩ = some (.string t3.f1) ∧ w'.cell? ⟨ad.block, ad.off + 9 + 2, none⟩ = some (.slice A3 t3.f2.length c3))
    (first | exact ⟨cell_up HW.out g1, cell_up HW.out g0, cell_up HW.out i00, cell_up HW.out i01, cell_up HW.out i02, cell_up HW.out i10, cell_up HW.out i11, cell_up HW.out i12, cell_up HW.out i20, cell_up HW.out i21, cell_up HW.out i22, cell_up HW.out i30, cell_up HW.out i31, cell_up HW.out i32⟩ | exact ⟨cell_up (below_alloc HW.out _) g1, cell_up (below_alloc HW.out _) g0, cell_up (below_alloc HW.out _) i00, cell_up (below_alloc HW.out _) i01, cell_up (below_alloc HW.out _) i02, cell_up (below_alloc HW.out _) i10, cell_up (below_alloc HW.out _) i11, cell_up (below_alloc HW.out _) i12, cell_up (below_alloc HW.out _) i20, cell_up (below_alloc HW.out _) i21, cell_up (below_alloc HW.out _) i22, cell_up (below_alloc HW.out _) i30, cell_up (below_alloc HW.out _) i31, cell_up (below_alloc HW.out _) i32⟩)
    (first
      | (go_at_call 15; (with_reducible refine (I0.go _ A0 c0 (Kd.C_below HC0.out HW.out) h03 (HL.out.grow HW.out)).mono ?_); rintro e w1 ⟨v0, rfl, hm, hb⟩; have hv0 := hm.cells; unfold Value.cells at hv0; have hm2 := hm.lower (Nat.le_trans HB.out.size HW.out.size); have hn := Aside0.mk (below_step HW.out hb); clear HW; have HW := hn; clear hn; have HM0 := Aside0.mk hm2; clear hm hm2 hb)
      | (go_at_call 15; (with_reducible refine (I1.go _ A1 c1 (Kd.C_below HC1.out HW.out) h13 (HL.out.grow HW.out)).mono ?_); rintro e w2 ⟨v1, rfl, hm, hb⟩; have hv1 := hm.cells; unfold Value.cells at hv1; have hm2 := hm.lower (Nat.le_trans HB.out.size HW.out.size); have hn := Aside0.mk (below_step HW.out hb); clear HW; have HW := hn; clear hn; have hn := Aside0.mk (HM0.out.grow hb); clear HM0; have HM0 := hn; clear hn; have HM1 := Aside0.mk hm2; clear hm hm2 hb)
      | (go_at_call 15; (with_reducible refine (I2.go _ A2 c2 (Kd.C_below HC2.out HW.out) h23 (HL.out.grow HW.out)).mono ?_); rintro e w3 ⟨v2, rfl, hm, hb⟩; have hv2 := hm.cells; unfold Value.cells at hv2; have hm2 := hm.lower (Nat.le_trans HB.out.size HW.out.size); have hn := Aside0.mk (below_step HW.out hb); clear HW; have HW := hn; clear hn; have hn := Aside0.mk (HM0.out.grow hb); clear HM0; have HM0 := hn; clear hn; have hn := Aside0.mk (HM1.out.grow hb); clear HM1; have HM1 := hn; clear hn; have HM2 := Aside0.mk hm2; clear hm hm2 hb)
      | (go_at_call 15; (with_reducible refine (I3.go _ A3 c3 (Kd.C_below HC3.out HW.out) h33 (HL.out.grow HW.out)).mono ?_); rintro e w4 ⟨v3, rfl, hm, hb⟩; have hv3 := hm.cells; unfold Value.cells at hv3; have hm2 := hm.lower (Nat.le_trans HB.out.size HW.out.size); have hn := Aside0.mk (below_step HW.out hb); clear HW; have HW := hn; clear hn; have hn := Aside0.mk (HM0.out.grow hb); clear HM0; have HM0 := hn; clear hn; have hn := Aside0.mk (HM1.out.grow hb); clear HM1; have HM1 := hn; clear hn; have hn := Aside0.mk (HM2.out.grow hb); clear HM2; have HM2 := hn; clear hn; have HM3 := Aside0.mk hm2; clear hm hm2 hb))
  go_wp2
  go_ret
  exact ⟨_, rfl, Made.slice_ (f := false) HM0.out HM1.out HM2.out HM3.out rfl rfl rfl rfl rfl (Nat.le_trans HB.out.size HW.out.size), below_alloc (below_step HB.out HW.out) _⟩
end Go.Proofs.YtjkhfdekmpaoiaaDoor
