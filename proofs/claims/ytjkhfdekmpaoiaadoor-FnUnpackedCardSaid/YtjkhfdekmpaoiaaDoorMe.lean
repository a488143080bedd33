/- The walk of made, a theorem for each kind of node (selectors and operations): the call comes to the expression that is made of the tree. -/
import Derived.Test.YtjkhfdekmpaoiaaDoorMb
namespace Go.Proofs.YtjkhfdekmpaoiaaDoor
open Go.RowKit Go.Proofs.YtjkhfdekmpaoiaaDoorW.PrintWords Go.Proofs.YtjkhfdekmpaoiaaDoor.Kinds
set_option linter.unusedVariables false
set_option linter.unusedSimpArgs false

set_option maxHeartbeats 2000000 in
set_option maxRecDepth 100000 in
theorem made_selector (s : ByteArray) (t0 : S24) (I0 : MadeC t0) : MadeC ⟨(⟨#[115, 101, 108, 101, 99, 116, 111, 114]⟩ : ByteArray), s, [t0]⟩ := by
  intro w A c hC hc hl
  obtain ⟨ad, A0, c0, rfl, h00, h01, h02, h03, h04⟩ := kid_cells hC 0 t0 rfl
  rw [show ad.add (0 * 3) = ad from rfl] at h00 h01 h02
  go_enter Tryd.func15, Tryd.ntmps15
  go_wp2
  have hB : Below w.heap.size w (w.alloc (.cells #[.string (⟨#[115, 101, 108, 101, 99, 116, 111, 114]⟩ : ByteArray), .string s, .slice (some ad) 1 c] 24)) := below_alloc (Below.refl _ _) _
  have hb := blk_new w (.cells #[.string (⟨#[115, 101, 108, 101, 99, 116, 111, 114]⟩ : ByteArray), .string s, .slice (some ad) 1 c] 24)
  obtain ⟨B, hBe⟩ : ∃ B, B = w.heap.size := ⟨_, rfl⟩
  rw [← hBe] at hb
  simp only [← hBe]
  generalize w.alloc (.cells #[.string (⟨#[115, 101, 108, 101, 99, 116, 111, 114]⟩ : ByteArray), .string s, .slice (some ad) 1 c] 24) = W at hB hb ⊢
  have HB := Aside0.mk hB
  have HL := Aside0.mk (hl.grow hB)
  have g1 : W.cell? ⟨B, 1, none⟩ = some (.string s) := (blk_cell hb 1).trans rfl
  have g0 : W.cell? ⟨B, 2, none⟩ = some (.slice (some ad) 1 c) := (blk_cell hb 2).trans rfl
  have i00 := cell_up hB h00
  have i01 := cell_up hB h01
  have i02 := cell_up hB h02
  have HC0 := Aside0.mk (Kd.C_below h04 hB)
  clear h00 h01 h02 h04 hB hC hBe hb hl
  have HW := Aside0.mk (below_drew (Below.refl W.heap.size W))
  go_region_held3 (fun w' => w'.cell? ⟨B, 1, none⟩ = some (.string s) ∧ w'.cell? ⟨B, 2, none⟩ = some (.slice (some ad) 1 c) ∧ w'.cell? ad = some (.string t0.f0) ∧ w'.cell? ⟨ad.block, ad.off + 1, none⟩ = some (.string t0.f1) ∧ w'.cell? ⟨ad.block, ad.off + 2, none⟩ = some (.slice A0 t0.f2.length c0))
    (first | exact ⟨cell_up HW.out g1, cell_up HW.out g0, cell_up HW.out i00, cell_up HW.out i01, cell_up HW.out i02⟩ | exact ⟨cell_up (below_alloc HW.out _) g1, cell_up (below_alloc HW.out _) g0, cell_up (below_alloc HW.out _) i00, cell_up (below_alloc HW.out _) i01, cell_up (below_alloc HW.out _) i02⟩)
    (first
      | (go_at_call 15; (with_reducible refine (I0.go _ A0 c0 (Kd.C_below HC0.out HW.out) h03 (HL.out.grow HW.out)).mono ?_); rintro e w1 ⟨v0, rfl, hm, hb⟩; have hv0 := hm.cells; unfold Value.cells at hv0; have hm2 := hm.lower (Nat.le_trans HB.out.size HW.out.size); have hn := Aside0.mk (below_step HW.out hb); clear HW; have HW := hn; clear hn; have HM0 := Aside0.mk hm2; clear hm hm2 hb)
      | (go_at_call 26; (with_reducible refine (newName_any s _).mono ?_); rintro e w8 ⟨b8, rfl, hm, hb⟩; have hm2 := hm.lower (Nat.le_trans HB.out.size HW.out.size); have hn := Aside0.mk (below_step HW.out hb); clear HW; have HW := hn; clear hn; have hn := Aside0.mk (HM0.out.grow hb); clear HM0; have HM0 := hn; clear hn; have HN := Aside0.mk hm2; clear hm hm2 hb))
  go_wp2
  go_ret
  exact ⟨_, rfl, Made.sel_ HM0.out HN.out rfl rfl (Nat.le_trans HB.out.size HW.out.size), below_alloc (below_step HB.out HW.out) _⟩

set_option maxHeartbeats 2000000 in
set_option maxRecDepth 100000 in
theorem made_unary (q : Nat) (hq : 1 ≤ q ∧ q ≤ 23) (s : ByteArray) (hs : s = opText q) (t0 : S24) (I0 : MadeC t0) : MadeC ⟨(⟨#[117, 110, 97, 114, 121]⟩ : ByteArray), s, [t0]⟩ := by
  intro w A c hC hc hl
  obtain ⟨ad, A0, c0, rfl, h00, h01, h02, h03, h04⟩ := kid_cells hC 0 t0 rfl
  rw [show ad.add (0 * 3) = ad from rfl] at h00 h01 h02
  have HS := Aside0.mk hs
  clear hs
  go_enter Tryd.func15, Tryd.ntmps15
  go_wp2
  have hB : Below w.heap.size w (w.alloc (.cells #[.string (⟨#[117, 110, 97, 114, 121]⟩ : ByteArray), .string s, .slice (some ad) 1 c] 24)) := below_alloc (Below.refl _ _) _
  have hb := blk_new w (.cells #[.string (⟨#[117, 110, 97, 114, 121]⟩ : ByteArray), .string s, .slice (some ad) 1 c] 24)
  obtain ⟨B, hBe⟩ : ∃ B, B = w.heap.size := ⟨_, rfl⟩
  rw [← hBe] at hb
  simp only [← hBe]
  generalize w.alloc (.cells #[.string (⟨#[117, 110, 97, 114, 121]⟩ : ByteArray), .string s, .slice (some ad) 1 c] 24) = W at hB hb ⊢
  have HB := Aside0.mk hB
  have HL := Aside0.mk (hl.grow hB)
  have g1 : W.cell? ⟨B, 1, none⟩ = some (.string s) := (blk_cell hb 1).trans rfl
  have g0 : W.cell? ⟨B, 2, none⟩ = some (.slice (some ad) 1 c) := (blk_cell hb 2).trans rfl
  have i00 := cell_up hB h00
  have i01 := cell_up hB h01
  have i02 := cell_up hB h02
  have HC0 := Aside0.mk (Kd.C_below h04 hB)
  clear h00 h01 h02 h04 hB hC hBe hb hl
  have HW := Aside0.mk (below_drew (Below.refl W.heap.size W))
  go_region_held3 (fun w' => w'.cell? ⟨B, 1, none⟩ = some (.string s) ∧ w'.cell? ⟨B, 2, none⟩ = some (.slice (some ad) 1 c) ∧ w'.cell? ad = some (.string t0.f0) ∧ w'.cell? ⟨ad.block, ad.off + 1, none⟩ = some (.string t0.f1) ∧ w'.cell? ⟨ad.block, ad.off + 2, none⟩ = some (.slice A0 t0.f2.length c0))
    (first | exact ⟨cell_up HW.out g1, cell_up HW.out g0, cell_up HW.out i00, cell_up HW.out i01, cell_up HW.out i02⟩ | exact ⟨cell_up (below_alloc HW.out _) g1, cell_up (below_alloc HW.out _) g0, cell_up (below_alloc HW.out _) i00, cell_up (below_alloc HW.out _) i01, cell_up (below_alloc HW.out _) i02⟩)
    (first
      | (go_at_call 28; (with_reducible refine (operatorOf_any s q hq.1 hq.2 HS.out _ (HL.out.grow HW.out)).mono ?_); rintro e w8 ⟨q8, rfl, hq8, hs8, hd⟩; have hb := hd.below; have hn := Aside0.mk (below_step HW.out hb); clear HW; have HW := hn; clear hn; have HS8 := Aside0.mk hs8; have HQ8 := Aside0.mk hq8; clear hs8 hq8 hb hd)
      | (go_at_call 15; (with_reducible refine (I0.go _ A0 c0 (Kd.C_below HC0.out HW.out) h03 (HL.out.grow HW.out)).mono ?_); rintro e w1 ⟨v0, rfl, hm, hb⟩; have hv0 := hm.cells; unfold Value.cells at hv0; have hm2 := hm.lower (Nat.le_trans HB.out.size HW.out.size); have hn := Aside0.mk (below_step HW.out hb); clear HW; have HW := hn; clear hn; have HM0 := Aside0.mk hm2; clear hm hm2 hb))
  go_wp2
  go_ret
  exact ⟨_, rfl, HS8.out ▸ Made.unary_ HQ8.out HM0.out rfl rfl rfl (Nat.le_trans HB.out.size HW.out.size), below_alloc (below_step HB.out HW.out) _⟩

set_option maxHeartbeats 2000000 in
set_option maxRecDepth 100000 in
theorem made_binary (q : Nat) (hq : 1 ≤ q ∧ q ≤ 23) (s : ByteArray) (hs : s = opText q) (t0 t1 : S24) (hf : t1.f0 ≠ ⟨#[]⟩) (I0 : MadeC t0) (I1 : MadeC t1) : MadeC ⟨(⟨#[98, 105, 110, 97, 114, 121]⟩ : ByteArray), s, [t0, t1]⟩ := by
  intro w A c hC hc hl
  obtain ⟨ad, A0, c0, rfl, h00, h01, h02, h03, h04⟩ := kid_cells hC 0 t0 rfl
  obtain ⟨ad', A1, c1, e, h10, h11, h12, h13, h14⟩ := kid_cells hC 1 t1 rfl
  obtain rfl := Option.some.inj e
  clear e
  rw [show ad.add (0 * 3) = ad from rfl] at h00 h01 h02
  rw [show ad.add (1 * 3) = ⟨ad.block, ad.off + 3, none⟩ from rfl] at h10 h11 h12
  have HS := Aside0.mk hs
  have HF := Aside0.mk hf
  clear hs hf
  go_enter Tryd.func15, Tryd.ntmps15
  go_wp2
  have hB : Below w.heap.size w (w.alloc (.cells #[.string (⟨#[98, 105, 110, 97, 114, 121]⟩ : ByteArray), .string s, .slice (some ad) 2 c] 24)) := below_alloc (Below.refl _ _) _
  have hb := blk_new w (.cells #[.string (⟨#[98, 105, 110, 97, 114, 121]⟩ : ByteArray), .string s, .slice (some ad) 2 c] 24)
  obtain ⟨B, hBe⟩ : ∃ B, B = w.heap.size := ⟨_, rfl⟩
  rw [← hBe] at hb
  simp only [← hBe]
  generalize w.alloc (.cells #[.string (⟨#[98, 105, 110, 97, 114, 121]⟩ : ByteArray), .string s, .slice (some ad) 2 c] 24) = W at hB hb ⊢
  have HB := Aside0.mk hB
  have HL := Aside0.mk (hl.grow hB)
  have g1 : W.cell? ⟨B, 1, none⟩ = some (.string s) := (blk_cell hb 1).trans rfl
  have g0 : W.cell? ⟨B, 2, none⟩ = some (.slice (some ad) 2 c) := (blk_cell hb 2).trans rfl
  have i00 := cell_up hB h00
  have i01 := cell_up hB h01
  have i02 := cell_up hB h02
  have HC0 := Aside0.mk (Kd.C_below h04 hB)
  have i10 := cell_up hB h10
  have i11 := cell_up hB h11
  have i12 := cell_up hB h12
  have HC1 := Aside0.mk (Kd.C_below h14 hB)
  clear h00 h01 h02 h04 h10 h11 h12 h14 hB hC hBe hb hl
  have HW := Aside0.mk (below_drew (Below.refl W.heap.size W))
  go_region_held3 (fun w' => w'.cell? ⟨B, 1, none⟩ = some (.string s) ∧ w'.cell? ⟨B, 2, none⟩ = some (.slice (some ad) 2 c) ∧ w'.cell? ad = some (.string t0.f0) ∧ w'.cell? ⟨ad.block, ad.off + 1, none⟩ = some (.string t0.f1) ∧ w'.cell? ⟨ad.block, ad.off + 2, none⟩ = some (.slice A0 t0.f2.length c0) ∧ w'.cell? ⟨ad.block, ad.off + 3, none⟩ = some (.string t1.f0) ∧ w'.cell? ⟨ad.block, ad.off + 3 + 1, none⟩ = some (.string t1.f1) ∧ w'.cell? ⟨ad.block, ad.off + 3 + 2, none⟩ = some (.slice A1 t1.f2.length c1))
    (first | exact ⟨cell_up HW.out g1, cell_up HW.out g0, cell_up HW.out i00, cell_up HW.out i01, cell_up HW.out i02, cell_up HW.out i10, cell_up HW.out i11, cell_up HW.out i12⟩ | exact ⟨cell_up (below_alloc HW.out _) g1, cell_up (below_alloc HW.out _) g0, cell_up (below_alloc HW.out _) i00, cell_up (below_alloc HW.out _) i01, cell_up (below_alloc HW.out _) i02, cell_up (below_alloc HW.out _) i10, cell_up (below_alloc HW.out _) i11, cell_up (below_alloc HW.out _) i12⟩)
    (first
      | (go_at_call 28; (with_reducible refine (operatorOf_any s q hq.1 hq.2 HS.out _ (HL.out.grow HW.out)).mono ?_); rintro e w8 ⟨q8, rfl, hq8, hs8, hd⟩; have hb := hd.below; have hn := Aside0.mk (below_step HW.out hb); clear HW; have HW := hn; clear hn; have HS8 := Aside0.mk hs8; have HQ8 := Aside0.mk hq8; clear hs8 hq8 hb hd)
      | (go_at_call 15; (with_reducible refine (I0.go _ A0 c0 (Kd.C_below HC0.out HW.out) h03 (HL.out.grow HW.out)).mono ?_); rintro e w1 ⟨v0, rfl, hm, hb⟩; have hv0 := hm.cells; unfold Value.cells at hv0; have hm2 := hm.lower (Nat.le_trans HB.out.size HW.out.size); have hn := Aside0.mk (below_step HW.out hb); clear HW; have HW := hn; clear hn; have HM0 := Aside0.mk hm2; clear hm hm2 hb)
      | (go_at_call 15; (with_reducible refine (I1.go _ A1 c1 (Kd.C_below HC1.out HW.out) h13 (HL.out.grow HW.out)).mono ?_); rintro e w2 ⟨v1, rfl, hm, hb⟩; have hv1 := hm.cells; unfold Value.cells at hv1; have hm2 := hm.lower (Nat.le_trans HB.out.size HW.out.size); have hn := Aside0.mk (below_step HW.out hb); clear HW; have HW := hn; clear hn; have hn := Aside0.mk (HM0.out.grow hb); clear HM0; have HM0 := hn; clear hn; have HM1 := Aside0.mk hm2; clear hm hm2 hb))
  go_wp2
  go_ret
  exact ⟨_, rfl, HS8.out ▸ Made.binary_ HQ8.out HM0.out HM1.out HF.out rfl rfl rfl (Nat.le_trans HB.out.size HW.out.size), below_alloc (below_step HB.out HW.out) _⟩
end Go.Proofs.YtjkhfdekmpaoiaaDoor
