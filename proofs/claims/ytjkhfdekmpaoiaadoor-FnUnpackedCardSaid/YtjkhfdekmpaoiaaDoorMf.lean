/- The walk of made, a theorem for each kind of node (calls and composites): the call comes to the expression that is made of the tree. -/
import Derived.Test.YtjkhfdekmpaoiaaDoorMb
namespace Go.Proofs.YtjkhfdekmpaoiaaDoor
open Go.RowKit Go.Proofs.YtjkhfdekmpaoiaaDoorW.PrintWords Go.Proofs.YtjkhfdekmpaoiaaDoor.Kinds
set_option linter.unusedVariables false
set_option linter.unusedSimpArgs false

set_option maxHeartbeats 2000000 in
set_option maxRecDepth 100000 in
theorem made_call_t (t0 : S24) (ts : List S24) (IS : ∀ (j : Nat) (t : S24), ts[j]? = some t → MadeC t) (hsz : ts.length * 56 ≤ 140737488351232) (I0 : MadeC t0) : MadeC ⟨(⟨#[99, 97, 108, 108]⟩ : ByteArray), (⟨#[46, 46, 46]⟩ : ByteArray), t0 :: ts⟩ := by
  intro w A c hC hc hl
  have hcd := Kd.C_drop (m := 1) hC (Nat.le_add_left 1 _) hc
  obtain ⟨A9, hcut, hC9⟩ : ∃ A9, (∀ W : World, (Instr.slice 22 (.slice A (ts.length + 1) c) (some (.int .i64 1)) none none).run Tryd.prog W = .ok (.slice A9 ts.length (c - 1)) W) ∧ Kd.C k24 w A9 ts.length ts := by
    obtain ⟨i0, hi0, _, hsz, _⟩ := info_parts info24
    exact ⟨_, fun W => cut_from (P := Tryd.prog) 22 24 .i64 Tryd.underlying22 hi0 3 hsz A (ts.length + 1) c 1 (by omega) (by omega) W, hcd⟩
  have hc9 : ts.length ≤ c - 1 := by simp only [List.length_cons] at hc; omega
  clear hcd
  obtain ⟨ad, A0, c0, rfl, h00, h01, h02, h03, h04⟩ := kid_cells hC 0 t0 rfl
  rw [show ad.add (0 * 3) = ad from rfl] at h00 h01 h02
  go_enter Tryd.func15, Tryd.ntmps15
  go_wp2
  have hB : Below w.heap.size w (w.alloc (.cells #[.string (⟨#[99, 97, 108, 108]⟩ : ByteArray), .string (⟨#[46, 46, 46]⟩ : ByteArray), .slice (some ad) (ts.length + 1) c] 24)) := below_alloc (Below.refl _ _) _
  have hb := blk_new w (.cells #[.string (⟨#[99, 97, 108, 108]⟩ : ByteArray), .string (⟨#[46, 46, 46]⟩ : ByteArray), .slice (some ad) (ts.length + 1) c] 24)
  obtain ⟨B, hBe⟩ : ∃ B, B = w.heap.size := ⟨_, rfl⟩
  rw [← hBe] at hb
  simp only [← hBe]
  generalize w.alloc (.cells #[.string (⟨#[99, 97, 108, 108]⟩ : ByteArray), .string (⟨#[46, 46, 46]⟩ : ByteArray), .slice (some ad) (ts.length + 1) c] 24) = W at hB hb ⊢
  have HB := Aside0.mk hB
  have HL := Aside0.mk (hl.grow hB)
  have g1 : W.cell? ⟨B, 1, none⟩ = some (.string (⟨#[46, 46, 46]⟩ : ByteArray)) := (blk_cell hb 1).trans rfl
  have g0 : W.cell? ⟨B, 2, none⟩ = some (.slice (some ad) (ts.length + 1) c) := (blk_cell hb 2).trans rfl
  have i00 := cell_up hB h00
  have i01 := cell_up hB h01
  have i02 := cell_up hB h02
  have HC0 := Aside0.mk (Kd.C_below h04 hB)
  have HC9 := Aside0.mk (Kd.C_below hC9 hB)
  clear h00 h01 h02 h04 hB hC hBe hb hl hC9
  have HW := Aside0.mk (below_drew (Below.refl W.heap.size W))
  go_region_held3 (fun w' => w'.cell? ⟨B, 1, none⟩ = some (.string (⟨#[46, 46, 46]⟩ : ByteArray)) ∧ w'.cell? ⟨B, 2, none⟩ = some (.slice (some ad) (ts.length + 1) c) ∧ w'.cell? ad = some (.string t0.f0) ∧ w'.cell? ⟨ad.block, ad.off + 1, none⟩ = some (.string t0.f1) ∧ w'.cell? ⟨ad.block, ad.off + 2, none⟩ = some (.slice A0 t0.f2.length c0))
    (first | exact ⟨cell_up HW.out g1, cell_up HW.out g0, cell_up HW.out i00, cell_up HW.out i01, cell_up HW.out i02⟩ | exact ⟨cell_up (below_alloc HW.out _) g1, cell_up (below_alloc HW.out _) g0, cell_up (below_alloc HW.out _) i00, cell_up (below_alloc HW.out _) i01, cell_up (below_alloc HW.out _) i02⟩)
    (first
      | (go_at_call 15; (with_reducible refine (I0.go _ A0 c0 (Kd.C_below HC0.out HW.out) h03 (HL.out.grow HW.out)).mono ?_); rintro e w1 ⟨v0, rfl, hm, hb⟩; have hv0 := hm.cells; unfold Value.cells at hv0; have hm2 := hm.lower (Nat.le_trans HB.out.size HW.out.size); have hn := Aside0.mk (below_step HW.out hb); clear HW; have HW := hn; clear hn; have HM0 := Aside0.mk hm2; clear hm hm2 hb)
      | (go_at_call 18; (with_reducible refine (madeList_any ts IS _ A9 (c - 1) (Kd.C_below HC9.out HW.out) hc9 hsz (HL.out.grow HW.out)).mono ?_); rintro e w8 ⟨v8, rfl, hm, hb⟩; obtain ⟨A8, c8, rfl⟩ := Kd.R_slice hm; have hm2 := hm.lower (Nat.le_trans HB.out.size HW.out.size); have hn := Aside0.mk (below_step HW.out hb); clear HW; have HW := hn; clear hn; have hn := Aside0.mk (HM0.out.grow hb); clear HM0; have HM0 := hn; clear hn; have HR := Aside0.mk hm2; clear hm hm2 hb))
  go_wp2
  go_ret
  exact ⟨_, rfl, Made.call_ (f := true) HR.out HM0.out rfl rfl rfl (Nat.le_trans HB.out.size HW.out.size), below_alloc (below_step HB.out HW.out) _⟩

set_option maxHeartbeats 2000000 in
set_option maxRecDepth 100000 in
theorem made_call_e (t0 : S24) (ts : List S24) (IS : ∀ (j : Nat) (t : S24), ts[j]? = some t → MadeC t) (hsz : ts.length * 56 ≤ 140737488351232) (I0 : MadeC t0) : MadeC ⟨(⟨#[99, 97, 108, 108]⟩ : ByteArray), (⟨#[]⟩ : ByteArray), t0 :: ts⟩ := by
  intro w A c hC hc hl
  have hcd := Kd.C_drop (m := 1) hC (Nat.le_add_left 1 _) hc
  obtain ⟨A9, hcut, hC9⟩ : ∃ A9, (∀ W : World, (Instr.slice 22 (.slice A (ts.length + 1) c) (some (.int .i64 1)) none none).run Tryd.prog W = .ok (.slice A9 ts.length (c - 1)) W) ∧ Kd.C k24 w A9 ts.length ts := by
    obtain ⟨i0, hi0, _, hsz, _⟩ := info_parts info24
    exact ⟨_, fun W => cut_from (P := Tryd.prog) 22 24 .i64 Tryd.underlying22 hi0 3 hsz A (ts.length + 1) c 1 (by omega) (by omega) W, hcd⟩
  have hc9 : ts.length ≤ c - 1 := by simp only [List.length_cons] at hc; omega
  clear hcd
  obtain ⟨ad, A0, c0, rfl, h00, h01, h02, h03, h04⟩ := kid_cells hC 0 t0 rfl
  rw [show ad.add (0 * 3) = ad from rfl] at h00 h01 h02
  go_enter Tryd.func15, Tryd.ntmps15
  go_wp2
  have hB : Below w.heap.size w (w.alloc (.cells #[.string (⟨#[99, 97, 108, 108]⟩ : ByteArray), .string (⟨#[]⟩ : ByteArray), .slice (some ad) (ts.length + 1) c] 24)) := below_alloc (Below.refl _ _) _
  have hb := blk_new w (.cells #[.string (⟨#[99, 97, 108, 108]⟩ : ByteArray), .string (⟨#[]⟩ : ByteArray), .slice (some ad) (ts.length + 1) c] 24)
  obtain ⟨B, hBe⟩ : ∃ B, B = w.heap.size := ⟨_, rfl⟩
  rw [← hBe] at hb
  simp only [← hBe]
  generalize w.alloc (.cells #[.string (⟨#[99, 97, 108, 108]⟩ : ByteArray), .string (⟨#[]⟩ : ByteArray), .slice (some ad) (ts.length + 1) c] 24) = W at hB hb ⊢
  have HB := Aside0.mk hB
  have HL := Aside0.mk (hl.grow hB)
  have g1 : W.cell? ⟨B, 1, none⟩ = some (.string (⟨#[]⟩ : ByteArray)) := (blk_cell hb 1).trans rfl
  have g0 : W.cell? ⟨B, 2, none⟩ = some (.slice (some ad) (ts.length + 1) c) := (blk_cell hb 2).trans rfl
  have i00 := cell_up hB h00
  have i01 := cell_up hB h01
  have i02 := cell_up hB h02
  have HC0 := Aside0.mk (Kd.C_below h04 hB)
  have HC9 := Aside0.mk (Kd.C_below hC9 hB)
  clear h00 h01 h02 h04 hB hC hBe hb hl hC9
  have HW := Aside0.mk (below_drew (Below.refl W.heap.size W))
  go_region_held3 (fun w' => w'.cell? ⟨B, 1, none⟩ = some (.string (⟨#[]⟩ : ByteArray)) ∧ w'.cell? ⟨B, 2, none⟩ = some (.slice (some ad) (ts.length + 1) c) ∧ w'.cell? ad = some (.string t0.f0) ∧ w'.cell? ⟨ad.block, ad.off + 1, none⟩ = some (.string t0.f1) ∧ w'.cell? ⟨ad.block, ad.off + 2, none⟩ = some (.slice A0 t0.f2.length c0))
    (first | exact ⟨cell_up HW.out g1, cell_up HW.out g0, cell_up HW.out i00, cell_up HW.out i01, cell_up HW.out i02⟩ | exact ⟨cell_up (below_alloc HW.out _) g1, cell_up (below_alloc HW.out _) g0, cell_up (below_alloc HW.out _) i00, cell_up (below_alloc HW.out _) i01, cell_up (below_alloc HW.out _) i02⟩)
    (first
      | (go_at_call 15; (with_reducible refine (I0.go _ A0 c0 (Kd.C_below HC0.out HW.out) h03 (HL.out.grow HW.out)).mono ?_); rintro e w1 ⟨v0, rfl, hm, hb⟩; have hv0 := hm.cells; unfold Value.cells at hv0; have hm2 := hm.lower (Nat.le_trans HB.out.size HW.out.size); have hn := Aside0.mk (below_step HW.out hb); clear HW; have HW := hn; clear hn; have HM0 := Aside0.mk hm2; clear hm hm2 hb)
      | (go_at_call 18; (with_reducible refine (madeList_any ts IS _ A9 (c - 1) (Kd.C_below HC9.out HW.out) hc9 hsz (HL.out.grow HW.out)).mono ?_); rintro e w8 ⟨v8, rfl, hm, hb⟩; obtain ⟨A8, c8, rfl⟩ := Kd.R_slice hm; have hm2 := hm.lower (Nat.le_trans HB.out.size HW.out.size); have hn := Aside0.mk (below_step HW.out hb); clear HW; have HW := hn; clear hn; have hn := Aside0.mk (HM0.out.grow hb); clear HM0; have HM0 := hn; clear hn; have HR := Aside0.mk hm2; clear hm hm2 hb))
  go_wp2
  go_ret
  exact ⟨_, rfl, Made.call_ (f := false) HR.out HM0.out rfl rfl rfl (Nat.le_trans HB.out.size HW.out.size), below_alloc (below_step HB.out HW.out) _⟩

set_option maxHeartbeats 2000000 in
set_option maxRecDepth 100000 in
theorem made_composite (t0 : S24) (ts : List S24) (IS : ∀ (j : Nat) (t : S24), ts[j]? = some t → MadeC t) (hsz : ts.length * 56 ≤ 140737488351232) (I0 : MadeC t0) : MadeC ⟨(⟨#[99, 111, 109, 112, 111, 115, 105, 116, 101]⟩ : ByteArray), (⟨#[]⟩ : ByteArray), t0 :: ts⟩ := by
  intro w A c hC hc hl
  have hcd := Kd.C_drop (m := 1) hC (Nat.le_add_left 1 _) hc
  obtain ⟨A9, hcut, hC9⟩ : ∃ A9, (∀ W : World, (Instr.slice 22 (.slice A (ts.length + 1) c) (some (.int .i64 1)) none none).run Tryd.prog W = .ok (.slice A9 ts.length (c - 1)) W) ∧ Kd.C k24 w A9 ts.length ts := by
    obtain ⟨i0, hi0, _, hsz, _⟩ := info_parts info24
    exact ⟨_, fun W => cut_from (P := Tryd.prog) 22 24 .i64 Tryd.underlying22 hi0 3 hsz A (ts.length + 1) c 1 (by omega) (by omega) W, hcd⟩
  have hc9 : ts.length ≤ c - 1 := by simp only [List.length_cons] at hc; omega
  clear hcd
  obtain ⟨ad, A0, c0, rfl, h00, h01, h02, h03, h04⟩ := kid_cells hC 0 t0 rfl
  rw [show ad.add (0 * 3) = ad from rfl] at h00 h01 h02
  go_enter Tryd.func15, Tryd.ntmps15
  go_wp2
  have hB : Below w.heap.size w (w.alloc (.cells #[.string (⟨#[99, 111, 109, 112, 111, 115, 105, 116, 101]⟩ : ByteArray), .string (⟨#[]⟩ : ByteArray), .slice (some ad) (ts.length + 1) c] 24)) := below_alloc (Below.refl _ _) _
  have hb := blk_new w (.cells #[.string (⟨#[99, 111, 109, 112, 111, 115, 105, 116, 101]⟩ : ByteArray), .string (⟨#[]⟩ : ByteArray), .slice (some ad) (ts.length + 1) c] 24)
  obtain ⟨B, hBe⟩ : ∃ B, B = w.heap.size := ⟨_, rfl⟩
  rw [← hBe] at hb
  simp only [← hBe]
  generalize w.alloc (.cells #[.string (⟨#[99, 111, 109, 112, 111, 115, 105, 116, 101]⟩ : ByteArray), .string (⟨#[]⟩ : ByteArray), .slice (some ad) (ts.length + 1) c] 24) = W at hB hb ⊢
  have HB := Aside0.mk hB
  have HL := Aside0.mk (hl.grow hB)
  have g0 : W.cell? ⟨B, 2, none⟩ = some (.slice (some ad) (ts.length + 1) c) := (blk_cell hb 2).trans rfl
  have i00 := cell_up hB h00
  have i01 := cell_up hB h01
  have i02 := cell_up hB h02
  have HC0 := Aside0.mk (Kd.C_below h04 hB)
  have HC9 := Aside0.mk (Kd.C_below hC9 hB)
  clear h00 h01 h02 h04 hB hC hBe hb hl hC9
  have HW := Aside0.mk (below_drew (Below.refl W.heap.size W))
  go_region_held3 (fun w' => w'.cell? ⟨B, 2, none⟩ = some (.slice (some ad) (ts.length + 1) c) ∧ w'.cell? ad = some (.string t0.f0) ∧ w'.cell? ⟨ad.block, ad.off + 1, none⟩ = some (.string t0.f1) ∧ w'.cell? ⟨ad.block, ad.off + 2, none⟩ = some (.slice A0 t0.f2.length c0))
    (first | exact ⟨cell_up HW.out g0, cell_up HW.out i00, cell_up HW.out i01, cell_up HW.out i02⟩ | exact ⟨cell_up (below_alloc HW.out _) g0, cell_up (below_alloc HW.out _) i00, cell_up (below_alloc HW.out _) i01, cell_up (below_alloc HW.out _) i02⟩)
    (first
      | (go_at_call 15; (with_reducible refine (I0.go _ A0 c0 (Kd.C_below HC0.out HW.out) h03 (HL.out.grow HW.out)).mono ?_); rintro e w1 ⟨v0, rfl, hm, hb⟩; have hv0 := hm.cells; unfold Value.cells at hv0; have hm2 := hm.lower (Nat.le_trans HB.out.size HW.out.size); have hn := Aside0.mk (below_step HW.out hb); clear HW; have HW := hn; clear hn; have HM0 := Aside0.mk hm2; clear hm hm2 hb)
      | (go_at_call 18; (with_reducible refine (madeList_any ts IS _ A9 (c - 1) (Kd.C_below HC9.out HW.out) hc9 hsz (HL.out.grow HW.out)).mono ?_); rintro e w8 ⟨v8, rfl, hm, hb⟩; obtain ⟨A8, c8, rfl⟩ := Kd.R_slice hm; have hm2 := hm.lower (Nat.le_trans HB.out.size HW.out.size); have hn := Aside0.mk (below_step HW.out hb); clear HW; have HW := hn; clear hn; have hn := Aside0.mk (HM0.out.grow hb); clear HM0; have HM0 := hn; clear hn; have HR := Aside0.mk hm2; clear hm hm2 hb))
  go_wp2
  go_ret
  exact ⟨_, rfl, Made.comp_ HR.out HM0.out rfl rfl (Nat.le_trans HB.out.size HW.out.size), below_alloc (below_step HB.out HW.out) _⟩
end Go.Proofs.YtjkhfdekmpaoiaaDoor
