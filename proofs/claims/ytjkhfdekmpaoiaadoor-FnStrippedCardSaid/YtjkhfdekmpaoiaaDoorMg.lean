/- The walk of made, a theorem for each kind of node (names, literals, lists, types of channels, those of one part): the call comes to the expression that is made of the tree. -/
import Derived.Test.YtjkhfdekmpaoiaaDoorMb
namespace Go.Proofs.YtjkhfdekmpaoiaaDoor
open Go.RowKit Go.Proofs.YtjkhfdekmpaoiaaDoorW.PrintWords Go.Proofs.YtjkhfdekmpaoiaaDoor.Kinds
set_option linter.unusedVariables false
set_option linter.unusedSimpArgs false

theorem direction_0 (w : World) : Calls Tryd.prog 29 #[.string (⟨#[]⟩ : ByteArray)] w fun e w' => e = .returned (.int .u64 0) ∧ w = w' := by
  go_enter Tryd.func29, Tryd.ntmps29
  go_wp2
  go_ret
  exact ⟨rfl, rfl⟩

theorem direction_1 (w : World) : Calls Tryd.prog 29 #[.string (⟨#[115, 101, 110, 100]⟩ : ByteArray)] w fun e w' => e = .returned (.int .u64 1) ∧ w = w' := by
  go_enter Tryd.func29, Tryd.ntmps29
  go_wp2
  go_ret
  exact ⟨rfl, rfl⟩

theorem direction_2 (w : World) : Calls Tryd.prog 29 #[.string (⟨#[114, 101, 99, 118]⟩ : ByteArray)] w fun e w' => e = .returned (.int .u64 2) ∧ w = w' := by
  go_enter Tryd.func29, Tryd.ntmps29
  go_wp2
  go_ret
  exact ⟨rfl, rfl⟩

set_option maxHeartbeats 2000000 in
set_option maxRecDepth 100000 in
theorem made_chan_0 (t0 : S24) (I0 : MadeC t0) : MadeC ⟨(⟨#[99, 104, 97, 110, 116, 121, 112, 101]⟩ : ByteArray), (⟨#[]⟩ : ByteArray), [t0]⟩ := by
  intro w A c hC hc hl
  obtain ⟨ad, A0, c0, rfl, h00, h01, h02, h03, h04⟩ := kid_cells hC 0 t0 rfl
  rw [show ad.add (0 * 3) = ad from rfl] at h00 h01 h02
  go_enter Tryd.func15, Tryd.ntmps15
  go_wp2
  have hB : Below w.heap.size w (w.alloc (.cells #[.string (⟨#[99, 104, 97, 110, 116, 121, 112, 101]⟩ : ByteArray), .string (⟨#[]⟩ : ByteArray), .slice (some ad) 1 c] 24)) := below_alloc (Below.refl _ _) _
  have hb := blk_new w (.cells #[.string (⟨#[99, 104, 97, 110, 116, 121, 112, 101]⟩ : ByteArray), .string (⟨#[]⟩ : ByteArray), .slice (some ad) 1 c] 24)
  obtain ⟨B, hBe⟩ : ∃ B, B = w.heap.size := ⟨_, rfl⟩
  rw [← hBe] at hb
  simp only [← hBe]
  generalize w.alloc (.cells #[.string (⟨#[99, 104, 97, 110, 116, 121, 112, 101]⟩ : ByteArray), .string (⟨#[]⟩ : ByteArray), .slice (some ad) 1 c] 24) = W at hB hb ⊢
  have HB := Aside0.mk hB
  have HL := Aside0.mk (hl.grow hB)
  have g1 : W.cell? ⟨B, 1, none⟩ = some (.string (⟨#[]⟩ : ByteArray)) := (blk_cell hb 1).trans rfl
  have g0 : W.cell? ⟨B, 2, none⟩ = some (.slice (some ad) 1 c) := (blk_cell hb 2).trans rfl
  have i00 := cell_up hB h00
  have i01 := cell_up hB h01
  have i02 := cell_up hB h02
  have HC0 := Aside0.mk (Kd.C_below h04 hB)
  clear h00 h01 h02 h04 hB hC hBe hb hl
  have HW := Aside0.mk (below_drew (Below.refl W.heap.size W))
  go_region_held3 (fun w' => w'.cell? ⟨B, 1, none⟩ = some (.string (⟨#[]⟩ : ByteArray)) ∧ w'.cell? ⟨B, 2, none⟩ = some (.slice (some ad) 1 c) ∧ w'.cell? ad = some (.string t0.f0) ∧ w'.cell? ⟨ad.block, ad.off + 1, none⟩ = some (.string t0.f1) ∧ w'.cell? ⟨ad.block, ad.off + 2, none⟩ = some (.slice A0 t0.f2.length c0))
    (first | exact ⟨cell_up HW.out g1, cell_up HW.out g0, cell_up HW.out i00, cell_up HW.out i01, cell_up HW.out i02⟩ | exact ⟨cell_up (below_alloc HW.out _) g1, cell_up (below_alloc HW.out _) g0, cell_up (below_alloc HW.out _) i00, cell_up (below_alloc HW.out _) i01, cell_up (below_alloc HW.out _) i02⟩)
    (first
      | (go_at_call 29; (with_reducible refine (direction_0 _).mono ?_); rintro e w8 ⟨rfl, rfl⟩)
      | (go_at_call 15; (with_reducible refine (I0.go _ A0 c0 (Kd.C_below HC0.out HW.out) h03 (HL.out.grow HW.out)).mono ?_); rintro e w1 ⟨v0, rfl, hm, hb⟩; have hv0 := hm.cells; unfold Value.cells at hv0; have hm2 := hm.lower (Nat.le_trans HB.out.size HW.out.size); have hn := Aside0.mk (below_step HW.out hb); clear HW; have HW := hn; clear hn; have HM0 := Aside0.mk hm2; clear hm hm2 hb))
  go_wp2
  go_ret
  exact ⟨_, rfl, Made.chan_ (q := 0) (by decide) HM0.out rfl rfl (Nat.le_trans HB.out.size HW.out.size), below_alloc (below_step HB.out HW.out) _⟩

set_option maxHeartbeats 2000000 in
set_option maxRecDepth 100000 in
theorem made_chan_1 (t0 : S24) (I0 : MadeC t0) : MadeC ⟨(⟨#[99, 104, 97, 110, 116, 121, 112, 101]⟩ : ByteArray), (⟨#[115, 101, 110, 100]⟩ : ByteArray), [t0]⟩ := by
  intro w A c hC hc hl
  obtain ⟨ad, A0, c0, rfl, h00, h01, h02, h03, h04⟩ := kid_cells hC 0 t0 rfl
  rw [show ad.add (0 * 3) = ad from rfl] at h00 h01 h02
  go_enter Tryd.func15, Tryd.ntmps15
  go_wp2
  have hB : Below w.heap.size w (w.alloc (.cells #[.string (⟨#[99, 104, 97, 110, 116, 121, 112, 101]⟩ : ByteArray), .string (⟨#[115, 101, 110, 100]⟩ : ByteArray), .slice (some ad) 1 c] 24)) := below_alloc (Below.refl _ _) _
  have hb := blk_new w (.cells #[.string (⟨#[99, 104, 97, 110, 116, 121, 112, 101]⟩ : ByteArray), .string (⟨#[115, 101, 110, 100]⟩ : ByteArray), .slice (some ad) 1 c] 24)
  obtain ⟨B, hBe⟩ : ∃ B, B = w.heap.size := ⟨_, rfl⟩
  rw [← hBe] at hb
  simp only [← hBe]
  generalize w.alloc (.cells #[.string (⟨#[99, 104, 97, 110, 116, 121, 112, 101]⟩ : ByteArray), .string (⟨#[115, 101, 110, 100]⟩ : ByteArray), .slice (some ad) 1 c] 24) = W at hB hb ⊢
  have HB := Aside0.mk hB
  have HL := Aside0.mk (hl.grow hB)
  have g1 : W.cell? ⟨B, 1, none⟩ = some (.string (⟨#[115, 101, 110, 100]⟩ : ByteArray)) := (blk_cell hb 1).trans rfl
  have g0 : W.cell? ⟨B, 2, none⟩ = some (.slice (some ad) 1 c) := (blk_cell hb 2).trans rfl
  have i00 := cell_up hB h00
  have i01 := cell_up hB h01
  have i02 := cell_up hB h02
  have HC0 := Aside0.mk (Kd.C_below h04 hB)
  clear h00 h01 h02 h04 hB hC hBe hb hl
  have HW := Aside0.mk (below_drew (Below.refl W.heap.size W))
  go_region_held3 (fun w' => w'.cell? ⟨B, 1, none⟩ = some (.string (⟨#[115, 101, 110, 100]⟩ : ByteArray)) ∧ w'.cell? ⟨B, 2, none⟩ = some (.slice (some ad) 1 c) ∧ w'.cell? ad = some (.string t0.f0) ∧ w'.cell? ⟨ad.block, ad.off + 1, none⟩ = some (.string t0.f1) ∧ w'.cell? ⟨ad.block, ad.off + 2, none⟩ = some (.slice A0 t0.f2.length c0))
    (first | exact ⟨cell_up HW.out g1, cell_up HW.out g0, cell_up HW.out i00, cell_up HW.out i01, cell_up HW.out i02⟩ | exact ⟨cell_up (below_alloc HW.out _) g1, cell_up (below_alloc HW.out _) g0, cell_up (below_alloc HW.out _) i00, cell_up (below_alloc HW.out _) i01, cell_up (below_alloc HW.out _) i02⟩)
    (first
      | (go_at_call 29; (with_reducible refine (direction_1 _).mono ?_); rintro e w8 ⟨rfl, rfl⟩)
      | (go_at_call 15; (with_reducible refine (I0.go _ A0 c0 (Kd.C_below HC0.out HW.out) h03 (HL.out.grow HW.out)).mono ?_); rintro e w1 ⟨v0, rfl, hm, hb⟩; have hv0 := hm.cells; unfold Value.cells at hv0; have hm2 := hm.lower (Nat.le_trans HB.out.size HW.out.size); have hn := Aside0.mk (below_step HW.out hb); clear HW; have HW := hn; clear hn; have HM0 := Aside0.mk hm2; clear hm hm2 hb))
  go_wp2
  go_ret
  exact ⟨_, rfl, Made.chan_ (q := 1) (by decide) HM0.out rfl rfl (Nat.le_trans HB.out.size HW.out.size), below_alloc (below_step HB.out HW.out) _⟩

set_option maxHeartbeats 2000000 in
set_option maxRecDepth 100000 in
theorem made_chan_2 (t0 : S24) (I0 : MadeC t0) : MadeC ⟨(⟨#[99, 104, 97, 110, 116, 121, 112, 101]⟩ : ByteArray), (⟨#[114, 101, 99, 118]⟩ : ByteArray), [t0]⟩ := by
  intro w A c hC hc hl
  obtain ⟨ad, A0, c0, rfl, h00, h01, h02, h03, h04⟩ := kid_cells hC 0 t0 rfl
  rw [show ad.add (0 * 3) = ad from rfl] at h00 h01 h02
  go_enter Tryd.func15, Tryd.ntmps15
  go_wp2
  have hB : Below w.heap.size w (w.alloc (.cells #[.string (⟨#[99, 104, 97, 110, 116, 121, 112, 101]⟩ : ByteArray), .string (⟨#[114, 101, 99, 118]⟩ : ByteArray), .slice (some ad) 1 c] 24)) := below_alloc (Below.refl _ _) _
  have hb := blk_new w (.cells #[.string (⟨#[99, 104, 97, 110, 116, 121, 112, 101]⟩ : ByteArray), .string (⟨#[114, 101, 99, 118]⟩ : ByteArray), .slice (some ad) 1 c] 24)
  obtain ⟨B, hBe⟩ : ∃ B, B = w.heap.size := ⟨_, rfl⟩
  rw [← hBe] at hb
  simp only [← hBe]
  generalize w.alloc (.cells #[.string (⟨#[99, 104, 97, 110, 116, 121, 112, 101]⟩ : ByteArray), .string (⟨#[114, 101, 99, 118]⟩ : ByteArray), .slice (some ad) 1 c] 24) = W at hB hb ⊢
  have HB := Aside0.mk hB
  have HL := Aside0.mk (hl.grow hB)
  have g1 : W.cell? ⟨B, 1, none⟩ = some (.string (⟨#[114, 101, 99, 118]⟩ : ByteArray)) := (blk_cell hb 1).trans rfl
  have g0 : W.cell? ⟨B, 2, none⟩ = some (.slice (some ad) 1 c) := (blk_cell hb 2).trans rfl
  have i00 := cell_up hB h00
  have i01 := cell_up hB h01
  have i02 := cell_up hB h02
  have HC0 := Aside0.mk (Kd.C_below h04 hB)
  clear h00 h01 h02 h04 hB hC hBe hb hl
  have HW := Aside0.mk (below_drew (Below.refl W.heap.size W))
  go_region_held3 (fun w' => w'.cell? ⟨B, 1, none⟩ = some (.string (⟨#[114, 101, 99, 118]⟩ : ByteArray)) ∧ w'.cell? ⟨B, 2, none⟩ = some (.slice (some ad) 1 c) ∧ w'.cell? ad = some (.string t0.f0) ∧ w'.cell? ⟨ad.block, ad.off + 1, none⟩ = some (.string t0.f1) ∧ w'.cell? ⟨ad.block, ad.off + 2, none⟩ = some (.slice A0 t0.f2.length c0))
    (first | exact ⟨cell_up HW.out g1, cell_up HW.out g0, cell_up HW.out i00, cell_up HW.out i01, cell_up HW.out i02⟩ | exact ⟨cell_up (below_alloc HW.out _) g1, cell_up (below_alloc HW.out _) g0, cell_up (below_alloc HW.out _) i00, cell_up (below_alloc HW.out _) i01, cell_up (below_alloc HW.out _) i02⟩)
    (first
      | (go_at_call 29; (with_reducible refine (direction_2 _).mono ?_); rintro e w8 ⟨rfl, rfl⟩)
      | (go_at_call 15; (with_reducible refine (I0.go _ A0 c0 (Kd.C_below HC0.out HW.out) h03 (HL.out.grow HW.out)).mono ?_); rintro e w1 ⟨v0, rfl, hm, hb⟩; have hv0 := hm.cells; unfold Value.cells at hv0; have hm2 := hm.lower (Nat.le_trans HB.out.size HW.out.size); have hn := Aside0.mk (below_step HW.out hb); clear HW; have HW := hn; clear hn; have HM0 := Aside0.mk hm2; clear hm hm2 hb))
  go_wp2
  go_ret
  exact ⟨_, rfl, Made.chan_ (q := 2) (by decide) HM0.out rfl rfl (Nat.le_trans HB.out.size HW.out.size), below_alloc (below_step HB.out HW.out) _⟩

set_option maxHeartbeats 2000000 in
set_option maxRecDepth 100000 in
theorem made_paren (t0 : S24) (I0 : MadeC t0) : MadeC ⟨(⟨#[112, 97, 114, 101, 110]⟩ : ByteArray), (⟨#[]⟩ : ByteArray), [t0]⟩ := by
  intro w A c hC hc hl
  obtain ⟨ad, A0, c0, rfl, h00, h01, h02, h03, h04⟩ := kid_cells hC 0 t0 rfl
  rw [show ad.add (0 * 3) = ad from rfl] at h00 h01 h02
  have hB : Below w.heap.size w (w.alloc (.cells #[.string (⟨#[112, 97, 114, 101, 110]⟩ : ByteArray), .string (⟨#[]⟩ : ByteArray), .slice (some ad) 1 c] 24)) := below_alloc (Below.refl _ _) _
  have i00 := cell_up hB h00
  have i01 := cell_up hB h01
  have i02 := cell_up hB h02
  clear h00 h01 h02
  have HC0 := Aside0.mk (Kd.C_below h04 hB)
  have HL := Aside0.mk (hl.grow hB)
  have HB := Aside0.mk hB
  clear h04 hC hl hB
  go_enter Tryd.func15, Tryd.ntmps15
  go_wp2_with (first | (go_at_call 15; (with_reducible refine (I0.go _ A0 c0 HC0.out h03 HL.out).mono ?_); rintro e w1 ⟨v0, rfl, hm, hb⟩; have hv0 := hm.cells; unfold Value.cells at hv0; have HM0 := Aside0.mk (hm.lower HB.out.size); have HW := Aside0.mk (below_step HB.out hb); clear hm hb))
  go_ret
  exact ⟨_, rfl, Made.uno_ (K := (⟨#[112, 97, 114, 101, 110]⟩ : ByteArray)) (T := 79) (S := 81) (by simp [ones]) (by decide) HM0.out rfl HW.out.size, below_alloc HW.out _⟩

set_option maxHeartbeats 2000000 in
set_option maxRecDepth 100000 in
theorem made_slicetype (t0 : S24) (I0 : MadeC t0) : MadeC ⟨(⟨#[115, 108, 105, 99, 101, 116, 121, 112, 101]⟩ : ByteArray), (⟨#[]⟩ : ByteArray), [t0]⟩ := by
  intro w A c hC hc hl
  obtain ⟨ad, A0, c0, rfl, h00, h01, h02, h03, h04⟩ := kid_cells hC 0 t0 rfl
  rw [show ad.add (0 * 3) = ad from rfl] at h00 h01 h02
  have hB : Below w.heap.size w (w.alloc (.cells #[.string (⟨#[115, 108, 105, 99, 101, 116, 121, 112, 101]⟩ : ByteArray), .string (⟨#[]⟩ : ByteArray), .slice (some ad) 1 c] 24)) := below_alloc (Below.refl _ _) _
  have i00 := cell_up hB h00
  have i01 := cell_up hB h01
  have i02 := cell_up hB h02
  clear h00 h01 h02
  have HC0 := Aside0.mk (Kd.C_below h04 hB)
  have HL := Aside0.mk (hl.grow hB)
  have HB := Aside0.mk hB
  clear h04 hC hl hB
  go_enter Tryd.func15, Tryd.ntmps15
  go_wp2_with (first | (go_at_call 15; (with_reducible refine (I0.go _ A0 c0 HC0.out h03 HL.out).mono ?_); rintro e w1 ⟨v0, rfl, hm, hb⟩; have hv0 := hm.cells; unfold Value.cells at hv0; have HM0 := Aside0.mk (hm.lower HB.out.size); have HW := Aside0.mk (below_step HB.out hb); clear hm hb))
  go_ret
  exact ⟨_, rfl, Made.uno_ (K := (⟨#[115, 108, 105, 99, 101, 116, 121, 112, 101]⟩ : ByteArray)) (T := 113) (S := 115) (by simp [ones]) (by decide) HM0.out rfl HW.out.size, below_alloc HW.out _⟩

set_option maxHeartbeats 2000000 in
set_option maxRecDepth 100000 in
theorem made_list (ts : List S24) (IS : ∀ (j : Nat) (t : S24), ts[j]? = some t → MadeC t) (hsz : ts.length * 56 ≤ 140737488351232) : MadeC ⟨(⟨#[108, 105, 115, 116]⟩ : ByteArray), (⟨#[]⟩ : ByteArray), ts⟩ := by
  intro w A c hC hc hl
  have hB : Below w.heap.size w (w.alloc (.cells #[.string (⟨#[108, 105, 115, 116]⟩ : ByteArray), .string (⟨#[]⟩ : ByteArray), .slice A ts.length c] 24)) := below_alloc (Below.refl _ _) _
  have HC := Aside0.mk (Kd.C_below hC hB)
  have HL := Aside0.mk (hl.grow hB)
  have HB := Aside0.mk hB
  have HI := Aside0.mk IS
  clear hC hl hB IS
  go_enter Tryd.func15, Tryd.ntmps15
  go_wp2_with (first | (go_at_call 18; (with_reducible refine (madeList_any ts HI.out _ A c HC.out hc hsz HL.out).mono ?_); rintro e w1 ⟨v0, rfl, hm, hb⟩; obtain ⟨A8, c8, rfl⟩ := Kd.R_slice hm; have HR := Aside0.mk (hm.lower HB.out.size); have HW := Aside0.mk (below_step HB.out hb); clear hm hb))
  go_ret
  exact ⟨_, rfl, Made.list_ HR.out rfl HW.out.size, below_alloc HW.out _⟩

set_option maxHeartbeats 2000000 in
set_option maxRecDepth 100000 in
theorem made_name (s : ByteArray) : MadeC ⟨(⟨#[110, 97, 109, 101]⟩ : ByteArray), s, []⟩ := by
  intro w A c hC hc hl
  have hB : Below w.heap.size w (w.alloc (.cells #[.string (⟨#[110, 97, 109, 101]⟩ : ByteArray), .string s, .slice A 0 c] 24)) := below_alloc (Below.refl _ _) _
  have HB := Aside0.mk hB
  clear hC hl hB
  go_enter Tryd.func15, Tryd.ntmps15
  go_wp2_with (first | (go_at_call 26; (with_reducible refine (newName_any s _).mono ?_); rintro e w1 ⟨b, rfl, hm, hb⟩; have HM := Aside0.mk (hm.lower HB.out.size); have HW := Aside0.mk (below_step HB.out hb); clear hm hb))
  go_ret
  exact ⟨_, rfl, Made.name_ HM.out, HW.out⟩

set_option maxHeartbeats 2000000 in
set_option maxRecDepth 100000 in
theorem made_int (s : ByteArray) : MadeC ⟨(⟨#[105, 110, 116]⟩ : ByteArray), s, []⟩ := by
  intro w A c hC hc hl
  have hB : Below w.heap.size w (w.alloc (.cells #[.string (⟨#[105, 110, 116]⟩ : ByteArray), .string s, .slice A 0 c] 24)) := below_alloc (Below.refl _ _) _
  have HB := Aside0.mk hB
  clear hC hl hB
  go_enter Tryd.func15, Tryd.ntmps15
  go_wp2_with (first | (go_at_call 27; (with_reducible refine (madeLit_int s A c _).mono ?_); rintro e w1 ⟨b, rfl, ⟨cs, l1, l2, l3, l4⟩, hb⟩; have HM := Aside0.mk (Made.lit_ (K := (⟨#[105, 110, 116]⟩ : ByteArray)) (q := 0) (by simp [lits]) l1 l2 l3 (Nat.le_trans HB.out.size l4)); have HW := Aside0.mk (below_step HB.out hb); clear l1 l2 l3 l4 hb))
  go_ret
  exact ⟨_, rfl, HM.out, HW.out⟩

set_option maxHeartbeats 2000000 in
set_option maxRecDepth 100000 in
theorem made_float (s : ByteArray) : MadeC ⟨(⟨#[102, 108, 111, 97, 116]⟩ : ByteArray), s, []⟩ := by
  intro w A c hC hc hl
  have hB : Below w.heap.size w (w.alloc (.cells #[.string (⟨#[102, 108, 111, 97, 116]⟩ : ByteArray), .string s, .slice A 0 c] 24)) := below_alloc (Below.refl _ _) _
  have HB := Aside0.mk hB
  clear hC hl hB
  go_enter Tryd.func15, Tryd.ntmps15
  go_wp2_with (first | (go_at_call 27; (with_reducible refine (madeLit_float s A c _).mono ?_); rintro e w1 ⟨b, rfl, ⟨cs, l1, l2, l3, l4⟩, hb⟩; have HM := Aside0.mk (Made.lit_ (K := (⟨#[102, 108, 111, 97, 116]⟩ : ByteArray)) (q := 1) (by simp [lits]) l1 l2 l3 (Nat.le_trans HB.out.size l4)); have HW := Aside0.mk (below_step HB.out hb); clear l1 l2 l3 l4 hb))
  go_ret
  exact ⟨_, rfl, HM.out, HW.out⟩

set_option maxHeartbeats 2000000 in
set_option maxRecDepth 100000 in
theorem made_imag (s : ByteArray) : MadeC ⟨(⟨#[105, 109, 97, 103]⟩ : ByteArray), s, []⟩ := by
  intro w A c hC hc hl
  have hB : Below w.heap.size w (w.alloc (.cells #[.string (⟨#[105, 109, 97, 103]⟩ : ByteArray), .string s, .slice A 0 c] 24)) := below_alloc (Below.refl _ _) _
  have HB := Aside0.mk hB
  clear hC hl hB
  go_enter Tryd.func15, Tryd.ntmps15
  go_wp2_with (first | (go_at_call 27; (with_reducible refine (madeLit_imag s A c _).mono ?_); rintro e w1 ⟨b, rfl, ⟨cs, l1, l2, l3, l4⟩, hb⟩; have HM := Aside0.mk (Made.lit_ (K := (⟨#[105, 109, 97, 103]⟩ : ByteArray)) (q := 2) (by simp [lits]) l1 l2 l3 (Nat.le_trans HB.out.size l4)); have HW := Aside0.mk (below_step HB.out hb); clear l1 l2 l3 l4 hb))
  go_ret
  exact ⟨_, rfl, HM.out, HW.out⟩

set_option maxHeartbeats 2000000 in
set_option maxRecDepth 100000 in
theorem made_rune (s : ByteArray) : MadeC ⟨(⟨#[114, 117, 110, 101]⟩ : ByteArray), s, []⟩ := by
  intro w A c hC hc hl
  have hB : Below w.heap.size w (w.alloc (.cells #[.string (⟨#[114, 117, 110, 101]⟩ : ByteArray), .string s, .slice A 0 c] 24)) := below_alloc (Below.refl _ _) _
  have HB := Aside0.mk hB
  clear hC hl hB
  go_enter Tryd.func15, Tryd.ntmps15
  go_wp2_with (first | (go_at_call 27; (with_reducible refine (madeLit_rune s A c _).mono ?_); rintro e w1 ⟨b, rfl, ⟨cs, l1, l2, l3, l4⟩, hb⟩; have HM := Aside0.mk (Made.lit_ (K := (⟨#[114, 117, 110, 101]⟩ : ByteArray)) (q := 3) (by simp [lits]) l1 l2 l3 (Nat.le_trans HB.out.size l4)); have HW := Aside0.mk (below_step HB.out hb); clear l1 l2 l3 l4 hb))
  go_ret
  exact ⟨_, rfl, HM.out, HW.out⟩

set_option maxHeartbeats 2000000 in
set_option maxRecDepth 100000 in
theorem made_string (s : ByteArray) : MadeC ⟨(⟨#[115, 116, 114, 105, 110, 103]⟩ : ByteArray), s, []⟩ := by
  intro w A c hC hc hl
  have hB : Below w.heap.size w (w.alloc (.cells #[.string (⟨#[115, 116, 114, 105, 110, 103]⟩ : ByteArray), .string s, .slice A 0 c] 24)) := below_alloc (Below.refl _ _) _
  have HB := Aside0.mk hB
  clear hC hl hB
  go_enter Tryd.func15, Tryd.ntmps15
  go_wp2_with (first | (go_at_call 27; (with_reducible refine (madeLit_string s A c _).mono ?_); rintro e w1 ⟨b, rfl, ⟨cs, l1, l2, l3, l4⟩, hb⟩; have HM := Aside0.mk (Made.lit_ (K := (⟨#[115, 116, 114, 105, 110, 103]⟩ : ByteArray)) (q := 4) (by simp [lits]) l1 l2 l3 (Nat.le_trans HB.out.size l4)); have HW := Aside0.mk (below_step HB.out hb); clear l1 l2 l3 l4 hb))
  go_ret
  exact ⟨_, rfl, HM.out, HW.out⟩

set_option maxHeartbeats 2000000 in
set_option maxRecDepth 100000 in
theorem made_miss : MadeC ⟨(⟨#[]⟩ : ByteArray), (⟨#[]⟩ : ByteArray), []⟩ := by
  intro w A c hC hc hl
  clear hC hl
  go_enter Tryd.func15, Tryd.ntmps15
  go_wp2_with fail
  go_ret
  exact ⟨_, rfl, Made.miss _ _, below_alloc (Below.refl _ _) _⟩
end Go.Proofs.YtjkhfdekmpaoiaaDoor
