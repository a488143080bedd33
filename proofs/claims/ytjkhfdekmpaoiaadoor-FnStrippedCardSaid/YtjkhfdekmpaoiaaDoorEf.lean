/- The walk of exprNode, a theorem for each kind of node (selectors, slices): the call comes to the node that the expression was made of. -/
import Derived.Test.YtjkhfdekmpaoiaaDoorEc
namespace Go.Proofs.YtjkhfdekmpaoiaaDoor
open Go.RowKit Go.Proofs.YtjkhfdekmpaoiaaDoorW.PrintWords Go.Proofs.YtjkhfdekmpaoiaaDoor.Kinds
set_option linter.unusedVariables false
set_option linter.unusedSimpArgs false

attribute [local go_sem] ta_82_62 ta_82_64 ta_82_66 ta_82_69 ta_82_72 ta_82_79 ta_82_82
set_option maxHeartbeats 2000000 in
set_option maxRecDepth 100000 in
theorem node_selector (w : World) (s : ByteArray) (t0 : S24) (v0 : Value) (b2 : Nat) (b : Nat) (cs : Array Value) (h : w.heap[b]? = some (.cells cs 86 (0, 0))) (h0 : cs[0]? = some v0) (h1 : cs[1]? = some (.pointer (some ⟨b2, 0, none⟩))) (c0 : v0.cells = #[v0]) (I0 : NodeC w t0 v0) (hs : w.cell? ⟨b2, 0, none⟩ = some (.string s)) : NodeC w ⟨(⟨#[115, 101, 108, 101, 99, 116, 111, 114]⟩ : ByteArray), s, [t0]⟩ (.iface 82 (.pointer (some ⟨b, 0, none⟩))) := by
  intro w0 hW hL
  unfold Value.cells at c0
  have j0 := cell_up hW ((blk_cell h 0).trans h0)
  have j1 := cell_up hW ((blk_cell h 1).trans h1)
  have js := cell_up hW hs
  have hlt2 : b2 < w0.heap.size := World.block_lt_of_cell? w0 _ js
  have hlt : b < w0.heap.size := World.block_lt_of_cell? w0 _ j0
  have II := Aside0.mk (kids1 I0)
  clear h h0 h1 I0
  clear hs
  go_enter Tryd.func13, Tryd.ntmps13
  go_wp2
  have hB : Below w0.heap.size w0 (w0.alloc (.cells #[.string ⟨#[]⟩, .string ⟨#[]⟩, .slice none 0 0] 24)) := below_alloc (Below.refl _ _) _
  have hb := blk_new w0 (.cells #[.string ⟨#[]⟩, .string ⟨#[]⟩, .slice none 0 0] 24)
  have hbs : w0.heap.size < (w0.alloc (.cells #[.string ⟨#[]⟩, .string ⟨#[]⟩, .slice none 0 0] 24)).heap.size := blk_lt hb
  obtain ⟨B, hBe⟩ : ∃ B, B = w0.heap.size := ⟨_, rfl⟩
  rw [← hBe] at hb hbs
  simp only [← hBe]
  generalize w0.alloc (.cells #[.string ⟨#[]⟩, .string ⟨#[]⟩, .slice none 0 0] 24) = W at hB hb hbs ⊢
  have HB := Aside0.mk hB
  have HK := Aside0.mk hb
  have HE := Aside0.mk hBe
  have HN := Aside0.mk (show b ≠ B by omega)
  have HS := Aside0.mk hbs
  have HL := Aside0.mk (hL.grow hB)
  have HW0 := Aside0.mk (show Below w.heap.size w W from below_step hW hB)
  replace j0 := cell_up hB j0
  replace j1 := cell_up hB j1
  replace js := cell_up hB js
  have HN2 := Aside0.mk (show b2 ≠ B by omega)
  clear hlt2
  clear hW hL hlt hB hb hBe hbs
  have HW := Aside0.mk (below_drew (Below.refl W.heap.size W))
  have HA := Aside0.mk (show Below W.heap.size W (W.alloc (.cells #[v0] 34)).drew from below_drew (below_alloc (Below.refl W.heap.size W) _))
  have HZ := Aside0.mk (show [t0].length * 56 ≤ 140737488351232 by simp)
  go_region_held3 (fun w' => w'.cell? ⟨b, 0, none⟩ = some v0 ∧ w'.cell? ⟨b, 1, none⟩ = some (.pointer (some ⟨b2, 0, none⟩)) ∧ w'.cell? ⟨b2, 0, none⟩ = some (.string s))
    (first | exact ⟨cell_up HW.out j0, cell_up HW.out j1, cell_up HW.out js⟩ | exact ⟨cell_up HA.out j0, cell_up HA.out j1, cell_up HA.out js⟩ | exact ⟨cell_put3 HN.out _ (cell_up HW.out j0), cell_put3 HN.out _ (cell_up HW.out j1), cell_put3 HN2.out _ (cell_up HW.out js)⟩)
    (first
      | (go_at_call 16; have hk : (W.alloc (.cells #[v0] 34)).drew.heap[W.heap.size]? = some (.cells #[v0] 34 (0, 0)) := blk_new W _; have ha := Aside0.mk hk; clear hk; (with_reducible refine (exprNodes_row w [t0] [v0] rfl II.out _ (below_step HW0.out HA.out) (HL.out.grow HA.out) W.heap.size 1 rfl #[v0] rfl ha.out HZ.out).mono ?_); rintro e w1 ⟨v, rfl, hm, hb⟩; clear ha; obtain ⟨A8, c8, rfl⟩ := Kd.R_slice hm; have HM := Aside0.mk ((hm.put3 (x := .string (⟨#[115, 101, 108, 101, 99, 116, 111, 114]⟩ : ByteArray)) (y := .string s) (z := .slice A8 1 c8) (Nat.lt_of_lt_of_le HS.out HA.out.size)).lower (Nat.le_trans HB.out.size HA.out.size)); have hn := Aside0.mk (below_step HA.out hb); clear HW; have HW := hn; clear hn hm hb; have hx := blk_below HK.out HW.out; have k0 := (blk_cell hx 0).trans rfl; have k1 := (blk_cell hx 1).trans rfl; have k2 := (blk_cell hx 2).trans rfl; have f0 := blk_frozen hx 0; have f1 := blk_frozen hx 1; have f2 := blk_frozen hx 2; have HX := Aside0.mk hx; clear hx))
  go_wp2
  refine bodyPost_ret (results_cell_row rfl _ _ B 24 #[.string (⟨#[115, 101, 108, 101, 99, 116, 111, 114]⟩ : ByteArray), .string s, .slice A8 1 c8] (0, 0) _ rfl (blk_put3 HX.out) Tryd.underlying24 rfl (by kernel_rfl)) rfl ⟨_, rfl, HM.out, below_put3 (below_step HB.out HW.out) (Nat.le_of_eq HE.out.symm)⟩

attribute [local go_sem] ta_90_62 ta_90_64 ta_90_66 ta_90_69 ta_90_72 ta_90_79 ta_90_82 ta_90_87 ta_90_90
set_option maxHeartbeats 2000000 in
set_option maxRecDepth 100000 in
theorem node_slice_f (w : World) (t0 t1 t2 t3 : S24) (v0 v1 v2 v3 : Value) (b : Nat) (cs : Array Value) (h : w.heap[b]? = some (.cells cs 93 (0, 0))) (h0 : cs[0]? = some v0) (h1 : cs[1]? = some v1) (h2 : cs[2]? = some v2) (h3 : cs[3]? = some v3) (h4 : cs[4]? = some (.bool true)) (c0 : v0.cells = #[v0]) (c1 : v1.cells = #[v1]) (c2 : v2.cells = #[v2]) (c3 : v3.cells = #[v3]) (I0 : NodeC w t0 v0) (I1 : NodeC w t1 v1) (I2 : NodeC w t2 v2) (I3 : NodeC w t3 v3)  : NodeC w ⟨(⟨#[115, 108, 105, 99, 101]⟩ : ByteArray), (⟨#[102, 117, 108, 108]⟩ : ByteArray), [t0, t1, t2, t3]⟩ (.iface 90 (.pointer (some ⟨b, 0, none⟩))) := by
  intro w0 hW hL
  unfold Value.cells at c0 c1 c2 c3
  have j0 := cell_up hW ((blk_cell h 0).trans h0)
  have j1 := cell_up hW ((blk_cell h 1).trans h1)
  have j2 := cell_up hW ((blk_cell h 2).trans h2)
  have j3 := cell_up hW ((blk_cell h 3).trans h3)
  have j4 := cell_up hW ((blk_cell h 4).trans h4)
  have hlt : b < w0.heap.size := World.block_lt_of_cell? w0 _ j0
  have II := Aside0.mk (kids4 I0 I1 I2 I3)
  clear h h0 h1 h2 h3 h4 I0 I1 I2 I3
  have y4 := cell_up (below_alloc (Below.refl w0.heap.size w0) (.cells #[.string ⟨#[]⟩, .string ⟨#[]⟩, .slice none 0 0] 24)) j4
  go_enter Tryd.func13, Tryd.ntmps13
  go_wp2
  have hB : Below w0.heap.size w0 (w0.alloc (.cells #[.string ⟨#[]⟩, .string ⟨#[]⟩, .slice none 0 0] 24)) := below_alloc (Below.refl _ _) _
  have hb := blk_new w0 (.cells #[.string ⟨#[]⟩, .string ⟨#[]⟩, .slice none 0 0] 24)
  have hbs : w0.heap.size < (w0.alloc (.cells #[.string ⟨#[]⟩, .string ⟨#[]⟩, .slice none 0 0] 24)).heap.size := blk_lt hb
  obtain ⟨B, hBe⟩ : ∃ B, B = w0.heap.size := ⟨_, rfl⟩
  rw [← hBe] at hb hbs
  simp only [← hBe]
  clear y4
  generalize w0.alloc (.cells #[.string ⟨#[]⟩, .string ⟨#[]⟩, .slice none 0 0] 24) = W at hB hb hbs ⊢
  have HB := Aside0.mk hB
  have HK := Aside0.mk hb
  have HE := Aside0.mk hBe
  have HN := Aside0.mk (show b ≠ B by omega)
  have HS := Aside0.mk hbs
  have HL := Aside0.mk (hL.grow hB)
  have HW0 := Aside0.mk (show Below w.heap.size w W from below_step hW hB)
  replace j0 := cell_up hB j0
  replace j1 := cell_up hB j1
  replace j2 := cell_up hB j2
  replace j3 := cell_up hB j3
  replace j4 := cell_up hB j4
  clear hW hL hlt hB hb hBe hbs
  have HW := Aside0.mk (below_drew (Below.refl W.heap.size W))
  have HA := Aside0.mk (show Below W.heap.size W (W.alloc (.cells #[v0, v1, v2, v3] 34)).drew from below_drew (below_alloc (Below.refl W.heap.size W) _))
  have HZ := Aside0.mk (show [t0, t1, t2, t3].length * 56 ≤ 140737488351232 by simp)
  go_region_held3 (fun w' => w'.cell? ⟨b, 0, none⟩ = some v0 ∧ w'.cell? ⟨b, 1, none⟩ = some v1 ∧ w'.cell? ⟨b, 2, none⟩ = some v2 ∧ w'.cell? ⟨b, 3, none⟩ = some v3 ∧ w'.cell? ⟨b, 4, none⟩ = some (.bool true))
    (first | exact ⟨cell_up HW.out j0, cell_up HW.out j1, cell_up HW.out j2, cell_up HW.out j3, cell_up HW.out j4⟩ | exact ⟨cell_up HA.out j0, cell_up HA.out j1, cell_up HA.out j2, cell_up HA.out j3, cell_up HA.out j4⟩ | exact ⟨cell_put3 HN.out _ (cell_up HW.out j0), cell_put3 HN.out _ (cell_up HW.out j1), cell_put3 HN.out _ (cell_up HW.out j2), cell_put3 HN.out _ (cell_up HW.out j3), cell_put3 HN.out _ (cell_up HW.out j4)⟩)
    (first
      | (go_at_call 16; have hk : (W.alloc (.cells #[v0, v1, v2, v3] 34)).drew.heap[W.heap.size]? = some (.cells #[v0, v1, v2, v3] 34 (0, 0)) := blk_new W _; have ha := Aside0.mk hk; clear hk; (with_reducible refine (exprNodes_row w [t0, t1, t2, t3] [v0, v1, v2, v3] rfl II.out _ (below_step HW0.out HA.out) (HL.out.grow HA.out) W.heap.size 4 rfl #[v0, v1, v2, v3] rfl ha.out HZ.out).mono ?_); rintro e w1 ⟨v, rfl, hm, hb⟩; clear ha; obtain ⟨A8, c8, rfl⟩ := Kd.R_slice hm; have HM := Aside0.mk ((hm.put3 (x := .string (⟨#[115, 108, 105, 99, 101]⟩ : ByteArray)) (y := .string (⟨#[102, 117, 108, 108]⟩ : ByteArray)) (z := .slice A8 4 c8) (Nat.lt_of_lt_of_le HS.out HA.out.size)).lower (Nat.le_trans HB.out.size HA.out.size)); have hn := Aside0.mk (below_step HA.out hb); clear HW; have HW := hn; clear hn hm hb; have hx := blk_below HK.out HW.out; have k0 := (blk_cell hx 0).trans rfl; have k1 := (blk_cell hx 1).trans rfl; have k2 := (blk_cell hx 2).trans rfl; have f0 := blk_frozen hx 0; have f1 := blk_frozen hx 1; have f2 := blk_frozen hx 2; have HX := Aside0.mk hx; clear hx))
  go_wp2
  refine bodyPost_ret (results_cell_row rfl _ _ B 24 #[.string (⟨#[115, 108, 105, 99, 101]⟩ : ByteArray), .string (⟨#[102, 117, 108, 108]⟩ : ByteArray), .slice A8 4 c8] (0, 0) _ rfl (blk_put3 HX.out) Tryd.underlying24 rfl (by kernel_rfl)) rfl ⟨_, rfl, HM.out, below_put3 (below_step HB.out HW.out) (Nat.le_of_eq HE.out.symm)⟩

set_option maxHeartbeats 2000000 in
set_option maxRecDepth 100000 in
theorem node_slice_e (w : World) (t0 t1 t2 t3 : S24) (v0 v1 v2 v3 : Value) (b : Nat) (cs : Array Value) (h : w.heap[b]? = some (.cells cs 93 (0, 0))) (h0 : cs[0]? = some v0) (h1 : cs[1]? = some v1) (h2 : cs[2]? = some v2) (h3 : cs[3]? = some v3) (h4 : cs[4]? = some (.bool false)) (c0 : v0.cells = #[v0]) (c1 : v1.cells = #[v1]) (c2 : v2.cells = #[v2]) (c3 : v3.cells = #[v3]) (I0 : NodeC w t0 v0) (I1 : NodeC w t1 v1) (I2 : NodeC w t2 v2) (I3 : NodeC w t3 v3)  : NodeC w ⟨(⟨#[115, 108, 105, 99, 101]⟩ : ByteArray), (⟨#[]⟩ : ByteArray), [t0, t1, t2, t3]⟩ (.iface 90 (.pointer (some ⟨b, 0, none⟩))) := by
  intro w0 hW hL
  unfold Value.cells at c0 c1 c2 c3
  have j0 := cell_up hW ((blk_cell h 0).trans h0)
  have j1 := cell_up hW ((blk_cell h 1).trans h1)
  have j2 := cell_up hW ((blk_cell h 2).trans h2)
  have j3 := cell_up hW ((blk_cell h 3).trans h3)
  have j4 := cell_up hW ((blk_cell h 4).trans h4)
  have hlt : b < w0.heap.size := World.block_lt_of_cell? w0 _ j0
  have II := Aside0.mk (kids4 I0 I1 I2 I3)
  clear h h0 h1 h2 h3 h4 I0 I1 I2 I3
  have y4 := cell_up (below_alloc (Below.refl w0.heap.size w0) (.cells #[.string ⟨#[]⟩, .string ⟨#[]⟩, .slice none 0 0] 24)) j4
  go_enter Tryd.func13, Tryd.ntmps13
  go_wp2
  have hB : Below w0.heap.size w0 (w0.alloc (.cells #[.string ⟨#[]⟩, .string ⟨#[]⟩, .slice none 0 0] 24)) := below_alloc (Below.refl _ _) _
  have hb := blk_new w0 (.cells #[.string ⟨#[]⟩, .string ⟨#[]⟩, .slice none 0 0] 24)
  have hbs : w0.heap.size < (w0.alloc (.cells #[.string ⟨#[]⟩, .string ⟨#[]⟩, .slice none 0 0] 24)).heap.size := blk_lt hb
  obtain ⟨B, hBe⟩ : ∃ B, B = w0.heap.size := ⟨_, rfl⟩
  rw [← hBe] at hb hbs
  simp only [← hBe]
  clear y4
  generalize w0.alloc (.cells #[.string ⟨#[]⟩, .string ⟨#[]⟩, .slice none 0 0] 24) = W at hB hb hbs ⊢
  have HB := Aside0.mk hB
  have HK := Aside0.mk hb
  have HE := Aside0.mk hBe
  have HN := Aside0.mk (show b ≠ B by omega)
  have HS := Aside0.mk hbs
  have HL := Aside0.mk (hL.grow hB)
  have HW0 := Aside0.mk (show Below w.heap.size w W from below_step hW hB)
  replace j0 := cell_up hB j0
  replace j1 := cell_up hB j1
  replace j2 := cell_up hB j2
  replace j3 := cell_up hB j3
  replace j4 := cell_up hB j4
  clear hW hL hlt hB hb hBe hbs
  have HW := Aside0.mk (below_drew (Below.refl W.heap.size W))
  have HA := Aside0.mk (show Below W.heap.size W (W.alloc (.cells #[v0, v1, v2, v3] 34)).drew from below_drew (below_alloc (Below.refl W.heap.size W) _))
  have HZ := Aside0.mk (show [t0, t1, t2, t3].length * 56 ≤ 140737488351232 by simp)
  go_region_held3 (fun w' => w'.cell? ⟨b, 0, none⟩ = some v0 ∧ w'.cell? ⟨b, 1, none⟩ = some v1 ∧ w'.cell? ⟨b, 2, none⟩ = some v2 ∧ w'.cell? ⟨b, 3, none⟩ = some v3 ∧ w'.cell? ⟨b, 4, none⟩ = some (.bool false))
    (first | exact ⟨cell_up HW.out j0, cell_up HW.out j1, cell_up HW.out j2, cell_up HW.out j3, cell_up HW.out j4⟩ | exact ⟨cell_up HA.out j0, cell_up HA.out j1, cell_up HA.out j2, cell_up HA.out j3, cell_up HA.out j4⟩ | exact ⟨cell_put3 HN.out _ (cell_up HW.out j0), cell_put3 HN.out _ (cell_up HW.out j1), cell_put3 HN.out _ (cell_up HW.out j2), cell_put3 HN.out _ (cell_up HW.out j3), cell_put3 HN.out _ (cell_up HW.out j4)⟩)
    (first
      | (go_at_call 16; have hk : (W.alloc (.cells #[v0, v1, v2, v3] 34)).drew.heap[W.heap.size]? = some (.cells #[v0, v1, v2, v3] 34 (0, 0)) := blk_new W _; have ha := Aside0.mk hk; clear hk; (with_reducible refine (exprNodes_row w [t0, t1, t2, t3] [v0, v1, v2, v3] rfl II.out _ (below_step HW0.out HA.out) (HL.out.grow HA.out) W.heap.size 4 rfl #[v0, v1, v2, v3] rfl ha.out HZ.out).mono ?_); rintro e w1 ⟨v, rfl, hm, hb⟩; clear ha; obtain ⟨A8, c8, rfl⟩ := Kd.R_slice hm; have HM := Aside0.mk ((hm.put3 (x := .string (⟨#[115, 108, 105, 99, 101]⟩ : ByteArray)) (y := .string (⟨#[]⟩ : ByteArray)) (z := .slice A8 4 c8) (Nat.lt_of_lt_of_le HS.out HA.out.size)).lower (Nat.le_trans HB.out.size HA.out.size)); have hn := Aside0.mk (below_step HA.out hb); clear HW; have HW := hn; clear hn hm hb; have hx := blk_below HK.out HW.out; have k0 := (blk_cell hx 0).trans rfl; have k1 := (blk_cell hx 1).trans rfl; have k2 := (blk_cell hx 2).trans rfl; have f0 := blk_frozen hx 0; have f1 := blk_frozen hx 1; have f2 := blk_frozen hx 2; have HX := Aside0.mk hx; clear hx))
  go_wp2
  refine bodyPost_ret (results_cell_row rfl _ _ B 24 #[.string (⟨#[115, 108, 105, 99, 101]⟩ : ByteArray), .string (⟨#[]⟩ : ByteArray), .slice A8 4 c8] (0, 0) _ rfl (blk_put3 HX.out) Tryd.underlying24 rfl (by kernel_rfl)) rfl ⟨_, rfl, HM.out, below_put3 (below_step HB.out HW.out) (Nat.le_of_eq HE.out.symm)⟩
end Go.Proofs.YtjkhfdekmpaoiaaDoor
