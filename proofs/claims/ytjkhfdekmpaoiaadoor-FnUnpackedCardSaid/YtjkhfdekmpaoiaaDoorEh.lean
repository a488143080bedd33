/- The walk of typeNode, a theorem for each kind of node (types of slices and of channels): the call comes to the node that the expression was made of. -/
import Derived.Test.YtjkhfdekmpaoiaaDoorEe
namespace Go.Proofs.YtjkhfdekmpaoiaaDoor
open Go.RowKit Go.Proofs.YtjkhfdekmpaoiaaDoorW.PrintWords Go.Proofs.YtjkhfdekmpaoiaaDoor.Kinds
set_option linter.unusedVariables false
set_option linter.unusedSimpArgs false

attribute [local go_sem] ta_113_116 ta_113_113
set_option maxHeartbeats 2000000 in
set_option maxRecDepth 100000 in
theorem type_slicetype (w : World) (t0 : S24) (v0 : Value) (b : Nat) (cs : Array Value) (h : w.heap[b]? = some (.cells cs 115 (0, 0))) (h0 : cs[0]? = some v0) (c0 : v0.cells = #[v0]) (I0 : NodeC w t0 v0) : TypeC w ⟨(⟨#[115, 108, 105, 99, 101, 116, 121, 112, 101]⟩ : ByteArray), (⟨#[]⟩ : ByteArray), [t0]⟩ (.iface 113 (.pointer (some ⟨b, 0, none⟩))) := by
  intro w0 hW hL
  unfold Value.cells at c0
  have j0 := cell_up hW ((blk_cell h 0).trans h0)
  have II := Aside0.mk (kids1 I0)
  have hB : Below w0.heap.size w0 (w0.alloc (.cells #[.string ⟨#[]⟩, .string ⟨#[]⟩, .slice none 0 0] 24)) := below_alloc (Below.refl _ _) _
  have HK := Aside0.mk (blk_new w0 (.cells #[.string ⟨#[]⟩, .string ⟨#[]⟩, .slice none 0 0] 24))
  have HS := Aside0.mk (blk_lt HK.out)
  have HB := Aside0.mk hB
  replace j0 := cell_up hB j0
  have HL := Aside0.mk (hL.grow hB)
  have HW0 := Aside0.mk (show Below w.heap.size w (w0.alloc (.cells #[.string ⟨#[]⟩, .string ⟨#[]⟩, .slice none 0 0] 24)) from below_step hW hB)
  have HZ := Aside0.mk (show [t0].length * 56 ≤ 140737488351232 by simp)
  have HA := Aside0.mk (show Below (w0.alloc (.cells #[.string ⟨#[]⟩, .string ⟨#[]⟩, .slice none 0 0] 24)).heap.size (w0.alloc (.cells #[.string ⟨#[]⟩, .string ⟨#[]⟩, .slice none 0 0] 24)) ((w0.alloc (.cells #[.string ⟨#[]⟩, .string ⟨#[]⟩, .slice none 0 0] 24)).alloc (.cells #[v0] 34)) from below_alloc (Below.refl _ _) _)
  clear hW hL h h0 I0 hB
  go_enter Tryd.func25, Tryd.ntmps25
  go_wp2_with (first | (go_at_call 16; have hk : ((w0.alloc (.cells #[.string ⟨#[]⟩, .string ⟨#[]⟩, .slice none 0 0] 24)).alloc (.cells #[v0] 34)).heap[w0.heap.size + 1]? = some (.cells #[v0] 34 (0, 0)) := by { have := blk_new (w0.alloc (.cells #[.string ⟨#[]⟩, .string ⟨#[]⟩, .slice none 0 0] 24)) (.cells #[v0] 34); simpa using this }; have ha := Aside0.mk hk; clear hk; (with_reducible refine (exprNodes_row w [t0] [v0] rfl II.out _ (below_step HW0.out HA.out) (HL.out.grow HA.out) (w0.heap.size + 1) 1 rfl #[v0] rfl ha.out HZ.out).mono ?_); rintro e w1 ⟨v, rfl, hm, hb⟩; clear ha; obtain ⟨A8, c8, rfl⟩ := Kd.R_slice hm; have HM := Aside0.mk ((hm.put3 (x := .string (⟨#[115, 108, 105, 99, 101, 116, 121, 112, 101]⟩ : ByteArray)) (y := .string (⟨#[]⟩ : ByteArray)) (z := .slice A8 1 c8) (Nat.lt_of_lt_of_le HS.out HA.out.size)).lower (Nat.le_trans HB.out.size HA.out.size)); have HW := Aside0.mk (below_step HA.out hb); clear hm hb; have hx := blk_below HK.out HW.out; have k0 := (blk_cell hx 0).trans rfl; have k1 := (blk_cell hx 1).trans rfl; have k2 := (blk_cell hx 2).trans rfl; have f0 := blk_frozen hx 0; have f1 := blk_frozen hx 1; have f2 := blk_frozen hx 2; have HX := Aside0.mk hx; clear hx))
  refine bodyPost_ret (results_cell_row rfl _ _ w0.heap.size 24 #[.string (⟨#[115, 108, 105, 99, 101, 116, 121, 112, 101]⟩ : ByteArray), .string (⟨#[]⟩ : ByteArray), .slice A8 1 c8] (0, 0) _ rfl (blk_put3 HX.out) Tryd.underlying24 rfl (by kernel_rfl)) rfl ⟨_, rfl, HM.out, below_put3 (below_step HB.out HW.out) (Nat.le_refl _)⟩

attribute [local go_sem] ta_121_116 ta_121_113 ta_121_142 ta_121_119 ta_121_121
set_option maxHeartbeats 2000000 in
set_option maxRecDepth 100000 in
theorem type_chan_0 (w : World) (t0 : S24) (v0 : Value) (b : Nat) (cs : Array Value) (h : w.heap[b]? = some (.cells cs 125 (0, 0))) (h0 : cs[0]? = some (.int .u64 0)) (h1 : cs[1]? = some v0) (c0 : v0.cells = #[v0]) (I0 : NodeC w t0 v0) : TypeC w ⟨(⟨#[99, 104, 97, 110, 116, 121, 112, 101]⟩ : ByteArray), (⟨#[]⟩ : ByteArray), [t0]⟩ (.iface 121 (.pointer (some ⟨b, 0, none⟩))) := by
  intro w0 hW hL
  unfold Value.cells at c0
  have j0 := cell_up hW ((blk_cell h 0).trans h0)
  have j1 := cell_up hW ((blk_cell h 1).trans h1)
  have II := Aside0.mk (kids1 I0)
  have hB : Below w0.heap.size w0 (w0.alloc (.cells #[.string ⟨#[]⟩, .string ⟨#[]⟩, .slice none 0 0] 24)) := below_alloc (Below.refl _ _) _
  have HK := Aside0.mk (blk_new w0 (.cells #[.string ⟨#[]⟩, .string ⟨#[]⟩, .slice none 0 0] 24))
  have HS := Aside0.mk (blk_lt HK.out)
  have HB := Aside0.mk hB
  replace j0 := cell_up hB j0
  replace j1 := cell_up hB j1
  have HL := Aside0.mk (hL.grow hB)
  have HW0 := Aside0.mk (show Below w.heap.size w (w0.alloc (.cells #[.string ⟨#[]⟩, .string ⟨#[]⟩, .slice none 0 0] 24)) from below_step hW hB)
  have HZ := Aside0.mk (show [t0].length * 56 ≤ 140737488351232 by simp)
  have HA := Aside0.mk (show Below (w0.alloc (.cells #[.string ⟨#[]⟩, .string ⟨#[]⟩, .slice none 0 0] 24)).heap.size (w0.alloc (.cells #[.string ⟨#[]⟩, .string ⟨#[]⟩, .slice none 0 0] 24)) ((w0.alloc (.cells #[.string ⟨#[]⟩, .string ⟨#[]⟩, .slice none 0 0] 24)).alloc (.cells #[v0] 34)) from below_alloc (Below.refl _ _) _)
  clear hW hL h h0 h1 I0 hB
  go_enter Tryd.func25, Tryd.ntmps25
  go_wp2_with (first | (go_at_call 16; have hk : ((w0.alloc (.cells #[.string ⟨#[]⟩, .string ⟨#[]⟩, .slice none 0 0] 24)).alloc (.cells #[v0] 34)).heap[w0.heap.size + 1]? = some (.cells #[v0] 34 (0, 0)) := by { have := blk_new (w0.alloc (.cells #[.string ⟨#[]⟩, .string ⟨#[]⟩, .slice none 0 0] 24)) (.cells #[v0] 34); simpa using this }; have ha := Aside0.mk hk; clear hk; (with_reducible refine (exprNodes_row w [t0] [v0] rfl II.out _ (below_step HW0.out HA.out) (HL.out.grow HA.out) (w0.heap.size + 1) 1 rfl #[v0] rfl ha.out HZ.out).mono ?_); rintro e w1 ⟨v, rfl, hm, hb⟩; clear ha; obtain ⟨A8, c8, rfl⟩ := Kd.R_slice hm; have HM := Aside0.mk ((hm.put3 (x := .string (⟨#[99, 104, 97, 110, 116, 121, 112, 101]⟩ : ByteArray)) (y := .string (⟨#[]⟩ : ByteArray)) (z := .slice A8 1 c8) (Nat.lt_of_lt_of_le HS.out HA.out.size)).lower (Nat.le_trans HB.out.size HA.out.size)); have HW := Aside0.mk (below_step HA.out hb); clear hm hb; have hx := blk_below HK.out HW.out; have k0 := (blk_cell hx 0).trans rfl; have k1 := (blk_cell hx 1).trans rfl; have k2 := (blk_cell hx 2).trans rfl; have f0 := blk_frozen hx 0; have f1 := blk_frozen hx 1; have f2 := blk_frozen hx 2; have HX := Aside0.mk hx; clear hx))
  refine bodyPost_ret (results_cell_row rfl _ _ w0.heap.size 24 #[.string (⟨#[99, 104, 97, 110, 116, 121, 112, 101]⟩ : ByteArray), .string (⟨#[]⟩ : ByteArray), .slice A8 1 c8] (0, 0) _ rfl (blk_put3 HX.out) Tryd.underlying24 rfl (by kernel_rfl)) rfl ⟨_, rfl, HM.out, below_put3 (below_step HB.out HW.out) (Nat.le_refl _)⟩

set_option maxHeartbeats 2000000 in
set_option maxRecDepth 100000 in
theorem type_chan_1 (w : World) (t0 : S24) (v0 : Value) (b : Nat) (cs : Array Value) (h : w.heap[b]? = some (.cells cs 125 (0, 0))) (h0 : cs[0]? = some (.int .u64 1)) (h1 : cs[1]? = some v0) (c0 : v0.cells = #[v0]) (I0 : NodeC w t0 v0) : TypeC w ⟨(⟨#[99, 104, 97, 110, 116, 121, 112, 101]⟩ : ByteArray), (⟨#[115, 101, 110, 100]⟩ : ByteArray), [t0]⟩ (.iface 121 (.pointer (some ⟨b, 0, none⟩))) := by
  intro w0 hW hL
  unfold Value.cells at c0
  have j0 := cell_up hW ((blk_cell h 0).trans h0)
  have j1 := cell_up hW ((blk_cell h 1).trans h1)
  have II := Aside0.mk (kids1 I0)
  have hB : Below w0.heap.size w0 (w0.alloc (.cells #[.string ⟨#[]⟩, .string ⟨#[]⟩, .slice none 0 0] 24)) := below_alloc (Below.refl _ _) _
  have HK := Aside0.mk (blk_new w0 (.cells #[.string ⟨#[]⟩, .string ⟨#[]⟩, .slice none 0 0] 24))
  have HS := Aside0.mk (blk_lt HK.out)
  have HB := Aside0.mk hB
  replace j0 := cell_up hB j0
  replace j1 := cell_up hB j1
  have HL := Aside0.mk (hL.grow hB)
  have HW0 := Aside0.mk (show Below w.heap.size w (w0.alloc (.cells #[.string ⟨#[]⟩, .string ⟨#[]⟩, .slice none 0 0] 24)) from below_step hW hB)
  have HZ := Aside0.mk (show [t0].length * 56 ≤ 140737488351232 by simp)
  have HA := Aside0.mk (show Below (w0.alloc (.cells #[.string ⟨#[]⟩, .string ⟨#[]⟩, .slice none 0 0] 24)).heap.size (w0.alloc (.cells #[.string ⟨#[]⟩, .string ⟨#[]⟩, .slice none 0 0] 24)) ((w0.alloc (.cells #[.string ⟨#[]⟩, .string ⟨#[]⟩, .slice none 0 0] 24)).alloc (.cells #[v0] 34)) from below_alloc (Below.refl _ _) _)
  clear hW hL h h0 h1 I0 hB
  go_enter Tryd.func25, Tryd.ntmps25
  go_wp2_with (first | (go_at_call 16; have hk : ((w0.alloc (.cells #[.string ⟨#[]⟩, .string ⟨#[]⟩, .slice none 0 0] 24)).alloc (.cells #[v0] 34)).heap[w0.heap.size + 1]? = some (.cells #[v0] 34 (0, 0)) := by { have := blk_new (w0.alloc (.cells #[.string ⟨#[]⟩, .string ⟨#[]⟩, .slice none 0 0] 24)) (.cells #[v0] 34); simpa using this }; have ha := Aside0.mk hk; clear hk; (with_reducible refine (exprNodes_row w [t0] [v0] rfl II.out _ (below_step HW0.out HA.out) (HL.out.grow HA.out) (w0.heap.size + 1) 1 rfl #[v0] rfl ha.out HZ.out).mono ?_); rintro e w1 ⟨v, rfl, hm, hb⟩; clear ha; obtain ⟨A8, c8, rfl⟩ := Kd.R_slice hm; have HM := Aside0.mk ((hm.put3 (x := .string (⟨#[99, 104, 97, 110, 116, 121, 112, 101]⟩ : ByteArray)) (y := .string (⟨#[115, 101, 110, 100]⟩ : ByteArray)) (z := .slice A8 1 c8) (Nat.lt_of_lt_of_le HS.out HA.out.size)).lower (Nat.le_trans HB.out.size HA.out.size)); have HW := Aside0.mk (below_step HA.out hb); clear hm hb; have hx := blk_below HK.out HW.out; have k0 := (blk_cell hx 0).trans rfl; have k1 := (blk_cell hx 1).trans rfl; have k2 := (blk_cell hx 2).trans rfl; have f0 := blk_frozen hx 0; have f1 := blk_frozen hx 1; have f2 := blk_frozen hx 2; have HX := Aside0.mk hx; clear hx))
  refine bodyPost_ret (results_cell_row rfl _ _ w0.heap.size 24 #[.string (⟨#[99, 104, 97, 110, 116, 121, 112, 101]⟩ : ByteArray), .string (⟨#[115, 101, 110, 100]⟩ : ByteArray), .slice A8 1 c8] (0, 0) _ rfl (blk_put3 HX.out) Tryd.underlying24 rfl (by kernel_rfl)) rfl ⟨_, rfl, HM.out, below_put3 (below_step HB.out HW.out) (Nat.le_refl _)⟩

set_option maxHeartbeats 2000000 in
set_option maxRecDepth 100000 in
theorem type_chan_2 (w : World) (t0 : S24) (v0 : Value) (b : Nat) (cs : Array Value) (h : w.heap[b]? = some (.cells cs 125 (0, 0))) (h0 : cs[0]? = some (.int .u64 2)) (h1 : cs[1]? = some v0) (c0 : v0.cells = #[v0]) (I0 : NodeC w t0 v0) : TypeC w ⟨(⟨#[99, 104, 97, 110, 116, 121, 112, 101]⟩ : ByteArray), (⟨#[114, 101, 99, 118]⟩ : ByteArray), [t0]⟩ (.iface 121 (.pointer (some ⟨b, 0, none⟩))) := by
  intro w0 hW hL
  unfold Value.cells at c0
  have j0 := cell_up hW ((blk_cell h 0).trans h0)
  have j1 := cell_up hW ((blk_cell h 1).trans h1)
  have II := Aside0.mk (kids1 I0)
  have hB : Below w0.heap.size w0 (w0.alloc (.cells #[.string ⟨#[]⟩, .string ⟨#[]⟩, .slice none 0 0] 24)) := below_alloc (Below.refl _ _) _
  have HK := Aside0.mk (blk_new w0 (.cells #[.string ⟨#[]⟩, .string ⟨#[]⟩, .slice none 0 0] 24))
  have HS := Aside0.mk (blk_lt HK.out)
  have HB := Aside0.mk hB
  replace j0 := cell_up hB j0
  replace j1 := cell_up hB j1
  have HL := Aside0.mk (hL.grow hB)
  have HW0 := Aside0.mk (show Below w.heap.size w (w0.alloc (.cells #[.string ⟨#[]⟩, .string ⟨#[]⟩, .slice none 0 0] 24)) from below_step hW hB)
  have HZ := Aside0.mk (show [t0].length * 56 ≤ 140737488351232 by simp)
  have HA := Aside0.mk (show Below (w0.alloc (.cells #[.string ⟨#[]⟩, .string ⟨#[]⟩, .slice none 0 0] 24)).heap.size (w0.alloc (.cells #[.string ⟨#[]⟩, .string ⟨#[]⟩, .slice none 0 0] 24)) ((w0.alloc (.cells #[.string ⟨#[]⟩, .string ⟨#[]⟩, .slice none 0 0] 24)).alloc (.cells #[v0] 34)) from below_alloc (Below.refl _ _) _)
  clear hW hL h h0 h1 I0 hB
  go_enter Tryd.func25, Tryd.ntmps25
  go_wp2_with (first | (go_at_call 16; have hk : ((w0.alloc (.cells #[.string ⟨#[]⟩, .string ⟨#[]⟩, .slice none 0 0] 24)).alloc (.cells #[v0] 34)).heap[w0.heap.size + 1]? = some (.cells #[v0] 34 (0, 0)) := by { have := blk_new (w0.alloc (.cells #[.string ⟨#[]⟩, .string ⟨#[]⟩, .slice none 0 0] 24)) (.cells #[v0] 34); simpa using this }; have ha := Aside0.mk hk; clear hk; (with_reducible refine (exprNodes_row w [t0] [v0] rfl II.out _ (below_step HW0.out HA.out) (HL.out.grow HA.out) (w0.heap.size + 1) 1 rfl #[v0] rfl ha.out HZ.out).mono ?_); rintro e w1 ⟨v, rfl, hm, hb⟩; clear ha; obtain ⟨A8, c8, rfl⟩ := Kd.R_slice hm; have HM := Aside0.mk ((hm.put3 (x := .string (⟨#[99, 104, 97, 110, 116, 121, 112, 101]⟩ : ByteArray)) (y := .string (⟨#[114, 101, 99, 118]⟩ : ByteArray)) (z := .slice A8 1 c8) (Nat.lt_of_lt_of_le HS.out HA.out.size)).lower (Nat.le_trans HB.out.size HA.out.size)); have HW := Aside0.mk (below_step HA.out hb); clear hm hb; have hx := blk_below HK.out HW.out; have k0 := (blk_cell hx 0).trans rfl; have k1 := (blk_cell hx 1).trans rfl; have k2 := (blk_cell hx 2).trans rfl; have f0 := blk_frozen hx 0; have f1 := blk_frozen hx 1; have f2 := blk_frozen hx 2; have HX := Aside0.mk hx; clear hx))
  refine bodyPost_ret (results_cell_row rfl _ _ w0.heap.size 24 #[.string (⟨#[99, 104, 97, 110, 116, 121, 112, 101]⟩ : ByteArray), .string (⟨#[114, 101, 99, 118]⟩ : ByteArray), .slice A8 1 c8] (0, 0) _ rfl (blk_put3 HX.out) Tryd.underlying24 rfl (by kernel_rfl)) rfl ⟨_, rfl, HM.out, below_put3 (below_step HB.out HW.out) (Nat.le_refl _)⟩
end Go.Proofs.YtjkhfdekmpaoiaaDoor
