/- The walk of exprNode, a theorem for each kind of node (types, which it hands on): the call comes to the node that the expression was made of. -/
import Derived.Test.YtjkhfdekmpaoiaaDoorEe
namespace Go.Proofs.YtjkhfdekmpaoiaaDoor
open Go.RowKit Go.Proofs.YtjkhfdekmpaoiaaDoorW.PrintWords Go.Proofs.YtjkhfdekmpaoiaaDoor.Kinds
set_option linter.unusedVariables false
set_option linter.unusedSimpArgs false

attribute [local go_sem] ta_113_62 ta_113_64 ta_113_66 ta_113_69 ta_113_72 ta_113_79 ta_113_82 ta_113_87 ta_113_90 ta_113_94 ta_113_97 ta_113_100 ta_113_106 ta_113_40
set_option maxHeartbeats 2000000 in
set_option maxRecDepth 100000 in
theorem node_of_113 (w : World) (t : S24) (b : Nat) (hlt : b < w.heap.size) (HT : TypeC w t (.iface 113 (.pointer (some ⟨b, 0, none⟩)))) : NodeC w t (.iface 113 (.pointer (some ⟨b, 0, none⟩))) := by
  intro w0 hW hL
  have hB : Below w0.heap.size w0 (w0.alloc (.cells #[.string ⟨#[]⟩, .string ⟨#[]⟩, .slice none 0 0] 24)) := below_alloc (Below.refl _ _) _
  have HK := Aside0.mk (blk_new w0 (.cells #[.string ⟨#[]⟩, .string ⟨#[]⟩, .slice none 0 0] 24))
  have HS := Aside0.mk (blk_lt HK.out)
  have HB := Aside0.mk hB
  have HL := Aside0.mk (hL.grow hB)
  have HW0 := Aside0.mk (show Below w.heap.size w (w0.alloc (.cells #[.string ⟨#[]⟩, .string ⟨#[]⟩, .slice none 0 0] 24)) from below_step hW hB)
  clear hW hL hB
  go_enter Tryd.func13, Tryd.ntmps13
  go_wp2_with (first | (go_at_call 25; (with_reducible refine (HT.go _ HW0.out HL.out).mono ?_); rintro e w1 ⟨v, rfl, hm, hb⟩; obtain ⟨A8, c8, rfl⟩ := Kd.R_slice hm; have HM := Aside0.mk ((hm.put3 (x := .string t.f0) (y := .string t.f1) (z := .slice A8 t.f2.length c8) HS.out).lower HB.out.size); have HW := Aside0.mk hb; clear hm hb; have hx := blk_below HK.out HW.out; have k0 := (blk_cell hx 0).trans rfl; have k1 := (blk_cell hx 1).trans rfl; have k2 := (blk_cell hx 2).trans rfl; have f0 := blk_frozen hx 0; have f1 := blk_frozen hx 1; have f2 := blk_frozen hx 2; have HX := Aside0.mk hx; clear hx))
  refine bodyPost_ret (results_cell_row rfl _ _ w0.heap.size 24 #[.string t.f0, .string t.f1, .slice A8 t.f2.length c8] (0, 0) _ rfl (blk_put3 HX.out) Tryd.underlying24 rfl (by kernel_rfl)) rfl ⟨_, rfl, HM.out, below_put3 (below_step HB.out HW.out) (Nat.le_refl _)⟩

attribute [local go_sem] ta_116_62 ta_116_64 ta_116_66 ta_116_69 ta_116_72 ta_116_79 ta_116_82 ta_116_87 ta_116_90 ta_116_94 ta_116_97 ta_116_100 ta_116_106 ta_116_40
set_option maxHeartbeats 2000000 in
set_option maxRecDepth 100000 in
theorem node_of_116 (w : World) (t : S24) (b : Nat) (hlt : b < w.heap.size) (HT : TypeC w t (.iface 116 (.pointer (some ⟨b, 0, none⟩)))) : NodeC w t (.iface 116 (.pointer (some ⟨b, 0, none⟩))) := by
  intro w0 hW hL
  have hB : Below w0.heap.size w0 (w0.alloc (.cells #[.string ⟨#[]⟩, .string ⟨#[]⟩, .slice none 0 0] 24)) := below_alloc (Below.refl _ _) _
  have HK := Aside0.mk (blk_new w0 (.cells #[.string ⟨#[]⟩, .string ⟨#[]⟩, .slice none 0 0] 24))
  have HS := Aside0.mk (blk_lt HK.out)
  have HB := Aside0.mk hB
  have HL := Aside0.mk (hL.grow hB)
  have HW0 := Aside0.mk (show Below w.heap.size w (w0.alloc (.cells #[.string ⟨#[]⟩, .string ⟨#[]⟩, .slice none 0 0] 24)) from below_step hW hB)
  clear hW hL hB
  go_enter Tryd.func13, Tryd.ntmps13
  go_wp2_with (first | (go_at_call 25; (with_reducible refine (HT.go _ HW0.out HL.out).mono ?_); rintro e w1 ⟨v, rfl, hm, hb⟩; obtain ⟨A8, c8, rfl⟩ := Kd.R_slice hm; have HM := Aside0.mk ((hm.put3 (x := .string t.f0) (y := .string t.f1) (z := .slice A8 t.f2.length c8) HS.out).lower HB.out.size); have HW := Aside0.mk hb; clear hm hb; have hx := blk_below HK.out HW.out; have k0 := (blk_cell hx 0).trans rfl; have k1 := (blk_cell hx 1).trans rfl; have k2 := (blk_cell hx 2).trans rfl; have f0 := blk_frozen hx 0; have f1 := blk_frozen hx 1; have f2 := blk_frozen hx 2; have HX := Aside0.mk hx; clear hx))
  refine bodyPost_ret (results_cell_row rfl _ _ w0.heap.size 24 #[.string t.f0, .string t.f1, .slice A8 t.f2.length c8] (0, 0) _ rfl (blk_put3 HX.out) Tryd.underlying24 rfl (by kernel_rfl)) rfl ⟨_, rfl, HM.out, below_put3 (below_step HB.out HW.out) (Nat.le_refl _)⟩

attribute [local go_sem] ta_119_62 ta_119_64 ta_119_66 ta_119_69 ta_119_72 ta_119_79 ta_119_82 ta_119_87 ta_119_90 ta_119_94 ta_119_97 ta_119_100 ta_119_106 ta_119_40
set_option maxHeartbeats 2000000 in
set_option maxRecDepth 100000 in
theorem node_of_119 (w : World) (t : S24) (b : Nat) (hlt : b < w.heap.size) (HT : TypeC w t (.iface 119 (.pointer (some ⟨b, 0, none⟩)))) : NodeC w t (.iface 119 (.pointer (some ⟨b, 0, none⟩))) := by
  intro w0 hW hL
  have hB : Below w0.heap.size w0 (w0.alloc (.cells #[.string ⟨#[]⟩, .string ⟨#[]⟩, .slice none 0 0] 24)) := below_alloc (Below.refl _ _) _
  have HK := Aside0.mk (blk_new w0 (.cells #[.string ⟨#[]⟩, .string ⟨#[]⟩, .slice none 0 0] 24))
  have HS := Aside0.mk (blk_lt HK.out)
  have HB := Aside0.mk hB
  have HL := Aside0.mk (hL.grow hB)
  have HW0 := Aside0.mk (show Below w.heap.size w (w0.alloc (.cells #[.string ⟨#[]⟩, .string ⟨#[]⟩, .slice none 0 0] 24)) from below_step hW hB)
  clear hW hL hB
  go_enter Tryd.func13, Tryd.ntmps13
  go_wp2_with (first | (go_at_call 25; (with_reducible refine (HT.go _ HW0.out HL.out).mono ?_); rintro e w1 ⟨v, rfl, hm, hb⟩; obtain ⟨A8, c8, rfl⟩ := Kd.R_slice hm; have HM := Aside0.mk ((hm.put3 (x := .string t.f0) (y := .string t.f1) (z := .slice A8 t.f2.length c8) HS.out).lower HB.out.size); have HW := Aside0.mk hb; clear hm hb; have hx := blk_below HK.out HW.out; have k0 := (blk_cell hx 0).trans rfl; have k1 := (blk_cell hx 1).trans rfl; have k2 := (blk_cell hx 2).trans rfl; have f0 := blk_frozen hx 0; have f1 := blk_frozen hx 1; have f2 := blk_frozen hx 2; have HX := Aside0.mk hx; clear hx))
  refine bodyPost_ret (results_cell_row rfl _ _ w0.heap.size 24 #[.string t.f0, .string t.f1, .slice A8 t.f2.length c8] (0, 0) _ rfl (blk_put3 HX.out) Tryd.underlying24 rfl (by kernel_rfl)) rfl ⟨_, rfl, HM.out, below_put3 (below_step HB.out HW.out) (Nat.le_refl _)⟩

attribute [local go_sem] ta_121_62 ta_121_64 ta_121_66 ta_121_69 ta_121_72 ta_121_79 ta_121_82 ta_121_87 ta_121_90 ta_121_94 ta_121_97 ta_121_100 ta_121_106 ta_121_40
set_option maxHeartbeats 2000000 in
set_option maxRecDepth 100000 in
theorem node_of_121 (w : World) (t : S24) (b : Nat) (hlt : b < w.heap.size) (HT : TypeC w t (.iface 121 (.pointer (some ⟨b, 0, none⟩)))) : NodeC w t (.iface 121 (.pointer (some ⟨b, 0, none⟩))) := by
  intro w0 hW hL
  have hB : Below w0.heap.size w0 (w0.alloc (.cells #[.string ⟨#[]⟩, .string ⟨#[]⟩, .slice none 0 0] 24)) := below_alloc (Below.refl _ _) _
  have HK := Aside0.mk (blk_new w0 (.cells #[.string ⟨#[]⟩, .string ⟨#[]⟩, .slice none 0 0] 24))
  have HS := Aside0.mk (blk_lt HK.out)
  have HB := Aside0.mk hB
  have HL := Aside0.mk (hL.grow hB)
  have HW0 := Aside0.mk (show Below w.heap.size w (w0.alloc (.cells #[.string ⟨#[]⟩, .string ⟨#[]⟩, .slice none 0 0] 24)) from below_step hW hB)
  clear hW hL hB
  go_enter Tryd.func13, Tryd.ntmps13
  go_wp2_with (first | (go_at_call 25; (with_reducible refine (HT.go _ HW0.out HL.out).mono ?_); rintro e w1 ⟨v, rfl, hm, hb⟩; obtain ⟨A8, c8, rfl⟩ := Kd.R_slice hm; have HM := Aside0.mk ((hm.put3 (x := .string t.f0) (y := .string t.f1) (z := .slice A8 t.f2.length c8) HS.out).lower HB.out.size); have HW := Aside0.mk hb; clear hm hb; have hx := blk_below HK.out HW.out; have k0 := (blk_cell hx 0).trans rfl; have k1 := (blk_cell hx 1).trans rfl; have k2 := (blk_cell hx 2).trans rfl; have f0 := blk_frozen hx 0; have f1 := blk_frozen hx 1; have f2 := blk_frozen hx 2; have HX := Aside0.mk hx; clear hx))
  refine bodyPost_ret (results_cell_row rfl _ _ w0.heap.size 24 #[.string t.f0, .string t.f1, .slice A8 t.f2.length c8] (0, 0) _ rfl (blk_put3 HX.out) Tryd.underlying24 rfl (by kernel_rfl)) rfl ⟨_, rfl, HM.out, below_put3 (below_step HB.out HW.out) (Nat.le_refl _)⟩
end Go.Proofs.YtjkhfdekmpaoiaaDoor
