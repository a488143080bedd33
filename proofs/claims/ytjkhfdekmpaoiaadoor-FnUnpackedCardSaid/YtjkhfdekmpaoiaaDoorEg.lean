/- The walk of exprNode, a theorem for each kind of node (none, names, literals, parentheses): the call comes to the node that the expression was made of. -/
import Derived.Test.YtjkhfdekmpaoiaaDoorEc
namespace Go.Proofs.YtjkhfdekmpaoiaaDoor
open Go.RowKit Go.Proofs.YtjkhfdekmpaoiaaDoorW.PrintWords Go.Proofs.YtjkhfdekmpaoiaaDoor.Kinds
set_option linter.unusedVariables false
set_option linter.unusedSimpArgs false

set_option maxHeartbeats 2000000 in
set_option maxRecDepth 100000 in
theorem node_nil (w : World) : NodeC w ⟨(⟨#[]⟩ : ByteArray), (⟨#[]⟩ : ByteArray), []⟩ .nilIface := by
  intro w0 hW hL
  clear hW hL
  go_enter Tryd.func13, Tryd.ntmps13
  go_wp2
  refine bodyPost_ret (v := .agg #[.string (⟨#[]⟩ : ByteArray), .string (⟨#[]⟩ : ByteArray), .slice none 0 0]) (by simp [results, Tryd.results13, go_sem]) rfl ⟨_, rfl, NodeRow.nil _ _, below_alloc (Below.refl _ _) _⟩

attribute [local go_sem] ta_62_62
set_option maxHeartbeats 2000000 in
set_option maxRecDepth 100000 in
theorem node_name (w : World) (s : ByteArray) (b : Nat) (cs : Array Value) (h : w.heap[b]? = some (.cells cs 84 (0, 0))) (h0 : cs[0]? = some (.string s)) : NodeC w ⟨(⟨#[110, 97, 109, 101]⟩ : ByteArray), s, []⟩ (.iface 62 (.pointer (some ⟨b, 0, none⟩))) := by
  intro w0 hW hL
  have J := Aside0.mk (cell_up hW ((blk_cell h 0).trans h0))
  have hB : Below w0.heap.size w0 (w0.alloc (.cells #[.string ⟨#[]⟩, .string ⟨#[]⟩, .slice none 0 0] 24)) := below_alloc (Below.refl _ _) _
  have HK := Aside0.mk (blk_new w0 (.cells #[.string ⟨#[]⟩, .string ⟨#[]⟩, .slice none 0 0] 24))
  have HS := Aside0.mk (blk_lt HK.out)
  have HB := Aside0.mk hB
  clear hW hL h h0 hB
  go_enter Tryd.func13, Tryd.ntmps13
  go_wp2_with (first | (go_at_call 20; (with_reducible refine (nameNode_any s b _ (cell_up (below_alloc (Below.refl _ _) _) J.out)).mono ?_); rintro e w1 ⟨rfl, hb⟩; have HW := Aside0.mk hb; clear hb; have hx := blk_below HK.out HW.out; have k0 := (blk_cell hx 0).trans rfl; have k1 := (blk_cell hx 1).trans rfl; have k2 := (blk_cell hx 2).trans rfl; have f0 := blk_frozen hx 0; have f1 := blk_frozen hx 1; have f2 := blk_frozen hx 2; have HX := Aside0.mk hx; clear hx))
  refine bodyPost_ret (results_cell_row rfl _ _ w0.heap.size 24 #[.string (⟨#[110, 97, 109, 101]⟩ : ByteArray), .string s, .slice none 0 0] (0, 0) _ rfl (blk_put3 HX.out) Tryd.underlying24 rfl (by kernel_rfl)) rfl ⟨_, rfl, NodeRow.nil _ _, below_put3 (below_step HB.out HW.out) (Nat.le_refl _)⟩

attribute [local go_sem] ta_64_62 ta_64_64
set_option maxHeartbeats 2000000 in
set_option maxRecDepth 100000 in
theorem node_int (w : World) (s : ByteArray) (b : Nat) (cs : Array Value) (h : w.heap[b]? = some (.cells cs 129 (0, 0))) (h0 : cs[0]? = some (.string s)) (h1 : cs[1]? = some (.int .u8 0)) : NodeC w ⟨(⟨#[105, 110, 116]⟩ : ByteArray), s, []⟩ (.iface 64 (.pointer (some ⟨b, 0, none⟩))) := by
  intro w0 hW hL
  have J := Aside0.mk (cell_up hW ((blk_cell h 0).trans h0))
  have J1 := Aside0.mk (cell_up hW ((blk_cell h 1).trans h1))
  have hB : Below w0.heap.size w0 (w0.alloc (.cells #[.string ⟨#[]⟩, .string ⟨#[]⟩, .slice none 0 0] 24)) := below_alloc (Below.refl _ _) _
  have HK := Aside0.mk (blk_new w0 (.cells #[.string ⟨#[]⟩, .string ⟨#[]⟩, .slice none 0 0] 24))
  have HS := Aside0.mk (blk_lt HK.out)
  have HB := Aside0.mk hB
  clear hW hL h h0 h1 hB
  go_enter Tryd.func13, Tryd.ntmps13
  go_wp2_with (first | (go_at_call 21; (with_reducible refine (litNode_int s b _ (cell_up (below_alloc (Below.refl _ _) _) J.out) (cell_up (below_alloc (Below.refl _ _) _) J1.out)).mono ?_); rintro e w1 ⟨rfl, hb⟩; have HW := Aside0.mk hb; clear hb; have hx := blk_below HK.out HW.out; have k0 := (blk_cell hx 0).trans rfl; have k1 := (blk_cell hx 1).trans rfl; have k2 := (blk_cell hx 2).trans rfl; have f0 := blk_frozen hx 0; have f1 := blk_frozen hx 1; have f2 := blk_frozen hx 2; have HX := Aside0.mk hx; clear hx))
  refine bodyPost_ret (results_cell_row rfl _ _ w0.heap.size 24 #[.string (⟨#[105, 110, 116]⟩ : ByteArray), .string s, .slice none 0 0] (0, 0) _ rfl (blk_put3 HX.out) Tryd.underlying24 rfl (by kernel_rfl)) rfl ⟨_, rfl, NodeRow.nil _ _, below_put3 (below_step HB.out HW.out) (Nat.le_refl _)⟩

set_option maxHeartbeats 2000000 in
set_option maxRecDepth 100000 in
theorem node_float (w : World) (s : ByteArray) (b : Nat) (cs : Array Value) (h : w.heap[b]? = some (.cells cs 129 (0, 0))) (h0 : cs[0]? = some (.string s)) (h1 : cs[1]? = some (.int .u8 1)) : NodeC w ⟨(⟨#[102, 108, 111, 97, 116]⟩ : ByteArray), s, []⟩ (.iface 64 (.pointer (some ⟨b, 0, none⟩))) := by
  intro w0 hW hL
  have J := Aside0.mk (cell_up hW ((blk_cell h 0).trans h0))
  have J1 := Aside0.mk (cell_up hW ((blk_cell h 1).trans h1))
  have hB : Below w0.heap.size w0 (w0.alloc (.cells #[.string ⟨#[]⟩, .string ⟨#[]⟩, .slice none 0 0] 24)) := below_alloc (Below.refl _ _) _
  have HK := Aside0.mk (blk_new w0 (.cells #[.string ⟨#[]⟩, .string ⟨#[]⟩, .slice none 0 0] 24))
  have HS := Aside0.mk (blk_lt HK.out)
  have HB := Aside0.mk hB
  clear hW hL h h0 h1 hB
  go_enter Tryd.func13, Tryd.ntmps13
  go_wp2_with (first | (go_at_call 21; (with_reducible refine (litNode_float s b _ (cell_up (below_alloc (Below.refl _ _) _) J.out) (cell_up (below_alloc (Below.refl _ _) _) J1.out)).mono ?_); rintro e w1 ⟨rfl, hb⟩; have HW := Aside0.mk hb; clear hb; have hx := blk_below HK.out HW.out; have k0 := (blk_cell hx 0).trans rfl; have k1 := (blk_cell hx 1).trans rfl; have k2 := (blk_cell hx 2).trans rfl; have f0 := blk_frozen hx 0; have f1 := blk_frozen hx 1; have f2 := blk_frozen hx 2; have HX := Aside0.mk hx; clear hx))
  refine bodyPost_ret (results_cell_row rfl _ _ w0.heap.size 24 #[.string (⟨#[102, 108, 111, 97, 116]⟩ : ByteArray), .string s, .slice none 0 0] (0, 0) _ rfl (blk_put3 HX.out) Tryd.underlying24 rfl (by kernel_rfl)) rfl ⟨_, rfl, NodeRow.nil _ _, below_put3 (below_step HB.out HW.out) (Nat.le_refl _)⟩

set_option maxHeartbeats 2000000 in
set_option maxRecDepth 100000 in
theorem node_imag (w : World) (s : ByteArray) (b : Nat) (cs : Array Value) (h : w.heap[b]? = some (.cells cs 129 (0, 0))) (h0 : cs[0]? = some (.string s)) (h1 : cs[1]? = some (.int .u8 2)) : NodeC w ⟨(⟨#[105, 109, 97, 103]⟩ : ByteArray), s, []⟩ (.iface 64 (.pointer (some ⟨b, 0, none⟩))) := by
  intro w0 hW hL
  have J := Aside0.mk (cell_up hW ((blk_cell h 0).trans h0))
  have J1 := Aside0.mk (cell_up hW ((blk_cell h 1).trans h1))
  have hB : Below w0.heap.size w0 (w0.alloc (.cells #[.string ⟨#[]⟩, .string ⟨#[]⟩, .slice none 0 0] 24)) := below_alloc (Below.refl _ _) _
  have HK := Aside0.mk (blk_new w0 (.cells #[.string ⟨#[]⟩, .string ⟨#[]⟩, .slice none 0 0] 24))
  have HS := Aside0.mk (blk_lt HK.out)
  have HB := Aside0.mk hB
  clear hW hL h h0 h1 hB
  go_enter Tryd.func13, Tryd.ntmps13
  go_wp2_with (first | (go_at_call 21; (with_reducible refine (litNode_imag s b _ (cell_up (below_alloc (Below.refl _ _) _) J.out) (cell_up (below_alloc (Below.refl _ _) _) J1.out)).mono ?_); rintro e w1 ⟨rfl, hb⟩; have HW := Aside0.mk hb; clear hb; have hx := blk_below HK.out HW.out; have k0 := (blk_cell hx 0).trans rfl; have k1 := (blk_cell hx 1).trans rfl; have k2 := (blk_cell hx 2).trans rfl; have f0 := blk_frozen hx 0; have f1 := blk_frozen hx 1; have f2 := blk_frozen hx 2; have HX := Aside0.mk hx; clear hx))
  refine bodyPost_ret (results_cell_row rfl _ _ w0.heap.size 24 #[.string (⟨#[105, 109, 97, 103]⟩ : ByteArray), .string s, .slice none 0 0] (0, 0) _ rfl (blk_put3 HX.out) Tryd.underlying24 rfl (by kernel_rfl)) rfl ⟨_, rfl, NodeRow.nil _ _, below_put3 (below_step HB.out HW.out) (Nat.le_refl _)⟩

set_option maxHeartbeats 2000000 in
set_option maxRecDepth 100000 in
theorem node_rune (w : World) (s : ByteArray) (b : Nat) (cs : Array Value) (h : w.heap[b]? = some (.cells cs 129 (0, 0))) (h0 : cs[0]? = some (.string s)) (h1 : cs[1]? = some (.int .u8 3)) : NodeC w ⟨(⟨#[114, 117, 110, 101]⟩ : ByteArray), s, []⟩ (.iface 64 (.pointer (some ⟨b, 0, none⟩))) := by
  intro w0 hW hL
  have J := Aside0.mk (cell_up hW ((blk_cell h 0).trans h0))
  have J1 := Aside0.mk (cell_up hW ((blk_cell h 1).trans h1))
  have hB : Below w0.heap.size w0 (w0.alloc (.cells #[.string ⟨#[]⟩, .string ⟨#[]⟩, .slice none 0 0] 24)) := below_alloc (Below.refl _ _) _
  have HK := Aside0.mk (blk_new w0 (.cells #[.string ⟨#[]⟩, .string ⟨#[]⟩, .slice none 0 0] 24))
  have HS := Aside0.mk (blk_lt HK.out)
  have HB := Aside0.mk hB
  clear hW hL h h0 h1 hB
  go_enter Tryd.func13, Tryd.ntmps13
  go_wp2_with (first | (go_at_call 21; (with_reducible refine (litNode_rune s b _ (cell_up (below_alloc (Below.refl _ _) _) J.out) (cell_up (below_alloc (Below.refl _ _) _) J1.out)).mono ?_); rintro e w1 ⟨rfl, hb⟩; have HW := Aside0.mk hb; clear hb; have hx := blk_below HK.out HW.out; have k0 := (blk_cell hx 0).trans rfl; have k1 := (blk_cell hx 1).trans rfl; have k2 := (blk_cell hx 2).trans rfl; have f0 := blk_frozen hx 0; have f1 := blk_frozen hx 1; have f2 := blk_frozen hx 2; have HX := Aside0.mk hx; clear hx))
  refine bodyPost_ret (results_cell_row rfl _ _ w0.heap.size 24 #[.string (⟨#[114, 117, 110, 101]⟩ : ByteArray), .string s, .slice none 0 0] (0, 0) _ rfl (blk_put3 HX.out) Tryd.underlying24 rfl (by kernel_rfl)) rfl ⟨_, rfl, NodeRow.nil _ _, below_put3 (below_step HB.out HW.out) (Nat.le_refl _)⟩

set_option maxHeartbeats 2000000 in
set_option maxRecDepth 100000 in
theorem node_string (w : World) (s : ByteArray) (b : Nat) (cs : Array Value) (h : w.heap[b]? = some (.cells cs 129 (0, 0))) (h0 : cs[0]? = some (.string s)) (h1 : cs[1]? = some (.int .u8 4)) : NodeC w ⟨(⟨#[115, 116, 114, 105, 110, 103]⟩ : ByteArray), s, []⟩ (.iface 64 (.pointer (some ⟨b, 0, none⟩))) := by
  intro w0 hW hL
  have J := Aside0.mk (cell_up hW ((blk_cell h 0).trans h0))
  have J1 := Aside0.mk (cell_up hW ((blk_cell h 1).trans h1))
  have hB : Below w0.heap.size w0 (w0.alloc (.cells #[.string ⟨#[]⟩, .string ⟨#[]⟩, .slice none 0 0] 24)) := below_alloc (Below.refl _ _) _
  have HK := Aside0.mk (blk_new w0 (.cells #[.string ⟨#[]⟩, .string ⟨#[]⟩, .slice none 0 0] 24))
  have HS := Aside0.mk (blk_lt HK.out)
  have HB := Aside0.mk hB
  clear hW hL h h0 h1 hB
  go_enter Tryd.func13, Tryd.ntmps13
  go_wp2_with (first | (go_at_call 21; (with_reducible refine (litNode_string s b _ (cell_up (below_alloc (Below.refl _ _) _) J.out) (cell_up (below_alloc (Below.refl _ _) _) J1.out)).mono ?_); rintro e w1 ⟨rfl, hb⟩; have HW := Aside0.mk hb; clear hb; have hx := blk_below HK.out HW.out; have k0 := (blk_cell hx 0).trans rfl; have k1 := (blk_cell hx 1).trans rfl; have k2 := (blk_cell hx 2).trans rfl; have f0 := blk_frozen hx 0; have f1 := blk_frozen hx 1; have f2 := blk_frozen hx 2; have HX := Aside0.mk hx; clear hx))
  refine bodyPost_ret (results_cell_row rfl _ _ w0.heap.size 24 #[.string (⟨#[115, 116, 114, 105, 110, 103]⟩ : ByteArray), .string s, .slice none 0 0] (0, 0) _ rfl (blk_put3 HX.out) Tryd.underlying24 rfl (by kernel_rfl)) rfl ⟨_, rfl, NodeRow.nil _ _, below_put3 (below_step HB.out HW.out) (Nat.le_refl _)⟩

attribute [local go_sem] ta_79_62 ta_79_64 ta_79_66 ta_79_69 ta_79_72 ta_79_79
set_option maxHeartbeats 2000000 in
set_option maxRecDepth 100000 in
theorem node_paren (w : World) (t0 : S24) (v0 : Value) (b : Nat) (cs : Array Value) (h : w.heap[b]? = some (.cells cs 81 (0, 0))) (h0 : cs[0]? = some v0) (c0 : v0.cells = #[v0]) (I0 : NodeC w t0 v0) : NodeC w ⟨(⟨#[112, 97, 114, 101, 110]⟩ : ByteArray), (⟨#[]⟩ : ByteArray), [t0]⟩ (.iface 79 (.pointer (some ⟨b, 0, none⟩))) := by
  intro w0 hW hL
  unfold Value.cells at c0
  have j0 := cell_up hW ((blk_cell h 0).trans h0)
  have II := Aside0.mk (kids1 I0)
  have hB : Below w0.heap.size w0 (w0.alloc (.cells #[.string ⟨#[]⟩, .string ⟨#[]⟩, .slice none 0 0] 24)) := below_alloc (Below.refl _ _) _
  have HK := Aside0.mk (blk_new w0 (.cells #[.string ⟨#[]⟩, .string ⟨#[]⟩, .slice none 0 0] 24))
  have HS := Aside0.mk (blk_lt HK.out)
  have HB := Aside0.mk hB
  replace j0 := cell_up hB j0
  have HL := Aside0.mk (hL.grow hB)
  have HW0 := Aside0.mk (show Below w.heap.size w (w0.alloc (.cells #[.string ⟨#[]⟩, .string ⟨#[]⟩, .slice none 0 0] 24)) from below_step hW hB)
  have HZ := Aside0.mk (show [t0].length * 56 ≤ 140737488351232 by simp)
  have HA := Aside0.mk (show Below (w0.alloc (.cells #[.string ⟨#[]⟩, .string ⟨#[]⟩, .slice none 0 0] 24)).heap.size (w0.alloc (.cells #[.string ⟨#[]⟩, .string ⟨#[]⟩, .slice none 0 0] 24)) ((w0.alloc (.cells #[.string ⟨#[]⟩, .string ⟨#[]⟩, .slice none 0 0] 24)).alloc (.cells #[v0] 34)) from below_alloc (Below.refl _ _) _)
  clear hW hL h h0 I0 hB
  go_enter Tryd.func13, Tryd.ntmps13
  go_wp2_with (first | (go_at_call 16; have hk : ((w0.alloc (.cells #[.string ⟨#[]⟩, .string ⟨#[]⟩, .slice none 0 0] 24)).alloc (.cells #[v0] 34)).heap[w0.heap.size + 1]? = some (.cells #[v0] 34 (0, 0)) := by { have := blk_new (w0.alloc (.cells #[.string ⟨#[]⟩, .string ⟨#[]⟩, .slice none 0 0] 24)) (.cells #[v0] 34); simpa using this }; have ha := Aside0.mk hk; clear hk; (with_reducible refine (exprNodes_row w [t0] [v0] rfl II.out _ (below_step HW0.out HA.out) (HL.out.grow HA.out) (w0.heap.size + 1) 1 rfl #[v0] rfl ha.out HZ.out).mono ?_); rintro e w1 ⟨v, rfl, hm, hb⟩; clear ha; obtain ⟨A8, c8, rfl⟩ := Kd.R_slice hm; have HM := Aside0.mk ((hm.put3 (x := .string (⟨#[112, 97, 114, 101, 110]⟩ : ByteArray)) (y := .string (⟨#[]⟩ : ByteArray)) (z := .slice A8 1 c8) (Nat.lt_of_lt_of_le HS.out HA.out.size)).lower (Nat.le_trans HB.out.size HA.out.size)); have HW := Aside0.mk (below_step HA.out hb); clear hm hb; have hx := blk_below HK.out HW.out; have k0 := (blk_cell hx 0).trans rfl; have k1 := (blk_cell hx 1).trans rfl; have k2 := (blk_cell hx 2).trans rfl; have f0 := blk_frozen hx 0; have f1 := blk_frozen hx 1; have f2 := blk_frozen hx 2; have HX := Aside0.mk hx; clear hx))
  refine bodyPost_ret (results_cell_row rfl _ _ w0.heap.size 24 #[.string (⟨#[112, 97, 114, 101, 110]⟩ : ByteArray), .string (⟨#[]⟩ : ByteArray), .slice A8 1 c8] (0, 0) _ rfl (blk_put3 HX.out) Tryd.underlying24 rfl (by kernel_rfl)) rfl ⟨_, rfl, HM.out, below_put3 (below_step HB.out HW.out) (Nat.le_refl _)⟩
end Go.Proofs.YtjkhfdekmpaoiaaDoor
