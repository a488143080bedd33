/- The walk of exprNode, a theorem for each kind of node (binary operations): the call comes to the node that the expression was made of. -/
import Derived.Test.YtjkhfdekmpaoiaaDoorEm
namespace Go.Proofs.YtjkhfdekmpaoiaaDoor
open Go.RowKit Go.Proofs.YtjkhfdekmpaoiaaDoorW.PrintWords Go.Proofs.YtjkhfdekmpaoiaaDoor.Kinds
set_option linter.unusedVariables false
set_option linter.unusedSimpArgs false

attribute [local go_sem] ta_100_62 ta_100_64 ta_100_66 ta_100_69 ta_100_72 ta_100_79 ta_100_82 ta_100_87 ta_100_90 ta_100_94 ta_100_97 ta_100_100
set_option maxHeartbeats 2000000 in
set_option maxRecDepth 100000 in
theorem node_binary (w : World) (q : Nat) (hq : 1 ≤ q ∧ q ≤ 23) (s : ByteArray) (hs : s = opText q) (t0 : S24) (t1 : S24) (v0 : Value) (T1 b1 : Nat) (b : Nat) (cs : Array Value) (h : w.heap[b]? = some (.cells cs 104 (0, 0))) (h0 : cs[0]? = some (.int .u64 q)) (h1 : cs[1]? = some v0) (h2 : cs[2]? = some (.iface T1 (.pointer (some ⟨b1, 0, none⟩)))) (c0 : v0.cells = #[v0]) (I0 : NodeC w t0 v0) (I1 : NodeC w t1 (.iface T1 (.pointer (some ⟨b1, 0, none⟩)))) : NodeC w ⟨(⟨#[98, 105, 110, 97, 114, 121]⟩ : ByteArray), s, [t0, t1]⟩ (.iface 100 (.pointer (some ⟨b, 0, none⟩))) := by
  intro w0 hW hL
  unfold Value.cells at c0
  have j0 := cell_up hW ((blk_cell h 0).trans h0)
  have j1 := cell_up hW ((blk_cell h 1).trans h1)
  have j2 := cell_up hW ((blk_cell h 2).trans h2)
  have hlt : b < w0.heap.size := World.block_lt_of_cell? w0 _ j0
  have II := Aside0.mk (kids2 I0 I1)
  have QS := Aside0.mk hs
  have QH := Aside0.mk hq
  clear h h0 h1 h2 I0 I1 hs hq
  have y2 := cell_up (below_alloc (Below.refl w0.heap.size w0) (.cells #[.string ⟨#[]⟩, .string ⟨#[]⟩, .slice none 0 0] 24)) j2
  go_enter Tryd.func13, Tryd.ntmps13
  go_wp2
  have hB : Below w0.heap.size w0 (w0.alloc (.cells #[.string ⟨#[]⟩, .string ⟨#[]⟩, .slice none 0 0] 24)) := below_alloc (Below.refl _ _) _
  have hb := blk_new w0 (.cells #[.string ⟨#[]⟩, .string ⟨#[]⟩, .slice none 0 0] 24)
  have hbs : w0.heap.size < (w0.alloc (.cells #[.string ⟨#[]⟩, .string ⟨#[]⟩, .slice none 0 0] 24)).heap.size := blk_lt hb
  obtain ⟨B, hBe⟩ : ∃ B, B = w0.heap.size := ⟨_, rfl⟩
  rw [← hBe] at hb hbs
  simp only [← hBe]
  clear y2
  generalize w0.alloc (.cells #[.string ⟨#[]⟩, .string ⟨#[]⟩, .slice none 0 0] 24) = W at hB hb hbs ⊢
  have HB := Aside0.mk hB
  have HK := Aside0.mk hb
  have HE := Aside0.mk hBe
  have HN := Aside0.mk (show b ≠ B by omega)
  have HS := Aside0.mk hbs
  have HL := Aside0.mk (hL.grow hB)
  have HW0 := Aside0.mk (show Below w.heap.size w W from below_step hW hB)
  replace j0 := cell_up hB j0
  replace j1 := cell_up hB j1
  replace j2 := cell_up hB j2
  clear hW hL hlt hB hb hBe hbs
  have HW := Aside0.mk (below_drew (Below.refl W.heap.size W))
  have HA := Aside0.mk (show Below W.heap.size W (W.alloc (.cells #[v0, (.iface T1 (.pointer (some ⟨b1, 0, none⟩)))] 34)).drew from below_drew (below_alloc (Below.refl W.heap.size W) _))
  have HZ := Aside0.mk (show [t0, t1].length * 56 ≤ 140737488351232 by simp)
  go_region_held3 (fun w' => w'.cell? ⟨b, 0, none⟩ = some (.int .u64 q) ∧ w'.cell? ⟨b, 1, none⟩ = some v0 ∧ w'.cell? ⟨b, 2, none⟩ = some (.iface T1 (.pointer (some ⟨b1, 0, none⟩))))
    (first | exact ⟨cell_up HW.out j0, cell_up HW.out j1, cell_up HW.out j2⟩ | exact ⟨cell_up HA.out j0, cell_up HA.out j1, cell_up HA.out j2⟩ | exact ⟨cell_up (below_alloc HW.out _) j0, cell_up (below_alloc HW.out _) j1, cell_up (below_alloc HW.out _) j2⟩ | exact ⟨cell_put3 HN.out _ (cell_up HW.out j0), cell_put3 HN.out _ (cell_up HW.out j1), cell_put3 HN.out _ (cell_up HW.out j2)⟩)
    (first
      | (go_at_call 24; (with_reducible refine (opString_s q s QS.out QH.out.1 QH.out.2 _ (HL.out.grow HW.out)).mono ?_); rintro e w1 ⟨rfl, hd⟩; have hb := hd.below; have hn := Aside0.mk (below_step HW.out hb); clear HW; have HW := hn; clear hn hd hb)
      | (go_at_call 24; (with_reducible refine (opString_s q s QS.out QH.out.1 QH.out.2 _ (HL.out.grow HA.out)).mono ?_); rintro e w1 ⟨rfl, hd⟩; have hb := hd.below; have HY := Aside0.mk (show w1.heap[W.heap.size]? = some (.cells #[v0, (.iface T1 (.pointer (some ⟨b1, 0, none⟩)))] 34 (0, 0)) from blk_below (show (W.alloc (.cells #[v0, (.iface T1 (.pointer (some ⟨b1, 0, none⟩)))] 34)).drew.heap[W.heap.size]? = some (.cells #[v0, (.iface T1 (.pointer (some ⟨b1, 0, none⟩)))] 34 (0, 0)) from blk_new W _) hb); have hn := Aside0.mk (below_step HA.out hb); clear HW; have HW := hn; clear hn hd hb)
      | (go_at_call 16; (with_reducible refine (exprNodes_row w [t0, t1] [v0, (.iface T1 (.pointer (some ⟨b1, 0, none⟩)))] rfl II.out _ (below_step HW0.out HW.out) (HL.out.grow HW.out) W.heap.size 2 rfl #[v0, (.iface T1 (.pointer (some ⟨b1, 0, none⟩)))] rfl HY.out HZ.out).mono ?_); rintro e w2 ⟨v, rfl, hm, hb⟩; obtain ⟨A8, c8, rfl⟩ := Kd.R_slice hm; have HM := Aside0.mk ((hm.put3 (x := .string (⟨#[98, 105, 110, 97, 114, 121]⟩ : ByteArray)) (y := .string s) (z := .slice A8 2 c8) (Nat.lt_of_lt_of_le HS.out (HW.out).size)).lower (Nat.le_trans HB.out.size (HW.out).size)); have hn := Aside0.mk (below_step (HW.out) hb); clear HW; have HW := hn; clear hn hm hb; have hx := blk_below HK.out HW.out; have k0 := (blk_cell hx 0).trans rfl; have k1 := (blk_cell hx 1).trans rfl; have k2 := (blk_cell hx 2).trans rfl; have f0 := blk_frozen hx 0; have f1 := blk_frozen hx 1; have f2 := blk_frozen hx 2; have HX := Aside0.mk hx; clear hx)
      | (go_at_call 16; have hk : (w1.alloc (.cells #[v0, (.iface T1 (.pointer (some ⟨b1, 0, none⟩)))] 34)).heap[w1.heap.size]? = some (.cells #[v0, (.iface T1 (.pointer (some ⟨b1, 0, none⟩)))] 34 (0, 0)) := blk_new w1 _; have ha := Aside0.mk hk; clear hk; (with_reducible refine (exprNodes_row w [t0, t1] [v0, (.iface T1 (.pointer (some ⟨b1, 0, none⟩)))] rfl II.out _ (below_step HW0.out (below_alloc HW.out _)) (HL.out.grow (below_alloc HW.out _)) w1.heap.size 2 rfl #[v0, (.iface T1 (.pointer (some ⟨b1, 0, none⟩)))] rfl ha.out HZ.out).mono ?_); clear ha; rintro e w2 ⟨v, rfl, hm, hb⟩; obtain ⟨A8, c8, rfl⟩ := Kd.R_slice hm; have HM := Aside0.mk ((hm.put3 (x := .string (⟨#[98, 105, 110, 97, 114, 121]⟩ : ByteArray)) (y := .string s) (z := .slice A8 2 c8) (Nat.lt_of_lt_of_le HS.out (below_alloc HW.out _).size)).lower (Nat.le_trans HB.out.size (below_alloc HW.out _).size)); have hn := Aside0.mk (below_step (below_alloc HW.out _) hb); clear HW; have HW := hn; clear hn hm hb; have hx := blk_below HK.out HW.out; have k0 := (blk_cell hx 0).trans rfl; have k1 := (blk_cell hx 1).trans rfl; have k2 := (blk_cell hx 2).trans rfl; have f0 := blk_frozen hx 0; have f1 := blk_frozen hx 1; have f2 := blk_frozen hx 2; have HX := Aside0.mk hx; clear hx))
  all_goals
    go_wp2
    refine bodyPost_ret (results_cell_row rfl _ _ B 24 #[.string (⟨#[98, 105, 110, 97, 114, 121]⟩ : ByteArray), .string s, .slice A8 2 c8] (0, 0) _ rfl (blk_put3 HX.out) Tryd.underlying24 rfl (by kernel_rfl)) rfl ⟨_, rfl, HM.out, below_put3 (below_step HB.out HW.out) (Nat.le_of_eq HE.out.symm)⟩
end Go.Proofs.YtjkhfdekmpaoiaaDoor
