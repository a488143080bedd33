/- The walk of typeNode, a theorem for each kind of node (those of two parts): the call comes to the node that the expression was made of. -/
import Derived.Test.YtjkhfdekmpaoiaaDoorEc
namespace Go.Proofs.YtjkhfdekmpaoiaaDoor
open Go.RowKit Go.Proofs.YtjkhfdekmpaoiaaDoorW.PrintWords Go.Proofs.YtjkhfdekmpaoiaaDoor.Kinds
set_option linter.unusedVariables false
set_option linter.unusedSimpArgs false

/-- What a call of typeNode comes to. -/
def TypeC (w : World) (t : S24) (v : Value) : Prop := ∀ W, Below w.heap.size w W → Laid W →
  Calls Tryd.prog 25 #[v] W fun e w' => ∃ v2, e = .returned (.agg #[.string t.f0, .string t.f1, v2]) ∧ NodeRow w' W.heap.size t.f2 v2 ∧ Below W.heap.size W w'
theorem TypeC.go {w : World} {t : S24} {v : Value} (h : TypeC w t v) (W : World) (hW : Below w.heap.size w W) (hL : Laid W) :
  Calls Tryd.prog 25 #[v] W fun e w' => ∃ v2, e = .returned (.agg #[.string t.f0, .string t.f1, v2]) ∧ NodeRow w' W.heap.size t.f2 v2 ∧ Below W.heap.size W w' := h W hW hL
attribute [local go_sem] ta_116_116
set_option maxHeartbeats 2000000 in
set_option maxRecDepth 100000 in
theorem type_arraytype (w : World) (t0 t1 : S24) (v0 v1 : Value) (b : Nat) (cs : Array Value) (h : w.heap[b]? = some (.cells cs 118 (0, 0))) (h0 : cs[0]? = some v0) (h1 : cs[1]? = some v1) (c0 : v0.cells = #[v0]) (c1 : v1.cells = #[v1]) (I0 : NodeC w t0 v0) (I1 : NodeC w t1 v1)  : TypeC w ⟨(⟨#[97, 114, 114, 97, 121, 116, 121, 112, 101]⟩ : ByteArray), (⟨#[]⟩ : ByteArray), [t0, t1]⟩ (.iface 116 (.pointer (some ⟨b, 0, none⟩))) := by
  intro w0 hW hL
  unfold Value.cells at c0 c1
  have j0 := cell_up hW ((blk_cell h 0).trans h0)
  have j1 := cell_up hW ((blk_cell h 1).trans h1)
  have hlt : b < w0.heap.size := World.block_lt_of_cell? w0 _ j0
  have II := Aside0.mk (kids2 I0 I1)
  clear h h0 h1 I0 I1
  go_enter Tryd.func25, Tryd.ntmps25
  go_wp2
  have hB : Below w0.heap.size w0 (w0.alloc (.cells #[.string ⟨#[]⟩, .string ⟨#[]⟩, .slice none 0 0] 24)) := below_alloc (Below.refl _ _) _
  have hb := blk_new w0 (.cells #[.string ⟨#[]⟩, .string ⟨#[]⟩, .slice none 0 0] 24)
  have hbs : w0.heap.size < (w0.alloc (.cells #[.string ⟨#[]⟩, .string ⟨#[]⟩, .slice none 0 0] 24)).heap.size := blk_lt hb
  obtain ⟨B, hBe⟩ : ∃ B, B = w0.heap.size := ⟨_, rfl⟩
  rw [← hBe] at hb hbs
  simp only [← hBe]
  generalize w0.alloc (.cells #[.string ⟨#[]⟩, .string ⟨#[]⟩, .slice none 0 0] 24) = W at hB hb hbs ⊢
  have HB := Aside0.mk hB
  have HK := Aside0.mk hb
  have HE := Aside0.mk hBe
  have HN := Aside0.mk (show b ≠ B by omega)
  have HS := Aside0.mk hbs
  have HL := Aside0.mk (hL.grow hB)
  have HW0 := Aside0.mk (show Below w.heap.size w W from below_step hW hB)
  replace j0 := cell_up hB j0
  replace j1 := cell_up hB j1
  clear hW hL hlt hB hb hBe hbs
  have HW := Aside0.mk (below_drew (Below.refl W.heap.size W))
  have HA := Aside0.mk (show Below W.heap.size W (W.alloc (.cells #[v0, v1] 34)).drew from below_drew (below_alloc (Below.refl W.heap.size W) _))
  have HZ := Aside0.mk (show [t0, t1].length * 56 ≤ 140737488351232 by simp)
  go_region_held3 (fun w' => w'.cell? ⟨b, 0, none⟩ = some v0 ∧ w'.cell? ⟨b, 1, none⟩ = some v1)
    (first | exact ⟨cell_up HW.out j0, cell_up HW.out j1⟩ | exact ⟨cell_up HA.out j0, cell_up HA.out j1⟩ | exact ⟨cell_put3 HN.out _ (cell_up HW.out j0), cell_put3 HN.out _ (cell_up HW.out j1)⟩)
    (first
      | (go_at_call 16; have hk : (W.alloc (.cells #[v0, v1] 34)).drew.heap[W.heap.size]? = some (.cells #[v0, v1] 34 (0, 0)) := blk_new W _; have ha := Aside0.mk hk; clear hk; (with_reducible refine (exprNodes_row w [t0, t1] [v0, v1] rfl II.out _ (below_step HW0.out HA.out) (HL.out.grow HA.out) W.heap.size 2 rfl #[v0, v1] rfl ha.out HZ.out).mono ?_); rintro e w1 ⟨v, rfl, hm, hb⟩; clear ha; obtain ⟨A8, c8, rfl⟩ := Kd.R_slice hm; have HM := Aside0.mk ((hm.put3 (x := .string (⟨#[97, 114, 114, 97, 121, 116, 121, 112, 101]⟩ : ByteArray)) (y := .string (⟨#[]⟩ : ByteArray)) (z := .slice A8 2 c8) (Nat.lt_of_lt_of_le HS.out HA.out.size)).lower (Nat.le_trans HB.out.size HA.out.size)); have hn := Aside0.mk (below_step HA.out hb); clear HW; have HW := hn; clear hn hm hb; have hx := blk_below HK.out HW.out; have k0 := (blk_cell hx 0).trans rfl; have k1 := (blk_cell hx 1).trans rfl; have k2 := (blk_cell hx 2).trans rfl; have f0 := blk_frozen hx 0; have f1 := blk_frozen hx 1; have f2 := blk_frozen hx 2; have HX := Aside0.mk hx; clear hx))
  go_wp2
  refine bodyPost_ret (results_cell_row rfl _ _ B 24 #[.string (⟨#[97, 114, 114, 97, 121, 116, 121, 112, 101]⟩ : ByteArray), .string (⟨#[]⟩ : ByteArray), .slice A8 2 c8] (0, 0) _ rfl (blk_put3 HX.out) Tryd.underlying24 rfl (by kernel_rfl)) rfl ⟨_, rfl, HM.out, below_put3 (below_step HB.out HW.out) (Nat.le_of_eq HE.out.symm)⟩

attribute [local go_sem] ta_119_116 ta_119_113 ta_119_142 ta_119_119
set_option maxHeartbeats 2000000 in
set_option maxRecDepth 100000 in
theorem type_maptype (w : World) (t0 t1 : S24) (v0 v1 : Value) (b : Nat) (cs : Array Value) (h : w.heap[b]? = some (.cells cs 120 (0, 0))) (h0 : cs[0]? = some v0) (h1 : cs[1]? = some v1) (c0 : v0.cells = #[v0]) (c1 : v1.cells = #[v1]) (I0 : NodeC w t0 v0) (I1 : NodeC w t1 v1)  : TypeC w ⟨(⟨#[109, 97, 112, 116, 121, 112, 101]⟩ : ByteArray), (⟨#[]⟩ : ByteArray), [t0, t1]⟩ (.iface 119 (.pointer (some ⟨b, 0, none⟩))) := by
  intro w0 hW hL
  unfold Value.cells at c0 c1
  have j0 := cell_up hW ((blk_cell h 0).trans h0)
  have j1 := cell_up hW ((blk_cell h 1).trans h1)
  have hlt : b < w0.heap.size := World.block_lt_of_cell? w0 _ j0
  have II := Aside0.mk (kids2 I0 I1)
  clear h h0 h1 I0 I1
  go_enter Tryd.func25, Tryd.ntmps25
  go_wp2
  have hB : Below w0.heap.size w0 (w0.alloc (.cells #[.string ⟨#[]⟩, .string ⟨#[]⟩, .slice none 0 0] 24)) := below_alloc (Below.refl _ _) _
  have hb := blk_new w0 (.cells #[.string ⟨#[]⟩, .string ⟨#[]⟩, .slice none 0 0] 24)
  have hbs : w0.heap.size < (w0.alloc (.cells #[.string ⟨#[]⟩, .string ⟨#[]⟩, .slice none 0 0] 24)).heap.size := blk_lt hb
  obtain ⟨B, hBe⟩ : ∃ B, B = w0.heap.size := ⟨_, rfl⟩
  rw [← hBe] at hb hbs
  simp only [← hBe]
  generalize w0.alloc (.cells #[.string ⟨#[]⟩, .string ⟨#[]⟩, .slice none 0 0] 24) = W at hB hb hbs ⊢
  have HB := Aside0.mk hB
  have HK := Aside0.mk hb
  have HE := Aside0.mk hBe
  have HN := Aside0.mk (show b ≠ B by omega)
  have HS := Aside0.mk hbs
  have HL := Aside0.mk (hL.grow hB)
  have HW0 := Aside0.mk (show Below w.heap.size w W from below_step hW hB)
  replace j0 := cell_up hB j0
  replace j1 := cell_up hB j1
  clear hW hL hlt hB hb hBe hbs
  have HW := Aside0.mk (below_drew (Below.refl W.heap.size W))
  have HA := Aside0.mk (show Below W.heap.size W (W.alloc (.cells #[v0, v1] 34)).drew from below_drew (below_alloc (Below.refl W.heap.size W) _))
  have HZ := Aside0.mk (show [t0, t1].length * 56 ≤ 140737488351232 by simp)
  go_region_held3 (fun w' => w'.cell? ⟨b, 0, none⟩ = some v0 ∧ w'.cell? ⟨b, 1, none⟩ = some v1)
    (first | exact ⟨cell_up HW.out j0, cell_up HW.out j1⟩ | exact ⟨cell_up HA.out j0, cell_up HA.out j1⟩ | exact ⟨cell_put3 HN.out _ (cell_up HW.out j0), cell_put3 HN.out _ (cell_up HW.out j1)⟩)
    (first
      | (go_at_call 16; have hk : (W.alloc (.cells #[v0, v1] 34)).drew.heap[W.heap.size]? = some (.cells #[v0, v1] 34 (0, 0)) := blk_new W _; have ha := Aside0.mk hk; clear hk; (with_reducible refine (exprNodes_row w [t0, t1] [v0, v1] rfl II.out _ (below_step HW0.out HA.out) (HL.out.grow HA.out) W.heap.size 2 rfl #[v0, v1] rfl ha.out HZ.out).mono ?_); rintro e w1 ⟨v, rfl, hm, hb⟩; clear ha; obtain ⟨A8, c8, rfl⟩ := Kd.R_slice hm; have HM := Aside0.mk ((hm.put3 (x := .string (⟨#[109, 97, 112, 116, 121, 112, 101]⟩ : ByteArray)) (y := .string (⟨#[]⟩ : ByteArray)) (z := .slice A8 2 c8) (Nat.lt_of_lt_of_le HS.out HA.out.size)).lower (Nat.le_trans HB.out.size HA.out.size)); have hn := Aside0.mk (below_step HA.out hb); clear HW; have HW := hn; clear hn hm hb; have hx := blk_below HK.out HW.out; have k0 := (blk_cell hx 0).trans rfl; have k1 := (blk_cell hx 1).trans rfl; have k2 := (blk_cell hx 2).trans rfl; have f0 := blk_frozen hx 0; have f1 := blk_frozen hx 1; have f2 := blk_frozen hx 2; have HX := Aside0.mk hx; clear hx))
  go_wp2
  refine bodyPost_ret (results_cell_row rfl _ _ B 24 #[.string (⟨#[109, 97, 112, 116, 121, 112, 101]⟩ : ByteArray), .string (⟨#[]⟩ : ByteArray), .slice A8 2 c8] (0, 0) _ rfl (blk_put3 HX.out) Tryd.underlying24 rfl (by kernel_rfl)) rfl ⟨_, rfl, HM.out, below_put3 (below_step HB.out HW.out) (Nat.le_of_eq HE.out.symm)⟩
end Go.Proofs.YtjkhfdekmpaoiaaDoor
