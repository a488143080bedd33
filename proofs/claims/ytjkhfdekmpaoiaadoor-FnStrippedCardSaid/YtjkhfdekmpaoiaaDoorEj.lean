/- The walk of exprNode, a theorem for each kind of node (lists): the call comes to the node that the expression was made of. -/
import Derived.Test.YtjkhfdekmpaoiaaDoorEc
namespace Go.Proofs.YtjkhfdekmpaoiaaDoor
open Go.RowKit Go.Proofs.YtjkhfdekmpaoiaaDoorW.PrintWords Go.Proofs.YtjkhfdekmpaoiaaDoor.Kinds
set_option linter.unusedVariables false
set_option linter.unusedSimpArgs false

attribute [local go_sem] ta_40_62 ta_40_64 ta_40_66 ta_40_69 ta_40_72 ta_40_79 ta_40_82 ta_40_87 ta_40_90 ta_40_94 ta_40_97 ta_40_100 ta_40_106 ta_40_40
set_option maxHeartbeats 2000000 in
set_option maxRecDepth 100000 in
theorem node_list (w : World) (ts : List S24) (A : Option Addr) (c : Nat) (ad : Addr) (hlc : ts.length ≤ c) (hA : 0 < ts.length → A = some ad) (vs : List Value) (hl : vs.length = ts.length) (hc : ∀ (j : Nat) (v : Value), vs[j]? = some v → w.cell? (ad.add j) = some v) (I : ∀ (j : Nat) (t : S24) (v : Value), ts[j]? = some t → vs[j]? = some v → NodeC w t v) (b : Nat) (cs : Array Value) (h : w.heap[b]? = some (.cells cs 61 (0, 0))) (h0 : cs[0]? = some (.slice A ts.length c)) (hsz : ts.length * 56 ≤ 140737488351232) : NodeC w ⟨(⟨#[108, 105, 115, 116]⟩ : ByteArray), (⟨#[]⟩ : ByteArray), ts⟩ (.iface 40 (.pointer (some ⟨b, 0, none⟩))) := by
  intro w0 hW hL
  have j0 := cell_up hW ((blk_cell h 0).trans h0)
  have hB : Below w0.heap.size w0 (w0.alloc (.cells #[.string ⟨#[]⟩, .string ⟨#[]⟩, .slice none 0 0] 24)) := below_alloc (Below.refl _ _) _
  have HK := Aside0.mk (blk_new w0 (.cells #[.string ⟨#[]⟩, .string ⟨#[]⟩, .slice none 0 0] 24))
  have HS := Aside0.mk (blk_lt HK.out)
  have HB := Aside0.mk hB
  replace j0 := cell_up hB j0
  have HL := Aside0.mk (hL.grow hB)
  have HW0 := Aside0.mk (show Below w.heap.size w (w0.alloc (.cells #[.string ⟨#[]⟩, .string ⟨#[]⟩, .slice none 0 0] 24)) from below_step hW hB)
  have HC := Aside0.mk (show ∀ (j : Nat) (v : Value), vs[j]? = some v → (w0.alloc (.cells #[.string ⟨#[]⟩, .string ⟨#[]⟩, .slice none 0 0] 24)).cell? (ad.add j) = some v from fun j v hj => cell_up HW0.out (hc j v hj))
  have HA := Aside0.mk hA
  have HV := Aside0.mk hl
  have II := Aside0.mk I
  have HZ := Aside0.mk hsz
  clear hW hL h h0 hB hA hl I hsz hc
  go_enter Tryd.func13, Tryd.ntmps13
  go_wp2_with (first | (go_at_call 16; (with_reducible refine (exprNodes_any w ts vs HV.out II.out _ HW0.out HL.out A c ad HA.out hlc HC.out HZ.out).mono ?_); rintro e w1 ⟨v, rfl, hm, hb⟩; obtain ⟨A8, c8, rfl⟩ := Kd.R_slice hm; have HM := Aside0.mk ((hm.put3 (x := .string (⟨#[108, 105, 115, 116]⟩ : ByteArray)) (y := .string (⟨#[]⟩ : ByteArray)) (z := .slice A8 ts.length c8) HS.out).lower HB.out.size); have HW := Aside0.mk hb; clear hm hb; have hx := blk_below HK.out HW.out; have k0 := (blk_cell hx 0).trans rfl; have k1 := (blk_cell hx 1).trans rfl; have k2 := (blk_cell hx 2).trans rfl; have f0 := blk_frozen hx 0; have f1 := blk_frozen hx 1; have f2 := blk_frozen hx 2; have HX := Aside0.mk hx; clear hx))
  refine bodyPost_ret (results_cell_row rfl _ _ w0.heap.size 24 #[.string (⟨#[108, 105, 115, 116]⟩ : ByteArray), .string (⟨#[]⟩ : ByteArray), .slice A8 ts.length c8] (0, 0) _ rfl (blk_put3 HX.out) Tryd.underlying24 rfl (by kernel_rfl)) rfl ⟨_, rfl, HM.out, below_put3 (below_step HB.out HW.out) (Nat.le_refl _)⟩
end Go.Proofs.YtjkhfdekmpaoiaaDoor
