/- The walk of exprNode, a theorem for each kind of node (composites): the call comes to the node that the expression was made of. -/
import Derived.Test.YtjkhfdekmpaoiaaDoorEc
namespace Go.Proofs.YtjkhfdekmpaoiaaDoor
open Go.RowKit Go.Proofs.YtjkhfdekmpaoiaaDoorW.PrintWords Go.Proofs.YtjkhfdekmpaoiaaDoor.Kinds
set_option linter.unusedVariables false
set_option linter.unusedSimpArgs false

/-- The second row's elements, as they may stand in the first one. -/
theorem NodeRow.rows {w2 : World} {base base2 n : Nat} {ts2 : List S24} {A2 : Option Addr} {c2 : Nat} {v1 : Value} (h1 : ∀ k, v1.ownBlock = some k → k < base2) (h2 : NodeRow w2 base2 ts2 (.slice A2 n c2)) (hb : base ≤ base2) :
    ReadsRow (fun x cs => k24.M w2 base (fun k => some k ≠ v1.ownBlock) x cs) 3 w2 A2 ts2.length ts2 := by
  obtain ⟨_, ho⟩ := Kd.R_lower (Kd.R_bound h2) hb
  obtain ⟨A', c', e, hlc, hr⟩ := OwnRow.reads ho
  injection e with e1 e2 e3
  subst e1
  exact hr.imp_ (Below.refl _ _) (fun _ _ hp => k24.M_mono (fun k hk e => by
    have h3 := h1 k e.symm
    have h4 := hk.1.2.1
    omega) hp)

attribute [local go_sem] ta_66_62 ta_66_64 ta_66_66
set_option maxHeartbeats 2000000 in
set_option maxRecDepth 100000 in
theorem node_composite (w : World)  (t0 : S24) (v0 : Value) (ts : List S24) (A : Option Addr) (c : Nat) (ad : Addr) (hlc : ts.length ≤ c) (hA : 0 < ts.length → A = some ad) (vs : List Value) (hl : vs.length = ts.length) (hc : ∀ (j : Nat) (v : Value), vs[j]? = some v → w.cell? (ad.add j) = some v) (I : ∀ (j : Nat) (t : S24) (v : Value), ts[j]? = some t → vs[j]? = some v → NodeC w t v) (b : Nat) (cs : Array Value) (h : w.heap[b]? = some (.cells cs 68 (0, 0))) (h0 : cs[0]? = some v0) (h1 : cs[1]? = some (.slice A ts.length c)) (hsz : (ts.length + 1) * 56 ≤ 140737488351232) (c0 : v0.cells = #[v0]) (I0 : NodeC w t0 v0) : NodeC w ⟨(⟨#[99, 111, 109, 112, 111, 115, 105, 116, 101]⟩ : ByteArray), (⟨#[]⟩ : ByteArray), t0 :: ts⟩ (.iface 66 (.pointer (some ⟨b, 0, none⟩))) := by
  intro w0 hW hL
  unfold Value.cells at c0
  have j0 := cell_up hW ((blk_cell h 0).trans h0)
  have j1 := cell_up hW ((blk_cell h 1).trans h1)
  have hlt : b < w0.heap.size := World.block_lt_of_cell? w0 _ j0
  have II := Aside0.mk (kids1 I0)
  have IS := Aside0.mk I
  have HV := Aside0.mk hl
  have HAD := Aside0.mk hA
  have HC := Aside0.mk hc
  clear h h0 h1 I0 I hl hA hc
  go_enter Tryd.func13, Tryd.ntmps13
  go_wp2
  have hB : Below w0.heap.size w0 (w0.alloc (.cells #[.string ⟨#[]⟩, .string ⟨#[]⟩, .slice none 0 0] 24)) := below_alloc (Below.refl _ _) _
  have hb := blk_new w0 (.cells #[.string ⟨#[]⟩, .string ⟨#[]⟩, .slice none 0 0] 24)
  have hbs : w0.heap.size < (w0.alloc (.cells #[.string ⟨#[]⟩, .string ⟨#[]⟩, .slice none 0 0] 24)).heap.size := blk_lt hb
  obtain ⟨B, hBe⟩ : ∃ B, B = w0.heap.size := ⟨_, rfl⟩
  rw [← hBe] at hb hbs
  simp only [← hBe]
  generalize w0.alloc (.cells #[.string ⟨#[]⟩, .string ⟨#[]⟩, .slice none 0 0] 24) = W at hB hb hbs ⊢
  have HB := Aside0.mk hB
  have HK := Aside0.mk hb
  have HE := Aside0.mk hBe
  have HN := Aside0.mk (show b ≠ B by omega)
  have HS := Aside0.mk hbs
  have HL := Aside0.mk (hL.grow hB)
  have HW0 := Aside0.mk (show Below w.heap.size w W from below_step hW hB)
  replace j0 := cell_up hB j0
  replace j1 := cell_up hB j1
  clear hW hL hlt hB hb hBe hbs
  have HW := Aside0.mk (below_drew (Below.refl W.heap.size W))
  have HA := Aside0.mk (show Below W.heap.size W (W.alloc (.cells #[v0] 34)).drew from below_drew (below_alloc (Below.refl W.heap.size W) _))
  have HZ := Aside0.mk (show [t0].length * 56 ≤ 140737488351232 by simp)
  have HZ2 := Aside0.mk (show ts.length * 56 ≤ 140737488351232 by omega)
  have HZ3 := Aside0.mk (show ([t0].length + ts.length) * 56 ≤ 140737488355328 by simp only [List.length_cons, List.length_nil]; omega)
  have HC2 := Aside0.mk (show ∀ (u : World), Below W.heap.size W u → ∀ (j : Nat) (v : Value), vs[j]? = some v → u.cell? (ad.add j) = some v from fun u hu j v hj => cell_up (below_step HW0.out hu) (HC.out j v hj))
  clear hsz
  go_region_held3 (fun w' => w'.cell? ⟨b, 0, none⟩ = some v0 ∧ w'.cell? ⟨b, 1, none⟩ = some (.slice A ts.length c))
    (first | exact ⟨cell_up HW.out j0, cell_up HW.out j1⟩ | exact ⟨cell_up HA.out j0, cell_up HA.out j1⟩ | exact ⟨cell_put3 HN.out _ (cell_up HW.out j0), cell_put3 HN.out _ (cell_up HW.out j1)⟩)
    (first
      | (go_at_call 16; have hk : (W.alloc (.cells #[v0] 34)).drew.heap[W.heap.size]? = some (.cells #[v0] 34 (0, 0)) := blk_new W _; have ha := Aside0.mk hk; clear hk; (with_reducible refine (exprNodes_row w [t0] [v0] rfl II.out _ (below_step HW0.out HA.out) (HL.out.grow HA.out) W.heap.size 1 rfl #[v0] rfl ha.out HZ.out).mono ?_); rintro e w1 ⟨v, rfl, hm, hb⟩; clear ha; obtain ⟨A8, c8, rfl⟩ := Kd.R_slice hm; have HM := Aside0.mk (hm.lower HA.out.size); have hn := Aside0.mk (below_step HA.out hb); clear HW; have HW := hn; clear hn hm hb)
      | (go_at_call 16; (with_reducible refine (exprNodes_any w ts vs HV.out IS.out _ (below_step HW0.out HW.out) (HL.out.grow HW.out) A c ad HAD.out hlc (HC2.out _ HW.out) HZ2.out).mono ?_); rintro e w2 ⟨v, rfl, hm, hb⟩; obtain ⟨A9, c9, rfl⟩ := Kd.R_slice hm; have HR := Aside0.mk (hm.rows (base := W.heap.size) (fun k hk => Kd.R_lt HM.out k hk) HW.out.size); have hn := Aside0.mk (HM.out.grow hb); clear HM; have HM := hn; clear hn; have hn := Aside0.mk (below_step HW.out hb); clear HW; have HW := hn; clear hn hm hb)
      | (refine Kd.R_append_rows_step k24 (w0 := W) W.heap.size (by rfl) _ _ 22 24 (.agg #[.string ⟨#[]⟩, .string ⟨#[]⟩, .slice none 0 0]) 56 (by rfl) Tryd.underlying22 info24 rfl (by decide) (by omega) _ [t0] ts A9 ts.length c9 (fun _ => True) _ (by rfl) (by rfl) HM.out HR.out (fun _ _ h => h) (fun k hk => ⟨trivial, hk⟩) (fun _ _ => trivial) HW.out HW.out.size HZ3.out ?_; intro v3 w3 hr hb3 _ _; have hm := (show NodeRow w3 W.heap.size (t0 :: ts) v3 from hr); obtain ⟨A7, c7, rfl⟩ := Kd.R_slice hm; have HQ := Aside0.mk ((hm.put3 (x := .string (⟨#[99, 111, 109, 112, 111, 115, 105, 116, 101]⟩ : ByteArray)) (y := .string (⟨#[]⟩ : ByteArray)) (z := .slice A7 (ts.length + 1) c7) HS.out).lower HB.out.size); clear HW; have HW := Aside0.mk hb3; clear hr hm hb3; have hx := blk_below HK.out HW.out; have k0 := (blk_cell hx 0).trans rfl; have k1 := (blk_cell hx 1).trans rfl; have k2 := (blk_cell hx 2).trans rfl; have f0 := blk_frozen hx 0; have f1 := blk_frozen hx 1; have f2 := blk_frozen hx 2; have HX := Aside0.mk hx; clear hx))
  go_wp2
  refine bodyPost_ret (results_cell_row rfl _ _ B 24 #[.string (⟨#[99, 111, 109, 112, 111, 115, 105, 116, 101]⟩ : ByteArray), .string (⟨#[]⟩ : ByteArray), .slice A7 (ts.length + 1) c7] (0, 0) _ rfl (blk_put3 HX.out) Tryd.underlying24 rfl (by kernel_rfl)) rfl ⟨_, rfl, HQ.out, below_put3 (below_step HB.out HW.out) (Nat.le_of_eq HE.out.symm)⟩
end Go.Proofs.YtjkhfdekmpaoiaaDoor
