/- The walk of exprNode, a theorem for each kind of node (calls): the call comes to the node that the expression was made of. -/
import Derived.Test.YtjkhfdekmpaoiaaDoorEk
namespace Go.Proofs.YtjkhfdekmpaoiaaDoor
open Go.RowKit Go.Proofs.YtjkhfdekmpaoiaaDoorW.PrintWords Go.Proofs.YtjkhfdekmpaoiaaDoor.Kinds
set_option linter.unusedVariables false
set_option linter.unusedSimpArgs false

attribute [local go_sem] ta_106_62 ta_106_64 ta_106_66 ta_106_69 ta_106_72 ta_106_79 ta_106_82 ta_106_87 ta_106_90 ta_106_94 ta_106_97 ta_106_100 ta_106_106
set_option maxHeartbeats 2000000 in
set_option maxRecDepth 100000 in
theorem node_call_t (w : World)  (t0 : S24) (v0 : Value) (ts : List S24) (A : Option Addr) (c : Nat) (ad : Addr) (hlc : ts.length ≤ c) (hA : 0 < ts.length → A = some ad) (vs : List Value) (hl : vs.length = ts.length) (hc : ∀ (j : Nat) (v : Value), vs[j]? = some v → w.cell? (ad.add j) = some v) (I : ∀ (j : Nat) (t : S24) (v : Value), ts[j]? = some t → vs[j]? = some v → NodeC w t v) (b : Nat) (cs : Array Value) (h : w.heap[b]? = some (.cells cs 108 (0, 0))) (h0 : cs[0]? = some v0) (h1 : cs[1]? = some (.slice A ts.length c)) (h2 : cs[2]? = some (.bool true)) (hsz : (ts.length + 1) * 56 ≤ 140737488351232) (c0 : v0.cells = #[v0]) (I0 : NodeC w t0 v0) : NodeC w ⟨(⟨#[99, 97, 108, 108]⟩ : ByteArray), (⟨#[46, 46, 46]⟩ : ByteArray), t0 :: ts⟩ (.iface 106 (.pointer (some ⟨b, 0, none⟩))) := by
  intro w0 hW hL
  unfold Value.cells at c0
  have j0 := cell_up hW ((blk_cell h 0).trans h0)
  have j1 := cell_up hW ((blk_cell h 1).trans h1)
  have j2 := cell_up hW ((blk_cell h 2).trans h2)
  have hlt : b < w0.heap.size := World.block_lt_of_cell? w0 _ j0
  have II := Aside0.mk (kids1 I0)
  have IS := Aside0.mk I
  have HV := Aside0.mk hl
  have HAD := Aside0.mk hA
  have HC := Aside0.mk hc
  clear h h0 h1 h2 I0 I hl hA hc
  have y2 := cell_up (below_alloc (Below.refl w0.heap.size w0) (.cells #[.string ⟨#[]⟩, .string ⟨#[]⟩, .slice none 0 0] 24)) j2
  go_enter Tryd.func13, Tryd.ntmps13
  go_wp2
  have hB : Below w0.heap.size w0 (w0.alloc (.cells #[.string ⟨#[]⟩, .string ⟨#[]⟩, .slice none 0 0] 24)) := below_alloc (Below.refl _ _) _
  have hb := blk_new w0 (.cells #[.string ⟨#[]⟩, .string ⟨#[]⟩, .slice none 0 0] 24)
  have hbs : w0.heap.size < (w0.alloc (.cells #[.string ⟨#[]⟩, .string ⟨#[]⟩, .slice none 0 0] 24)).heap.size := blk_lt hb
  obtain ⟨B, hBe⟩ : ∃ B, B = w0.heap.size := ⟨_, rfl⟩
  rw [← hBe] at hb hbs
  simp only [← hBe]
  clear y2
  generalize w0.alloc (.cells #[.string ⟨#[]⟩, .string ⟨#[]⟩, .slice none 0 0] 24) = W at hB hb hbs ⊢
  have HB := Aside0.mk hB
  have HK := Aside0.mk hb
  have HE := Aside0.mk hBe
  have HN := Aside0.mk (show b ≠ B by omega)
  have HS := Aside0.mk hbs
  have HL := Aside0.mk (hL.grow hB)
  have HW0 := Aside0.mk (show Below w.heap.size w W from below_step hW hB)
  replace j0 := cell_up hB j0
  replace j1 := cell_up hB j1
  replace j2 := cell_up hB j2
  clear hW hL hlt hB hb hBe hbs
  have HW := Aside0.mk (below_drew (Below.refl W.heap.size W))
  have HA := Aside0.mk (show Below W.heap.size W (W.alloc (.cells #[v0] 34)).drew from below_drew (below_alloc (Below.refl W.heap.size W) _))
  have HZ := Aside0.mk (show [t0].length * 56 ≤ 140737488351232 by simp)
  have HZ2 := Aside0.mk (show ts.length * 56 ≤ 140737488351232 by omega)
  have HZ3 := Aside0.mk (show ([t0].length + ts.length) * 56 ≤ 140737488355328 by simp only [List.length_cons, List.length_nil]; omega)
  have HC2 := Aside0.mk (show ∀ (u : World), Below W.heap.size W u → ∀ (j : Nat) (v : Value), vs[j]? = some v → u.cell? (ad.add j) = some v from fun u hu j v hj => cell_up (below_step HW0.out hu) (HC.out j v hj))
  clear hsz
  go_region_held3 (fun w' => w'.cell? ⟨b, 0, none⟩ = some v0 ∧ w'.cell? ⟨b, 1, none⟩ = some (.slice A ts.length c) ∧ w'.cell? ⟨b, 2, none⟩ = some (.bool true))
    (first | exact ⟨cell_up HW.out j0, cell_up HW.out j1, cell_up HW.out j2⟩ | exact ⟨cell_up HA.out j0, cell_up HA.out j1, cell_up HA.out j2⟩ | exact ⟨cell_put3 HN.out _ (cell_up HW.out j0), cell_put3 HN.out _ (cell_up HW.out j1), cell_put3 HN.out _ (cell_up HW.out j2)⟩)
    (first
      | (go_at_call 16; have hk : (W.alloc (.cells #[v0] 34)).drew.heap[W.heap.size]? = some (.cells #[v0] 34 (0, 0)) := blk_new W _; have ha := Aside0.mk hk; clear hk; (with_reducible refine (exprNodes_row w [t0] [v0] rfl II.out _ (below_step HW0.out HA.out) (HL.out.grow HA.out) W.heap.size 1 rfl #[v0] rfl ha.out HZ.out).mono ?_); rintro e w1 ⟨v, rfl, hm, hb⟩; clear ha; obtain ⟨A8, c8, rfl⟩ := Kd.R_slice hm; have HM := Aside0.mk (hm.lower HA.out.size); have hn := Aside0.mk (below_step HA.out hb); clear HW; have HW := hn; clear hn hm hb)
      | (go_at_call 16; (with_reducible refine (exprNodes_any w ts vs HV.out IS.out _ (below_step HW0.out HW.out) (HL.out.grow HW.out) A c ad HAD.out hlc (HC2.out _ HW.out) HZ2.out).mono ?_); rintro e w2 ⟨v, rfl, hm, hb⟩; obtain ⟨A9, c9, rfl⟩ := Kd.R_slice hm; have HR := Aside0.mk (hm.rows (base := W.heap.size) (fun k hk => Kd.R_lt HM.out k hk) HW.out.size); have hn := Aside0.mk (HM.out.grow hb); clear HM; have HM := hn; clear hn; have hn := Aside0.mk (below_step HW.out hb); clear HW; have HW := hn; clear hn hm hb)
      | (refine Kd.R_append_rows_step k24 (w0 := W) W.heap.size (by rfl) _ _ 22 24 (.agg #[.string ⟨#[]⟩, .string ⟨#[]⟩, .slice none 0 0]) 56 (by rfl) Tryd.underlying22 info24 rfl (by decide) (by omega) _ [t0] ts A9 ts.length c9 (fun _ => True) _ (by rfl) (by rfl) HM.out HR.out (fun _ _ h => h) (fun k hk => ⟨trivial, hk⟩) (fun _ _ => trivial) HW.out HW.out.size HZ3.out ?_; intro v3 w3 hr hb3 _ _; have hm := (show NodeRow w3 W.heap.size (t0 :: ts) v3 from hr); obtain ⟨A7, c7, rfl⟩ := Kd.R_slice hm; have HQ := Aside0.mk ((hm.put3 (x := .string (⟨#[99, 97, 108, 108]⟩ : ByteArray)) (y := .string (⟨#[46, 46, 46]⟩ : ByteArray)) (z := .slice A7 (ts.length + 1) c7) HS.out).lower HB.out.size); clear HW; have HW := Aside0.mk hb3; clear hr hm hb3; have hx := blk_below HK.out HW.out; have k0 := (blk_cell hx 0).trans rfl; have k1 := (blk_cell hx 1).trans rfl; have k2 := (blk_cell hx 2).trans rfl; have f0 := blk_frozen hx 0; have f1 := blk_frozen hx 1; have f2 := blk_frozen hx 2; have HX := Aside0.mk hx; clear hx))
  go_wp2
  refine bodyPost_ret (results_cell_row rfl _ _ B 24 #[.string (⟨#[99, 97, 108, 108]⟩ : ByteArray), .string (⟨#[46, 46, 46]⟩ : ByteArray), .slice A7 (ts.length + 1) c7] (0, 0) _ rfl (blk_put3 HX.out) Tryd.underlying24 rfl (by kernel_rfl)) rfl ⟨_, rfl, HQ.out, below_put3 (below_step HB.out HW.out) (Nat.le_of_eq HE.out.symm)⟩

set_option maxHeartbeats 2000000 in
set_option maxRecDepth 100000 in
theorem node_call_e (w : World)  (t0 : S24) (v0 : Value) (ts : List S24) (A : Option Addr) (c : Nat) (ad : Addr) (hlc : ts.length ≤ c) (hA : 0 < ts.length → A = some ad) (vs : List Value) (hl : vs.length = ts.length) (hc : ∀ (j : Nat) (v : Value), vs[j]? = some v → w.cell? (ad.add j) = some v) (I : ∀ (j : Nat) (t : S24) (v : Value), ts[j]? = some t → vs[j]? = some v → NodeC w t v) (b : Nat) (cs : Array Value) (h : w.heap[b]? = some (.cells cs 108 (0, 0))) (h0 : cs[0]? = some v0) (h1 : cs[1]? = some (.slice A ts.length c)) (h2 : cs[2]? = some (.bool false)) (hsz : (ts.length + 1) * 56 ≤ 140737488351232) (c0 : v0.cells = #[v0]) (I0 : NodeC w t0 v0) : NodeC w ⟨(⟨#[99, 97, 108, 108]⟩ : ByteArray), (⟨#[]⟩ : ByteArray), t0 :: ts⟩ (.iface 106 (.pointer (some ⟨b, 0, none⟩))) := by
  intro w0 hW hL
  unfold Value.cells at c0
  have j0 := cell_up hW ((blk_cell h 0).trans h0)
  have j1 := cell_up hW ((blk_cell h 1).trans h1)
  have j2 := cell_up hW ((blk_cell h 2).trans h2)
  have hlt : b < w0.heap.size := World.block_lt_of_cell? w0 _ j0
  have II := Aside0.mk (kids1 I0)
  have IS := Aside0.mk I
  have HV := Aside0.mk hl
  have HAD := Aside0.mk hA
  have HC := Aside0.mk hc
  clear h h0 h1 h2 I0 I hl hA hc
  have y2 := cell_up (below_alloc (Below.refl w0.heap.size w0) (.cells #[.string ⟨#[]⟩, .string ⟨#[]⟩, .slice none 0 0] 24)) j2
  go_enter Tryd.func13, Tryd.ntmps13
  go_wp2
  have hB : Below w0.heap.size w0 (w0.alloc (.cells #[.string ⟨#[]⟩, .string ⟨#[]⟩, .slice none 0 0] 24)) := below_alloc (Below.refl _ _) _
  have hb := blk_new w0 (.cells #[.string ⟨#[]⟩, .string ⟨#[]⟩, .slice none 0 0] 24)
  have hbs : w0.heap.size < (w0.alloc (.cells #[.string ⟨#[]⟩, .string ⟨#[]⟩, .slice none 0 0] 24)).heap.size := blk_lt hb
  obtain ⟨B, hBe⟩ : ∃ B, B = w0.heap.size := ⟨_, rfl⟩
  rw [← hBe] at hb hbs
  simp only [← hBe]
  clear y2
  generalize w0.alloc (.cells #[.string ⟨#[]⟩, .string ⟨#[]⟩, .slice none 0 0] 24) = W at hB hb hbs ⊢
  have HB := Aside0.mk hB
  have HK := Aside0.mk hb
  have HE := Aside0.mk hBe
  have HN := Aside0.mk (show b ≠ B by omega)
  have HS := Aside0.mk hbs
  have HL := Aside0.mk (hL.grow hB)
  have HW0 := Aside0.mk (show Below w.heap.size w W from below_step hW hB)
  replace j0 := cell_up hB j0
  replace j1 := cell_up hB j1
  replace j2 := cell_up hB j2
  clear hW hL hlt hB hb hBe hbs
  have HW := Aside0.mk (below_drew (Below.refl W.heap.size W))
  have HA := Aside0.mk (show Below W.heap.size W (W.alloc (.cells #[v0] 34)).drew from below_drew (below_alloc (Below.refl W.heap.size W) _))
  have HZ := Aside0.mk (show [t0].length * 56 ≤ 140737488351232 by simp)
  have HZ2 := Aside0.mk (show ts.length * 56 ≤ 140737488351232 by omega)
  have HZ3 := Aside0.mk (show ([t0].length + ts.length) * 56 ≤ 140737488355328 by simp only [List.length_cons, List.length_nil]; omega)
  have HC2 := Aside0.mk (show ∀ (u : World), Below W.heap.size W u → ∀ (j : Nat) (v : Value), vs[j]? = some v → u.cell? (ad.add j) = some v from fun u hu j v hj => cell_up (below_step HW0.out hu) (HC.out j v hj))
  clear hsz
  go_region_held3 (fun w' => w'.cell? ⟨b, 0, none⟩ = some v0 ∧ w'.cell? ⟨b, 1, none⟩ = some (.slice A ts.length c) ∧ w'.cell? ⟨b, 2, none⟩ = some (.bool false))
    (first | exact ⟨cell_up HW.out j0, cell_up HW.out j1, cell_up HW.out j2⟩ | exact ⟨cell_up HA.out j0, cell_up HA.out j1, cell_up HA.out j2⟩ | exact ⟨cell_put3 HN.out _ (cell_up HW.out j0), cell_put3 HN.out _ (cell_up HW.out j1), cell_put3 HN.out _ (cell_up HW.out j2)⟩)
    (first
      | (go_at_call 16; have hk : (W.alloc (.cells #[v0] 34)).drew.heap[W.heap.size]? = some (.cells #[v0] 34 (0, 0)) := blk_new W _; have ha := Aside0.mk hk; clear hk; (with_reducible refine (exprNodes_row w [t0] [v0] rfl II.out _ (below_step HW0.out HA.out) (HL.out.grow HA.out) W.heap.size 1 rfl #[v0] rfl ha.out HZ.out).mono ?_); rintro e w1 ⟨v, rfl, hm, hb⟩; clear ha; obtain ⟨A8, c8, rfl⟩ := Kd.R_slice hm; have HM := Aside0.mk (hm.lower HA.out.size); have hn := Aside0.mk (below_step HA.out hb); clear HW; have HW := hn; clear hn hm hb)
      | (go_at_call 16; (with_reducible refine (exprNodes_any w ts vs HV.out IS.out _ (below_step HW0.out HW.out) (HL.out.grow HW.out) A c ad HAD.out hlc (HC2.out _ HW.out) HZ2.out).mono ?_); rintro e w2 ⟨v, rfl, hm, hb⟩; obtain ⟨A9, c9, rfl⟩ := Kd.R_slice hm; have HR := Aside0.mk (hm.rows (base := W.heap.size) (fun k hk => Kd.R_lt HM.out k hk) HW.out.size); have hn := Aside0.mk (HM.out.grow hb); clear HM; have HM := hn; clear hn; have hn := Aside0.mk (below_step HW.out hb); clear HW; have HW := hn; clear hn hm hb)
      | (refine Kd.R_append_rows_step k24 (w0 := W) W.heap.size (by rfl) _ _ 22 24 (.agg #[.string ⟨#[]⟩, .string ⟨#[]⟩, .slice none 0 0]) 56 (by rfl) Tryd.underlying22 info24 rfl (by decide) (by omega) _ [t0] ts A9 ts.length c9 (fun _ => True) _ (by rfl) (by rfl) HM.out HR.out (fun _ _ h => h) (fun k hk => ⟨trivial, hk⟩) (fun _ _ => trivial) HW.out HW.out.size HZ3.out ?_; intro v3 w3 hr hb3 _ _; have hm := (show NodeRow w3 W.heap.size (t0 :: ts) v3 from hr); obtain ⟨A7, c7, rfl⟩ := Kd.R_slice hm; have HQ := Aside0.mk ((hm.put3 (x := .string (⟨#[99, 97, 108, 108]⟩ : ByteArray)) (y := .string (⟨#[]⟩ : ByteArray)) (z := .slice A7 (ts.length + 1) c7) HS.out).lower HB.out.size); clear HW; have HW := Aside0.mk hb3; clear hr hm hb3; have hx := blk_below HK.out HW.out; have k0 := (blk_cell hx 0).trans rfl; have k1 := (blk_cell hx 1).trans rfl; have k2 := (blk_cell hx 2).trans rfl; have f0 := blk_frozen hx 0; have f1 := blk_frozen hx 1; have f2 := blk_frozen hx 2; have HX := Aside0.mk hx; clear hx))
  go_wp2
  refine bodyPost_ret (results_cell_row rfl _ _ B 24 #[.string (⟨#[99, 97, 108, 108]⟩ : ByteArray), .string (⟨#[]⟩ : ByteArray), .slice A7 (ts.length + 1) c7] (0, 0) _ rfl (blk_put3 HX.out) Tryd.underlying24 rfl (by kernel_rfl)) rfl ⟨_, rfl, HQ.out, below_put3 (below_step HB.out HW.out) (Nat.le_of_eq HE.out.symm)⟩
end Go.Proofs.YtjkhfdekmpaoiaaDoor
