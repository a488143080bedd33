/- The walks of impl.Stripped and impl.Unpacked: made, then stripped or unpacked, then the nodes. -/
import Derived.Test.YtjkhfdekmpaoiaaDoorUa
import Derived.Test.YtjkhfdekmpaoiaaDoorMh
import Derived.Test.YtjkhfdekmpaoiaaDoorEo
namespace Go.Proofs.YtjkhfdekmpaoiaaDoor
open Go.RowKit Go.Proofs.YtjkhfdekmpaoiaaDoorW.PrintWords Go.Proofs.YtjkhfdekmpaoiaaDoor.Kinds
set_option linter.unusedVariables false
set_option linter.unusedSimpArgs false

theorem Strips.fits {n : Nat} {t y : S24} (h : Strips n t y) : Fits t → Fits y := by
  induction h with
  | stop t _ => exact id
  | step n x y h ih => exact fun f => ih (f.kid 0 rfl)

set_option maxHeartbeats 2000000 in
theorem implStripped_any (n : Nat) (t y : S24) (hs : Strips n t y) (hg : Good t) (hf : Fits t) (w : World) (A : Option Addr) (c : Nat) (hC : Kd.C k24 w A t.f2.length t.f2) (hc : t.f2.length ≤ c) (hl : Laid w) :
    Calls Tryd.prog 8 #[.agg #[.string t.f0, .string t.f1, .slice A t.f2.length c]] w fun e w' => ∃ v2, e = .returned (.agg #[.string y.f0, .string y.f1, v2]) ∧ NodeRow w' w.heap.size y.f2 v2 ∧ Below w.heap.size w w' := by
  have hB : Below w.heap.size w ((w.alloc (.cells #[.string t.f0, .string t.f1, .slice A t.f2.length c] 24)).alloc (.cells #[.string ⟨#[]⟩, .string ⟨#[]⟩, .slice none 0 0] 24)) := below_alloc (below_alloc (Below.refl _ _) _) _
  have hK : ((w.alloc (.cells #[.string t.f0, .string t.f1, .slice A t.f2.length c] 24)).alloc (.cells #[.string ⟨#[]⟩, .string ⟨#[]⟩, .slice none 0 0] 24)).heap[w.heap.size + 1]? = some (.cells #[.string ⟨#[]⟩, .string ⟨#[]⟩, .slice none 0 0] 24 (0, 0)) := by
    have := blk_new (w.alloc (.cells #[.string t.f0, .string t.f1, .slice A t.f2.length c] 24)) (.cells #[.string ⟨#[]⟩, .string ⟨#[]⟩, .slice none 0 0] 24)
    simpa using this
  have HB := Aside0.mk hB
  have HK := Aside0.mk hK
  have HL := Aside0.mk (hl.grow hB)
  have HM := Aside0.mk (made_good hg hf)
  have HC := Aside0.mk (Kd.C_below hC hB)
  have HS := Aside0.mk hs
  have HF := Aside0.mk (hs.fits hf)
  clear hB hK hl hg hf hC hs
  go_enter Tryd.func8, Tryd.ntmps8
  go_wp2_with (first
    | (go_at_call 15; (with_reducible refine (HM.out.go _ A c HC.out hc HL.out).mono ?_); rintro e w1 ⟨v, rfl, hm, hb⟩; have HR := Aside0.mk hm.now; have HW := Aside0.mk hb; clear hm hb)
    | (go_at_call 14; (with_reducible refine (unparen_any n t y HS.out _ _ HR.out).mono ?_); rintro e w2 ⟨v', rfl, hr, rfl⟩; have HN := Aside0.mk (node_good hr HF.out); clear hr)
    | (go_at_call 13; (with_reducible refine (HN.out.go _ (Below.refl _ _) (HL.out.grow HW.out)).mono ?_); rintro e w3 ⟨v2, rfl, hm, hb⟩; obtain ⟨A8, c8, rfl⟩ := Kd.R_slice hm; have HW3 := Aside0.mk (below_step HW.out hb); have HX := Aside0.mk (blk_below HK.out HW3.out); have hlt := blk_lt HK.out; have hz := HW.out.size; have HQ := Aside0.mk ((hm.put3 (B := w.heap.size + 1) (x := .string y.f0) (y := .string y.f1) (z := .slice A8 y.f2.length c8) (by omega)).lower (Nat.le_trans HB.out.size hz)); clear hm hb hlt hz; have hx := HX.out; have k0 := (blk_cell hx 0).trans rfl; have k1 := (blk_cell hx 1).trans rfl; have k2 := (blk_cell hx 2).trans rfl; have f0 := blk_frozen hx 0; have f1 := blk_frozen hx 1; have f2 := blk_frozen hx 2; clear hx))
  refine bodyPost_ret (results_cell_row rfl _ _ (w.heap.size + 1) 24 #[.string y.f0, .string y.f1, .slice A8 y.f2.length c8] (0, 0) _ rfl (blk_put3 HX.out) Tryd.underlying24 rfl (by kernel_rfl)) rfl ⟨_, rfl, HQ.out, below_put3 (below_step HB.out HW3.out) (Nat.le_succ _)⟩

set_option maxHeartbeats 2000000 in
theorem implUnpacked_any (ts : List S24) (hg : ∀ (j : Nat) (t : S24), ts[j]? = some t → Good t) (hf : ∀ (j : Nat) (t : S24), ts[j]? = some t → Fits t) (w : World) (A : Option Addr) (c : Nat) (hC : Kd.C k24 w A ts.length ts) (hc : ts.length ≤ c) (hsz : ts.length * 56 ≤ 140737488351232) (hl : Laid w) :
    Calls Tryd.prog 10 #[.slice A ts.length c] w fun e w' => ∃ v, e = .returned v ∧ NodeRow w' w.heap.size ts v ∧ Below w.heap.size w w' := by
  have HI := Aside0.mk (show ∀ (j : Nat) (t : S24), ts[j]? = some t → MadeC t from fun j t hj => made_good (hg j t hj) (hf j t hj))
  have HF := Aside0.mk hf
  have HL := Aside0.mk hl
  have HC := Aside0.mk hC
  have HZ := Aside0.mk hsz
  clear hg hf hl hC hsz
  go_enter Tryd.func10, Tryd.ntmps10
  go_wp2_with (first
    | (go_at_call 18; (with_reducible refine (madeList_any ts HI.out _ A c HC.out hc HZ.out HL.out).mono ?_); rintro e w1 ⟨v, rfl, hm, hb⟩; obtain ⟨A8, c8, ad, vs, rfl, hlc, hlm, hA, hlv, hr⟩ := MadeRow.row hm; have HR := Aside0.mk (hr w1 (Ag.refl _ _ _)); have HV := Aside0.mk hlv; have HA := Aside0.mk hA; have HLC := Aside0.mk hlc; have HW := Aside0.mk hb; clear hm hb hr hlc hlm hA hlv)
    | (go_at_call 17; (with_reducible refine (unpack_any w1.heap.size (.slice A8 ts.length c8) _ (by first | rfl | simp)).mono ?_); rintro e w2 ⟨rfl, rfl⟩)
    | (go_at_call 16; (with_reducible refine (exprNodes_any w1 ts vs HV.out (fun j t v hj hv => node_good (HR.out.2 j t v hj hv) (HF.out j t hj)) _ (below_alloc (Below.refl _ _) _) (HL.out.grow (below_alloc HW.out _)) A8 c8 ad HA.out HLC.out (fun j v hj => cell_up (below_alloc (Below.refl _ _) _) (HR.out.1 j v hj)) HZ.out).mono ?_); rintro e w3 ⟨v2, rfl, hm, hb⟩; have hn := HW.out.size; have HQ := Aside0.mk (hm.lower (show w.heap.size ≤ _ by simp; omega)); have HW3 := Aside0.mk (below_step (below_alloc HW.out _) hb); clear hm hb hn))
  go_ret
  exact ⟨_, rfl, HQ.out, HW3.out⟩
end Go.Proofs.YtjkhfdekmpaoiaaDoor
