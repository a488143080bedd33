/- The walk of the law FnUnpacked. -/
import Derived.Test.YtjkhfdekmpaoiaaDoorUb
import Derived.Test.YtjkhfdekmpaoiaaDoorIe
import Derived.Test.YtjkhfdekmpaoiaaDoorPb
namespace Go.Proofs.YtjkhfdekmpaoiaaDoor
open Go.RowKit Go.Proofs.YtjkhfdekmpaoiaaDoorW.PrintWords Go.Proofs.YtjkhfdekmpaoiaaDoor.Kinds
set_option linter.unusedVariables false
set_option linter.unusedSimpArgs false

set_option maxHeartbeats 4000000 in
set_option maxRecDepth 100000 in
theorem fnUnpacked_any (ts : List S24) (hf : ∀ (j : Nat) (x : S24), ts[j]? = some x → Fits x) (hsz : ts.length * 56 ≤ 140737488351232) (w : World) (A : Option Addr) (c : Nat) (hC : Kd.C k24 w A ts.length ts) (hc : ts.length ≤ c) (hl : Laid w) :
    Calls Tryd.prog 4 #[.slice A ts.length c] w fun e w' => e = .returned (.bool true) ∧ Below w.heap.size w w' := by
  have HC := Aside0.mk hC
  have HL := Aside0.mk hl
  have HF := Aside0.mk hf
  have HZ := Aside0.mk hsz
  have hlen : ts.length ≤ 9223372036854775807 := by omega
  clear hC hl hf hsz
  by_cases hgt : 2147483647 < ts.length
  · have d0 : decide ((2147483647 : Int) < ts.length) = true := decide_eq_true (by omega)
    have d1 : decide (2147483647 < ts.length) = true := decide_eq_true hgt
    clear hgt
    go_enter Tryd.func4, Tryd.ntmps4
    go_wp2
    go_ret
    exact ⟨rfl, Below.refl _ _⟩
  · have d0 : decide ((2147483647 : Int) < ts.length) = false := decide_eq_false (by omega)
    have d1 : decide (2147483647 < ts.length) = false := decide_eq_false hgt
    clear hgt
    go_enter Tryd.func4, Tryd.ntmps4
    go_wp2
    go_loopw [13] (fun i wr => ∃ k : Nat, k ≤ ts.length ∧ i = .int .i64 k ∧ Aside0 (∀ (j : Nat) (x : S24), j < k → ts[j]? = some x → Good x) ∧ Aside0 (Below w.heap.size w wr)) (fun i _ => ts.length - (intOf i).toNat)
    case atStart => exact ⟨0, Nat.zero_le _, rfl, ⟨fun j x hj => absurd hj (by omega)⟩, ⟨Below.refl _ _⟩⟩
    case round =>
      obtain ⟨k, hk, rfl, HU, HB⟩ := hrel
      by_cases hlt : k < ts.length
      · obtain ⟨x, hx⟩ : ∃ x, ts[k]? = some x := ⟨_, List.getElem?_eq_getElem hlt⟩
        obtain ⟨ad, A2, c2, rfl, h0, h1, h2, h3, h4⟩ := kid_cells HC.out k x hx
        replace h0 := cell_up HB.out h0
        replace h1 := cell_up HB.out h1
        replace h2 := cell_up HB.out h2
        have H4 := Aside0.mk (Kd.C_below h4 HB.out)
        have H3 := Aside0.mk h3
        have HT := Aside0.mk hx
        clear h4 h3 hx
        go_wp2_with (first | (go_at_call 6; (with_reducible refine ((isMade_go x (HF.out k x HT.out)).go _ A2 c2 (Kd.C_alloc H4.out _) H3.out).mono ?_); rintro e w1 ⟨b, rfl, hg, hb⟩; have HG := Aside0.mk hg; have HB2 := Aside0.mk (below_step HB.out (below_step (below_alloc (Below.refl _ _) _) hb)); clear hg hb))
        · go_ret
          exact ⟨rfl, HB2.out⟩
        · have hb : b = true := by simpa using ‹(!b) = false›
          have HGB := Aside0.mk (HG.out hb).1
          clear hb
          go_roundw
          case rel => exact ⟨k + 1, by omega, by go_num, ⟨fun j y hj hy => by
            by_cases e : j = k
            · subst e
              rw [HT.out] at hy
              cases hy
              exact HGB.out
            · exact HU.out j y (by omega) hy⟩, ⟨HB2.out⟩⟩
          case measure => simp [intOf]; omega
      · obtain rfl : k = ts.length := by omega
        have HGS := Aside0.mk (show ∀ (j : Nat) (x : S24), ts[j]? = some x → Good x from fun j x hx => HU.out j x (List.getElem?_eq_some_iff.1 hx).1 hx)
        clear HU
        go_wp2_with (first | (go_at_call 10; (with_reducible refine (implUnpacked_any ts HGS.out HF.out _ A c (Kd.C_below HC.out HB.out) hc HZ.out (HL.out.grow HB.out)).mono ?_); rintro e w2 ⟨v, rfl, hm, hb⟩; obtain ⟨A8, c8, rfl⟩ := Kd.R_slice hm; have HM := Aside0.mk (Kd.R_reads' hm).2.2; have HB2 := Aside0.mk (below_step HB.out hb); clear hm hb))
        clear HB HGS
        go_loopw [30] (fun i wr => ∃ k : Nat, k ≤ ts.length ∧ i = .int .i64 k ∧ Aside0 (Below w2.heap.size w2 wr)) (fun i _ => ts.length - (intOf i).toNat)
        case atStart => exact ⟨0, Nat.zero_le _, rfl, ⟨Below.refl _ _⟩⟩
        case round =>
          obtain ⟨k, hk, rfl, HR⟩ := hrel
          by_cases hlt : k < ts.length
          · obtain ⟨x, hx⟩ : ∃ x, ts[k]? = some x := ⟨_, List.getElem?_eq_getElem hlt⟩
            obtain ⟨ad, A2, c2, rfl, h0, h1, h2, h3, h4⟩ := kid_cells HC.out k x hx
            obtain ⟨ad8, A3, c3, rfl, g0, g1, g2, g3, g4⟩ := kid_cells HM.out k x hx
            obtain ⟨kk, hkk⟩ := same_self x (HF.out k x hx)
            have HBW := Aside0.mk (below_step HB2.out HR.out)
            replace h0 := cell_up HBW.out h0
            replace h1 := cell_up HBW.out h1
            replace h2 := cell_up HBW.out h2
            have H4 := Aside0.mk (Kd.C_below h4 HBW.out)
            have G4 := Aside0.mk (Kd.C_below g4 HR.out)
            have H3 := Aside0.mk h3
            have G3 := Aside0.mk g3
            have HKK := Aside0.mk hkk
            replace g0 := cell_up HR.out g0
            replace g1 := cell_up HR.out g1
            replace g2 := cell_up HR.out g2
            have G0 := Aside0.mk g0
            have G1 := Aside0.mk g1
            have G2 := Aside0.mk g2
            clear h4 h3 hx g3 g4 hkk g0 g1 g2
            go_wp2
            have hB : Below wr.heap.size wr (wr.alloc (.cells #[.string x.f0, .string x.f1, .slice A2 x.f2.length c2] 24)) := below_alloc (Below.refl _ _) _
            have hb := blk_new wr (.cells #[.string x.f0, .string x.f1, .slice A2 x.f2.length c2] 24)
            obtain ⟨B, hBe⟩ : ∃ B, B = wr.heap.size := ⟨_, rfl⟩
            rw [← hBe] at hb
            simp only [← hBe]
            generalize wr.alloc (.cells #[.string x.f0, .string x.f1, .slice A2 x.f2.length c2] 24) = W at hB hb ⊢
            have e0 : W.cell? ⟨B, 0, none⟩ = some (.string x.f0) := (blk_cell hb 0).trans rfl
            have e1 : W.cell? ⟨B, 1, none⟩ = some (.string x.f1) := (blk_cell hb 1).trans rfl
            have e2 : W.cell? ⟨B, 2, none⟩ = some (.slice A2 x.f2.length c2) := (blk_cell hb 2).trans rfl
            have g0 := cell_up hB G0.out
            have g1 := cell_up hB G1.out
            have g2 := cell_up hB G2.out
            have HH := Aside0.mk (Kd.C_below H4.out hB)
            have GG := Aside0.mk (Kd.C_below G4.out hB)
            have HBR := Aside0.mk (below_step HR.out hB)
            clear hB hb hBe
            have HW := Aside0.mk (below_drew (Below.refl W.heap.size W))
            go_region_held3 (fun w' => w'.cell? ⟨B, 0, none⟩ = some (.string x.f0) ∧ w'.cell? ⟨B, 1, none⟩ = some (.string x.f1) ∧ w'.cell? ⟨B, 2, none⟩ = some (.slice A2 x.f2.length c2) ∧ w'.cell? (ad8.add (k * 3)) = some (.string x.f0) ∧ w'.cell? ⟨(ad8.add (k * 3)).block, (ad8.add (k * 3)).off + 1, none⟩ = some (.string x.f1) ∧ w'.cell? ⟨(ad8.add (k * 3)).block, (ad8.add (k * 3)).off + 2, none⟩ = some (.slice A3 x.f2.length c3))
              (first | exact ⟨cell_up HW.out e0, cell_up HW.out e1, cell_up HW.out e2, cell_up HW.out g0, cell_up HW.out g1, cell_up HW.out g2⟩)
              (first | (go_at_call 7; (with_reducible refine (spec_Same.calls kk x.f0 x.f1 A3 c3 x.f2 x.f0 x.f1 A2 c2 x.f2 true _ (Kd.C_below GG.out HW.out) G3.out (Kd.C_below HH.out HW.out) H3.out HKK.out).mono ?_); rintro e w3 ⟨rfl, hb⟩; have hn := Aside0.mk (below_step HW.out hb); clear HW; have HW := hn; clear hn hb))
            go_wp2
            go_roundw
            case rel => exact ⟨k + 1, by omega, by go_num, ⟨below_step HBR.out HW.out⟩⟩
            case measure => simp [intOf]; omega
          · obtain rfl : k = ts.length := by omega
            go_wp2
            go_ret
            exact ⟨rfl, below_step HB2.out HR.out⟩
end Go.Proofs.YtjkhfdekmpaoiaaDoor
