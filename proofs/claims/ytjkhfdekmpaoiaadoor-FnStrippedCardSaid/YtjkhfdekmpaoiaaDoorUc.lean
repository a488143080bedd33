/- The walk of spec.Stripped. -/
import Derived.Test.YtjkhfdekmpaoiaaDoorUa
import Derived.Test.YtjkhfdekmpaoiaaDoorEc
namespace Go.Proofs.YtjkhfdekmpaoiaaDoor
open Go.RowKit Go.Proofs.YtjkhfdekmpaoiaaDoorW.PrintWords Go.Proofs.YtjkhfdekmpaoiaaDoor.Kinds
set_option linter.unusedVariables false
set_option linter.unusedSimpArgs false
set_option maxHeartbeats 2000000 in
theorem specStripped_any (n : Nat) (t y : S24) (hs : Strips n t y) (w : World) (A : Option Addr) (c : Nat) (hC : Kd.C k24 w A t.f2.length t.f2) (hc : t.f2.length ≤ c) :
    Calls Tryd.prog 9 #[.agg #[.string t.f0, .string t.f1, .slice A t.f2.length c]] w fun e w' => ∃ A2 c2, e = .returned (.agg #[.string y.f0, .string y.f1, .slice A2 y.f2.length c2]) ∧ Kd.C k24 w A2 y.f2.length y.f2 ∧ y.f2.length ≤ c2 ∧ Below w.heap.size w w' := by
  have HS := Aside0.mk hs
  have HC := Aside0.mk hC
  have hc' := Aside0.mk hc
  clear hs hC hc
  go_enter Tryd.func9, Tryd.ntmps9
  go_wp2
  go_loopg [] n (fun kq w' => ∃ (t' : S24) (A' : Option Addr) (c' : Nat), Aside0 (Strips kq t' y) ∧ Aside0 (Kd.C k24 w A' t'.f2.length t'.f2) ∧ Aside0 (t'.f2.length ≤ c') ∧ Aside0 (w'.heap[w.heap.size]? = some (.cells #[.string t'.f0, .string t'.f1, .slice A' t'.f2.length c'] 24 (0, 0))) ∧ Aside0 (w'.heap[w.heap.size + 1]? = some (.cells #[.string ⟨#[]⟩, .string ⟨#[]⟩, .slice none 0 0] 24 (0, 0))) ∧ Aside0 (Below w.heap.size w w'))
  case atStart =>
    refine ⟨t, A, c, HS, HC, hc', ⟨blk_alloc (blk_new w _) _⟩, ⟨?_⟩, ⟨below_alloc (below_alloc (Below.refl _ _) _) _⟩⟩
    have := blk_new (w.alloc (.cells #[.string t.f0, .string t.f1, .slice A t.f2.length c] 24)) (.cells #[.string ⟨#[]⟩, .string ⟨#[]⟩, .slice none 0 0] 24)
    simpa using this
  case round =>
    obtain ⟨t', A', c', HS', HC', HL', B0, B1, HB⟩ := hrel
    cases gk with
    | zero =>
      obtain ⟨rfl, hne⟩ := HS'.out.zero
      have k0 := (blk_cell B0.out 0).trans rfl
      have k1 := (blk_cell B0.out 1).trans rfl
      have k2 := (blk_cell B0.out 2).trans rfl
      have z0 := (blk_cell B1.out 0).trans rfl
      have z1 := (blk_cell B1.out 1).trans rfl
      have z2 := (blk_cell B1.out 2).trans rfl
      have f0 := blk_frozen B1.out 0
      have f1 := blk_frozen B1.out 1
      have f2 := blk_frozen B1.out 2
      have q0 : (t'.f0.toList == ([112, 97, 114, 101, 110] : List UInt8)) = false := beq_eq_false_iff_ne.mpr (fun e => hne (by
        have h2 : t'.f0.toList = (⟨#[112, 97, 114, 101, 110]⟩ : ByteArray).toList := by rw [e]; simp [ByteArray.toList_eq]
        have h3 : t'.f0.data.toList = [112, 97, 114, 101, 110] := by simpa [ByteArray.toList_eq] using h2
        cases hb : t'.f0 with
        | mk d =>
          rw [hb] at h3
          cases d
          simp_all))
      have HNE := Aside0.mk hne
      clear hne
      go_wp2
      refine bodyPost_ret (results_cell_row rfl _ _ (w.heap.size + 1) 24 #[.string t'.f0, .string t'.f1, .slice A' t'.f2.length c'] (0, 0) _ rfl (blk_put3 B1.out) Tryd.underlying24 rfl (by kernel_rfl)) rfl ⟨_, _, rfl, HC'.out, HL'.out, below_put3 HB.out (Nat.le_succ _)⟩
    | succ m =>
      obtain ⟨x, rfl, hx⟩ := HS'.out.succ
      obtain ⟨ad, A2, c2, rfl, h0, h1, h2, h3, h4⟩ := kid_cells HC'.out 0 x rfl
      rw [show ad.add (0 * 3) = ad from rfl] at h0 h1 h2
      replace h0 := cell_up HB.out h0
      replace h1 := cell_up HB.out h1
      replace h2 := cell_up HB.out h2
      have HX := Aside0.mk hx
      have H3 := Aside0.mk h3
      have H4 := Aside0.mk h4
      have k0 := (blk_cell B0.out 0).trans rfl
      have k1 := (blk_cell B0.out 1).trans rfl
      have k2 := (blk_cell B0.out 2).trans rfl
      have f0 := blk_frozen B0.out 0
      have f1 := blk_frozen B0.out 1
      have f2 := blk_frozen B0.out 2
      clear hx h3 h4
      go_wp2
      go_roundg m
      case measure => omega
      case rel => exact ⟨x, A2, c2, HX, H4, H3, ⟨blk_put3 B0.out⟩, ⟨blk_far (blk_far (blk_far B1.out (Nat.succ_ne_self _) _) (Nat.succ_ne_self _) _) (Nat.succ_ne_self _) _⟩, ⟨below_put3 HB.out (Nat.le_refl _)⟩⟩
end Go.Proofs.YtjkhfdekmpaoiaaDoor
