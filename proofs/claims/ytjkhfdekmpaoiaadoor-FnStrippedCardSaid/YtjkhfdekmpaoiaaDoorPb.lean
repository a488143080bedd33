/- The plain law of Same: a tree is the same as itself. No program in sight. -/
import Derived.Test.YtjkhfdekmpaoiaaDoorSb
import Derived.Test.YtjkhfdekmpaoiaaDoorRc
namespace Go.Proofs.YtjkhfdekmpaoiaaDoor
open Go.RowKit Go.Proofs.YtjkhfdekmpaoiaaDoorW.PrintWords Go.Proofs.YtjkhfdekmpaoiaaDoor.Kinds
set_option linter.unusedVariables false
set_option linter.unusedSimpArgs false

theorem same_l0 (a b c d : ByteArray) (l : List S24) (hl : l.length * 56 ≤ 140737488351232) (I : ∀ (j : Nat) (x : S24), l[j]? = some x → ∃ k, spec_Same.f k x.f0 x.f1 x.f2 x.f0 x.f1 x.f2 = some true) (n : Nat) : ∀ i : Nat, l.length - i = n → i ≤ l.length → ∃ k, spec_Same.l0 k (l.length : Int) (i : Int) a b l c d l = some true := by
  induction n with
  | zero =>
    intro i h1 h2
    refine ⟨1, ?_⟩
    simp only [spec_Same.l0]
    rw [if_neg (by omega)]
  | succ n ih =>
    intro i h1 h2
    have hlt : i < l.length := by omega
    obtain ⟨k1, hk1⟩ := I i l[i] (List.getElem?_eq_getElem hlt)
    obtain ⟨k2, hk2⟩ := ih (i + 1) (by omega) (by omega)
    have hr : rd_T24 l (i : Int) = l[i] := by simp [rd_T24, List.getD_eq_getElem?_getD, hlt]
    have hw : wrap64 ((i : Int) + 1) = ((i + 1 : Nat) : Int) := by unfold wrap64; omega
    have h3 : spec_Same.f (max k1 k2) l[i].f0 l[i].f1 l[i].f2 l[i].f0 l[i].f1 l[i].f2 = some true := at_rounds (fun k => (spec_Same.mono_l k).1 _ _ _ _ _ _) (Nat.le_max_left _ _) hk1
    have h4 : spec_Same.l0 (max k1 k2) (l.length : Int) ((i + 1 : Nat) : Int) a b l c d l = some true := at_rounds (fun k => (spec_Same.mono_l k).2.2 _ _ _ _ _ _ _ _) (Nat.le_max_right _ _) hk2
    refine ⟨max k1 k2 + 1, ?_⟩
    simp only [spec_Same.l0]
    rw [if_pos (by omega), if_pos (by omega), if_pos (by omega), if_pos (by omega), hr, h3, hw]
    simp only [Option.bind_some, if_true]
    exact h4
theorem same_self (t : S24) (hf : Fits t) : ∃ k, spec_Same.f k t.f0 t.f1 t.f2 t.f0 t.f1 t.f2 = some true := by
  induction hf with
  | mk t h0 h1 h2 hs ih =>
    obtain ⟨k, hk⟩ := same_l0 t.f0 t.f1 t.f0 t.f1 t.f2 h2 ih t.f2.length 0 (by omega) (by omega)
    refine ⟨k + 2, ?_⟩
    simp only [spec_Same.f, spec_Same.j0, if_true, bne_self_eq_false, Bool.false_eq_true, if_false]
    exact hk
end Go.Proofs.YtjkhfdekmpaoiaaDoor
