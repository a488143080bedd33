/- What the listed variables give the walks; the world in which the rows' conditions are met. -/
import Derived.Test.YtjkhfdekmpaoiaaDoorRows
import Derived.Test.YtjkhfdekmpaoiaaDoorOa
import Derived.Test.YtjkhfdekmpaoiaaDoorMa
import Derived.ProofKit
import Derived.LaidMore
import Derived.OpenShut
import Derived.ChangeVars
import Derived.Carry
import Derived.WalkSmall
import Derived.Stop.Joined
namespace Go.Proofs.YtjkhfdekmpaoiaaDoor
open Go.ChangeShapes Go.WideShapes Go.ChangeAt Go.RowKit
set_option linter.unusedVariables false
set_option linter.unusedSimpArgs false

theorem own : ownKnob Tryd.prog.godebug = none := by kernel_rfl
theorem laidOut : laidOutB Tryd.prog = true := by kernel_rfl
theorem gOps : Tryd.prog.globalNamed "loop.example/pub-g01447/pub/gosyntaxall._Operator_index" = some 0 := by kernel_rfl
theorem tOps : (Tryd.prog.globals[0]?).map (·.type) = some 141 := by kernel_rfl
theorem cells5 : Tryd.prog.cellsOf 5 = 1 := by kernel_rfl
abbrev laid4 : List (String × DataW Unit) := [("math/bits.deBruijn32tab", Rows.laid_math_bits_deBruijn32tab), ("math/bits.deBruijn64tab", Rows.laid_math_bits_deBruijn64tab), ("internal/strconv.uint64pow10", Rows.laid_internal_strconv_uint64pow10), ("loop.example/pub-g01447/pub/gosyntaxall._Operator_index", Rows.laid_loop_example_pub_g01447_pub_gosyntaxall_Operator_index)]
/-- The door's own heap meets the condition: closed facts. -/
theorem door_met (os : Os) (args : Array Value) : laidMetH Tryd.prog laid4 ((World.doorLaid Tryd.prog 4000 os).forCall (fun _ _ => 0) ⟨#[], args, []⟩).memory :=
  laidMetH_of_parts3 (fuel := 8) (laidMet_of_run' 8 (by kernel_rfl) (by kernel_rfl)) (by kernel_rfl) (by kernel_rfl)
def opTab : List Int := [0, 1, 2, 4, 5, 7, 9, 11, 13, 14, 16, 17, 19, 20, 21, 22, 23, 24, 25, 26, 27, 29, 31, 33]
theorem opTab_laid {H : Type} : (Rows.laid_loop_example_pub_g01447_pub_gosyntaxall_Operator_index : DataW H) = .agg (opTab.map fun k => .lit (.int .u8 k)) := rfl
/-- What the condition gives the walks: the table of the operators' places. -/
theorem of_laid {W : World} (h : laidMetH Tryd.prog laid4 W) : Laid W := by
  rw [MakeChecks.laidMetH_plain _ _ _ (by kernel_rfl)] at h
  obtain ⟨ps, ⟨_, _, _, _, _, _, _, _, _, _, ⟨_, _, _, _, _, _, _, _, _, _, ⟨_, _, _, _, _, _, _, _, _, _, ⟨g, t, cs, fuel, p, q, hg, ht, hv, hd, _, _⟩, _⟩, _⟩, _⟩, _, _⟩ := h
  obtain rfl := Option.some.inj (gOps.symm.trans hg)
  obtain rfl := Option.some.inj (tOps.symm.trans ht)
  rw [opTab_laid] at hd
  obtain ⟨xs, m, rfl, hx, hlen, hn, hel⟩ := DataW.trod_array Tryd.underlying141 hd
  simp only [Prod.mk.injEq, DataW.agg.injEq] at hx
  have hmap := hx.1
  intro i hi
  have h1 := hel i hi
  rw [cells5, Nat.mul_one] at h1
  have hxi : xs[i]? = some xs[i] := List.getElem?_eq_getElem (by omega)
  rw [hxi] at h1
  obtain ⟨k, e1, e2, _⟩ := DataW.trod_int Tryd.underlying5 h1
  have h2 : (xs.map (·.1))[i]? = (opTab.map fun k => (.lit (.int .u8 k) : DataW Unit))[i]? := by rw [← hmap]
  rw [List.getElem?_map, hxi, e2, List.getElem?_map] at h2
  obtain ⟨k', hk'⟩ : ∃ k', opTab[i]? = some k' := ⟨_, List.getElem?_eq_getElem (by simpa [opTab] using hi)⟩
  rw [hk'] at h2
  simp only [Option.map_some, Option.some.injEq, DataW.lit.injEq, Lit.int.injEq, true_and] at h2
  have h3 : W.cell? ⟨0, i, none⟩ = cs[i]? := World.var?_cell hg hv i
  rw [h3]
  have h4 : cs.toList[i]? = some (.int .u8 k) := by
    have := congrArg List.head? e1
    simpa [List.head?_take, List.head?_drop] using this
  rw [Array.getElem?_toList] at h4
  rw [h4, h2]
  show some (Value.int .u8 k') = some (.int .u8 (opTab.getD i 0))
  rw [List.getD_eq_getElem?_getD, hk']
  rfl
end Go.Proofs.YtjkhfdekmpaoiaaDoor
