/- The row of FnStripped: for every node that can be read, in whatever memory, the law returns true and the node reads as it did. The condition: the four listed package-level variables lie as the program's text lays them. -/
import Derived.Test.YtjkhfdekmpaoiaaDoorXa
import Derived.Test.YtjkhfdekmpaoiaaDoorLa
namespace Go.Proofs.YtjkhfdekmpaoiaaDoor
open Go.ChangeShapes Go.WideShapes Go.ChangeAt Go.RowKit
set_option linter.unusedVariables false
set_option linter.unusedSimpArgs false

set_option maxRecDepth 100000 in
theorem fnStripped_lifted (os : Os) (started : os.Started) (H : Type) (enc : TypeId × Value → H) :
    ReturnsInHanded {} Tryd.checked os 3 .any (fun w args => (Rows.fnStrippedSpec.pre enc Tryd.prog Tryd.f3 [] false w args ∧ laidMetH Tryd.prog laid4 w) ∧ sizedMet enc Tryd.prog Tryd.f3 (OpenSpec.ofChange Rows.fnStrippedSpec) false w args)
      (Rows.fnStrippedSpec.post enc Tryd.prog Tryd.f3 false true false false) := by
  refine returnsInHanded_of_change_and (C := Tryd.checked) (X := fun w _ => laidMetH Tryd.prog laid4 w) (fun _ _ _ hh h => h.of_heap hh) own started (by kernel_rfl) Tryd.func3
    (ChangeSpec.witness_shaped (enc := enc) (C := Tryd.checked) (os := os) (X := fun w _ => laidMetH Tryd.prog laid4 w) false (World.doorLaid Tryd.prog 4000 os) #[.agg #[.string ByteArray.empty, .string ByteArray.empty, .slice none 0 0]] 8 rfl (World.shaped_of_RefB (by kernel_rfl) (by kernel_rfl)) (by kernel_rfl) (by kernel_rfl) (by kernel_rfl) (door_met os _)) ?_
  intro W base args ds gs before hval0 hW _ hsz0 hL _
  have hsz : (DataW.weightsEach Tryd.prog (Tryd.f3.params.toList ++ Rows.fnStrippedSpec.plain.varTypes Tryd.prog) (ds ++ gs)).all (· ≤ reachBytes) = true := hsz0
  have hval : ∀ (j : Nat) t v, Tryd.f3.params[j]? = some t → args[j]? = some v → Value.okWide Tryd.prog W .any base t v := hval0
  have hW' := hW
  obtain ⟨p, q, hA0, hV0, rfl, hfz, hnd⟩ := hW
  have hA : DataW.TrodAll enc Tryd.prog W 0 (fun _ => true) true Tryd.f3.params.toList args.toList ds p := hA0
  have hV : DataW.TrodVars enc Tryd.prog W (fun _ => true) ["loop.example/pub-g01447/pub/gosyntaxall._Operator_index"] gs q := hV0
  rw [Tryd.params3] at hA hval hsz
  obtain ⟨v0, d0, rfl, rfl, h0⟩ := trodAll_one hA
  obtain ⟨g, t, cs, fuel, d, p', rfl, hg, ht, hvar, hd, rfl⟩ := trodVars_one hV
  obtain rfl := Option.some.inj (gOps.symm.trans hg)
  obtain rfl := Option.some.inj (tOps.symm.trans ht)
  have hlaid := of_laid hL
  have lt0 : ∀ x ∈ p, x.block < W.heap.size := by obtain ⟨m, hm⟩ := h0; exact DataW.trod_lt m _ _ _ hm
  have lt1 : ∀ x ∈ p', x.block < W.heap.size := DataW.trod_lt fuel _ _ _ hd
  have k0 := h0
  have kd : DataW.Trod enc Tryd.prog W 0 (fun _ => true) true 141 (.agg cs) d p' := ⟨fuel, hd⟩
  have hg0 : 0 < W.heap.size := World.block_lt_of_cell? W _ (hlaid 0 (by decide))
  obtain ⟨t0, hK, hf⟩ : ∃ t0 : Go.Proofs.YtjkhfdekmpaoiaaDoor.Kinds.S24, Go.Proofs.YtjkhfdekmpaoiaaDoor.Kinds.k24.K W t0 v0.cells.toList ∧ Fits t0 := by
    obtain ⟨m, hm⟩ := h0
    exact open_node m _ _ hm (fun n hn => of_decide_eq_true (List.all_eq_true.1 hsz n (DataW.weights_mem_each (j := 0) (t := 24) rfl rfl n hn)))
  obtain ⟨A, c, hcs, hlc, hC⟩ := Go.Proofs.YtjkhfdekmpaoiaaDoor.Kinds.k24_open hK
  obtain ⟨cells, rfl⟩ : ∃ cells, v0 = .agg cells := by
    cases v0 with
    | agg cells => exact ⟨cells, rfl⟩
    | _ => simp [Value.cells] at hcs
  obtain rfl : cells = #[.string t0.f0, .string t0.f1, .slice A t0.f2.length c] := by
    have : cells.toList = [.string t0.f0, .string t0.f1, .slice A t0.f2.length c] := hcs
    cases cells
    simp_all
  clear hA0 hval0 hsz0 hV0 hA hV
  refine (fnStripped_any t0 hf W A c hC hlc hlaid).mono fun e W' ⟨he, bel⟩ => ?_
  subst he
  obtain ⟨fuel', hd'⟩ := Below.trod laidOut (by kernel_rfl) (of_decide_eq_true (by kernel_rfl)) kd bel lt1
  exact ⟨_, rfl, _, _, _, [], _, _, hW', trodAll_mk1 (shut_bool Tryd.underlying4 _), trodAll_mk1 (Below.trod laidOut (by kernel_rfl) (of_decide_eq_true (by kernel_rfl)) k0 bel lt0),
    ⟨0, 141, cs, fuel', _, _, hg, ht, var?_below bel hg hg0 hvar, hd', rfl, rfl⟩, bel.frame _, fun h => by cases h⟩

/-- The row. -/
theorem fnStripped_row : Rows.FnStrippedSaid :=
  OpenClaim.holds_of_wide 3 Tryd.f3 rfl rfl rfl rfl rfl rfl rfl ⟨rfl, rfl, rfl, rfl, rfl⟩ rfl rfl rfl rfl rfl (by kernel_rfl) Tryd.func3 (by kernel_rfl)
    (of_decide_eq_true (by kernel_rfl)) (by unfold Func.isWrapper; first | (rw [if_pos (by decide +kernel)]; kernel_rfl) | (rw [if_neg (by decide +kernel)]; exact ⟨rfl, rfl⟩))
    (fun os started H enc _ => fnStripped_lifted os started H enc)
end Go.Proofs.YtjkhfdekmpaoiaaDoor
