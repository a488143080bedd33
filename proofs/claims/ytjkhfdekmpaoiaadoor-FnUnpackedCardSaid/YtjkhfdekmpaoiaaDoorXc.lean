/- The row of FnUnpacked: for every list of nodes that can be read, in whatever memory, the law returns true and the list reads as it did. The condition: the four listed package-level variables lie as the program's text lays them. -/
import Derived.Test.YtjkhfdekmpaoiaaDoorXa
import Derived.Test.YtjkhfdekmpaoiaaDoorLb
namespace Go.Proofs.YtjkhfdekmpaoiaaDoor
open Go.ChangeShapes Go.WideShapes Go.ChangeAt Go.RowKit
set_option linter.unusedVariables false
set_option linter.unusedSimpArgs false

set_option maxRecDepth 100000 in
theorem fnUnpacked_lifted (os : Os) (started : os.Started) (H : Type) (enc : TypeId × Value → H) :
    ReturnsInHanded {} Tryd.checked os 4 .any (fun w args => (Rows.fnUnpackedSpec.pre enc Tryd.prog Tryd.f4 [] false w args ∧ laidMetH Tryd.prog laid4 w) ∧ sizedMet enc Tryd.prog Tryd.f4 (OpenSpec.ofChange Rows.fnUnpackedSpec) false w args)
      (Rows.fnUnpackedSpec.post enc Tryd.prog Tryd.f4 false true false false) := by
  refine returnsInHanded_of_change_and (C := Tryd.checked) (X := fun w _ => laidMetH Tryd.prog laid4 w) (fun _ _ _ hh h => h.of_heap hh) own started (by kernel_rfl) Tryd.func4
    (ChangeSpec.witness_shaped (enc := enc) (C := Tryd.checked) (os := os) (X := fun w _ => laidMetH Tryd.prog laid4 w) false (World.doorLaid Tryd.prog 4000 os) #[.slice none 0 0] 8 rfl (World.shaped_of_RefB (by kernel_rfl) (by kernel_rfl)) (by kernel_rfl) (by kernel_rfl) (by kernel_rfl) (door_met os _)) ?_
  intro W base args ds gs before hval0 hW _ hsz0 hL _
  have hsz : (DataW.weightsEach Tryd.prog (Tryd.f4.params.toList ++ Rows.fnUnpackedSpec.plain.varTypes Tryd.prog) (ds ++ gs)).all (· ≤ reachBytes) = true := hsz0
  have hval : ∀ (j : Nat) t v, Tryd.f4.params[j]? = some t → args[j]? = some v → Value.okWide Tryd.prog W .any base t v := hval0
  have hW' := hW
  obtain ⟨p, q, hA0, hV0, rfl, hfz, hnd⟩ := hW
  have hA : DataW.TrodAll enc Tryd.prog W 0 (fun _ => true) true Tryd.f4.params.toList args.toList ds p := hA0
  have hV : DataW.TrodVars enc Tryd.prog W (fun _ => true) ["loop.example/pub-g01447/pub/gosyntaxall._Operator_index"] gs q := hV0
  rw [Tryd.params4] at hA hval hsz
  obtain ⟨v0, d0, rfl, rfl, h0⟩ := trodAll_one hA
  obtain ⟨g, t, cs, fuel, d, p', rfl, hg, ht, hvar, hd, rfl⟩ := trodVars_one hV
  obtain rfl := Option.some.inj (gOps.symm.trans hg)
  obtain rfl := Option.some.inj (tOps.symm.trans ht)
  have hlaid := of_laid hL
  have lt0 : ∀ x ∈ p, x.block < W.heap.size := by obtain ⟨m, hm⟩ := h0; exact DataW.trod_lt m _ _ _ hm
  have lt1 : ∀ x ∈ p', x.block < W.heap.size := DataW.trod_lt fuel _ _ _ hd
  have k0 := h0
  have kd : DataW.Trod enc Tryd.prog W 0 (fun _ => true) true 141 (.agg cs) d p' := ⟨fuel, hd⟩
  have hg0 : 0 < W.heap.size := World.block_lt_of_cell? W _ (hlaid 0 (by decide))
  obtain ⟨A, c, ts, hcs, hlc, hC, hlen, hf⟩ : ∃ (A : Option Addr) (c : Nat) (ts : List Go.Proofs.YtjkhfdekmpaoiaaDoor.Kinds.S24), v0.cells.toList = [.slice A ts.length c] ∧ ts.length ≤ c ∧ Go.Proofs.YtjkhfdekmpaoiaaDoorW.PrintWords.Kd.C Go.Proofs.YtjkhfdekmpaoiaaDoor.Kinds.k24 W A ts.length ts ∧ ts.length * 56 ≤ 140737488351232 ∧ ∀ (j : Nat) (t : Go.Proofs.YtjkhfdekmpaoiaaDoor.Kinds.S24), ts[j]? = some t → Fits t := by
    obtain ⟨m, hm⟩ := h0
    exact open_list m _ _ hm (fun n hn => of_decide_eq_true (List.all_eq_true.1 hsz n (DataW.weights_mem_each (j := 0) (t := 22) rfl rfl n hn)))
  obtain ⟨a0, len0, cap0, rfl⟩ := okWide_slice Tryd.underlying22 (hval 0 22 v0 rfl rfl)
  obtain ⟨rfl, rfl, rfl⟩ : a0 = A ∧ len0 = ts.length ∧ cap0 = c := by simpa [Value.cells] using hcs
  clear hA0 hval0 hsz0 hV0 hA hV
  refine (fnUnpacked_any ts hf hlen W a0 cap0 hC hlc hlaid).mono fun e W' ⟨he, bel⟩ => ?_
  subst he
  obtain ⟨fuel', hd'⟩ := Below.trod laidOut (by kernel_rfl) (of_decide_eq_true (by kernel_rfl)) kd bel lt1
  exact ⟨_, rfl, _, _, _, [], _, _, hW', trodAll_mk1 (shut_bool Tryd.underlying4 _), trodAll_mk1 (Below.trod laidOut (by kernel_rfl) (of_decide_eq_true (by kernel_rfl)) k0 bel lt0),
    ⟨0, 141, cs, fuel', _, _, hg, ht, var?_below bel hg hg0 hvar, hd', rfl, rfl⟩, bel.frame _, fun h => by cases h⟩

/-- The row. -/
theorem fnUnpacked_row : Rows.FnUnpackedSaid :=
  OpenClaim.holds_of_wide 4 Tryd.f4 rfl rfl rfl rfl rfl rfl rfl ⟨rfl, rfl, rfl, rfl, rfl⟩ rfl rfl rfl rfl rfl (by kernel_rfl) Tryd.func4 (by kernel_rfl)
    (of_decide_eq_true (by kernel_rfl)) (by unfold Func.isWrapper; first | (rw [if_pos (by decide +kernel)]; kernel_rfl) | (rw [if_neg (by decide +kernel)]; exact ⟨rfl, rfl⟩))
    (fun os started H enc _ => fnUnpacked_lifted os started H enc)
end Go.Proofs.YtjkhfdekmpaoiaaDoor
