/- The walk of madeList: out of a list of nodes each of which is made, a row of their expressions. -/
import Derived.Test.YtjkhfdekmpaoiaaDoorMa
namespace Go.Proofs.YtjkhfdekmpaoiaaDoor
open Go.RowKit Go.Proofs.YtjkhfdekmpaoiaaDoorW.PrintWords Go.Proofs.YtjkhfdekmpaoiaaDoor.Kinds
set_option linter.unusedVariables false
set_option linter.unusedSimpArgs false

/-- What a call of made on a tree comes to. -/
def MadeC (t : S24) : Prop := ∀ (w : World) (A : Option Addr) (c : Nat), Kd.C k24 w A t.f2.length t.f2 → t.f2.length ≤ c → Laid w →
  Calls Tryd.prog 15 #[.agg #[.string t.f0, .string t.f1, .slice A t.f2.length c]] w fun e w' => ∃ v, e = .returned v ∧ Made w' w.heap.size t v ∧ Below w.heap.size w w'
theorem MadeC.go {t : S24} (h : MadeC t) (w : World) (A : Option Addr) (c : Nat) (hC : Kd.C k24 w A t.f2.length t.f2) (hc : t.f2.length ≤ c) (hl : Laid w) :
  Calls Tryd.prog 15 #[.agg #[.string t.f0, .string t.f1, .slice A t.f2.length c]] w fun e w' => ∃ v, e = .returned v ∧ Made w' w.heap.size t v ∧ Below w.heap.size w w' := h w A c hC hc hl
theorem info34 : (Tryd.prog.info? 34).map (fun i => (i.zero, i.size, i.bytes)) = some (some .nilIface, 1, 16) := by kernel_rfl
theorem info24 : (Tryd.prog.info? 24).map (fun i => (i.zero, i.size, i.bytes)) = some (some (.agg #[.string ⟨#[]⟩, .string ⟨#[]⟩, .slice none 0 0]), 3, 56) := by kernel_rfl
/-- The empty row of expressions. -/
theorem madeRow_nil (w : World) : MadeRow (w.alloc (.cells #[] 34)) w.heap.size [] (.slice (some ⟨w.heap.size, 0, none⟩) 0 0) := by
  have h := OwnRow.lit (e := 34) (size := 1) (R := kE.M (w.alloc (.cells #[] 34)) w.heap.size (fun k => True ∧ some k ≠ (Value.slice (some ⟨w.heap.size, 0, none⟩) 0 0).ownBlock)) (ps := []) w w.heap.size (Reps.none _ _) (Nat.le_refl _) (by simp)
  exact ⟨fun _ _ => trivial, h⟩
/-- One expression more. -/
theorem MadeRow.apart {w w1 : World} {base : Nat} {ts : List S24} {v : Value} {t : S24} {x : Value} (h : MadeRow w base ts v) (hb : Below w.heap.size w w1) (hx : Made w1 w.heap.size t x) (hbase : base ≤ w.heap.size) : kE.M w1 base (fun k => True ∧ some k ≠ v.ownBlock) t [x] := by
  refine kE.M_mono (fun k hk => ⟨trivial, fun e => ?_⟩) (kE.M_lower hbase (kE.M_bound hx))
  have h1 := Kd.R_lt h k e.symm
  have h2 := hk.2.1
  omega

set_option maxHeartbeats 2000000 in
set_option maxRecDepth 100000 in
theorem madeList_any (ts : List S24) (I : ∀ (j : Nat) (t : S24), ts[j]? = some t → MadeC t) (w : World) (A : Option Addr) (c : Nat) (hC : Kd.C k24 w A ts.length ts) (hc : ts.length ≤ c) (hsz : ts.length * 56 ≤ 140737488351232) (hl : Laid w) :
    Calls Tryd.prog 18 #[.slice A ts.length c] w fun e w' => ∃ v, e = .returned v ∧ MadeRow w' w.heap.size ts v ∧ Below w.heap.size w w' := by
  have HC := Aside0.mk hC
  have HL := Aside0.mk hl
  have HI := Aside0.mk I
  have HZ := Aside0.mk hsz
  have hlen : ts.length ≤ 9223372036854775807 := by omega
  clear hC hl I hsz
  go_enter Tryd.func18, Tryd.ntmps18
  go_wp2
  go_loopw [3, 9] (fun out i wr => ∃ k : Nat, k ≤ ts.length ∧ i = .int .i64 k ∧ Aside0 (MadeRow wr w.heap.size (ts.take k) out) ∧ Aside0 (Below w.heap.size w wr)) (fun _ i _ => ts.length - (intOf i).toNat)
  case atStart => exact ⟨0, Nat.zero_le _, rfl, ⟨madeRow_nil w⟩, ⟨below_alloc (Below.refl _ _) _⟩⟩
  case round =>
    obtain ⟨k, hk, rfl, HR, HB⟩ := hrel
    by_cases hlt : k < ts.length
    · obtain ⟨t, ht⟩ : ∃ t, ts[k]? = some t := ⟨_, List.getElem?_eq_getElem hlt⟩
      obtain ⟨ad, A2, c2, rfl, h0, h1, h2, h3, h4⟩ := kid_cells HC.out k t ht
      replace h0 := cell_up HB.out h0
      replace h1 := cell_up HB.out h1
      replace h2 := cell_up HB.out h2
      have H4 := Aside0.mk (Kd.C_below h4 HB.out)
      have H3 := Aside0.mk h3
      have HT := Aside0.mk ht
      clear h4 h3 ht
      have HT2 := Aside0.mk (show ts.take (k + 1) = ts.take k ++ [t] by rw [List.take_add_one, HT.out]; rfl)
      go_wp2_with (first
        | (go_at_call 15; (with_reducible refine ((HI.out k t HT.out).go _ A2 c2 (Kd.C_alloc H4.out _) H3.out (HL.out.grow (below_alloc HB.out _))).mono ?_); rintro e w1 ⟨v, rfl, hm, hb⟩; have HM := Aside0.mk (hm.lower (show wr.heap.size ≤ _ by simp)); have HV := Aside0.mk (below_step (below_alloc (Below.refl _ _) _) hb); have hv := hm.cells; unfold Value.cells at hv; clear hm hb)
        | (at_builtin; refine Kd.R_append kE (w0 := w) w.heap.size rfl (.tmp 13) (.tmp 16) 38 34 .nilIface 16 rfl Tryd.underlying38 info34 rfl (by decide) (by omega) _ (ts.take k) t [v] (fun _ => True) _ rfl rfl (HR.out.apart HV.out HM.out HB.out.size) (fun _ hk => hk) (fun _ _ => trivial) (HR.out.grow HV.out) (below_step HB.out HV.out) (size_up HB.out HV.out) ?aL ?_; (case aL => (have := HZ.out; rw [List.length_take]; omega)); intro v1 w2 hr hb2 _ _; rw [← HT2.out] at hr; have HR2 := Aside0.mk hr; have HB2 := Aside0.mk hb2; clear hr hb2))
      go_roundw
      case rel => exact ⟨k + 1, by omega, by go_num, ⟨HR2.out⟩, ⟨HB2.out⟩⟩
      case measure => simp [intOf]; omega
    · obtain rfl : k = ts.length := by omega
      rw [List.take_length] at HR
      go_wp2
      go_ret
      exact ⟨_, rfl, HR.out, HB.out⟩
end Go.Proofs.YtjkhfdekmpaoiaaDoor
