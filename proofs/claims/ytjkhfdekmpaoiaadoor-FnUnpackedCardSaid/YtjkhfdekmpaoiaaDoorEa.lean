/- The walk of exprNodes: out of a row of expressions, each of which comes to its node, the row of the nodes. -/
import Derived.Test.YtjkhfdekmpaoiaaDoorMb
namespace Go.Proofs.YtjkhfdekmpaoiaaDoor
open Go.RowKit Go.Proofs.YtjkhfdekmpaoiaaDoorW.PrintWords Go.Proofs.YtjkhfdekmpaoiaaDoor.Kinds
set_option linter.unusedVariables false
set_option linter.unusedSimpArgs false

/-- v is a row of the nodes of ts, made by blocks from base on. -/
def NodeRow (w : World) (base : Nat) (ts : List S24) (v : Value) : Prop := k24.R 24 w base (fun _ => True) v ts
/-- What a call of exprNode comes to, at a value that is, since w, the expression of t. -/
def NodeC (w : World) (t : S24) (v : Value) : Prop := ∀ W, Below w.heap.size w W → Laid W →
  Calls Tryd.prog 13 #[v] W fun e w' => ∃ v2, e = .returned (.agg #[.string t.f0, .string t.f1, v2]) ∧ NodeRow w' W.heap.size t.f2 v2 ∧ Below W.heap.size W w'
theorem NodeC.go {w : World} {t : S24} {v : Value} (h : NodeC w t v) (W : World) (hW : Below w.heap.size w W) (hL : Laid W) :
  Calls Tryd.prog 13 #[v] W fun e w' => ∃ v2, e = .returned (.agg #[.string t.f0, .string t.f1, v2]) ∧ NodeRow w' W.heap.size t.f2 v2 ∧ Below W.heap.size W w' := h W hW hL
section
variable {w w1 : World} {base : Nat} {ts : List S24} {v : Value} {t : S24}
theorem NodeRow.grow (h : NodeRow w base ts v) (hb : Below w.heap.size w w1) : NodeRow w1 base ts v := Kd.R_below h hb
theorem NodeRow.lower {base' : Nat} (h : NodeRow w base ts v) (hb : base' ≤ base) : NodeRow w base' ts v := Kd.R_lower h hb
theorem NodeRow.nil (w : World) (base : Nat) : NodeRow w base [] (.slice none 0 0) := Kd.R_nil _ _ _ _ _
theorem nodeRow_nil (w : World) : NodeRow (w.alloc (.cells #[] 24)) w.heap.size [] (.slice (some ⟨w.heap.size, 0, none⟩) 0 0) := by
  have h := OwnRow.lit (e := 24) (size := 3) (R := k24.M (w.alloc (.cells #[] 24)) w.heap.size (fun k => True ∧ some k ≠ (Value.slice (some ⟨w.heap.size, 0, none⟩) 0 0).ownBlock)) (ps := []) w w.heap.size (Reps.none _ _) (Nat.le_refl _) (by simp)
  exact ⟨fun _ _ => trivial, h⟩
theorem NodeRow.apart {v2 : Value} (h : NodeRow w base ts v) (hb : Below w.heap.size w w1) (hx : NodeRow w1 w.heap.size t.f2 v2) (hbase : base ≤ w.heap.size) : k24.M w1 base (fun k => True ∧ some k ≠ v.ownBlock) t [.string t.f0, .string t.f1, v2] := by
  refine k24_mkM w1 base _ t (Kd.R_mono (Kd.R_lower (Kd.R_bound hx) hbase) (fun k hk => ⟨trivial, fun e => ?_⟩))
  have h1 := Kd.R_lt h k e.symm
  have h2 := hk.2.1
  omega
end
set_option maxHeartbeats 2000000 in
set_option maxRecDepth 100000 in
theorem exprNodes_any (w : World) (ts : List S24) (vs : List Value) (hlv : vs.length = ts.length) (I : ∀ (j : Nat) (t : S24) (v : Value), ts[j]? = some t → vs[j]? = some v → NodeC w t v)
    (W : World) (hW : Below w.heap.size w W) (hl : Laid W) (A : Option Addr) (c : Nat) (ad : Addr) (hA : 0 < ts.length → A = some ad) (hlc : ts.length ≤ c) (hc : ∀ (j : Nat) (v : Value), vs[j]? = some v → W.cell? (ad.add j) = some v) (hsz : ts.length * 56 ≤ 140737488351232) :
    Calls Tryd.prog 16 #[.slice A ts.length c] W fun e w' => ∃ v, e = .returned v ∧ NodeRow w' W.heap.size ts v ∧ Below W.heap.size W w' := by
  have HC := Aside0.mk hc
  have HL := Aside0.mk hl
  have HI := Aside0.mk I
  have HZ := Aside0.mk hsz
  have HV := Aside0.mk hlv
  have HW := Aside0.mk hW
  have HA := Aside0.mk hA
  have hlen : ts.length ≤ 9223372036854775807 := by omega
  clear hc hl I hsz hlv hW hA
  go_enter Tryd.func16, Tryd.ntmps16
  go_wp2
  go_loopw [3, 9] (fun out i wr => ∃ k : Nat, k ≤ ts.length ∧ i = .int .i64 k ∧ Aside0 (NodeRow wr W.heap.size (ts.take k) out) ∧ Aside0 (Below W.heap.size W wr)) (fun _ i _ => ts.length - (intOf i).toNat)
  case atStart => exact ⟨0, Nat.zero_le _, rfl, ⟨nodeRow_nil W⟩, ⟨below_alloc (Below.refl _ _) _⟩⟩
  case round =>
    obtain ⟨k, hk, rfl, HR, HB⟩ := hrel
    by_cases hlt : k < ts.length
    · obtain ⟨t, ht⟩ : ∃ t, ts[k]? = some t := ⟨_, List.getElem?_eq_getElem hlt⟩
      obtain ⟨x, hx⟩ : ∃ x, vs[k]? = some x := ⟨_, List.getElem?_eq_getElem (by have := HV.out; omega)⟩
      obtain rfl := HA.out (by omega)
      have h0 := cell_up HB.out (HC.out k x hx)
      have HX := Aside0.mk (HI.out k t x ht hx)
      have HT2 := Aside0.mk (show ts.take (k + 1) = ts.take k ++ [t] by rw [List.take_add_one, ht]; rfl)
      clear hx ht
      go_wp2_with (first
        | (go_at_call 13; (with_reducible refine (HX.out.go _ (below_step HW.out HB.out) (HL.out.grow HB.out)).mono ?_); rintro e w1 ⟨v, rfl, hm, hb⟩; have HM := Aside0.mk hm; have HV1 := Aside0.mk hb; clear hm hb)
        | (at_builtin; refine Kd.R_append k24 (w0 := W) W.heap.size rfl (.tmp 13) (.tmp 16) 22 24 (.agg #[.string ⟨#[]⟩, .string ⟨#[]⟩, .slice none 0 0]) 56 rfl Tryd.underlying22 info24 rfl (by decide) (by omega) _ (ts.take k) t [.string t.f0, .string t.f1, v] (fun _ => True) _ rfl rfl (HR.out.apart HV1.out HM.out HB.out.size) (fun _ hk => hk) (fun _ _ => trivial) (HR.out.grow HV1.out) (below_step HB.out HV1.out) (size_up HB.out HV1.out) ?aL ?_; (case aL => (have := HZ.out; rw [List.length_take]; omega)); intro v1 w2 hr hb2 _ _; rw [← HT2.out] at hr; have HR2 := Aside0.mk hr; have HB2 := Aside0.mk hb2; clear hr hb2))
      go_roundw
      case rel => exact ⟨k + 1, by omega, by go_num, ⟨HR2.out⟩, ⟨HB2.out⟩⟩
      case measure => simp [intOf]; omega
    · obtain rfl : k = ts.length := by omega
      rw [List.take_length] at HR
      go_wp2
      go_ret
      exact ⟨_, rfl, HR.out, HB.out⟩
end Go.Proofs.YtjkhfdekmpaoiaaDoor
