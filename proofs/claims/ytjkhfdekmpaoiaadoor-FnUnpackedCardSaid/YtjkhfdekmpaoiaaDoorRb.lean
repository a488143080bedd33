/- How an expression, and a row of expressions, that a call has made are handed on: plain Lean over the model's memory; no walk. -/
import Derived.Test.YtjkhfdekmpaoiaaDoorRa
namespace Go.Proofs.YtjkhfdekmpaoiaaDoor
open Go.RowKit Go.Proofs.YtjkhfdekmpaoiaaDoorW.PrintWords Go.Proofs.YtjkhfdekmpaoiaaDoor.Kinds
set_option linter.unusedVariables false
set_option linter.unusedSimpArgs false

/-- v is the expression of t, made by blocks from base on. -/
def Made (w : World) (base : Nat) (t : S24) (v : Value) : Prop := kE.M w base (fun _ => True) t [v]
/-- v is a row of the expressions of ts, made by blocks from base on. -/
def MadeRow (w : World) (base : Nat) (ts : List S24) (v : Value) : Prop := kE.R 34 w base (fun _ => True) v ts

section
variable {w w1 w2 : World} {base : Nat} {ok : Nat → Prop} {t : S24} {v : Value} {ts : List S24}
theorem Made.of (h : ∀ w1, Ag w base (fun _ => True) w1 → Rep w1 t v) : Made w base t v := ⟨v, rfl, h⟩
theorem M_rep (h : kE.M w base ok t [v]) (hA : Ag w base ok w1) : Rep w1 t v := by
  obtain ⟨v', e, h⟩ := h
  obtain rfl : v = v' := by simpa using e
  exact h w1 hA
theorem Made.rep (h : Made w base t v) (hA : Ag w base (fun _ => True) w1) : Rep w1 t v := M_rep h hA
theorem Made.now (h : Made w base t v) : Rep w t v := h.rep (Ag.refl _ _ _)
theorem Made.grow (h : Made w base t v) (hb : Below w.heap.size w w1) : Made w1 base t v := Kd.M_below h hb
theorem Made.lower {base' : Nat} (h : Made w base t v) (hb : base' ≤ base) : Made w base' t v := kE.M_lower hb h
theorem MadeRow.grow (h : MadeRow w base ts v) (hb : Below w.heap.size w w1) : MadeRow w1 base ts v := Kd.R_below h hb
theorem MadeRow.lower {base' : Nat} (h : MadeRow w base ts v) (hb : base' ≤ base) : MadeRow w base' ts v := Kd.R_lower h hb
theorem Ag.blk (hA : Ag w base ok w1) {b q : Nat} {cs : Array Value} (h : w.heap[b]? = some (.cells cs q (0, 0))) (hq : q ∈ EL) (hb : base ≤ b) (ho : ok b) : w1.heap[b]? = some (.cells cs q (0, 0)) :=
  (hA b ho hb (blk_lt h) ⟨q, hq, cs, h⟩).trans h
theorem Made.miss (w : World) (base : Nat) : Made w base ⟨⟨#[]⟩, ⟨#[]⟩, []⟩ .nilIface := .of fun _ _ => .miss
theorem Rep.cells (h : Rep w t v) : v.cells = #[v] := by
  rcases h.shape with rfl | ⟨T, b, rfl⟩ <;> rfl
theorem Made.cells (h : Made w base t v) : v.cells = #[v] := h.now.cells
/-- The row's shape, and what it leads to in every world that holds its blocks. -/
theorem MadeRow.row (h : MadeRow w base ts v) : ∃ (A : Option Addr) (c : Nat) (ad : Addr) (vs : List Value), v = .slice A ts.length c ∧ ts.length ≤ c ∧ ts.length ≤ 9223372036854775807 ∧ (0 < ts.length → A = some ad) ∧ vs.length = ts.length ∧
    ∀ w1, Ag w base (fun _ => True) w1 → (∀ (j : Nat) (v : Value), vs[j]? = some v → w1.cell? (ad.add j) = some v) ∧ (∀ (j : Nat) (t : S24) (v : Value), ts[j]? = some t → vs[j]? = some v → Rep w1 t v) := by
  obtain ⟨A, c, hv, hlc, hC⟩ := Kd.R_reads h
  have hlm := Kd.C_max hC
  obtain ⟨h0, inner, ho, hr⟩ := h
  have hil : inner.length = ts.length := by have := hr.1; simpa [kE] using this
  have hrep : ∀ w1, Ag w base (fun _ => True) w1 → ∀ (j : Nat) (t : S24) (v : Value), ts[j]? = some t → inner[j]? = some v → Rep w1 t v := by
    intro w1 hA j t u ht hu
    have hM := hr.2 j t ht
    have hlt : j < inner.length := (List.getElem?_eq_some_iff.1 hu).1
    have e : (inner.drop (j * kE.sz)).take kE.sz = [u] := by
      show (inner.drop (j * 1)).take 1 = [u]
      rw [Nat.mul_one, List.drop_eq_getElem_cons hlt, List.take_succ_cons, List.take_zero]
      rw [List.getElem?_eq_getElem hlt] at hu
      rw [Option.some.inj hu]
    rw [e] at hM
    exact M_rep (kE.M_mono (fun _ _ => trivial) hM) hA
  rcases Nat.eq_zero_or_pos ts.length with hz | hz
  · refine ⟨A, c, ⟨0, 0, none⟩, inner, hv, hlc, hlm, fun hp => absurd hp (by omega), hil, fun w1 hA => ⟨fun j u hu => ?_, hrep w1 hA⟩⟩
    have hlt : j < inner.length := (List.getElem?_eq_some_iff.1 hu).1
    omega
  · obtain ⟨g, cap, hg, _, _⟩ := ho.form hz
    subst hg
    have hA0 : A = some ⟨g, 0, none⟩ := by injection hv with h1; exact h1.symm
    refine ⟨A, c, ⟨g, 0, none⟩, inner, hv, hlc, hlm, fun _ => hA0, hil, fun w1 hA => ⟨fun j u hu => ?_, hrep w1 hA⟩⟩
    have ho1 : w1.ownsRow base 34 kE.sz (.slice (some ⟨g, 0, none⟩) ts.length cap) ts.length inner := own_move ho (fun k hk => by
      obtain ⟨cells, hc⟩ := own_typed ho k hk
      exact hA k trivial (own_base ho k hk) (own_lt ho k hk) ⟨34, by simp [EL], cells, hc⟩)
    exact ho1.cells (g := g) rfl j u hu
end
end Go.Proofs.YtjkhfdekmpaoiaaDoor
