/- Words for the walk of exprNode: the row of some given expressions; the node that is handed back lies in a variable of the call's own. Plain Lean over the model's memory. -/
import Derived.Test.YtjkhfdekmpaoiaaDoorEt
namespace Go.Proofs.YtjkhfdekmpaoiaaDoor
open Go.RowKit Go.Proofs.YtjkhfdekmpaoiaaDoorW.PrintWords Go.Proofs.YtjkhfdekmpaoiaaDoor.Kinds
set_option linter.unusedVariables false
set_option linter.unusedSimpArgs false

theorem exprNodes_row (w : World) (ts : List S24) (vs : List Value) (hlv : vs.length = ts.length) (I : ∀ (j : Nat) (t : S24) (v : Value), ts[j]? = some t → vs[j]? = some v → NodeC w t v)
    (W : World) (hW : Below w.heap.size w W) (hl : Laid W) (g n : Nat) (hn : ts.length = n) (cs : Array Value) (hcs : cs.toList = vs) (hb : W.heap[g]? = some (.cells cs 34 (0, 0))) (hsz : ts.length * 56 ≤ 140737488351232) :
    Calls Tryd.prog 16 #[.slice (some ⟨g, 0, none⟩) n n] W fun e w' => ∃ v, e = .returned v ∧ NodeRow w' W.heap.size ts v ∧ Below W.heap.size W w' := by
  subst hn
  refine exprNodes_any w ts vs hlv I W hW hl (some ⟨g, 0, none⟩) ts.length ⟨g, 0, none⟩ (fun _ => rfl) (Nat.le_refl _) (fun j v hj => ?_) hsz
  rw [add_plain, blk_cell hb j]
  rw [← hcs] at hj
  simpa using hj
theorem kids1 {w : World} {t0 : S24} {v0 : Value} (I0 : NodeC w t0 v0) : ∀ (j : Nat) (t : S24) (v : Value), [t0][j]? = some t → [v0][j]? = some v → NodeC w t v := by
  intro j t v h1 h2
  match j with
  | 0 => simp at h1 h2; subst h1; subst h2; exact I0
  | j + 1 => simp at h1
theorem kids2 {w : World} {t0 t1 : S24} {v0 v1 : Value} (I0 : NodeC w t0 v0) (I1 : NodeC w t1 v1) : ∀ (j : Nat) (t : S24) (v : Value), [t0, t1][j]? = some t → [v0, v1][j]? = some v → NodeC w t v := by
  intro j t v h1 h2
  match j with
  | 0 => simp at h1 h2; subst h1; subst h2; exact I0
  | 1 => simp at h1 h2; subst h1; subst h2; exact I1
  | j + 2 => simp at h1
theorem kids4 {w : World} {t0 t1 t2 t3 : S24} {v0 v1 v2 v3 : Value} (I0 : NodeC w t0 v0) (I1 : NodeC w t1 v1) (I2 : NodeC w t2 v2) (I3 : NodeC w t3 v3) : ∀ (j : Nat) (t : S24) (v : Value), [t0, t1, t2, t3][j]? = some t → [v0, v1, v2, v3][j]? = some v → NodeC w t v := by
  intro j t v h1 h2
  match j with
  | 0 => simp at h1 h2; subst h1; subst h2; exact I0
  | 1 => simp at h1 h2; subst h1; subst h2; exact I1
  | 2 => simp at h1 h2; subst h1; subst h2; exact I2
  | 3 => simp at h1 h2; subst h1; subst h2; exact I3
  | j + 4 => simp at h1
section
variable {w w1 : World} {B b : Nat} {x y z : Value}
theorem cell_put3 (hne : b ≠ B) (o : Nat) {v : Value} (h : w.cell? ⟨b, o, none⟩ = some v) : (((w.setCell ⟨B, 0, none⟩ x).setCell ⟨B, 1, none⟩ y).setCell ⟨B, 2, none⟩ z).cell? ⟨b, o, none⟩ = some v := by
  have s1 : ∀ (u : World) (o' : Nat) (q : Value), u.cell? ⟨b, o, none⟩ = some v → (u.setCell ⟨B, o', none⟩ q).cell? ⟨b, o, none⟩ = some v := fun u o' q hu =>
    (World.cell?_of_block (w := u) (Below.heap_setCell u ⟨B, o', none⟩ q b hne)).trans hu
  exact s1 _ 2 z (s1 _ 1 y (s1 _ 0 x h))
theorem NodeRow.put3 {base : Nat} {ts : List S24} {v : Value} (h : NodeRow w base ts v) (hB : B < base) : NodeRow (((w.setCell ⟨B, 0, none⟩ x).setCell ⟨B, 1, none⟩ y).setCell ⟨B, 2, none⟩ z) base ts v := by
  have h0 : Kd.R k24 24 w base (fun k => k ≠ B) v ts := Kd.R_mono (Kd.R_bound h) (fun k hk => Nat.ne_of_gt (Nat.lt_of_lt_of_le hB hk.2.1))
  exact Kd.R_mono (Kd.R_far (p := ⟨B, 2, none⟩) (Kd.R_far (p := ⟨B, 1, none⟩) (Kd.R_far (p := ⟨B, 0, none⟩) h0 (fun _ hk => hk) x) (fun _ hk => hk) y) (fun _ hk => hk) z) (fun _ _ => trivial)
theorem below_put3 {w0 : World} {C : Nat} (h : Below C w0 w) (hB : C ≤ B) : Below C w0 (((w.setCell ⟨B, 0, none⟩ x).setCell ⟨B, 1, none⟩ y).setCell ⟨B, 2, none⟩ z) := ((h.setCell hB _).setCell hB _).setCell hB _
theorem blk_put3 {a0 a1 a2 : Value} (h : w.heap[B]? = some (.cells #[a0, a1, a2] 24 (0, 0))) : (((w.setCell ⟨B, 0, none⟩ x).setCell ⟨B, 1, none⟩ y).setCell ⟨B, 2, none⟩ z).heap[B]? = some (.cells #[x, y, z] 24 (0, 0)) :=
  blk_put (cs := #[x, y, a2]) (blk_put (cs := #[x, a1, a2]) (blk_put h 0 x rfl) 1 y rfl) 2 z rfl
end
end Go.Proofs.YtjkhfdekmpaoiaaDoor
