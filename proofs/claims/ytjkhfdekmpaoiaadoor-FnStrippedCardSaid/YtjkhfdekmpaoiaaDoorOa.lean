/- How an argument reads: what can be read as a node, as a list of nodes, is a tree that fits into memory. Plain Lean over the form's reading; no walk. -/
import Derived.Test.YtjkhfdekmpaoiaaDoorRc
import Derived.ChangeArms
import Derived.SizedLaws
namespace Go.Proofs.YtjkhfdekmpaoiaaDoor
open Go.RowKit Go.Proofs.YtjkhfdekmpaoiaaDoorW.PrintWords Go.Proofs.YtjkhfdekmpaoiaaDoor.Kinds
set_option linter.unusedVariables false
set_option linter.unusedSimpArgs false

theorem cells24 : Tryd.prog.cellsOf 24 = 3 := by kernel_rfl
theorem cells22 : Tryd.prog.cellsOf 22 = 1 := by kernel_rfl
theorem cells9 : Tryd.prog.cellsOf 9 = 1 := by kernel_rfl
theorem bytes24 : Tryd.prog.bytesOf 24 = 56 := by kernel_rfl
theorem choose_list {P : Nat → S24 → Prop} : ∀ n : Nat, (∀ i, i < n → ∃ t, P i t) → ∃ l : List S24, l.length = n ∧ ∀ (i : Nat) (t : S24), l[i]? = some t → P i t
  | 0, _ => ⟨[], rfl, fun i t h => by simp at h⟩
  | n + 1, h => by
    obtain ⟨l, hl, hp⟩ := choose_list n (fun i hi => h i (by omega))
    obtain ⟨t, ht⟩ := h n (by omega)
    refine ⟨l ++ [t], by simp [hl], fun i u hu => ?_⟩
    by_cases hi : i < l.length
    · rw [List.getElem?_append_left hi] at hu
      exact hp i u hu
    · rw [List.getElem?_append_right (by omega)] at hu
      have : i - l.length = 0 := by
        rcases Nat.eq_zero_or_pos (i - l.length) with h0 | h0
        · exact h0
        · rw [List.getElem?_eq_none (by simp; omega)] at hu
          cases hu
      rw [this] at hu
      simp at hu
      subst hu
      have e : i = n := by omega
      subst e
      exact ht
theorem mem_weightsAll {H : Type} {P : Program} {e : TypeId} {n : Nat} : ∀ {l : List (DataW H)} {d : DataW H}, d ∈ l → n ∈ d.weights P e → n ∈ DataW.weightsAll P e l
  | d0 :: l, d, hd, hn => by
    simp only [DataW.weightsAll, List.mem_append]
    rcases List.mem_cons.1 hd with rfl | hd
    · exact .inl hn
    · exact .inr (mem_weightsAll hd hn)
theorem add_add (a : Addr) (i j : Nat) : (a.add i).add j = a.add (i + j) := by
  unfold Addr.add
  by_cases h1 : i = 0 <;> by_cases h2 : j = 0 <;> simp [h1, h2, Nat.add_assoc]
theorem list3 {α : Type} : ∀ {l : List α}, l.length = 3 → ∃ a b c, l = [a, b, c]
  | [a, b, c], _ => ⟨a, b, c, rfl⟩
section
variable {H : Type} {enc : TypeId × Value → H} {W : World} {base : Nat} {spare : Nat → Bool} {held : Bool}
/-- A list of nodes, its elements being read as trees. -/
theorem open_list_of (fuel : Nat) (I : ∀ m, m < fuel → ∀ (cs : List Value) (x : DataW H × List MemPlace), DataW.trod enc Tryd.prog W base spare held m 24 cs = some x → (∀ n ∈ x.1.weights Tryd.prog 24, n ≤ reachBytes) → ∃ t : S24, k24.K W t cs ∧ Fits t)
    (cs : List Value) (x : DataW H × List MemPlace) (h : DataW.trod enc Tryd.prog W base spare held fuel 22 cs = some x) (hz : ∀ n ∈ x.1.weights Tryd.prog 22, n ≤ reachBytes) :
    ∃ (A : Option Addr) (c : Nat) (ts : List S24), cs = [.slice A ts.length c] ∧ ts.length ≤ c ∧ Kd.C k24 W A ts.length ts ∧ ts.length * 56 ≤ 140737488351232 ∧ ∀ (j : Nat) (t : S24), ts[j]? = some t → Fits t := by
  rcases DataW.trod_slice Tryd.underlying22 h with ⟨rfl, rfl⟩ | ⟨a, len, cap, elems, rest, n, rfl, rfl, rfl, hb, hlc, hcm, hel, hat, _, _⟩
  · exact ⟨none, 0, [], rfl, Nat.le_refl _, Kd.C_nil _ _, by simp, fun j t hj => by simp at hj⟩
  · have hw : ∀ n ∈ (elems.length + rest.length) * Tryd.prog.bytesOf 24 :: (DataW.weightsAll Tryd.prog 24 (elems.map (·.1)) ++ DataW.weightsAll Tryd.prog 24 (rest.map (·.1))), n ≤ reachBytes := by
      intro m hm
      refine hz m ?_
      simp only [DataW.weights, Tryd.underlying22]
      simpa using hm
    have hlen : len * 56 ≤ 140737488351232 := by
      have h1 := hw _ (List.mem_cons_self)
      rw [bytes24] at h1
      have h2 : reachBytes = 140737488351232 := rfl
      rw [h2] at h1
      have h3 : len * 56 ≤ (elems.length + rest.length) * 56 := Nat.mul_le_mul_right _ (by omega)
      omega
    have hone : ∀ i, i < len → ∃ t : S24, (∃ c : List Value, c.length = 3 ∧ k24.K W t c ∧ ∀ j u, c[j]? = some u → W.cell? (a.add (i * 3 + j)) = some u) ∧ Fits t := by
      intro i hi
      have h1 := hat i hi
      rw [cells24] at h1
      obtain ⟨y, hy⟩ : ∃ y, elems[i]? = some y := ⟨_, List.getElem?_eq_getElem (by omega)⟩
      rw [hy] at h1
      obtain ⟨c, hc1, hc2⟩ := Option.bind_eq_some_iff.1 h1
      obtain ⟨_, hcl, hcell⟩ := World.cells?_some hc1
      obtain ⟨t, ht, hft⟩ := I n (by omega) c y hc2 (fun m hm => hw m (List.mem_cons_of_mem _ (List.mem_append_left _ (mem_weightsAll (List.mem_map.2 ⟨y, List.mem_of_getElem? hy, rfl⟩) hm))))
      refine ⟨t, ⟨c, hcl, ht, fun j u hu => ?_⟩, hft⟩
      have hj : j < 3 := by have := (List.getElem?_eq_some_iff.1 hu).1; omega
      have h2 := hcell j hj
      rw [add_add, hu] at h2
      exact h2
    obtain ⟨ts, hts, hp⟩ := choose_list len hone
    refine ⟨some a, cap, ts, by rw [hts], by omega, ⟨rfl, by unfold maxLen at hcm; omega, fun _ => ⟨a, rfl, fun j t hj => (hp j t hj).1⟩⟩, by rw [hts]; exact hlen, fun j t hj => (hp j t hj).2⟩
theorem open_node : ∀ (fuel : Nat) (cs : List Value) (x : DataW H × List MemPlace), DataW.trod enc Tryd.prog W base spare held fuel 24 cs = some x → (∀ n ∈ x.1.weights Tryd.prog 24, n ≤ reachBytes) → ∃ t : S24, k24.K W t cs ∧ Fits t := by
  intro fuel
  induction fuel using Nat.strongRecOn with
  | _ fuel ih =>
    intro cs x h hz
    obtain ⟨xs, n, rfl, rfl, hcl, hxl, hf⟩ := DataW.trod_struct Tryd.underlying24 h
    rw [cells24] at hcl
    obtain ⟨c0, c1, c2, rfl⟩ := list3 hcl
    obtain ⟨x0, x1, x2, rfl⟩ := list3 (show xs.length = 3 from hxl)
    clear hcl hxl
    have f0 : DataW.trod enc Tryd.prog W base spare held n 9 [c0] = some x0 := by
      have h0 : DataW.trod enc Tryd.prog W base spare held n 9 (([c0, c1, c2].drop 0).take (Tryd.prog.cellsOf 9)) = some x0 := hf 0 _ rfl
      rw [cells9] at h0
      exact h0
    have f1 : DataW.trod enc Tryd.prog W base spare held n 9 [c1] = some x1 := by
      have h0 : DataW.trod enc Tryd.prog W base spare held n 9 (([c0, c1, c2].drop 1).take (Tryd.prog.cellsOf 9)) = some x1 := hf 1 _ rfl
      rw [cells9] at h0
      exact h0
    have f2 : DataW.trod enc Tryd.prog W base spare held n 22 [c2] = some x2 := by
      have h0 : DataW.trod enc Tryd.prog W base spare held n 22 (([c0, c1, c2].drop 2).take (Tryd.prog.cellsOf 22)) = some x2 := hf 2 _ rfl
      rw [cells22] at h0
      exact h0
    clear hf h
    obtain ⟨s0, e0, hx0, _⟩ := DataW.trod_string Tryd.underlying9 f0
    obtain ⟨s1, e1, hx1, _⟩ := DataW.trod_string Tryd.underlying9 f1
    have hw : ∀ m ∈ x0.1.weights Tryd.prog 9 ++ (x1.1.weights Tryd.prog 9 ++ (x2.1.weights Tryd.prog 22 ++ [])), m ≤ reachBytes := by
      intro m hm
      refine hz m ?_
      simp only [DataW.weights, Tryd.underlying24]
      simpa [DataW.weightsEach] using hm
    obtain ⟨A, c, ts, e2, hlc, hC, hl, hfs⟩ := open_list_of n (fun m hm => ih m (by omega)) _ x2 f2 (fun m hm => hw m (by simp [hm]))
    simp at e0 e1 e2
    subst e0; subst e1; subst e2
    have w0 := hw s0.data.toList.length (by rw [hx0]; simp [DataW.weights])
    have w1 := hw s1.data.toList.length (by rw [hx1]; simp [DataW.weights])
    have h2 : reachBytes = 140737488351232 := rfl
    rw [h2, Array.length_toList] at w0 w1
    exact ⟨⟨s0, s1, ts⟩, k24_mk W ⟨s0, s1, ts⟩ hlc hC, .mk _ w0 w1 hl hfs⟩
theorem open_list (fuel : Nat) (cs : List Value) (x : DataW H × List MemPlace) (h : DataW.trod enc Tryd.prog W base spare held fuel 22 cs = some x) (hz : ∀ n ∈ x.1.weights Tryd.prog 22, n ≤ reachBytes) :
    ∃ (A : Option Addr) (c : Nat) (ts : List S24), cs = [.slice A ts.length c] ∧ ts.length ≤ c ∧ Kd.C k24 W A ts.length ts ∧ ts.length * 56 ≤ 140737488351232 ∧ ∀ (j : Nat) (t : S24), ts[j]? = some t → Fits t :=
  open_list_of fuel (fun m _ => open_node m) cs x h hz
end
end Go.Proofs.YtjkhfdekmpaoiaaDoor
