/- The walk of IsMade, a theorem for each kind of node (names and literals): true is told only of the trees of expressions that made makes. -/
import Derived.Test.YtjkhfdekmpaoiaaDoorKa
import Derived.Test.YtjkhfdekmpaoiaaDoorPa
namespace Go.Proofs.YtjkhfdekmpaoiaaDoor
open Go.RowKit Go.Proofs.YtjkhfdekmpaoiaaDoorW.PrintWords Go.Proofs.YtjkhfdekmpaoiaaDoor.Kinds
set_option linter.unusedVariables false
set_option linter.unusedSimpArgs false

theorem kidsOk1 {ts : List S24} (h : KidsOk ts 1 false false false) : ∃ x, ts = [x] ∧ Good x := by
  obtain ⟨_, h2, h3⟩ := h
  match ts, h2 rfl with
  | [x], _ => exact ⟨x, rfl, (h3 0 x rfl).1⟩
theorem kidsOk2 {ts : List S24} {f : Bool} (h : KidsOk ts 2 false f false) : ∃ x y, ts = [x, y] ∧ Good x ∧ Good y ∧ y.f0 ≠ ⟨#[]⟩ := by
  obtain ⟨_, h2, h3⟩ := h
  match ts, h2 rfl with
  | [x, y], _ =>
    refine ⟨x, y, rfl, (h3 0 x rfl).1, (h3 1 y rfl).1, fun e => ?_⟩
    rcases (h3 1 y rfl).2 e with ⟨_, h4⟩ | ⟨h4, _⟩
    · omega
    · simp at h4
theorem kidsOk4 {ts : List S24} (h : KidsOk ts 4 false false true) : ∃ x0 x1 x2 x3, ts = [x0, x1, x2, x3] ∧ Good x0 ∧ Good x1 ∧ Good x2 ∧ Good x3 := by
  obtain ⟨_, h2, h3⟩ := h
  match ts, h2 rfl with
  | [x0, x1, x2, x3], _ => exact ⟨x0, x1, x2, x3, rfl, (h3 0 x0 rfl).1, (h3 1 x1 rfl).1, (h3 2 x2 rfl).1, (h3 3 x3 rfl).1⟩
theorem kidsOkM {ts : List S24} {f : Bool} (h : KidsOk ts 1 true f false) : ∃ x r, ts = x :: r ∧ Good x ∧ ∀ (j : Nat) (y : S24), r[j]? = some y → Good y := by
  obtain ⟨h1, _, h3⟩ := h
  match ts, h1 with
  | x :: r, _ => exact ⟨x, r, rfl, (h3 0 x rfl).1, fun j y hy => (h3 (j + 1) y (by simpa using hy)).1⟩

set_option maxHeartbeats 2000000 in
set_option maxRecDepth 100000 in
theorem isM_name (s : ByteArray) (ts : List S24) (I : ∀ (j : Nat) (x : S24), ts[j]? = some x → IsC x) : IsC ⟨(⟨#[110, 97, 109, 101]⟩ : ByteArray), s, ts⟩ := by
  have HI := Aside0.mk I
  intro w A c hC hc
  have HC := Aside0.mk hC
  have HN := Aside0.mk (Kd.C_max hC)
  have hlen : ts.length ≤ 9223372036854775807 := Kd.C_max hC
  clear I hC
  by_cases q1 : s.toList = ([] : List UInt8)
  · obtain rfl : s = (⟨#[]⟩ : ByteArray) := ext_list (by rw [q1, toList_data])
    clear q1
    go_enter Tryd.func6, Tryd.ntmps6
    go_wp2_with fail
    go_ret
    exact isPost false rfl (by simp) (below_alloc (Below.refl _ _) _)
  · have r1 : (s.toList == ([] : List UInt8)) = false := beq_eq_false_iff_ne.mpr q1
    have u1 : (s.toList != ([] : List UInt8)) = true := bne_iff_ne.mpr q1
    by_cases hz : ts.length = 0
    · obtain rfl := List.eq_nil_of_length_eq_zero hz
      go_enter Tryd.func6, Tryd.ntmps6
      go_wp2_with fail
      go_ret
      exact isPost true rfl (fun _ => ⟨.name s, (show (⟨#[110, 97, 109, 101]⟩ : ByteArray) ≠ ⟨#[]⟩ by decide)⟩) (below_alloc (Below.refl _ _) _)
    · have z0 : ((ts.length : Int) == 0) = false := beq_eq_false_iff_ne.mpr (by omega)
      have z1 : (ts.length == 0) = false := beq_eq_false_iff_ne.mpr hz
      clear hz
      go_enter Tryd.func6, Tryd.ntmps6
      go_wp2_with fail
      go_ret
      exact isPost false rfl (by simp) (below_alloc (Below.refl _ _) _)

set_option maxHeartbeats 2000000 in
set_option maxRecDepth 100000 in
theorem isM_int (s : ByteArray) (ts : List S24) (I : ∀ (j : Nat) (x : S24), ts[j]? = some x → IsC x) : IsC ⟨(⟨#[105, 110, 116]⟩ : ByteArray), s, ts⟩ := by
  have HI := Aside0.mk I
  intro w A c hC hc
  have HC := Aside0.mk hC
  have HN := Aside0.mk (Kd.C_max hC)
  have hlen : ts.length ≤ 9223372036854775807 := Kd.C_max hC
  clear I hC
  by_cases q1 : s.toList = ([] : List UInt8)
  · obtain rfl : s = (⟨#[]⟩ : ByteArray) := ext_list (by rw [q1, toList_data])
    clear q1
    go_enter Tryd.func6, Tryd.ntmps6
    go_wp2_with fail
    go_ret
    exact isPost false rfl (by simp) (below_alloc (Below.refl _ _) _)
  · have r1 : (s.toList == ([] : List UInt8)) = false := beq_eq_false_iff_ne.mpr q1
    have u1 : (s.toList != ([] : List UInt8)) = true := bne_iff_ne.mpr q1
    by_cases hz : ts.length = 0
    · obtain rfl := List.eq_nil_of_length_eq_zero hz
      go_enter Tryd.func6, Tryd.ntmps6
      go_wp2_with fail
      go_ret
      exact isPost true rfl (fun _ => ⟨.lit (⟨#[105, 110, 116]⟩ : ByteArray) 0 (by simp [lits]) s, (show (⟨#[105, 110, 116]⟩ : ByteArray) ≠ ⟨#[]⟩ by decide)⟩) (below_alloc (Below.refl _ _) _)
    · have z0 : ((ts.length : Int) == 0) = false := beq_eq_false_iff_ne.mpr (by omega)
      have z1 : (ts.length == 0) = false := beq_eq_false_iff_ne.mpr hz
      clear hz
      go_enter Tryd.func6, Tryd.ntmps6
      go_wp2_with fail
      go_ret
      exact isPost false rfl (by simp) (below_alloc (Below.refl _ _) _)

set_option maxHeartbeats 2000000 in
set_option maxRecDepth 100000 in
theorem isM_float (s : ByteArray) (ts : List S24) (I : ∀ (j : Nat) (x : S24), ts[j]? = some x → IsC x) : IsC ⟨(⟨#[102, 108, 111, 97, 116]⟩ : ByteArray), s, ts⟩ := by
  have HI := Aside0.mk I
  intro w A c hC hc
  have HC := Aside0.mk hC
  have HN := Aside0.mk (Kd.C_max hC)
  have hlen : ts.length ≤ 9223372036854775807 := Kd.C_max hC
  clear I hC
  by_cases q1 : s.toList = ([] : List UInt8)
  · obtain rfl : s = (⟨#[]⟩ : ByteArray) := ext_list (by rw [q1, toList_data])
    clear q1
    go_enter Tryd.func6, Tryd.ntmps6
    go_wp2_with fail
    go_ret
    exact isPost false rfl (by simp) (below_alloc (Below.refl _ _) _)
  · have r1 : (s.toList == ([] : List UInt8)) = false := beq_eq_false_iff_ne.mpr q1
    have u1 : (s.toList != ([] : List UInt8)) = true := bne_iff_ne.mpr q1
    by_cases hz : ts.length = 0
    · obtain rfl := List.eq_nil_of_length_eq_zero hz
      go_enter Tryd.func6, Tryd.ntmps6
      go_wp2_with fail
      go_ret
      exact isPost true rfl (fun _ => ⟨.lit (⟨#[102, 108, 111, 97, 116]⟩ : ByteArray) 1 (by simp [lits]) s, (show (⟨#[102, 108, 111, 97, 116]⟩ : ByteArray) ≠ ⟨#[]⟩ by decide)⟩) (below_alloc (Below.refl _ _) _)
    · have z0 : ((ts.length : Int) == 0) = false := beq_eq_false_iff_ne.mpr (by omega)
      have z1 : (ts.length == 0) = false := beq_eq_false_iff_ne.mpr hz
      clear hz
      go_enter Tryd.func6, Tryd.ntmps6
      go_wp2_with fail
      go_ret
      exact isPost false rfl (by simp) (below_alloc (Below.refl _ _) _)

set_option maxHeartbeats 2000000 in
set_option maxRecDepth 100000 in
theorem isM_imag (s : ByteArray) (ts : List S24) (I : ∀ (j : Nat) (x : S24), ts[j]? = some x → IsC x) : IsC ⟨(⟨#[105, 109, 97, 103]⟩ : ByteArray), s, ts⟩ := by
  have HI := Aside0.mk I
  intro w A c hC hc
  have HC := Aside0.mk hC
  have HN := Aside0.mk (Kd.C_max hC)
  have hlen : ts.length ≤ 9223372036854775807 := Kd.C_max hC
  clear I hC
  by_cases q1 : s.toList = ([] : List UInt8)
  · obtain rfl : s = (⟨#[]⟩ : ByteArray) := ext_list (by rw [q1, toList_data])
    clear q1
    go_enter Tryd.func6, Tryd.ntmps6
    go_wp2_with fail
    go_ret
    exact isPost false rfl (by simp) (below_alloc (Below.refl _ _) _)
  · have r1 : (s.toList == ([] : List UInt8)) = false := beq_eq_false_iff_ne.mpr q1
    have u1 : (s.toList != ([] : List UInt8)) = true := bne_iff_ne.mpr q1
    by_cases hz : ts.length = 0
    · obtain rfl := List.eq_nil_of_length_eq_zero hz
      go_enter Tryd.func6, Tryd.ntmps6
      go_wp2_with fail
      go_ret
      exact isPost true rfl (fun _ => ⟨.lit (⟨#[105, 109, 97, 103]⟩ : ByteArray) 2 (by simp [lits]) s, (show (⟨#[105, 109, 97, 103]⟩ : ByteArray) ≠ ⟨#[]⟩ by decide)⟩) (below_alloc (Below.refl _ _) _)
    · have z0 : ((ts.length : Int) == 0) = false := beq_eq_false_iff_ne.mpr (by omega)
      have z1 : (ts.length == 0) = false := beq_eq_false_iff_ne.mpr hz
      clear hz
      go_enter Tryd.func6, Tryd.ntmps6
      go_wp2_with fail
      go_ret
      exact isPost false rfl (by simp) (below_alloc (Below.refl _ _) _)

set_option maxHeartbeats 2000000 in
set_option maxRecDepth 100000 in
theorem isM_rune (s : ByteArray) (ts : List S24) (I : ∀ (j : Nat) (x : S24), ts[j]? = some x → IsC x) : IsC ⟨(⟨#[114, 117, 110, 101]⟩ : ByteArray), s, ts⟩ := by
  have HI := Aside0.mk I
  intro w A c hC hc
  have HC := Aside0.mk hC
  have HN := Aside0.mk (Kd.C_max hC)
  have hlen : ts.length ≤ 9223372036854775807 := Kd.C_max hC
  clear I hC
  by_cases q1 : s.toList = ([] : List UInt8)
  · obtain rfl : s = (⟨#[]⟩ : ByteArray) := ext_list (by rw [q1, toList_data])
    clear q1
    go_enter Tryd.func6, Tryd.ntmps6
    go_wp2_with fail
    go_ret
    exact isPost false rfl (by simp) (below_alloc (Below.refl _ _) _)
  · have r1 : (s.toList == ([] : List UInt8)) = false := beq_eq_false_iff_ne.mpr q1
    have u1 : (s.toList != ([] : List UInt8)) = true := bne_iff_ne.mpr q1
    by_cases hz : ts.length = 0
    · obtain rfl := List.eq_nil_of_length_eq_zero hz
      go_enter Tryd.func6, Tryd.ntmps6
      go_wp2_with fail
      go_ret
      exact isPost true rfl (fun _ => ⟨.lit (⟨#[114, 117, 110, 101]⟩ : ByteArray) 3 (by simp [lits]) s, (show (⟨#[114, 117, 110, 101]⟩ : ByteArray) ≠ ⟨#[]⟩ by decide)⟩) (below_alloc (Below.refl _ _) _)
    · have z0 : ((ts.length : Int) == 0) = false := beq_eq_false_iff_ne.mpr (by omega)
      have z1 : (ts.length == 0) = false := beq_eq_false_iff_ne.mpr hz
      clear hz
      go_enter Tryd.func6, Tryd.ntmps6
      go_wp2_with fail
      go_ret
      exact isPost false rfl (by simp) (below_alloc (Below.refl _ _) _)

set_option maxHeartbeats 2000000 in
set_option maxRecDepth 100000 in
theorem isM_string (s : ByteArray) (ts : List S24) (I : ∀ (j : Nat) (x : S24), ts[j]? = some x → IsC x) : IsC ⟨(⟨#[115, 116, 114, 105, 110, 103]⟩ : ByteArray), s, ts⟩ := by
  have HI := Aside0.mk I
  intro w A c hC hc
  have HC := Aside0.mk hC
  have HN := Aside0.mk (Kd.C_max hC)
  have hlen : ts.length ≤ 9223372036854775807 := Kd.C_max hC
  clear I hC
  by_cases q1 : s.toList = ([] : List UInt8)
  · obtain rfl : s = (⟨#[]⟩ : ByteArray) := ext_list (by rw [q1, toList_data])
    clear q1
    go_enter Tryd.func6, Tryd.ntmps6
    go_wp2_with fail
    go_ret
    exact isPost false rfl (by simp) (below_alloc (Below.refl _ _) _)
  · have r1 : (s.toList == ([] : List UInt8)) = false := beq_eq_false_iff_ne.mpr q1
    have u1 : (s.toList != ([] : List UInt8)) = true := bne_iff_ne.mpr q1
    by_cases hz : ts.length = 0
    · obtain rfl := List.eq_nil_of_length_eq_zero hz
      go_enter Tryd.func6, Tryd.ntmps6
      go_wp2_with fail
      go_ret
      exact isPost true rfl (fun _ => ⟨.lit (⟨#[115, 116, 114, 105, 110, 103]⟩ : ByteArray) 4 (by simp [lits]) s, (show (⟨#[115, 116, 114, 105, 110, 103]⟩ : ByteArray) ≠ ⟨#[]⟩ by decide)⟩) (below_alloc (Below.refl _ _) _)
    · have z0 : ((ts.length : Int) == 0) = false := beq_eq_false_iff_ne.mpr (by omega)
      have z1 : (ts.length == 0) = false := beq_eq_false_iff_ne.mpr hz
      clear hz
      go_enter Tryd.func6, Tryd.ntmps6
      go_wp2_with fail
      go_ret
      exact isPost false rfl (by simp) (below_alloc (Below.refl _ _) _)

end Go.Proofs.YtjkhfdekmpaoiaaDoor
