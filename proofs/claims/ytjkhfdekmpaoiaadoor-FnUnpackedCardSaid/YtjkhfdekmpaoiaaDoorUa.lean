/- The walks of Unparen and UnpackListExpr. -/
import Derived.Test.YtjkhfdekmpaoiaaDoorEt
namespace Go.Proofs.YtjkhfdekmpaoiaaDoor
open Go.RowKit Go.Proofs.YtjkhfdekmpaoiaaDoorW.PrintWords Go.Proofs.YtjkhfdekmpaoiaaDoor.Kinds
set_option linter.unusedVariables false
set_option linter.unusedSimpArgs false

/-- n pairs of parentheses are stripped off t, and y is what is left. -/
inductive Strips : Nat → S24 → S24 → Prop
  | stop (t : S24) (h : t.f0 ≠ ⟨#[112, 97, 114, 101, 110]⟩) : Strips 0 t t
  | step (n : Nat) (x y : S24) (h : Strips n x y) : Strips (n + 1) ⟨⟨#[112, 97, 114, 101, 110]⟩, ⟨#[]⟩, [x]⟩ y
theorem Strips.zero {t y : S24} (h : Strips 0 t y) : t = y ∧ t.f0 ≠ ⟨#[112, 97, 114, 101, 110]⟩ := by
  cases h with
  | stop _ h => exact ⟨rfl, h⟩
theorem Strips.succ {n : Nat} {t y : S24} (h : Strips (n + 1) t y) : ∃ x, t = ⟨⟨#[112, 97, 114, 101, 110]⟩, ⟨#[]⟩, [x]⟩ ∧ Strips n x y := by
  cases h with
  | step _ x _ h => exact ⟨x, rfl, h⟩
theorem rep_paren {w : World} {t : S24} {v : Value} (r : Rep w t v) (x : S24) (h : t = ⟨⟨#[112, 97, 114, 101, 110]⟩, ⟨#[]⟩, [x]⟩) :
    ∃ b cs v0, v = .iface 79 (.pointer (some ⟨b, 0, none⟩)) ∧ w.heap[b]? = some (.cells cs 81 (0, 0)) ∧ cs[0]? = some v0 ∧ Rep w x v0 := by
  have h0 := congrArg S24.f0 h
  cases r with
  | uno K T S hk t0 v0 b cs hb hc r0 =>
    have h2 := congrArg S24.f2 h
    simp only [List.cons.injEq, and_true] at h2
    subst h2
    simp only at h0
    simp only [ones, List.mem_cons, Prod.mk.injEq, List.not_mem_nil, or_false] at hk
    rcases hk with ⟨_, rfl, rfl⟩ | ⟨h3, _, _⟩
    · exact ⟨b, cs, v0, rfl, hb, hc, r0⟩
    · rw [h3] at h0
      exact absurd h0 (by decide)
  | lit K q hk s b cs hb hc hd =>
    simp only at h0
    simp only [lits, List.mem_cons, Prod.mk.injEq, List.not_mem_nil, or_false] at hk
    rcases hk with ⟨h1, _⟩ | ⟨h1, _⟩ | ⟨h1, _⟩ | ⟨h1, _⟩ | ⟨h1, _⟩
    all_goals
      rw [h1] at h0
      exact absurd h0 (by decide)
  | duo K T S hk t0 t1 v0 v1 b cs hb hc hd r0 r1 =>
    have h2 := congrArg S24.f2 h
    simp at h2
  | _ =>
    simp only at h0
    exact absurd h0 (by decide)
theorem rep_other {w : World} {t : S24} {v : Value} (r : Rep w t v) (h : t.f0 ≠ ⟨#[112, 97, 114, 101, 110]⟩) (W : World) : (Instr.typeAssert v 34 79 true).run Tryd.prog W = .ok (.tuple #[.pointer none, .bool false]) W := by
  cases r with
  | miss => exact ta_nil_79 W
  | name => exact ta_62_79 _ W
  | lit => exact ta_64_79 _ W
  | uno K T S hk t0 v0 b cs hb hc r0 =>
    simp only [ones, List.mem_cons, Prod.mk.injEq, List.not_mem_nil, or_false] at hk
    rcases hk with ⟨h3, rfl, rfl⟩ | ⟨h3, rfl, rfl⟩
    · exact absurd h3 h
    · exact ta_113_79 _ W
  | duo K T S hk t0 t1 v0 v1 b cs hb hc hd r0 r1 =>
    simp only [twos, List.mem_cons, Prod.mk.injEq, List.not_mem_nil, or_false] at hk
    rcases hk with ⟨_, rfl, rfl⟩ | ⟨_, rfl, rfl⟩ | ⟨_, rfl, rfl⟩ | ⟨_, rfl, rfl⟩ | ⟨_, rfl, rfl⟩
    · exact ta_69_79 _ W
    · exact ta_87_79 _ W
    · exact ta_94_79 _ W
    · exact ta_116_79 _ W
    · exact ta_119_79 _ W
  | sel => exact ta_82_79 _ W
  | slice => exact ta_90_79 _ W
  | unary => exact ta_100_79 _ W
  | binary => exact ta_100_79 _ W
  | chan => exact ta_121_79 _ W
  | comp => exact ta_66_79 _ W
  | call => exact ta_106_79 _ W
  | list => exact ta_40_79 _ W

attribute [local go_sem] ta_79_79
set_option maxHeartbeats 2000000 in
theorem unparen_any (n : Nat) (t y : S24) (hs : Strips n t y) (v : Value) (w : World) (hr : Rep w t v) :
    Calls Tryd.prog 14 #[v] w fun e w' => ∃ v', e = .returned v' ∧ Rep w y v' ∧ w = w' := by
  have HS := Aside0.mk hs
  have HR := Aside0.mk hr
  clear hs hr
  go_enter Tryd.func14, Tryd.ntmps14
  go_wp2
  go_loopg [0] n (fun kq v0 w' => ∃ t', Aside0 (Strips kq t' y) ∧ Aside0 (Rep w t' v0) ∧ w = w')
  case atStart => exact ⟨t, HS, HR, rfl⟩
  case round =>
    obtain ⟨t', HS', HR', rfl⟩ := hrel
    cases gk with
    | zero =>
      obtain ⟨rfl, hne⟩ := HS'.out.zero
      have hta := rep_other HR'.out hne
      clear hne
      go_wp2
      go_ret
      exact ⟨_, rfl, HR'.out, rfl⟩
    | succ k1 =>
      obtain ⟨x, rfl, hx⟩ := HS'.out.succ
      obtain ⟨b, cs, v0, rfl, hb, hc, r0⟩ := rep_paren HR'.out x rfl
      have j0 : w.cell? ⟨b, 0, none⟩ = some v0 := (blk_cell hb 0).trans hc
      have HX := Aside0.mk hx
      have R0 := Aside0.mk r0
      clear hb hc r0 hx
      go_wp2
      go_roundg k1
      case measure => omega
      case rel => exact ⟨x, HX, R0, rfl⟩

attribute [local go_sem] ta_40_40
set_option maxHeartbeats 2000000 in
theorem unpack_any (b : Nat) (v : Value) (w : World) (h : w.cell? ⟨b, 0, none⟩ = some v) :
    Calls Tryd.prog 17 #[.iface 40 (.pointer (some ⟨b, 0, none⟩))] w fun e w' => e = .returned v ∧ w = w' := by
  go_enter Tryd.func17, Tryd.ntmps17
  go_wp2
  go_ret
  exact ⟨rfl, rfl⟩
end Go.Proofs.YtjkhfdekmpaoiaaDoor
