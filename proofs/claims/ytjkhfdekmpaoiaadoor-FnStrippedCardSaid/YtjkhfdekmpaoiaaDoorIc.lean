/- The walk of IsMade, a theorem for each kind of node (operations): true is told only of the trees of expressions that made makes. -/
import Derived.Test.YtjkhfdekmpaoiaaDoorKa
import Derived.Test.YtjkhfdekmpaoiaaDoorPa
import Derived.Test.YtjkhfdekmpaoiaaDoorIa
namespace Go.Proofs.YtjkhfdekmpaoiaaDoor
open Go.RowKit Go.Proofs.YtjkhfdekmpaoiaaDoorW.PrintWords Go.Proofs.YtjkhfdekmpaoiaaDoor.Kinds
set_option linter.unusedVariables false
set_option linter.unusedSimpArgs false

set_option maxHeartbeats 2000000 in
set_option maxRecDepth 100000 in
theorem isM_unary (s : ByteArray) (ts : List S24) (I : ∀ (j : Nat) (x : S24), ts[j]? = some x → IsC x) (hs : s.size ≤ 140737488351232) : IsC ⟨(⟨#[117, 110, 97, 114, 121]⟩ : ByteArray), s, ts⟩ := by
  have HI := Aside0.mk I
  intro w A c hC hc
  have HC := Aside0.mk hC
  have HN := Aside0.mk (Kd.C_max hC)
  have hlen : ts.length ≤ 9223372036854775807 := Kd.C_max hC
  clear I hC
  obtain ⟨kk, r, ho, hq⟩ := isOneOf_tells s unaryList hs (by decide) unary_ok
  have HO := Aside0.mk (show spec_isOneOf.f kk s (⟨#[43, 32, 45, 32, 33, 32, 94, 32, 42, 32, 38, 32, 60, 45, 32, 126]⟩ : ByteArray) = some r from ho)
  have HQ := Aside0.mk hq
  clear ho hq hs
  cases r with
  | false =>
    go_enter Tryd.func6, Tryd.ntmps6
    go_wp2_with (first | (go_at_call 12; (with_reducible refine (spec_isOneOf.calls kk s (⟨#[43, 32, 45, 32, 33, 32, 94, 32, 42, 32, 38, 32, 60, 45, 32, 126]⟩ : ByteArray) false _ HO.out).mono ?_); rintro e w' ⟨rfl, ⟨nd, rfl⟩⟩))
    go_ret
    exact isPost false rfl (by simp) (pw_below_drewN (below_alloc (Below.refl _ _) _) _)
  | true =>
    go_enter Tryd.func6, Tryd.ntmps6
    go_wp2_with (first | (go_at_call 12; (with_reducible refine (spec_isOneOf.calls kk s (⟨#[43, 32, 45, 32, 33, 32, 94, 32, 42, 32, 38, 32, 60, 45, 32, 126]⟩ : ByteArray) true _ HO.out).mono ?_); rintro e w' ⟨rfl, ⟨nd, rfl⟩⟩) | (go_at_call 11; (with_reducible refine (kids_1_fff ⟨(⟨#[117, 110, 97, 114, 121]⟩ : ByteArray), s, ts⟩ HI.out HN.out _ A c (Kd.C_drewN (Kd.C_alloc HC.out _) _) hc).mono ?_); rintro e w1 ⟨b, rfl, hk, hb⟩; have HK := Aside0.mk hk; have HB := Aside0.mk (below_step (pw_below_drewN (below_alloc (Below.refl _ _) _) _) hb); clear hk hb))
    go_ret
    refine isPost b rfl (fun hb => ?_) HB.out
    obtain ⟨q, hq1, hq2, rfl⟩ := HQ.out (by simp)
    obtain ⟨x, rfl, gx⟩ := kidsOk1 (HK.out hb)
    exact ⟨.unary q ⟨hq1, hq2⟩ x gx, (show (⟨#[117, 110, 97, 114, 121]⟩ : ByteArray) ≠ ⟨#[]⟩ by decide)⟩

set_option maxHeartbeats 2000000 in
set_option maxRecDepth 100000 in
theorem isM_binary (s : ByteArray) (ts : List S24) (I : ∀ (j : Nat) (x : S24), ts[j]? = some x → IsC x) (hs : s.size ≤ 140737488351232) : IsC ⟨(⟨#[98, 105, 110, 97, 114, 121]⟩ : ByteArray), s, ts⟩ := by
  have HI := Aside0.mk I
  intro w A c hC hc
  have HC := Aside0.mk hC
  have HN := Aside0.mk (Kd.C_max hC)
  have hlen : ts.length ≤ 9223372036854775807 := Kd.C_max hC
  clear I hC
  obtain ⟨kk, r, ho, hq⟩ := isOneOf_tells s binaryList hs (by decide) binary_ok
  have HO := Aside0.mk (show spec_isOneOf.f kk s (⟨#[124, 124, 32, 38, 38, 32, 61, 61, 32, 33, 61, 32, 60, 32, 60, 61, 32, 62, 32, 62, 61, 32, 43, 32, 45, 32, 124, 32, 94, 32, 42, 32, 47, 32, 37, 32, 38, 32, 38, 94, 32, 60, 60, 32, 62, 62]⟩ : ByteArray) = some r from ho)
  have HQ := Aside0.mk hq
  clear ho hq hs
  cases r with
  | false =>
    go_enter Tryd.func6, Tryd.ntmps6
    go_wp2_with (first | (go_at_call 12; (with_reducible refine (spec_isOneOf.calls kk s (⟨#[124, 124, 32, 38, 38, 32, 61, 61, 32, 33, 61, 32, 60, 32, 60, 61, 32, 62, 32, 62, 61, 32, 43, 32, 45, 32, 124, 32, 94, 32, 42, 32, 47, 32, 37, 32, 38, 32, 38, 94, 32, 60, 60, 32, 62, 62]⟩ : ByteArray) false _ HO.out).mono ?_); rintro e w' ⟨rfl, ⟨nd, rfl⟩⟩))
    go_ret
    exact isPost false rfl (by simp) (pw_below_drewN (below_alloc (Below.refl _ _) _) _)
  | true =>
    go_enter Tryd.func6, Tryd.ntmps6
    go_wp2_with (first | (go_at_call 12; (with_reducible refine (spec_isOneOf.calls kk s (⟨#[124, 124, 32, 38, 38, 32, 61, 61, 32, 33, 61, 32, 60, 32, 60, 61, 32, 62, 32, 62, 61, 32, 43, 32, 45, 32, 124, 32, 94, 32, 42, 32, 47, 32, 37, 32, 38, 32, 38, 94, 32, 60, 60, 32, 62, 62]⟩ : ByteArray) true _ HO.out).mono ?_); rintro e w' ⟨rfl, ⟨nd, rfl⟩⟩) | (go_at_call 11; (with_reducible refine (kids_2_fff ⟨(⟨#[98, 105, 110, 97, 114, 121]⟩ : ByteArray), s, ts⟩ HI.out HN.out _ A c (Kd.C_drewN (Kd.C_alloc HC.out _) _) hc).mono ?_); rintro e w1 ⟨b, rfl, hk, hb⟩; have HK := Aside0.mk hk; have HB := Aside0.mk (below_step (pw_below_drewN (below_alloc (Below.refl _ _) _) _) hb); clear hk hb))
    go_ret
    refine isPost b rfl (fun hb => ?_) HB.out
    obtain ⟨q, hq1, hq2, rfl⟩ := HQ.out (by simp)
    obtain ⟨x, y, rfl, gx, gy, hy⟩ := kidsOk2 (HK.out hb)
    exact ⟨.binary q ⟨hq1, hq2⟩ x y gx gy hy, (show (⟨#[98, 105, 110, 97, 114, 121]⟩ : ByteArray) ≠ ⟨#[]⟩ by decide)⟩

end Go.Proofs.YtjkhfdekmpaoiaaDoor
