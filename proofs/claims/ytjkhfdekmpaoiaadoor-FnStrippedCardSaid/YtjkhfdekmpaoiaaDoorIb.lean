/- The walk of IsMade, a theorem for each kind of node (selectors, calls, slices, types of channels): true is told only of the trees of expressions that made makes. -/
import Derived.Test.YtjkhfdekmpaoiaaDoorKa
import Derived.Test.YtjkhfdekmpaoiaaDoorPa
import Derived.Test.YtjkhfdekmpaoiaaDoorIa
namespace Go.Proofs.YtjkhfdekmpaoiaaDoor
open Go.RowKit Go.Proofs.YtjkhfdekmpaoiaaDoorW.PrintWords Go.Proofs.YtjkhfdekmpaoiaaDoor.Kinds
set_option linter.unusedVariables false
set_option linter.unusedSimpArgs false

set_option maxHeartbeats 2000000 in
set_option maxRecDepth 100000 in
theorem isM_selector (s : ByteArray) (ts : List S24) (I : ∀ (j : Nat) (x : S24), ts[j]? = some x → IsC x) : IsC ⟨(⟨#[115, 101, 108, 101, 99, 116, 111, 114]⟩ : ByteArray), s, ts⟩ := by
  have HI := Aside0.mk I
  intro w A c hC hc
  have HC := Aside0.mk hC
  have HN := Aside0.mk (Kd.C_max hC)
  have hlen : ts.length ≤ 9223372036854775807 := Kd.C_max hC
  clear I hC
  by_cases q1 : s.toList = ([] : List UInt8)
  · obtain rfl : s = (⟨#[]⟩ : ByteArray) := ext_list (by rw [q1, toList_data])
    clear q1
    go_enter Tryd.func6, Tryd.ntmps6
    go_wp2_with fail
    go_ret
    exact isPost false rfl (by simp) (below_alloc (Below.refl _ _) _)
  · have r1 : (s.toList == ([] : List UInt8)) = false := beq_eq_false_iff_ne.mpr q1
    have u1 : (s.toList != ([] : List UInt8)) = true := bne_iff_ne.mpr q1
    go_enter Tryd.func6, Tryd.ntmps6
    go_wp2_with (first | (go_at_call 11; (with_reducible refine (kids_1_fff ⟨(⟨#[115, 101, 108, 101, 99, 116, 111, 114]⟩ : ByteArray), s, ts⟩ HI.out HN.out _ A c (Kd.C_alloc HC.out _) hc).mono ?_); rintro e w1 ⟨b, rfl, hk, hb⟩; have HK := Aside0.mk hk; have HB := Aside0.mk (below_step (below_alloc (Below.refl _ _) _) hb); clear hk hb))
    go_ret
    refine isPost b rfl (fun hb => ?_) HB.out
    obtain ⟨x, rfl, gx⟩ := kidsOk1 (HK.out hb)
    exact ⟨.sel s x gx, (show (⟨#[115, 101, 108, 101, 99, 116, 111, 114]⟩ : ByteArray) ≠ ⟨#[]⟩ by decide)⟩

set_option maxHeartbeats 2000000 in
set_option maxRecDepth 100000 in
theorem isM_call (s : ByteArray) (ts : List S24) (I : ∀ (j : Nat) (x : S24), ts[j]? = some x → IsC x) : IsC ⟨(⟨#[99, 97, 108, 108]⟩ : ByteArray), s, ts⟩ := by
  have HI := Aside0.mk I
  intro w A c hC hc
  have HC := Aside0.mk hC
  have HN := Aside0.mk (Kd.C_max hC)
  have hlen : ts.length ≤ 9223372036854775807 := Kd.C_max hC
  clear I hC
  by_cases q1 : s.toList = ([] : List UInt8)
  · obtain rfl : s = (⟨#[]⟩ : ByteArray) := ext_list (by rw [q1, toList_data])
    clear q1
    go_enter Tryd.func6, Tryd.ntmps6
    go_wp2_with (first | (go_at_call 11; (with_reducible refine (kids_1_tff ⟨(⟨#[99, 97, 108, 108]⟩ : ByteArray), (⟨#[]⟩ : ByteArray), ts⟩ HI.out HN.out _ A c (Kd.C_alloc HC.out _) hc).mono ?_); rintro e w1 ⟨b, rfl, hk, hb⟩; have HK := Aside0.mk hk; have HB := Aside0.mk (below_step (below_alloc (Below.refl _ _) _) hb); clear hk hb))
    go_ret
    refine isPost b rfl (fun hb => ?_) HB.out
    obtain ⟨x, r, rfl, gx, gr⟩ := kidsOkM (HK.out hb)
    exact ⟨.call false x r gx gr, (show (⟨#[99, 97, 108, 108]⟩ : ByteArray) ≠ ⟨#[]⟩ by decide)⟩
  · have r1 : (s.toList == ([] : List UInt8)) = false := beq_eq_false_iff_ne.mpr q1
    have u1 : (s.toList != ([] : List UInt8)) = true := bne_iff_ne.mpr q1
    by_cases q2 : s.toList = ([46, 46, 46] : List UInt8)
    · obtain rfl : s = (⟨#[46, 46, 46]⟩ : ByteArray) := ext_list (by rw [q2, toList_data])
      clear q2
      go_enter Tryd.func6, Tryd.ntmps6
      go_wp2_with (first | (go_at_call 11; (with_reducible refine (kids_1_tff ⟨(⟨#[99, 97, 108, 108]⟩ : ByteArray), (⟨#[46, 46, 46]⟩ : ByteArray), ts⟩ HI.out HN.out _ A c (Kd.C_alloc HC.out _) hc).mono ?_); rintro e w1 ⟨b, rfl, hk, hb⟩; have HK := Aside0.mk hk; have HB := Aside0.mk (below_step (below_alloc (Below.refl _ _) _) hb); clear hk hb))
      go_ret
      refine isPost b rfl (fun hb => ?_) HB.out
      obtain ⟨x, r, rfl, gx, gr⟩ := kidsOkM (HK.out hb)
      exact ⟨.call true x r gx gr, (show (⟨#[99, 97, 108, 108]⟩ : ByteArray) ≠ ⟨#[]⟩ by decide)⟩
    · have r2 : (s.toList == ([46, 46, 46] : List UInt8)) = false := beq_eq_false_iff_ne.mpr q2
      have u2 : (s.toList != ([46, 46, 46] : List UInt8)) = true := bne_iff_ne.mpr q2
      go_enter Tryd.func6, Tryd.ntmps6
      go_wp2_with fail
      go_ret
      exact isPost false rfl (by simp) (below_alloc (Below.refl _ _) _)

set_option maxHeartbeats 2000000 in
set_option maxRecDepth 100000 in
theorem isM_slice (s : ByteArray) (ts : List S24) (I : ∀ (j : Nat) (x : S24), ts[j]? = some x → IsC x) : IsC ⟨(⟨#[115, 108, 105, 99, 101]⟩ : ByteArray), s, ts⟩ := by
  have HI := Aside0.mk I
  intro w A c hC hc
  have HC := Aside0.mk hC
  have HN := Aside0.mk (Kd.C_max hC)
  have hlen : ts.length ≤ 9223372036854775807 := Kd.C_max hC
  clear I hC
  by_cases q1 : s.toList = ([] : List UInt8)
  · obtain rfl : s = (⟨#[]⟩ : ByteArray) := ext_list (by rw [q1, toList_data])
    clear q1
    go_enter Tryd.func6, Tryd.ntmps6
    go_wp2_with (first | (go_at_call 11; (with_reducible refine (kids_4_fft ⟨(⟨#[115, 108, 105, 99, 101]⟩ : ByteArray), (⟨#[]⟩ : ByteArray), ts⟩ HI.out HN.out _ A c (Kd.C_alloc HC.out _) hc).mono ?_); rintro e w1 ⟨b, rfl, hk, hb⟩; have HK := Aside0.mk hk; have HB := Aside0.mk (below_step (below_alloc (Below.refl _ _) _) hb); clear hk hb))
    go_ret
    refine isPost b rfl (fun hb => ?_) HB.out
    obtain ⟨x0, x1, x2, x3, rfl, gx0, gx1, gx2, gx3⟩ := kidsOk4 (HK.out hb)
    exact ⟨.slice false x0 x1 x2 x3 gx0 gx1 gx2 gx3, (show (⟨#[115, 108, 105, 99, 101]⟩ : ByteArray) ≠ ⟨#[]⟩ by decide)⟩
  · have r1 : (s.toList == ([] : List UInt8)) = false := beq_eq_false_iff_ne.mpr q1
    have u1 : (s.toList != ([] : List UInt8)) = true := bne_iff_ne.mpr q1
    by_cases q2 : s.toList = ([102, 117, 108, 108] : List UInt8)
    · obtain rfl : s = (⟨#[102, 117, 108, 108]⟩ : ByteArray) := ext_list (by rw [q2, toList_data])
      clear q2
      go_enter Tryd.func6, Tryd.ntmps6
      go_wp2_with (first | (go_at_call 11; (with_reducible refine (kids_4_fft ⟨(⟨#[115, 108, 105, 99, 101]⟩ : ByteArray), (⟨#[102, 117, 108, 108]⟩ : ByteArray), ts⟩ HI.out HN.out _ A c (Kd.C_alloc HC.out _) hc).mono ?_); rintro e w1 ⟨b, rfl, hk, hb⟩; have HK := Aside0.mk hk; have HB := Aside0.mk (below_step (below_alloc (Below.refl _ _) _) hb); clear hk hb))
      go_ret
      refine isPost b rfl (fun hb => ?_) HB.out
      obtain ⟨x0, x1, x2, x3, rfl, gx0, gx1, gx2, gx3⟩ := kidsOk4 (HK.out hb)
      exact ⟨.slice true x0 x1 x2 x3 gx0 gx1 gx2 gx3, (show (⟨#[115, 108, 105, 99, 101]⟩ : ByteArray) ≠ ⟨#[]⟩ by decide)⟩
    · have r2 : (s.toList == ([102, 117, 108, 108] : List UInt8)) = false := beq_eq_false_iff_ne.mpr q2
      have u2 : (s.toList != ([102, 117, 108, 108] : List UInt8)) = true := bne_iff_ne.mpr q2
      go_enter Tryd.func6, Tryd.ntmps6
      go_wp2_with fail
      go_ret
      exact isPost false rfl (by simp) (below_alloc (Below.refl _ _) _)

set_option maxHeartbeats 2000000 in
set_option maxRecDepth 100000 in
theorem isM_chantype (s : ByteArray) (ts : List S24) (I : ∀ (j : Nat) (x : S24), ts[j]? = some x → IsC x) : IsC ⟨(⟨#[99, 104, 97, 110, 116, 121, 112, 101]⟩ : ByteArray), s, ts⟩ := by
  have HI := Aside0.mk I
  intro w A c hC hc
  have HC := Aside0.mk hC
  have HN := Aside0.mk (Kd.C_max hC)
  have hlen : ts.length ≤ 9223372036854775807 := Kd.C_max hC
  clear I hC
  by_cases q1 : s.toList = ([] : List UInt8)
  · obtain rfl : s = (⟨#[]⟩ : ByteArray) := ext_list (by rw [q1, toList_data])
    clear q1
    go_enter Tryd.func6, Tryd.ntmps6
    go_wp2_with (first | (go_at_call 11; (with_reducible refine (kids_1_fff ⟨(⟨#[99, 104, 97, 110, 116, 121, 112, 101]⟩ : ByteArray), (⟨#[]⟩ : ByteArray), ts⟩ HI.out HN.out _ A c (Kd.C_alloc HC.out _) hc).mono ?_); rintro e w1 ⟨b, rfl, hk, hb⟩; have HK := Aside0.mk hk; have HB := Aside0.mk (below_step (below_alloc (Below.refl _ _) _) hb); clear hk hb))
    go_ret
    refine isPost b rfl (fun hb => ?_) HB.out
    obtain ⟨x, rfl, gx⟩ := kidsOk1 (HK.out hb)
    exact ⟨.chan 0 (by decide) x gx, (show (⟨#[99, 104, 97, 110, 116, 121, 112, 101]⟩ : ByteArray) ≠ ⟨#[]⟩ by decide)⟩
  · have r1 : (s.toList == ([] : List UInt8)) = false := beq_eq_false_iff_ne.mpr q1
    have u1 : (s.toList != ([] : List UInt8)) = true := bne_iff_ne.mpr q1
    by_cases q2 : s.toList = ([115, 101, 110, 100] : List UInt8)
    · obtain rfl : s = (⟨#[115, 101, 110, 100]⟩ : ByteArray) := ext_list (by rw [q2, toList_data])
      clear q2
      go_enter Tryd.func6, Tryd.ntmps6
      go_wp2_with (first | (go_at_call 11; (with_reducible refine (kids_1_fff ⟨(⟨#[99, 104, 97, 110, 116, 121, 112, 101]⟩ : ByteArray), (⟨#[115, 101, 110, 100]⟩ : ByteArray), ts⟩ HI.out HN.out _ A c (Kd.C_alloc HC.out _) hc).mono ?_); rintro e w1 ⟨b, rfl, hk, hb⟩; have HK := Aside0.mk hk; have HB := Aside0.mk (below_step (below_alloc (Below.refl _ _) _) hb); clear hk hb))
      go_ret
      refine isPost b rfl (fun hb => ?_) HB.out
      obtain ⟨x, rfl, gx⟩ := kidsOk1 (HK.out hb)
      exact ⟨.chan 1 (by decide) x gx, (show (⟨#[99, 104, 97, 110, 116, 121, 112, 101]⟩ : ByteArray) ≠ ⟨#[]⟩ by decide)⟩
    · have r2 : (s.toList == ([115, 101, 110, 100] : List UInt8)) = false := beq_eq_false_iff_ne.mpr q2
      have u2 : (s.toList != ([115, 101, 110, 100] : List UInt8)) = true := bne_iff_ne.mpr q2
      by_cases q3 : s.toList = ([114, 101, 99, 118] : List UInt8)
      · obtain rfl : s = (⟨#[114, 101, 99, 118]⟩ : ByteArray) := ext_list (by rw [q3, toList_data])
        clear q3
        go_enter Tryd.func6, Tryd.ntmps6
        go_wp2_with (first | (go_at_call 11; (with_reducible refine (kids_1_fff ⟨(⟨#[99, 104, 97, 110, 116, 121, 112, 101]⟩ : ByteArray), (⟨#[114, 101, 99, 118]⟩ : ByteArray), ts⟩ HI.out HN.out _ A c (Kd.C_alloc HC.out _) hc).mono ?_); rintro e w1 ⟨b, rfl, hk, hb⟩; have HK := Aside0.mk hk; have HB := Aside0.mk (below_step (below_alloc (Below.refl _ _) _) hb); clear hk hb))
        go_ret
        refine isPost b rfl (fun hb => ?_) HB.out
        obtain ⟨x, rfl, gx⟩ := kidsOk1 (HK.out hb)
        exact ⟨.chan 2 (by decide) x gx, (show (⟨#[99, 104, 97, 110, 116, 121, 112, 101]⟩ : ByteArray) ≠ ⟨#[]⟩ by decide)⟩
      · have r3 : (s.toList == ([114, 101, 99, 118] : List UInt8)) = false := beq_eq_false_iff_ne.mpr q3
        have u3 : (s.toList != ([114, 101, 99, 118] : List UInt8)) = true := bne_iff_ne.mpr q3
        go_enter Tryd.func6, Tryd.ntmps6
        go_wp2_with fail
        go_ret
        exact isPost false rfl (by simp) (below_alloc (Below.refl _ _) _)

end Go.Proofs.YtjkhfdekmpaoiaaDoor
