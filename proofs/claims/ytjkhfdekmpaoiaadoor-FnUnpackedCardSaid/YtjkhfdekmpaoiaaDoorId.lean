/- The walk of IsMade, a theorem for each kind of node (composites, lists, types, those of one part and of two): true is told only of the trees of expressions that made makes. -/
import Derived.Test.YtjkhfdekmpaoiaaDoorKa
import Derived.Test.YtjkhfdekmpaoiaaDoorPa
import Derived.Test.YtjkhfdekmpaoiaaDoorIa
namespace Go.Proofs.YtjkhfdekmpaoiaaDoor
open Go.RowKit Go.Proofs.YtjkhfdekmpaoiaaDoorW.PrintWords Go.Proofs.YtjkhfdekmpaoiaaDoor.Kinds
set_option linter.unusedVariables false
set_option linter.unusedSimpArgs false

set_option maxHeartbeats 2000000 in
set_option maxRecDepth 100000 in
theorem isM_composite (s : ByteArray) (ts : List S24) (I : ∀ (j : Nat) (x : S24), ts[j]? = some x → IsC x) : IsC ⟨(⟨#[99, 111, 109, 112, 111, 115, 105, 116, 101]⟩ : ByteArray), s, ts⟩ := by
  have HI := Aside0.mk I
  intro w A c hC hc
  have HC := Aside0.mk hC
  have HN := Aside0.mk (Kd.C_max hC)
  have hlen : ts.length ≤ 9223372036854775807 := Kd.C_max hC
  clear I hC
  by_cases q1 : s.toList = ([] : List UInt8)
  · obtain rfl : s = (⟨#[]⟩ : ByteArray) := ext_list (by rw [q1, toList_data])
    clear q1
    go_enter Tryd.func6, Tryd.ntmps6
    go_wp2_with (first | (go_at_call 11; (with_reducible refine (kids_1_ttf ⟨(⟨#[99, 111, 109, 112, 111, 115, 105, 116, 101]⟩ : ByteArray), (⟨#[]⟩ : ByteArray), ts⟩ HI.out HN.out _ A c (Kd.C_alloc HC.out _) hc).mono ?_); rintro e w1 ⟨b, rfl, hk, hb⟩; have HK := Aside0.mk hk; have HB := Aside0.mk (below_step (below_alloc (Below.refl _ _) _) hb); clear hk hb))
    go_ret
    refine isPost b rfl (fun hb => ?_) HB.out
    obtain ⟨x, r, rfl, gx, gr⟩ := kidsOkM (HK.out hb)
    exact ⟨.comp x r gx gr, (show (⟨#[99, 111, 109, 112, 111, 115, 105, 116, 101]⟩ : ByteArray) ≠ ⟨#[]⟩ by decide)⟩
  · have r1 : (s.toList == ([] : List UInt8)) = false := beq_eq_false_iff_ne.mpr q1
    have u1 : (s.toList != ([] : List UInt8)) = true := bne_iff_ne.mpr q1
    go_enter Tryd.func6, Tryd.ntmps6
    go_wp2_with fail
    go_ret
    exact isPost false rfl (by simp) (below_alloc (Below.refl _ _) _)

set_option maxHeartbeats 2000000 in
set_option maxRecDepth 100000 in
theorem isM_arraytype (s : ByteArray) (ts : List S24) (I : ∀ (j : Nat) (x : S24), ts[j]? = some x → IsC x) : IsC ⟨(⟨#[97, 114, 114, 97, 121, 116, 121, 112, 101]⟩ : ByteArray), s, ts⟩ := by
  have HI := Aside0.mk I
  intro w A c hC hc
  have HC := Aside0.mk hC
  have HN := Aside0.mk (Kd.C_max hC)
  have hlen : ts.length ≤ 9223372036854775807 := Kd.C_max hC
  clear I hC
  by_cases q1 : s.toList = ([] : List UInt8)
  · obtain rfl : s = (⟨#[]⟩ : ByteArray) := ext_list (by rw [q1, toList_data])
    clear q1
    go_enter Tryd.func6, Tryd.ntmps6
    go_wp2_with (first | (go_at_call 11; (with_reducible refine (kids_2_ftf ⟨(⟨#[97, 114, 114, 97, 121, 116, 121, 112, 101]⟩ : ByteArray), (⟨#[]⟩ : ByteArray), ts⟩ HI.out HN.out _ A c (Kd.C_alloc HC.out _) hc).mono ?_); rintro e w1 ⟨b, rfl, hk, hb⟩; have HK := Aside0.mk hk; have HB := Aside0.mk (below_step (below_alloc (Below.refl _ _) _) hb); clear hk hb))
    go_ret
    refine isPost b rfl (fun hb => ?_) HB.out
    obtain ⟨x, y, rfl, gx, gy, hy⟩ := kidsOk2 (HK.out hb)
    exact ⟨.duo (⟨#[97, 114, 114, 97, 121, 116, 121, 112, 101]⟩ : ByteArray) 116 118 (by simp [twos]) x y gx gy, (show (⟨#[97, 114, 114, 97, 121, 116, 121, 112, 101]⟩ : ByteArray) ≠ ⟨#[]⟩ by decide)⟩
  · have r1 : (s.toList == ([] : List UInt8)) = false := beq_eq_false_iff_ne.mpr q1
    have u1 : (s.toList != ([] : List UInt8)) = true := bne_iff_ne.mpr q1
    go_enter Tryd.func6, Tryd.ntmps6
    go_wp2_with fail
    go_ret
    exact isPost false rfl (by simp) (below_alloc (Below.refl _ _) _)

set_option maxHeartbeats 2000000 in
set_option maxRecDepth 100000 in
theorem isM_keyvalue (s : ByteArray) (ts : List S24) (I : ∀ (j : Nat) (x : S24), ts[j]? = some x → IsC x) : IsC ⟨(⟨#[107, 101, 121, 118, 97, 108, 117, 101]⟩ : ByteArray), s, ts⟩ := by
  have HI := Aside0.mk I
  intro w A c hC hc
  have HC := Aside0.mk hC
  have HN := Aside0.mk (Kd.C_max hC)
  have hlen : ts.length ≤ 9223372036854775807 := Kd.C_max hC
  clear I hC
  by_cases q1 : s.toList = ([] : List UInt8)
  · obtain rfl : s = (⟨#[]⟩ : ByteArray) := ext_list (by rw [q1, toList_data])
    clear q1
    go_enter Tryd.func6, Tryd.ntmps6
    go_wp2_with (first | (go_at_call 11; (with_reducible refine (kids_2_fff ⟨(⟨#[107, 101, 121, 118, 97, 108, 117, 101]⟩ : ByteArray), (⟨#[]⟩ : ByteArray), ts⟩ HI.out HN.out _ A c (Kd.C_alloc HC.out _) hc).mono ?_); rintro e w1 ⟨b, rfl, hk, hb⟩; have HK := Aside0.mk hk; have HB := Aside0.mk (below_step (below_alloc (Below.refl _ _) _) hb); clear hk hb))
    go_ret
    refine isPost b rfl (fun hb => ?_) HB.out
    obtain ⟨x, y, rfl, gx, gy, hy⟩ := kidsOk2 (HK.out hb)
    exact ⟨.duo (⟨#[107, 101, 121, 118, 97, 108, 117, 101]⟩ : ByteArray) 69 71 (by simp [twos]) x y gx gy, (show (⟨#[107, 101, 121, 118, 97, 108, 117, 101]⟩ : ByteArray) ≠ ⟨#[]⟩ by decide)⟩
  · have r1 : (s.toList == ([] : List UInt8)) = false := beq_eq_false_iff_ne.mpr q1
    have u1 : (s.toList != ([] : List UInt8)) = true := bne_iff_ne.mpr q1
    go_enter Tryd.func6, Tryd.ntmps6
    go_wp2_with fail
    go_ret
    exact isPost false rfl (by simp) (below_alloc (Below.refl _ _) _)

set_option maxHeartbeats 2000000 in
set_option maxRecDepth 100000 in
theorem isM_index (s : ByteArray) (ts : List S24) (I : ∀ (j : Nat) (x : S24), ts[j]? = some x → IsC x) : IsC ⟨(⟨#[105, 110, 100, 101, 120]⟩ : ByteArray), s, ts⟩ := by
  have HI := Aside0.mk I
  intro w A c hC hc
  have HC := Aside0.mk hC
  have HN := Aside0.mk (Kd.C_max hC)
  have hlen : ts.length ≤ 9223372036854775807 := Kd.C_max hC
  clear I hC
  by_cases q1 : s.toList = ([] : List UInt8)
  · obtain rfl : s = (⟨#[]⟩ : ByteArray) := ext_list (by rw [q1, toList_data])
    clear q1
    go_enter Tryd.func6, Tryd.ntmps6
    go_wp2_with (first | (go_at_call 11; (with_reducible refine (kids_2_fff ⟨(⟨#[105, 110, 100, 101, 120]⟩ : ByteArray), (⟨#[]⟩ : ByteArray), ts⟩ HI.out HN.out _ A c (Kd.C_alloc HC.out _) hc).mono ?_); rintro e w1 ⟨b, rfl, hk, hb⟩; have HK := Aside0.mk hk; have HB := Aside0.mk (below_step (below_alloc (Below.refl _ _) _) hb); clear hk hb))
    go_ret
    refine isPost b rfl (fun hb => ?_) HB.out
    obtain ⟨x, y, rfl, gx, gy, hy⟩ := kidsOk2 (HK.out hb)
    exact ⟨.duo (⟨#[105, 110, 100, 101, 120]⟩ : ByteArray) 87 89 (by simp [twos]) x y gx gy, (show (⟨#[105, 110, 100, 101, 120]⟩ : ByteArray) ≠ ⟨#[]⟩ by decide)⟩
  · have r1 : (s.toList == ([] : List UInt8)) = false := beq_eq_false_iff_ne.mpr q1
    have u1 : (s.toList != ([] : List UInt8)) = true := bne_iff_ne.mpr q1
    go_enter Tryd.func6, Tryd.ntmps6
    go_wp2_with fail
    go_ret
    exact isPost false rfl (by simp) (below_alloc (Below.refl _ _) _)

set_option maxHeartbeats 2000000 in
set_option maxRecDepth 100000 in
theorem isM_assert (s : ByteArray) (ts : List S24) (I : ∀ (j : Nat) (x : S24), ts[j]? = some x → IsC x) : IsC ⟨(⟨#[97, 115, 115, 101, 114, 116]⟩ : ByteArray), s, ts⟩ := by
  have HI := Aside0.mk I
  intro w A c hC hc
  have HC := Aside0.mk hC
  have HN := Aside0.mk (Kd.C_max hC)
  have hlen : ts.length ≤ 9223372036854775807 := Kd.C_max hC
  clear I hC
  by_cases q1 : s.toList = ([] : List UInt8)
  · obtain rfl : s = (⟨#[]⟩ : ByteArray) := ext_list (by rw [q1, toList_data])
    clear q1
    go_enter Tryd.func6, Tryd.ntmps6
    go_wp2_with (first | (go_at_call 11; (with_reducible refine (kids_2_fff ⟨(⟨#[97, 115, 115, 101, 114, 116]⟩ : ByteArray), (⟨#[]⟩ : ByteArray), ts⟩ HI.out HN.out _ A c (Kd.C_alloc HC.out _) hc).mono ?_); rintro e w1 ⟨b, rfl, hk, hb⟩; have HK := Aside0.mk hk; have HB := Aside0.mk (below_step (below_alloc (Below.refl _ _) _) hb); clear hk hb))
    go_ret
    refine isPost b rfl (fun hb => ?_) HB.out
    obtain ⟨x, y, rfl, gx, gy, hy⟩ := kidsOk2 (HK.out hb)
    exact ⟨.duo (⟨#[97, 115, 115, 101, 114, 116]⟩ : ByteArray) 94 96 (by simp [twos]) x y gx gy, (show (⟨#[97, 115, 115, 101, 114, 116]⟩ : ByteArray) ≠ ⟨#[]⟩ by decide)⟩
  · have r1 : (s.toList == ([] : List UInt8)) = false := beq_eq_false_iff_ne.mpr q1
    have u1 : (s.toList != ([] : List UInt8)) = true := bne_iff_ne.mpr q1
    go_enter Tryd.func6, Tryd.ntmps6
    go_wp2_with fail
    go_ret
    exact isPost false rfl (by simp) (below_alloc (Below.refl _ _) _)

set_option maxHeartbeats 2000000 in
set_option maxRecDepth 100000 in
theorem isM_maptype (s : ByteArray) (ts : List S24) (I : ∀ (j : Nat) (x : S24), ts[j]? = some x → IsC x) : IsC ⟨(⟨#[109, 97, 112, 116, 121, 112, 101]⟩ : ByteArray), s, ts⟩ := by
  have HI := Aside0.mk I
  intro w A c hC hc
  have HC := Aside0.mk hC
  have HN := Aside0.mk (Kd.C_max hC)
  have hlen : ts.length ≤ 9223372036854775807 := Kd.C_max hC
  clear I hC
  by_cases q1 : s.toList = ([] : List UInt8)
  · obtain rfl : s = (⟨#[]⟩ : ByteArray) := ext_list (by rw [q1, toList_data])
    clear q1
    go_enter Tryd.func6, Tryd.ntmps6
    go_wp2_with (first | (go_at_call 11; (with_reducible refine (kids_2_fff ⟨(⟨#[109, 97, 112, 116, 121, 112, 101]⟩ : ByteArray), (⟨#[]⟩ : ByteArray), ts⟩ HI.out HN.out _ A c (Kd.C_alloc HC.out _) hc).mono ?_); rintro e w1 ⟨b, rfl, hk, hb⟩; have HK := Aside0.mk hk; have HB := Aside0.mk (below_step (below_alloc (Below.refl _ _) _) hb); clear hk hb))
    go_ret
    refine isPost b rfl (fun hb => ?_) HB.out
    obtain ⟨x, y, rfl, gx, gy, hy⟩ := kidsOk2 (HK.out hb)
    exact ⟨.duo (⟨#[109, 97, 112, 116, 121, 112, 101]⟩ : ByteArray) 119 120 (by simp [twos]) x y gx gy, (show (⟨#[109, 97, 112, 116, 121, 112, 101]⟩ : ByteArray) ≠ ⟨#[]⟩ by decide)⟩
  · have r1 : (s.toList == ([] : List UInt8)) = false := beq_eq_false_iff_ne.mpr q1
    have u1 : (s.toList != ([] : List UInt8)) = true := bne_iff_ne.mpr q1
    go_enter Tryd.func6, Tryd.ntmps6
    go_wp2_with fail
    go_ret
    exact isPost false rfl (by simp) (below_alloc (Below.refl _ _) _)

set_option maxHeartbeats 2000000 in
set_option maxRecDepth 100000 in
theorem isM_paren (s : ByteArray) (ts : List S24) (I : ∀ (j : Nat) (x : S24), ts[j]? = some x → IsC x) : IsC ⟨(⟨#[112, 97, 114, 101, 110]⟩ : ByteArray), s, ts⟩ := by
  have HI := Aside0.mk I
  intro w A c hC hc
  have HC := Aside0.mk hC
  have HN := Aside0.mk (Kd.C_max hC)
  have hlen : ts.length ≤ 9223372036854775807 := Kd.C_max hC
  clear I hC
  by_cases q1 : s.toList = ([] : List UInt8)
  · obtain rfl : s = (⟨#[]⟩ : ByteArray) := ext_list (by rw [q1, toList_data])
    clear q1
    go_enter Tryd.func6, Tryd.ntmps6
    go_wp2_with (first | (go_at_call 11; (with_reducible refine (kids_1_fff ⟨(⟨#[112, 97, 114, 101, 110]⟩ : ByteArray), (⟨#[]⟩ : ByteArray), ts⟩ HI.out HN.out _ A c (Kd.C_alloc HC.out _) hc).mono ?_); rintro e w1 ⟨b, rfl, hk, hb⟩; have HK := Aside0.mk hk; have HB := Aside0.mk (below_step (below_alloc (Below.refl _ _) _) hb); clear hk hb))
    go_ret
    refine isPost b rfl (fun hb => ?_) HB.out
    obtain ⟨x, rfl, gx⟩ := kidsOk1 (HK.out hb)
    exact ⟨.uno (⟨#[112, 97, 114, 101, 110]⟩ : ByteArray) 79 81 (by simp [ones]) x gx, (show (⟨#[112, 97, 114, 101, 110]⟩ : ByteArray) ≠ ⟨#[]⟩ by decide)⟩
  · have r1 : (s.toList == ([] : List UInt8)) = false := beq_eq_false_iff_ne.mpr q1
    have u1 : (s.toList != ([] : List UInt8)) = true := bne_iff_ne.mpr q1
    go_enter Tryd.func6, Tryd.ntmps6
    go_wp2_with fail
    go_ret
    exact isPost false rfl (by simp) (below_alloc (Below.refl _ _) _)

set_option maxHeartbeats 2000000 in
set_option maxRecDepth 100000 in
theorem isM_slicetype (s : ByteArray) (ts : List S24) (I : ∀ (j : Nat) (x : S24), ts[j]? = some x → IsC x) : IsC ⟨(⟨#[115, 108, 105, 99, 101, 116, 121, 112, 101]⟩ : ByteArray), s, ts⟩ := by
  have HI := Aside0.mk I
  intro w A c hC hc
  have HC := Aside0.mk hC
  have HN := Aside0.mk (Kd.C_max hC)
  have hlen : ts.length ≤ 9223372036854775807 := Kd.C_max hC
  clear I hC
  by_cases q1 : s.toList = ([] : List UInt8)
  · obtain rfl : s = (⟨#[]⟩ : ByteArray) := ext_list (by rw [q1, toList_data])
    clear q1
    go_enter Tryd.func6, Tryd.ntmps6
    go_wp2_with (first | (go_at_call 11; (with_reducible refine (kids_1_fff ⟨(⟨#[115, 108, 105, 99, 101, 116, 121, 112, 101]⟩ : ByteArray), (⟨#[]⟩ : ByteArray), ts⟩ HI.out HN.out _ A c (Kd.C_alloc HC.out _) hc).mono ?_); rintro e w1 ⟨b, rfl, hk, hb⟩; have HK := Aside0.mk hk; have HB := Aside0.mk (below_step (below_alloc (Below.refl _ _) _) hb); clear hk hb))
    go_ret
    refine isPost b rfl (fun hb => ?_) HB.out
    obtain ⟨x, rfl, gx⟩ := kidsOk1 (HK.out hb)
    exact ⟨.uno (⟨#[115, 108, 105, 99, 101, 116, 121, 112, 101]⟩ : ByteArray) 113 115 (by simp [ones]) x gx, (show (⟨#[115, 108, 105, 99, 101, 116, 121, 112, 101]⟩ : ByteArray) ≠ ⟨#[]⟩ by decide)⟩
  · have r1 : (s.toList == ([] : List UInt8)) = false := beq_eq_false_iff_ne.mpr q1
    have u1 : (s.toList != ([] : List UInt8)) = true := bne_iff_ne.mpr q1
    go_enter Tryd.func6, Tryd.ntmps6
    go_wp2_with fail
    go_ret
    exact isPost false rfl (by simp) (below_alloc (Below.refl _ _) _)

set_option maxHeartbeats 2000000 in
set_option maxRecDepth 100000 in
theorem isM_list (s : ByteArray) (ts : List S24) (I : ∀ (j : Nat) (x : S24), ts[j]? = some x → IsC x) : IsC ⟨(⟨#[108, 105, 115, 116]⟩ : ByteArray), s, ts⟩ := by
  have HI := Aside0.mk I
  intro w A c hC hc
  have HC := Aside0.mk hC
  have HN := Aside0.mk (Kd.C_max hC)
  have hlen : ts.length ≤ 9223372036854775807 := Kd.C_max hC
  clear I hC
  by_cases q1 : s.toList = ([] : List UInt8)
  · obtain rfl : s = (⟨#[]⟩ : ByteArray) := ext_list (by rw [q1, toList_data])
    clear q1
    go_enter Tryd.func6, Tryd.ntmps6
    go_wp2_with (first | (go_at_call 11; (with_reducible refine (kids_1_tff ⟨(⟨#[108, 105, 115, 116]⟩ : ByteArray), (⟨#[]⟩ : ByteArray), ts⟩ HI.out HN.out _ A c (Kd.C_alloc HC.out _) hc).mono ?_); rintro e w1 ⟨b, rfl, hk, hb⟩; have HK := Aside0.mk hk; have HB := Aside0.mk (below_step (below_alloc (Below.refl _ _) _) hb); clear hk hb))
    go_ret
    refine isPost b rfl (fun hb => ?_) HB.out
    have hk := HK.out hb
    exact ⟨.list ts (fun j x hx => (hk.2.2 j x hx).1), (show (⟨#[108, 105, 115, 116]⟩ : ByteArray) ≠ ⟨#[]⟩ by decide)⟩
  · have r1 : (s.toList == ([] : List UInt8)) = false := beq_eq_false_iff_ne.mpr q1
    have u1 : (s.toList != ([] : List UInt8)) = true := bne_iff_ne.mpr q1
    go_enter Tryd.func6, Tryd.ntmps6
    go_wp2_with fail
    go_ret
    exact isPost false rfl (by simp) (below_alloc (Below.refl _ _) _)

end Go.Proofs.YtjkhfdekmpaoiaaDoor
