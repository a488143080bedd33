/- The walk of IsMade, a theorem for each kind of node (all kinds): true is told only of the trees of expressions that made makes. -/
import Derived.Test.YtjkhfdekmpaoiaaDoorKa
import Derived.Test.YtjkhfdekmpaoiaaDoorPa
import Derived.Test.YtjkhfdekmpaoiaaDoorIb
import Derived.Test.YtjkhfdekmpaoiaaDoorIc
import Derived.Test.YtjkhfdekmpaoiaaDoorId
namespace Go.Proofs.YtjkhfdekmpaoiaaDoor
open Go.RowKit Go.Proofs.YtjkhfdekmpaoiaaDoorW.PrintWords Go.Proofs.YtjkhfdekmpaoiaaDoor.Kinds
set_option linter.unusedVariables false
set_option linter.unusedSimpArgs false

set_option maxHeartbeats 2000000 in
set_option maxRecDepth 100000 in
theorem isM_other (s0 s : ByteArray) (ts : List S24) (n0 : (s0.toList == ([110, 97, 109, 101] : List UInt8)) = false) (n1 : (s0.toList == ([105, 110, 116] : List UInt8)) = false) (n2 : (s0.toList == ([102, 108, 111, 97, 116] : List UInt8)) = false) (n3 : (s0.toList == ([105, 109, 97, 103] : List UInt8)) = false) (n4 : (s0.toList == ([114, 117, 110, 101] : List UInt8)) = false) (n5 : (s0.toList == ([115, 116, 114, 105, 110, 103] : List UInt8)) = false) (n6 : (s0.toList == ([115, 101, 108, 101, 99, 116, 111, 114] : List UInt8)) = false) (n7 : (s0.toList == ([117, 110, 97, 114, 121] : List UInt8)) = false) (n8 : (s0.toList == ([98, 105, 110, 97, 114, 121] : List UInt8)) = false) (n9 : (s0.toList == ([99, 97, 108, 108] : List UInt8)) = false) (n10 : (s0.toList == ([115, 108, 105, 99, 101] : List UInt8)) = false) (n11 : (s0.toList == ([99, 104, 97, 110, 116, 121, 112, 101] : List UInt8)) = false) (n12 : (s0.toList == ([99, 111, 109, 112, 111, 115, 105, 116, 101] : List UInt8)) = false) (n13 : (s0.toList == ([97, 114, 114, 97, 121, 116, 121, 112, 101] : List UInt8)) = false) (n14 : (s0.toList == ([107, 101, 121, 118, 97, 108, 117, 101] : List UInt8)) = false) (n15 : (s0.toList == ([105, 110, 100, 101, 120] : List UInt8)) = false) (n16 : (s0.toList == ([97, 115, 115, 101, 114, 116] : List UInt8)) = false) (n17 : (s0.toList == ([109, 97, 112, 116, 121, 112, 101] : List UInt8)) = false) (n18 : (s0.toList == ([112, 97, 114, 101, 110] : List UInt8)) = false) (n19 : (s0.toList == ([115, 108, 105, 99, 101, 116, 121, 112, 101] : List UInt8)) = false) (n20 : (s0.toList == ([108, 105, 115, 116] : List UInt8)) = false) : IsC ⟨s0, s, ts⟩ := by
  intro w A c hC hc
  clear hC hc
  by_cases q1 : s.toList = ([] : List UInt8)
  · obtain rfl : s = (⟨#[]⟩ : ByteArray) := ext_list (by rw [q1, toList_data])
    clear q1
    go_enter Tryd.func6, Tryd.ntmps6
    go_wp2_with fail
    go_ret
    exact isPost false rfl (by simp) (below_alloc (Below.refl _ _) _)
  · have r1 : (s.toList == ([] : List UInt8)) = false := beq_eq_false_iff_ne.mpr q1
    have u1 : (s.toList != ([] : List UInt8)) = true := bne_iff_ne.mpr q1
    go_enter Tryd.func6, Tryd.ntmps6
    go_wp2_with fail
    go_ret
    exact isPost false rfl (by simp) (below_alloc (Below.refl _ _) _)

theorem isMade_go (t : S24) (hf : Fits t) : IsC t := by
  induction hf with
  | mk t h0 hs h2 hk I =>
    obtain ⟨s0, s, ts⟩ := t
    simp only at hs I
    by_cases q0 : s0.toList = ([110, 97, 109, 101] : List UInt8)
    · obtain rfl : s0 = (⟨#[110, 97, 109, 101]⟩ : ByteArray) := ext_list (by rw [q0, toList_data])
      exact isM_name s ts I
    have r0 : (s0.toList == ([110, 97, 109, 101] : List UInt8)) = false := beq_eq_false_iff_ne.mpr q0
    by_cases q1 : s0.toList = ([105, 110, 116] : List UInt8)
    · obtain rfl : s0 = (⟨#[105, 110, 116]⟩ : ByteArray) := ext_list (by rw [q1, toList_data])
      exact isM_int s ts I
    have r1 : (s0.toList == ([105, 110, 116] : List UInt8)) = false := beq_eq_false_iff_ne.mpr q1
    by_cases q2 : s0.toList = ([102, 108, 111, 97, 116] : List UInt8)
    · obtain rfl : s0 = (⟨#[102, 108, 111, 97, 116]⟩ : ByteArray) := ext_list (by rw [q2, toList_data])
      exact isM_float s ts I
    have r2 : (s0.toList == ([102, 108, 111, 97, 116] : List UInt8)) = false := beq_eq_false_iff_ne.mpr q2
    by_cases q3 : s0.toList = ([105, 109, 97, 103] : List UInt8)
    · obtain rfl : s0 = (⟨#[105, 109, 97, 103]⟩ : ByteArray) := ext_list (by rw [q3, toList_data])
      exact isM_imag s ts I
    have r3 : (s0.toList == ([105, 109, 97, 103] : List UInt8)) = false := beq_eq_false_iff_ne.mpr q3
    by_cases q4 : s0.toList = ([114, 117, 110, 101] : List UInt8)
    · obtain rfl : s0 = (⟨#[114, 117, 110, 101]⟩ : ByteArray) := ext_list (by rw [q4, toList_data])
      exact isM_rune s ts I
    have r4 : (s0.toList == ([114, 117, 110, 101] : List UInt8)) = false := beq_eq_false_iff_ne.mpr q4
    by_cases q5 : s0.toList = ([115, 116, 114, 105, 110, 103] : List UInt8)
    · obtain rfl : s0 = (⟨#[115, 116, 114, 105, 110, 103]⟩ : ByteArray) := ext_list (by rw [q5, toList_data])
      exact isM_string s ts I
    have r5 : (s0.toList == ([115, 116, 114, 105, 110, 103] : List UInt8)) = false := beq_eq_false_iff_ne.mpr q5
    by_cases q6 : s0.toList = ([115, 101, 108, 101, 99, 116, 111, 114] : List UInt8)
    · obtain rfl : s0 = (⟨#[115, 101, 108, 101, 99, 116, 111, 114]⟩ : ByteArray) := ext_list (by rw [q6, toList_data])
      exact isM_selector s ts I
    have r6 : (s0.toList == ([115, 101, 108, 101, 99, 116, 111, 114] : List UInt8)) = false := beq_eq_false_iff_ne.mpr q6
    by_cases q7 : s0.toList = ([117, 110, 97, 114, 121] : List UInt8)
    · obtain rfl : s0 = (⟨#[117, 110, 97, 114, 121]⟩ : ByteArray) := ext_list (by rw [q7, toList_data])
      exact isM_unary s ts I hs
    have r7 : (s0.toList == ([117, 110, 97, 114, 121] : List UInt8)) = false := beq_eq_false_iff_ne.mpr q7
    by_cases q8 : s0.toList = ([98, 105, 110, 97, 114, 121] : List UInt8)
    · obtain rfl : s0 = (⟨#[98, 105, 110, 97, 114, 121]⟩ : ByteArray) := ext_list (by rw [q8, toList_data])
      exact isM_binary s ts I hs
    have r8 : (s0.toList == ([98, 105, 110, 97, 114, 121] : List UInt8)) = false := beq_eq_false_iff_ne.mpr q8
    by_cases q9 : s0.toList = ([99, 97, 108, 108] : List UInt8)
    · obtain rfl : s0 = (⟨#[99, 97, 108, 108]⟩ : ByteArray) := ext_list (by rw [q9, toList_data])
      exact isM_call s ts I
    have r9 : (s0.toList == ([99, 97, 108, 108] : List UInt8)) = false := beq_eq_false_iff_ne.mpr q9
    by_cases q10 : s0.toList = ([115, 108, 105, 99, 101] : List UInt8)
    · obtain rfl : s0 = (⟨#[115, 108, 105, 99, 101]⟩ : ByteArray) := ext_list (by rw [q10, toList_data])
      exact isM_slice s ts I
    have r10 : (s0.toList == ([115, 108, 105, 99, 101] : List UInt8)) = false := beq_eq_false_iff_ne.mpr q10
    by_cases q11 : s0.toList = ([99, 104, 97, 110, 116, 121, 112, 101] : List UInt8)
    · obtain rfl : s0 = (⟨#[99, 104, 97, 110, 116, 121, 112, 101]⟩ : ByteArray) := ext_list (by rw [q11, toList_data])
      exact isM_chantype s ts I
    have r11 : (s0.toList == ([99, 104, 97, 110, 116, 121, 112, 101] : List UInt8)) = false := beq_eq_false_iff_ne.mpr q11
    by_cases q12 : s0.toList = ([99, 111, 109, 112, 111, 115, 105, 116, 101] : List UInt8)
    · obtain rfl : s0 = (⟨#[99, 111, 109, 112, 111, 115, 105, 116, 101]⟩ : ByteArray) := ext_list (by rw [q12, toList_data])
      exact isM_composite s ts I
    have r12 : (s0.toList == ([99, 111, 109, 112, 111, 115, 105, 116, 101] : List UInt8)) = false := beq_eq_false_iff_ne.mpr q12
    by_cases q13 : s0.toList = ([97, 114, 114, 97, 121, 116, 121, 112, 101] : List UInt8)
    · obtain rfl : s0 = (⟨#[97, 114, 114, 97, 121, 116, 121, 112, 101]⟩ : ByteArray) := ext_list (by rw [q13, toList_data])
      exact isM_arraytype s ts I
    have r13 : (s0.toList == ([97, 114, 114, 97, 121, 116, 121, 112, 101] : List UInt8)) = false := beq_eq_false_iff_ne.mpr q13
    by_cases q14 : s0.toList = ([107, 101, 121, 118, 97, 108, 117, 101] : List UInt8)
    · obtain rfl : s0 = (⟨#[107, 101, 121, 118, 97, 108, 117, 101]⟩ : ByteArray) := ext_list (by rw [q14, toList_data])
      exact isM_keyvalue s ts I
    have r14 : (s0.toList == ([107, 101, 121, 118, 97, 108, 117, 101] : List UInt8)) = false := beq_eq_false_iff_ne.mpr q14
    by_cases q15 : s0.toList = ([105, 110, 100, 101, 120] : List UInt8)
    · obtain rfl : s0 = (⟨#[105, 110, 100, 101, 120]⟩ : ByteArray) := ext_list (by rw [q15, toList_data])
      exact isM_index s ts I
    have r15 : (s0.toList == ([105, 110, 100, 101, 120] : List UInt8)) = false := beq_eq_false_iff_ne.mpr q15
    by_cases q16 : s0.toList = ([97, 115, 115, 101, 114, 116] : List UInt8)
    · obtain rfl : s0 = (⟨#[97, 115, 115, 101, 114, 116]⟩ : ByteArray) := ext_list (by rw [q16, toList_data])
      exact isM_assert s ts I
    have r16 : (s0.toList == ([97, 115, 115, 101, 114, 116] : List UInt8)) = false := beq_eq_false_iff_ne.mpr q16
    by_cases q17 : s0.toList = ([109, 97, 112, 116, 121, 112, 101] : List UInt8)
    · obtain rfl : s0 = (⟨#[109, 97, 112, 116, 121, 112, 101]⟩ : ByteArray) := ext_list (by rw [q17, toList_data])
      exact isM_maptype s ts I
    have r17 : (s0.toList == ([109, 97, 112, 116, 121, 112, 101] : List UInt8)) = false := beq_eq_false_iff_ne.mpr q17
    by_cases q18 : s0.toList = ([112, 97, 114, 101, 110] : List UInt8)
    · obtain rfl : s0 = (⟨#[112, 97, 114, 101, 110]⟩ : ByteArray) := ext_list (by rw [q18, toList_data])
      exact isM_paren s ts I
    have r18 : (s0.toList == ([112, 97, 114, 101, 110] : List UInt8)) = false := beq_eq_false_iff_ne.mpr q18
    by_cases q19 : s0.toList = ([115, 108, 105, 99, 101, 116, 121, 112, 101] : List UInt8)
    · obtain rfl : s0 = (⟨#[115, 108, 105, 99, 101, 116, 121, 112, 101]⟩ : ByteArray) := ext_list (by rw [q19, toList_data])
      exact isM_slicetype s ts I
    have r19 : (s0.toList == ([115, 108, 105, 99, 101, 116, 121, 112, 101] : List UInt8)) = false := beq_eq_false_iff_ne.mpr q19
    by_cases q20 : s0.toList = ([108, 105, 115, 116] : List UInt8)
    · obtain rfl : s0 = (⟨#[108, 105, 115, 116]⟩ : ByteArray) := ext_list (by rw [q20, toList_data])
      exact isM_list s ts I
    have r20 : (s0.toList == ([108, 105, 115, 116] : List UInt8)) = false := beq_eq_false_iff_ne.mpr q20
    exact isM_other s0 s ts r0 r1 r2 r3 r4 r5 r6 r7 r8 r9 r10 r11 r12 r13 r14 r15 r16 r17 r18 r19 r20
end Go.Proofs.YtjkhfdekmpaoiaaDoor
