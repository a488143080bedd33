/- The plain law of find, has and isOneOf: where a text is found; which texts are one of the operators' texts. No program in sight. -/
import Derived.Test.YtjkhfdekmpaoiaaDoorSa
import Derived.Test.YtjkhfdekmpaoiaaDoorRa
namespace Go.Proofs.YtjkhfdekmpaoiaaDoor
open Go.RowKit Go.Proofs.YtjkhfdekmpaoiaaDoorW.PrintWords Go.Proofs.YtjkhfdekmpaoiaaDoor.Kinds
set_option linter.unusedVariables false
set_option linter.unusedSimpArgs false

theorem toList_data (s : ByteArray) : s.toList = s.data.toList := by simp [ByteArray.toList_eq]
theorem ext_list {a b : ByteArray} (h : a.toList = b.toList) : a = b := by
  rw [toList_data, toList_data] at h
  cases a; cases b
  simp_all
/-- What find comes to from place i on. -/
theorem find_tells (s p : ByteArray) (hs : s.size ≤ 281474976710656) (hp : p.size ≤ 281474976710656) (d : Nat) : ∀ (k i : Nat), s.size + 1 - i = d → i ≤ s.size + 1 → d < k →
    ∃ r, spec_find.l0 k s p (i : Int) = some r ∧ ((r = -1 ∧ ∀ j, i ≤ j → j + p.size ≤ s.size → (s.extract j (j + p.size)).toList ≠ p.toList) ∨ ∃ j : Nat, r = j ∧ j + p.size ≤ s.size ∧ (s.extract j (j + p.size)).toList = p.toList) := by
  induction d with
  | zero =>
    intro k i hd hi hk
    obtain ⟨k, rfl⟩ : ∃ m, k = m + 1 := ⟨k - 1, by omega⟩
    have hw : wrap64 ((i : Int) + (p.size : Int)) = ((i + p.size : Nat) : Int) := by unfold wrap64; omega
    refine ⟨-1, ?_, .inl ⟨rfl, fun j h1 h2 => absurd h2 (by omega)⟩⟩
    simp only [spec_find.l0]
    rw [hw, if_neg (by omega)]
  | succ d ih =>
    intro k i hd hi hk
    obtain ⟨k, rfl⟩ : ∃ m, k = m + 1 := ⟨k - 1, by omega⟩
    have hw : wrap64 ((i : Int) + (p.size : Int)) = ((i + p.size : Nat) : Int) := by unfold wrap64; omega
    have hw1 : wrap64 ((i : Int) + 1) = ((i + 1 : Nat) : Int) := by unfold wrap64; omega
    simp only [spec_find.l0]
    rw [hw, hw1]
    by_cases h1 : i + p.size ≤ s.size
    · rw [if_pos (by omega), if_pos (by omega), if_pos (by omega)]
      simp only [Int.toNat_natCast]
      by_cases h2 : (s.extract i (i + p.size)).toList = p.toList
      · rw [if_pos h2]
        exact ⟨_, rfl, .inr ⟨i, rfl, h1, h2⟩⟩
      · rw [if_neg h2]
        obtain ⟨r, hr, h⟩ := ih k (i + 1) (by omega) (by omega) (by omega)
        refine ⟨r, hr, ?_⟩
        rcases h with ⟨h3, h4⟩ | h3
        · refine .inl ⟨h3, fun j h5 h6 => ?_⟩
          by_cases e : j = i
          · subst e; exact h2
          · exact h4 j (by omega) h6
        · exact .inr h3
    · rw [if_neg (by omega)]
      exact ⟨_, rfl, .inl ⟨rfl, fun j h5 h6 => absurd h6 (by omega)⟩⟩
theorem has_tells (s p : ByteArray) (hs : s.size ≤ 281474976710656) (hp : p.size ≤ 281474976710656) : ∃ r, (∀ k, s.size + 2 ≤ k → spec_has.f k s p = some r) ∧
    (r = false → ∀ j, j + p.size ≤ s.size → (s.extract j (j + p.size)).toList ≠ p.toList) ∧ (r = true → ∃ j, j + p.size ≤ s.size ∧ (s.extract j (j + p.size)).toList = p.toList) := by
  obtain ⟨r, hr, h⟩ := find_tells s p hs hp (s.size + 1) (s.size + 2) 0 (by omega) (by omega) (by omega)
  refine ⟨decide (r ≥ 0), fun k hk => ?_, fun h0 => ?_, fun h0 => ?_⟩
  · have h1 : spec_find.f k s p = some r := at_rounds (spec_find.mono s p) hk hr
    unfold spec_has.f
    rw [h1]
    rfl
  · rcases h with ⟨_, h⟩ | ⟨j, rfl, _⟩
    · exact fun j hj => h j (Nat.zero_le _) hj
    · exact absurd h0 (by simp)
  · rcases h with ⟨rfl, _⟩ | ⟨j, _, h1, h2⟩
    · simp at h0
    · exact ⟨j, h1, h2⟩

/-- The bytes behind place r of l, m of them without the first one. -/
def mid (l : List UInt8) (r m : Nat) : List UInt8 := (((l.drop r).take (m + 2)).drop 1).take m
def okAt (l : List UInt8) (r m : Nat) : Bool :=
  if (l.drop r).take (m + 2) == 32 :: mid l r m ++ [32] && !(mid l r m).contains 32 && decide (0 < m) then (List.range 24).any (fun q => decide (1 ≤ q) && (opText q).data.toList == mid l r m) else true
def okAll (l : List UInt8) : Bool := (List.range 50).all fun r => (List.range 50).all fun m => okAt l r m
theorem of_okAll {l t : List UInt8} (h : okAll l = true) (hl : l.length < 50) {r : Nat} (ht : t ≠ []) (hn : (32 : UInt8) ∉ t) (he : (l.drop r).take (t.length + 2) = 32 :: t ++ [32]) : ∃ q, 1 ≤ q ∧ q ≤ 23 ∧ (opText q).data.toList = t := by
  have hlen := congrArg List.length he
  simp only [List.length_take, List.length_drop, List.length_append, List.length_cons, List.length_nil] at hlen
  have hm : mid l r t.length = t := by
    unfold mid
    rw [he]
    simp
  have hp : 0 < t.length := List.length_pos_iff.2 ht
  have h1 := List.all_eq_true.1 h r (List.mem_range.2 (by omega))
  have h2 := List.all_eq_true.1 h1 t.length (List.mem_range.2 (by omega))
  unfold okAt at h2
  rw [hm, he] at h2
  have hc : (32 :: t ++ [32] == 32 :: t ++ [32] && !t.contains 32 && decide (0 < t.length)) = true := by
    simp [hn, hp]
  rw [if_pos hc] at h2
  obtain ⟨q, hq, h3⟩ := List.any_eq_true.1 h2
  simp only [Bool.and_eq_true, decide_eq_true_eq, beq_iff_eq] at h3
  exact ⟨q, h3.1, by have := List.mem_range.1 hq; omega, h3.2⟩
def unaryList : ByteArray := ⟨#[43, 32, 45, 32, 33, 32, 94, 32, 42, 32, 38, 32, 60, 45, 32, 126]⟩
theorem unary_ok : okAll (32 :: unaryList.data.toList ++ [32]) = true := by decide +kernel
def binaryList : ByteArray := ⟨#[124, 124, 32, 38, 38, 32, 61, 61, 32, 33, 61, 32, 60, 32, 60, 61, 32, 62, 32, 62, 61, 32, 43, 32, 45, 32, 124, 32, 94, 32, 42, 32, 47, 32, 37, 32, 38, 32, 38, 94, 32, 60, 60, 32, 62, 62]⟩
theorem binary_ok : okAll (32 :: binaryList.data.toList ++ [32]) = true := by decide +kernel
theorem extract_list (s : ByteArray) (i j : Nat) : (s.extract i j).toList = (s.data.toList.drop i).take (j - i) := by
  rw [toList_data, ByteArray.data_extract, Array.toList_extract, List.extract_eq_take_drop]
theorem append_list (a b : ByteArray) : (a ++ b).toList = a.toList ++ b.toList := by
  rw [toList_data, toList_data, toList_data, ByteArray.data_append, Array.toList_append]
theorem len_list (s : ByteArray) : s.toList.length = s.size := by rw [toList_data, Array.length_toList]; rfl
theorem isOneOf_tells (s l : ByteArray) (hs : s.size ≤ 140737488351232) (hl : l.size ≤ 47) (hok : okAll (32 :: l.data.toList ++ [32]) = true) :
    ∃ k r, spec_isOneOf.f k s l = some r ∧ (r = true → ∃ q, 1 ≤ q ∧ q ≤ 23 ∧ s = opText q) := by
  by_cases he : s.toList = []
  · exact ⟨0, false, by unfold spec_isOneOf.f; rw [if_pos he], fun h => absurd h (by simp)⟩
  · have e1 : (⟨#[32]⟩ : ByteArray).size = 1 := rfl
    obtain ⟨r1, h1, h2, h3⟩ := has_tells s ⟨#[32]⟩ (by omega) (by omega)
    have z1 : ((⟨#[32]⟩ : ByteArray) ++ l).size = 1 + l.size := by rw [ByteArray.size_append, e1]
    have z2 : ((⟨#[32]⟩ : ByteArray) ++ s).size = 1 + s.size := by rw [ByteArray.size_append, e1]
    have z3 : ((⟨#[32]⟩ : ByteArray) ++ l ++ (⟨#[32]⟩ : ByteArray)).size = 2 + l.size := by rw [ByteArray.size_append, z1, e1]; omega
    have z4 : ((⟨#[32]⟩ : ByteArray) ++ s ++ (⟨#[32]⟩ : ByteArray)).size = 2 + s.size := by rw [ByteArray.size_append, z2, e1]; omega
    obtain ⟨r2, h4, h5, h6⟩ := has_tells ((⟨#[32]⟩ : ByteArray) ++ l ++ (⟨#[32]⟩ : ByteArray)) ((⟨#[32]⟩ : ByteArray) ++ s ++ (⟨#[32]⟩ : ByteArray)) (by omega) (by omega)
    refine ⟨s.size + 100, if r1 = true then false else r2, ?_, fun hr => ?_⟩
    · unfold spec_isOneOf.f
      rw [if_neg he, h1 _ (by omega)]
      simp only [Option.bind_some]
      cases r1 with
      | true => simp
      | false =>
        rw [if_neg (by simp), if_pos (by omega), if_pos (by omega), if_pos (by omega), if_pos (by omega), h4 _ (by omega)]
        simp
    · cases r1 with
      | true => simp at hr
      | false =>
        simp only [Bool.false_eq_true, if_false] at hr
        obtain ⟨j, h7, h8⟩ := h6 hr
        have hn : (32 : UInt8) ∉ s.toList := by
          intro hin
          obtain ⟨i, hi, hx⟩ := List.getElem_of_mem hin
          rw [len_list] at hi
          refine h2 rfl i (by omega) ?_
          rw [extract_list, e1, Nat.add_sub_cancel_left]
          rw [← toList_data, List.drop_eq_getElem_cons (by rw [len_list]; exact hi), List.take_succ_cons, List.take_zero, hx]
          rw [toList_data]
        have e32 : (⟨#[32]⟩ : ByteArray).toList = [32] := by rw [toList_data]
        rw [extract_list, Nat.add_sub_cancel_left, z4, ← toList_data, append_list, append_list, append_list, append_list, e32] at h8
        have h9 : ((32 :: l.data.toList ++ [32]).drop j).take (s.toList.length + 2) = 32 :: s.toList ++ [32] := by
          rw [len_list, Nat.add_comm, ← toList_data l]
          simpa using h8
        obtain ⟨q, hq1, hq2, hq⟩ := of_okAll hok (by simp only [List.length_cons, List.length_append, List.length_nil]; have := len_list l; rw [toList_data] at this; omega) he hn h9
        exact ⟨q, hq1, hq2, ext_list (by rw [toList_data (opText q), hq])⟩
end Go.Proofs.YtjkhfdekmpaoiaaDoor
