/- The walk of kidsMade, for each way in which IsMade calls it: true is told only where every node below is one of an expression, or missing where it may be. -/
import Derived.Test.YtjkhfdekmpaoiaaDoorRc
namespace Go.Proofs.YtjkhfdekmpaoiaaDoor
open Go.RowKit Go.Proofs.YtjkhfdekmpaoiaaDoorW.PrintWords Go.Proofs.YtjkhfdekmpaoiaaDoor.Kinds
set_option linter.unusedVariables false
set_option linter.unusedSimpArgs false

/-- What IsMade tells of a tree. -/
def IsPost (t : S24) (w : World) (e : Ending) (w' : World) : Prop := ∃ b, e = .returned (.bool b) ∧ (b = true → Good t ∧ t.f0 ≠ ⟨#[]⟩) ∧ Below w.heap.size w w'
theorem isPost {t : S24} {w w' : World} (b : Bool) {e : Ending} (he : e = .returned (.bool b)) (h : b = true → Good t ∧ t.f0 ≠ ⟨#[]⟩) (hB : Below w.heap.size w w') : IsPost t w e w' := ⟨b, he, h, hB⟩
/-- What a call of IsMade on a tree comes to. -/
def IsC (t : S24) : Prop := ∀ (w : World) (A : Option Addr) (c : Nat), Kd.C k24 w A t.f2.length t.f2 → t.f2.length ≤ c →
  Calls Tryd.prog 6 #[.agg #[.string t.f0, .string t.f1, .slice A t.f2.length c]] w (IsPost t w)
theorem IsC.go {t : S24} (h : IsC t) (w : World) (A : Option Addr) (c : Nat) (hC : Kd.C k24 w A t.f2.length t.f2) (hc : t.f2.length ≤ c) :
  Calls Tryd.prog 6 #[.agg #[.string t.f0, .string t.f1, .slice A t.f2.length c]] w (IsPost t w) := h w A c hC hc
/-- Node number j below is one of an expression, or missing where it may be. -/
def KidOk (first rest : Bool) (j : Nat) (x : S24) : Prop := Good x ∧ (x.f0 = ⟨#[]⟩ → (first = true ∧ j = 0) ∨ (rest = true ∧ 0 < j))
def KidsOk (ts : List S24) (least : Nat) (more first rest : Bool) : Prop := least ≤ ts.length ∧ (more = false → ts.length = least) ∧ ∀ (j : Nat) (x : S24), ts[j]? = some x → KidOk first rest j x
def Upto (ts : List S24) (first rest : Bool) (k : Nat) : Prop := ∀ (j : Nat) (x : S24), j < k → ts[j]? = some x → KidOk first rest j x
theorem Upto.step {ts : List S24} {first rest : Bool} {k : Nat} {t : S24} (h : Upto ts first rest k) (ht : ts[k]? = some t) (hk : KidOk first rest k t) : Upto ts first rest (k + 1) := by
  intro j x hj hx
  by_cases e : j = k
  · subst e
    rw [ht] at hx
    cases hx
    exact hk
  · exact h j x (by omega) hx
theorem KidOk.made {first rest : Bool} {k : Nat} {t : S24} (h : Good t ∧ t.f0 ≠ ⟨#[]⟩) : KidOk first rest k t := ⟨h.1, fun e => absurd e h.2⟩
theorem bytes_nil {s : ByteArray} (h : s.toList = []) : s = ⟨#[]⟩ := by
  cases s with
  | mk d =>
    have h2 : d.toList = [] := by simpa [ByteArray.toList_eq] using h
    cases d
    simp_all
theorem KidOk.missing {first rest : Bool} {k : Nat} {t : S24} (h0 : t.f0.toList = []) (h1 : t.f1.toList = []) (h2 : t.f2.length = 0) (ha : (first = true ∧ k = 0) ∨ (rest = true ∧ 0 < k)) : KidOk first rest k t := by
  obtain ⟨a, b, c⟩ := t
  simp only at h0 h1 h2
  obtain rfl := bytes_nil h0
  obtain rfl := bytes_nil h1
  obtain rfl := List.eq_nil_of_length_eq_zero h2
  exact ⟨.miss, fun _ => ha⟩

set_option maxHeartbeats 4000000 in
set_option maxRecDepth 100000 in
theorem kids_1_fff (t : S24) (I : ∀ (j : Nat) (x : S24), t.f2[j]? = some x → IsC x) (hlen : t.f2.length ≤ 9223372036854775807) (w : World) (A : Option Addr) (c : Nat) (hC : Kd.C k24 w A t.f2.length t.f2) (hc : t.f2.length ≤ c) :
    Calls Tryd.prog 11 #[.agg #[.string t.f0, .string t.f1, .slice A t.f2.length c], .int .i64 1, .bool false, .bool false, .bool false] w fun e w' => ∃ b, e = .returned (.bool b) ∧ (b = true → KidsOk t.f2 1 false false false) ∧ Below w.heap.size w w' := by
  obtain ⟨s0, s1, ts⟩ := t
  simp only at I hlen hC hc ⊢
  have HI := Aside0.mk I
  have HC := Aside0.mk hC
  have HN := Aside0.mk hlen
  clear I hC hlen
  by_cases hle : ts.length < 1
  · have d0 : decide ((ts.length : Int) < 1) = true := decide_eq_true (by omega)
    have d1 : decide (ts.length < 1) = true := decide_eq_true hle
    go_enter Tryd.func11, Tryd.ntmps11
    go_wp2
    go_ret
    exact ⟨false, rfl, by simp, below_alloc (Below.refl _ _) _⟩
  · have d0 : decide ((ts.length : Int) < 1) = false := decide_eq_false (by omega)
    have d1 : decide (ts.length < 1) = false := decide_eq_false hle
    by_cases hgt : 1 < ts.length
    · have d2 : decide ((1 : Int) < ts.length) = true := decide_eq_true (by omega)
      have d3 : decide (1 < ts.length) = true := decide_eq_true hgt
      go_enter Tryd.func11, Tryd.ntmps11
      go_wp2
      go_ret
      exact ⟨false, rfl, by simp, below_alloc (Below.refl _ _) _⟩
    · have d2 : decide ((1 : Int) < ts.length) = false := decide_eq_false (by omega)
      have d3 : decide (1 < ts.length) = false := decide_eq_false hgt
      have HLE := Aside0.mk hle
      have HGT := Aside0.mk hgt
      clear hle hgt
      have hlen := HN.out
      go_enter Tryd.func11, Tryd.ntmps11
      go_wp2
      go_loopw [33] (fun i wr => ∃ k : Nat, k ≤ ts.length ∧ i = .int .i64 k ∧ Aside0 (Upto ts false false k) ∧ Aside0 (Below w.heap.size w wr)) (fun i _ => ts.length - (intOf i).toNat)
      case atStart => exact ⟨0, Nat.zero_le _, rfl, ⟨fun j x hj => absurd hj (by omega)⟩, ⟨below_alloc (Below.refl _ _) _⟩⟩
      case round =>
        obtain ⟨k, hk, rfl, HU, HB⟩ := hrel
        by_cases hlt : k < ts.length
        · obtain ⟨x, hx⟩ : ∃ x, ts[k]? = some x := ⟨_, List.getElem?_eq_getElem hlt⟩
          obtain ⟨ad, A2, c2, rfl, h0, h1, h2, h3, h4⟩ := kid_cells HC.out k x hx
          replace h0 := cell_up HB.out h0
          replace h1 := cell_up HB.out h1
          replace h2 := cell_up HB.out h2
          have H4 := Aside0.mk (Kd.C_below h4 HB.out)
          have H3 := Aside0.mk h3
          have HT := Aside0.mk hx
          have hkn : x.f2.length ≤ 9223372036854775807 := Kd.C_max H4.out
          clear h4 h3 hx
          by_cases m0 : x.f0.toList = []
          · have M0 := Aside0.mk m0
            have b0 : (x.f0.toList == []) = true := by rw [m0]; rfl
            clear m0
            by_cases m1 : x.f1.toList = []
            · have M1 := Aside0.mk m1
              have b1 : (x.f1.toList == []) = true := by rw [m1]; rfl
              clear m1
              by_cases m2 : x.f2.length = 0
              · have M2 := Aside0.mk m2
                have b2 : ((x.f2.length : Int) == 0) = true := beq_iff_eq.mpr (by omega)
                have b3 : (x.f2.length == 0) = true := beq_iff_eq.mpr m2
                clear m2
                go_wp2_with (first | (go_at_call 6; (with_reducible refine ((HI.out k x HT.out).go _ A2 c2 (Kd.C_alloc H4.out _) H3.out).mono ?_); rintro e w1 ⟨b, rfl, hg, hb⟩; have HG := Aside0.mk hg; have HB2 := Aside0.mk (below_step HB.out (below_step (below_alloc (Below.refl _ _) _) hb)); clear hg hb))
                · go_ret
                  exact ⟨false, rfl, by simp, HB2.out⟩
                · have hb : b = true := by simpa using ‹(!b) = false›
                  have HGB := Aside0.mk (HG.out hb)
                  clear hb
                  go_roundw
                  case rel => exact ⟨k + 1, by omega, by go_num, ⟨HU.out.step HT.out (.made HGB.out)⟩, ⟨HB2.out⟩⟩
                  case measure => simp [intOf]; omega
              · have b2 : ((x.f2.length : Int) == 0) = false := beq_eq_false_iff_ne.mpr (by omega)
                have b3 : (x.f2.length == 0) = false := beq_eq_false_iff_ne.mpr m2
                clear m2
                go_wp2_with (first | (go_at_call 6; (with_reducible refine ((HI.out k x HT.out).go _ A2 c2 (Kd.C_alloc H4.out _) H3.out).mono ?_); rintro e w1 ⟨b, rfl, hg, hb⟩; have HG := Aside0.mk hg; have HB2 := Aside0.mk (below_step HB.out (below_step (below_alloc (Below.refl _ _) _) hb)); clear hg hb))
                · go_ret
                  exact ⟨false, rfl, by simp, HB2.out⟩
                · have hb : b = true := by simpa using ‹(!b) = false›
                  have HGB := Aside0.mk (HG.out hb)
                  clear hb
                  go_roundw
                  case rel => exact ⟨k + 1, by omega, by go_num, ⟨HU.out.step HT.out (.made HGB.out)⟩, ⟨HB2.out⟩⟩
                  case measure => simp [intOf]; omega
            · have b1 : (x.f1.toList == []) = false := beq_eq_false_iff_ne.mpr m1
              clear m1
              go_wp2_with (first | (go_at_call 6; (with_reducible refine ((HI.out k x HT.out).go _ A2 c2 (Kd.C_alloc H4.out _) H3.out).mono ?_); rintro e w1 ⟨b, rfl, hg, hb⟩; have HG := Aside0.mk hg; have HB2 := Aside0.mk (below_step HB.out (below_step (below_alloc (Below.refl _ _) _) hb)); clear hg hb))
              · go_ret
                exact ⟨false, rfl, by simp, HB2.out⟩
              · have hb : b = true := by simpa using ‹(!b) = false›
                have HGB := Aside0.mk (HG.out hb)
                clear hb
                go_roundw
                case rel => exact ⟨k + 1, by omega, by go_num, ⟨HU.out.step HT.out (.made HGB.out)⟩, ⟨HB2.out⟩⟩
                case measure => simp [intOf]; omega
          · have b0 : (x.f0.toList == []) = false := beq_eq_false_iff_ne.mpr m0
            clear m0
            go_wp2_with (first | (go_at_call 6; (with_reducible refine ((HI.out k x HT.out).go _ A2 c2 (Kd.C_alloc H4.out _) H3.out).mono ?_); rintro e w1 ⟨b, rfl, hg, hb⟩; have HG := Aside0.mk hg; have HB2 := Aside0.mk (below_step HB.out (below_step (below_alloc (Below.refl _ _) _) hb)); clear hg hb))
            · go_ret
              exact ⟨false, rfl, by simp, HB2.out⟩
            · have hb : b = true := by simpa using ‹(!b) = false›
              have HGB := Aside0.mk (HG.out hb)
              clear hb
              go_roundw
              case rel => exact ⟨k + 1, by omega, by go_num, ⟨HU.out.step HT.out (.made HGB.out)⟩, ⟨HB2.out⟩⟩
              case measure => simp [intOf]; omega
        · obtain rfl : k = ts.length := by omega
          go_wp2
          go_ret
          exact ⟨true, rfl, fun _ => ⟨by have := HLE.out; omega, fun _ => by have := HLE.out; have := HGT.out; omega, fun j x hx => HU.out j x (List.getElem?_eq_some_iff.1 hx).1 hx⟩, HB.out⟩

set_option maxHeartbeats 4000000 in
set_option maxRecDepth 100000 in
theorem kids_2_fff (t : S24) (I : ∀ (j : Nat) (x : S24), t.f2[j]? = some x → IsC x) (hlen : t.f2.length ≤ 9223372036854775807) (w : World) (A : Option Addr) (c : Nat) (hC : Kd.C k24 w A t.f2.length t.f2) (hc : t.f2.length ≤ c) :
    Calls Tryd.prog 11 #[.agg #[.string t.f0, .string t.f1, .slice A t.f2.length c], .int .i64 2, .bool false, .bool false, .bool false] w fun e w' => ∃ b, e = .returned (.bool b) ∧ (b = true → KidsOk t.f2 2 false false false) ∧ Below w.heap.size w w' := by
  obtain ⟨s0, s1, ts⟩ := t
  simp only at I hlen hC hc ⊢
  have HI := Aside0.mk I
  have HC := Aside0.mk hC
  have HN := Aside0.mk hlen
  clear I hC hlen
  by_cases hle : ts.length < 2
  · have d0 : decide ((ts.length : Int) < 2) = true := decide_eq_true (by omega)
    have d1 : decide (ts.length < 2) = true := decide_eq_true hle
    go_enter Tryd.func11, Tryd.ntmps11
    go_wp2
    go_ret
    exact ⟨false, rfl, by simp, below_alloc (Below.refl _ _) _⟩
  · have d0 : decide ((ts.length : Int) < 2) = false := decide_eq_false (by omega)
    have d1 : decide (ts.length < 2) = false := decide_eq_false hle
    by_cases hgt : 2 < ts.length
    · have d2 : decide ((2 : Int) < ts.length) = true := decide_eq_true (by omega)
      have d3 : decide (2 < ts.length) = true := decide_eq_true hgt
      go_enter Tryd.func11, Tryd.ntmps11
      go_wp2
      go_ret
      exact ⟨false, rfl, by simp, below_alloc (Below.refl _ _) _⟩
    · have d2 : decide ((2 : Int) < ts.length) = false := decide_eq_false (by omega)
      have d3 : decide (2 < ts.length) = false := decide_eq_false hgt
      have HLE := Aside0.mk hle
      have HGT := Aside0.mk hgt
      clear hle hgt
      have hlen := HN.out
      go_enter Tryd.func11, Tryd.ntmps11
      go_wp2
      go_loopw [33] (fun i wr => ∃ k : Nat, k ≤ ts.length ∧ i = .int .i64 k ∧ Aside0 (Upto ts false false k) ∧ Aside0 (Below w.heap.size w wr)) (fun i _ => ts.length - (intOf i).toNat)
      case atStart => exact ⟨0, Nat.zero_le _, rfl, ⟨fun j x hj => absurd hj (by omega)⟩, ⟨below_alloc (Below.refl _ _) _⟩⟩
      case round =>
        obtain ⟨k, hk, rfl, HU, HB⟩ := hrel
        by_cases hlt : k < ts.length
        · obtain ⟨x, hx⟩ : ∃ x, ts[k]? = some x := ⟨_, List.getElem?_eq_getElem hlt⟩
          obtain ⟨ad, A2, c2, rfl, h0, h1, h2, h3, h4⟩ := kid_cells HC.out k x hx
          replace h0 := cell_up HB.out h0
          replace h1 := cell_up HB.out h1
          replace h2 := cell_up HB.out h2
          have H4 := Aside0.mk (Kd.C_below h4 HB.out)
          have H3 := Aside0.mk h3
          have HT := Aside0.mk hx
          have hkn : x.f2.length ≤ 9223372036854775807 := Kd.C_max H4.out
          clear h4 h3 hx
          by_cases m0 : x.f0.toList = []
          · have M0 := Aside0.mk m0
            have b0 : (x.f0.toList == []) = true := by rw [m0]; rfl
            clear m0
            by_cases m1 : x.f1.toList = []
            · have M1 := Aside0.mk m1
              have b1 : (x.f1.toList == []) = true := by rw [m1]; rfl
              clear m1
              by_cases m2 : x.f2.length = 0
              · have M2 := Aside0.mk m2
                have b2 : ((x.f2.length : Int) == 0) = true := beq_iff_eq.mpr (by omega)
                have b3 : (x.f2.length == 0) = true := beq_iff_eq.mpr m2
                clear m2
                go_wp2_with (first | (go_at_call 6; (with_reducible refine ((HI.out k x HT.out).go _ A2 c2 (Kd.C_alloc H4.out _) H3.out).mono ?_); rintro e w1 ⟨b, rfl, hg, hb⟩; have HG := Aside0.mk hg; have HB2 := Aside0.mk (below_step HB.out (below_step (below_alloc (Below.refl _ _) _) hb)); clear hg hb))
                · go_ret
                  exact ⟨false, rfl, by simp, HB2.out⟩
                · have hb : b = true := by simpa using ‹(!b) = false›
                  have HGB := Aside0.mk (HG.out hb)
                  clear hb
                  go_roundw
                  case rel => exact ⟨k + 1, by omega, by go_num, ⟨HU.out.step HT.out (.made HGB.out)⟩, ⟨HB2.out⟩⟩
                  case measure => simp [intOf]; omega
              · have b2 : ((x.f2.length : Int) == 0) = false := beq_eq_false_iff_ne.mpr (by omega)
                have b3 : (x.f2.length == 0) = false := beq_eq_false_iff_ne.mpr m2
                clear m2
                go_wp2_with (first | (go_at_call 6; (with_reducible refine ((HI.out k x HT.out).go _ A2 c2 (Kd.C_alloc H4.out _) H3.out).mono ?_); rintro e w1 ⟨b, rfl, hg, hb⟩; have HG := Aside0.mk hg; have HB2 := Aside0.mk (below_step HB.out (below_step (below_alloc (Below.refl _ _) _) hb)); clear hg hb))
                · go_ret
                  exact ⟨false, rfl, by simp, HB2.out⟩
                · have hb : b = true := by simpa using ‹(!b) = false›
                  have HGB := Aside0.mk (HG.out hb)
                  clear hb
                  go_roundw
                  case rel => exact ⟨k + 1, by omega, by go_num, ⟨HU.out.step HT.out (.made HGB.out)⟩, ⟨HB2.out⟩⟩
                  case measure => simp [intOf]; omega
            · have b1 : (x.f1.toList == []) = false := beq_eq_false_iff_ne.mpr m1
              clear m1
              go_wp2_with (first | (go_at_call 6; (with_reducible refine ((HI.out k x HT.out).go _ A2 c2 (Kd.C_alloc H4.out _) H3.out).mono ?_); rintro e w1 ⟨b, rfl, hg, hb⟩; have HG := Aside0.mk hg; have HB2 := Aside0.mk (below_step HB.out (below_step (below_alloc (Below.refl _ _) _) hb)); clear hg hb))
              · go_ret
                exact ⟨false, rfl, by simp, HB2.out⟩
              · have hb : b = true := by simpa using ‹(!b) = false›
                have HGB := Aside0.mk (HG.out hb)
                clear hb
                go_roundw
                case rel => exact ⟨k + 1, by omega, by go_num, ⟨HU.out.step HT.out (.made HGB.out)⟩, ⟨HB2.out⟩⟩
                case measure => simp [intOf]; omega
          · have b0 : (x.f0.toList == []) = false := beq_eq_false_iff_ne.mpr m0
            clear m0
            go_wp2_with (first | (go_at_call 6; (with_reducible refine ((HI.out k x HT.out).go _ A2 c2 (Kd.C_alloc H4.out _) H3.out).mono ?_); rintro e w1 ⟨b, rfl, hg, hb⟩; have HG := Aside0.mk hg; have HB2 := Aside0.mk (below_step HB.out (below_step (below_alloc (Below.refl _ _) _) hb)); clear hg hb))
            · go_ret
              exact ⟨false, rfl, by simp, HB2.out⟩
            · have hb : b = true := by simpa using ‹(!b) = false›
              have HGB := Aside0.mk (HG.out hb)
              clear hb
              go_roundw
              case rel => exact ⟨k + 1, by omega, by go_num, ⟨HU.out.step HT.out (.made HGB.out)⟩, ⟨HB2.out⟩⟩
              case measure => simp [intOf]; omega
        · obtain rfl : k = ts.length := by omega
          go_wp2
          go_ret
          exact ⟨true, rfl, fun _ => ⟨by have := HLE.out; omega, fun _ => by have := HLE.out; have := HGT.out; omega, fun j x hx => HU.out j x (List.getElem?_eq_some_iff.1 hx).1 hx⟩, HB.out⟩

set_option maxHeartbeats 4000000 in
set_option maxRecDepth 100000 in
theorem kids_1_tff (t : S24) (I : ∀ (j : Nat) (x : S24), t.f2[j]? = some x → IsC x) (hlen : t.f2.length ≤ 9223372036854775807) (w : World) (A : Option Addr) (c : Nat) (hC : Kd.C k24 w A t.f2.length t.f2) (hc : t.f2.length ≤ c) :
    Calls Tryd.prog 11 #[.agg #[.string t.f0, .string t.f1, .slice A t.f2.length c], .int .i64 1, .bool true, .bool false, .bool false] w fun e w' => ∃ b, e = .returned (.bool b) ∧ (b = true → KidsOk t.f2 1 true false false) ∧ Below w.heap.size w w' := by
  obtain ⟨s0, s1, ts⟩ := t
  simp only at I hlen hC hc ⊢
  have HI := Aside0.mk I
  have HC := Aside0.mk hC
  have HN := Aside0.mk hlen
  clear I hC hlen
  by_cases hle : ts.length < 1
  · have d0 : decide ((ts.length : Int) < 1) = true := decide_eq_true (by omega)
    have d1 : decide (ts.length < 1) = true := decide_eq_true hle
    go_enter Tryd.func11, Tryd.ntmps11
    go_wp2
    go_ret
    exact ⟨false, rfl, by simp, below_alloc (Below.refl _ _) _⟩
  · have d0 : decide ((ts.length : Int) < 1) = false := decide_eq_false (by omega)
    have d1 : decide (ts.length < 1) = false := decide_eq_false hle
    by_cases hgt : 1 < ts.length
    · have d2 : decide ((1 : Int) < ts.length) = true := decide_eq_true (by omega)
      have d3 : decide (1 < ts.length) = true := decide_eq_true hgt
      have HLE := Aside0.mk hle
      have HGT := Aside0.mk hgt
      clear hle hgt
      have hlen := HN.out
      go_enter Tryd.func11, Tryd.ntmps11
      go_wp2
      go_loopw [33] (fun i wr => ∃ k : Nat, k ≤ ts.length ∧ i = .int .i64 k ∧ Aside0 (Upto ts false false k) ∧ Aside0 (Below w.heap.size w wr)) (fun i _ => ts.length - (intOf i).toNat)
      case atStart => exact ⟨0, Nat.zero_le _, rfl, ⟨fun j x hj => absurd hj (by omega)⟩, ⟨below_alloc (Below.refl _ _) _⟩⟩
      case round =>
        obtain ⟨k, hk, rfl, HU, HB⟩ := hrel
        by_cases hlt : k < ts.length
        · obtain ⟨x, hx⟩ : ∃ x, ts[k]? = some x := ⟨_, List.getElem?_eq_getElem hlt⟩
          obtain ⟨ad, A2, c2, rfl, h0, h1, h2, h3, h4⟩ := kid_cells HC.out k x hx
          replace h0 := cell_up HB.out h0
          replace h1 := cell_up HB.out h1
          replace h2 := cell_up HB.out h2
          have H4 := Aside0.mk (Kd.C_below h4 HB.out)
          have H3 := Aside0.mk h3
          have HT := Aside0.mk hx
          have hkn : x.f2.length ≤ 9223372036854775807 := Kd.C_max H4.out
          clear h4 h3 hx
          by_cases m0 : x.f0.toList = []
          · have M0 := Aside0.mk m0
            have b0 : (x.f0.toList == []) = true := by rw [m0]; rfl
            clear m0
            by_cases m1 : x.f1.toList = []
            · have M1 := Aside0.mk m1
              have b1 : (x.f1.toList == []) = true := by rw [m1]; rfl
              clear m1
              by_cases m2 : x.f2.length = 0
              · have M2 := Aside0.mk m2
                have b2 : ((x.f2.length : Int) == 0) = true := beq_iff_eq.mpr (by omega)
                have b3 : (x.f2.length == 0) = true := beq_iff_eq.mpr m2
                clear m2
                go_wp2_with (first | (go_at_call 6; (with_reducible refine ((HI.out k x HT.out).go _ A2 c2 (Kd.C_alloc H4.out _) H3.out).mono ?_); rintro e w1 ⟨b, rfl, hg, hb⟩; have HG := Aside0.mk hg; have HB2 := Aside0.mk (below_step HB.out (below_step (below_alloc (Below.refl _ _) _) hb)); clear hg hb))
                · go_ret
                  exact ⟨false, rfl, by simp, HB2.out⟩
                · have hb : b = true := by simpa using ‹(!b) = false›
                  have HGB := Aside0.mk (HG.out hb)
                  clear hb
                  go_roundw
                  case rel => exact ⟨k + 1, by omega, by go_num, ⟨HU.out.step HT.out (.made HGB.out)⟩, ⟨HB2.out⟩⟩
                  case measure => simp [intOf]; omega
              · have b2 : ((x.f2.length : Int) == 0) = false := beq_eq_false_iff_ne.mpr (by omega)
                have b3 : (x.f2.length == 0) = false := beq_eq_false_iff_ne.mpr m2
                clear m2
                go_wp2_with (first | (go_at_call 6; (with_reducible refine ((HI.out k x HT.out).go _ A2 c2 (Kd.C_alloc H4.out _) H3.out).mono ?_); rintro e w1 ⟨b, rfl, hg, hb⟩; have HG := Aside0.mk hg; have HB2 := Aside0.mk (below_step HB.out (below_step (below_alloc (Below.refl _ _) _) hb)); clear hg hb))
                · go_ret
                  exact ⟨false, rfl, by simp, HB2.out⟩
                · have hb : b = true := by simpa using ‹(!b) = false›
                  have HGB := Aside0.mk (HG.out hb)
                  clear hb
                  go_roundw
                  case rel => exact ⟨k + 1, by omega, by go_num, ⟨HU.out.step HT.out (.made HGB.out)⟩, ⟨HB2.out⟩⟩
                  case measure => simp [intOf]; omega
            · have b1 : (x.f1.toList == []) = false := beq_eq_false_iff_ne.mpr m1
              clear m1
              go_wp2_with (first | (go_at_call 6; (with_reducible refine ((HI.out k x HT.out).go _ A2 c2 (Kd.C_alloc H4.out _) H3.out).mono ?_); rintro e w1 ⟨b, rfl, hg, hb⟩; have HG := Aside0.mk hg; have HB2 := Aside0.mk (below_step HB.out (below_step (below_alloc (Below.refl _ _) _) hb)); clear hg hb))
              · go_ret
                exact ⟨false, rfl, by simp, HB2.out⟩
              · have hb : b = true := by simpa using ‹(!b) = false›
                have HGB := Aside0.mk (HG.out hb)
                clear hb
                go_roundw
                case rel => exact ⟨k + 1, by omega, by go_num, ⟨HU.out.step HT.out (.made HGB.out)⟩, ⟨HB2.out⟩⟩
                case measure => simp [intOf]; omega
          · have b0 : (x.f0.toList == []) = false := beq_eq_false_iff_ne.mpr m0
            clear m0
            go_wp2_with (first | (go_at_call 6; (with_reducible refine ((HI.out k x HT.out).go _ A2 c2 (Kd.C_alloc H4.out _) H3.out).mono ?_); rintro e w1 ⟨b, rfl, hg, hb⟩; have HG := Aside0.mk hg; have HB2 := Aside0.mk (below_step HB.out (below_step (below_alloc (Below.refl _ _) _) hb)); clear hg hb))
            · go_ret
              exact ⟨false, rfl, by simp, HB2.out⟩
            · have hb : b = true := by simpa using ‹(!b) = false›
              have HGB := Aside0.mk (HG.out hb)
              clear hb
              go_roundw
              case rel => exact ⟨k + 1, by omega, by go_num, ⟨HU.out.step HT.out (.made HGB.out)⟩, ⟨HB2.out⟩⟩
              case measure => simp [intOf]; omega
        · obtain rfl : k = ts.length := by omega
          go_wp2
          go_ret
          exact ⟨true, rfl, fun _ => ⟨by have := HLE.out; omega, by simp, fun j x hx => HU.out j x (List.getElem?_eq_some_iff.1 hx).1 hx⟩, HB.out⟩
    · have d2 : decide ((1 : Int) < ts.length) = false := decide_eq_false (by omega)
      have d3 : decide (1 < ts.length) = false := decide_eq_false hgt
      have HLE := Aside0.mk hle
      have HGT := Aside0.mk hgt
      clear hle hgt
      have hlen := HN.out
      go_enter Tryd.func11, Tryd.ntmps11
      go_wp2
      go_loopw [33] (fun i wr => ∃ k : Nat, k ≤ ts.length ∧ i = .int .i64 k ∧ Aside0 (Upto ts false false k) ∧ Aside0 (Below w.heap.size w wr)) (fun i _ => ts.length - (intOf i).toNat)
      case atStart => exact ⟨0, Nat.zero_le _, rfl, ⟨fun j x hj => absurd hj (by omega)⟩, ⟨below_alloc (Below.refl _ _) _⟩⟩
      case round =>
        obtain ⟨k, hk, rfl, HU, HB⟩ := hrel
        by_cases hlt : k < ts.length
        · obtain ⟨x, hx⟩ : ∃ x, ts[k]? = some x := ⟨_, List.getElem?_eq_getElem hlt⟩
          obtain ⟨ad, A2, c2, rfl, h0, h1, h2, h3, h4⟩ := kid_cells HC.out k x hx
          replace h0 := cell_up HB.out h0
          replace h1 := cell_up HB.out h1
          replace h2 := cell_up HB.out h2
          have H4 := Aside0.mk (Kd.C_below h4 HB.out)
          have H3 := Aside0.mk h3
          have HT := Aside0.mk hx
          have hkn : x.f2.length ≤ 9223372036854775807 := Kd.C_max H4.out
          clear h4 h3 hx
          by_cases m0 : x.f0.toList = []
          · have M0 := Aside0.mk m0
            have b0 : (x.f0.toList == []) = true := by rw [m0]; rfl
            clear m0
            by_cases m1 : x.f1.toList = []
            · have M1 := Aside0.mk m1
              have b1 : (x.f1.toList == []) = true := by rw [m1]; rfl
              clear m1
              by_cases m2 : x.f2.length = 0
              · have M2 := Aside0.mk m2
                have b2 : ((x.f2.length : Int) == 0) = true := beq_iff_eq.mpr (by omega)
                have b3 : (x.f2.length == 0) = true := beq_iff_eq.mpr m2
                clear m2
                go_wp2_with (first | (go_at_call 6; (with_reducible refine ((HI.out k x HT.out).go _ A2 c2 (Kd.C_alloc H4.out _) H3.out).mono ?_); rintro e w1 ⟨b, rfl, hg, hb⟩; have HG := Aside0.mk hg; have HB2 := Aside0.mk (below_step HB.out (below_step (below_alloc (Below.refl _ _) _) hb)); clear hg hb))
                · go_ret
                  exact ⟨false, rfl, by simp, HB2.out⟩
                · have hb : b = true := by simpa using ‹(!b) = false›
                  have HGB := Aside0.mk (HG.out hb)
                  clear hb
                  go_roundw
                  case rel => exact ⟨k + 1, by omega, by go_num, ⟨HU.out.step HT.out (.made HGB.out)⟩, ⟨HB2.out⟩⟩
                  case measure => simp [intOf]; omega
              · have b2 : ((x.f2.length : Int) == 0) = false := beq_eq_false_iff_ne.mpr (by omega)
                have b3 : (x.f2.length == 0) = false := beq_eq_false_iff_ne.mpr m2
                clear m2
                go_wp2_with (first | (go_at_call 6; (with_reducible refine ((HI.out k x HT.out).go _ A2 c2 (Kd.C_alloc H4.out _) H3.out).mono ?_); rintro e w1 ⟨b, rfl, hg, hb⟩; have HG := Aside0.mk hg; have HB2 := Aside0.mk (below_step HB.out (below_step (below_alloc (Below.refl _ _) _) hb)); clear hg hb))
                · go_ret
                  exact ⟨false, rfl, by simp, HB2.out⟩
                · have hb : b = true := by simpa using ‹(!b) = false›
                  have HGB := Aside0.mk (HG.out hb)
                  clear hb
                  go_roundw
                  case rel => exact ⟨k + 1, by omega, by go_num, ⟨HU.out.step HT.out (.made HGB.out)⟩, ⟨HB2.out⟩⟩
                  case measure => simp [intOf]; omega
            · have b1 : (x.f1.toList == []) = false := beq_eq_false_iff_ne.mpr m1
              clear m1
              go_wp2_with (first | (go_at_call 6; (with_reducible refine ((HI.out k x HT.out).go _ A2 c2 (Kd.C_alloc H4.out _) H3.out).mono ?_); rintro e w1 ⟨b, rfl, hg, hb⟩; have HG := Aside0.mk hg; have HB2 := Aside0.mk (below_step HB.out (below_step (below_alloc (Below.refl _ _) _) hb)); clear hg hb))
              · go_ret
                exact ⟨false, rfl, by simp, HB2.out⟩
              · have hb : b = true := by simpa using ‹(!b) = false›
                have HGB := Aside0.mk (HG.out hb)
                clear hb
                go_roundw
                case rel => exact ⟨k + 1, by omega, by go_num, ⟨HU.out.step HT.out (.made HGB.out)⟩, ⟨HB2.out⟩⟩
                case measure => simp [intOf]; omega
          · have b0 : (x.f0.toList == []) = false := beq_eq_false_iff_ne.mpr m0
            clear m0
            go_wp2_with (first | (go_at_call 6; (with_reducible refine ((HI.out k x HT.out).go _ A2 c2 (Kd.C_alloc H4.out _) H3.out).mono ?_); rintro e w1 ⟨b, rfl, hg, hb⟩; have HG := Aside0.mk hg; have HB2 := Aside0.mk (below_step HB.out (below_step (below_alloc (Below.refl _ _) _) hb)); clear hg hb))
            · go_ret
              exact ⟨false, rfl, by simp, HB2.out⟩
            · have hb : b = true := by simpa using ‹(!b) = false›
              have HGB := Aside0.mk (HG.out hb)
              clear hb
              go_roundw
              case rel => exact ⟨k + 1, by omega, by go_num, ⟨HU.out.step HT.out (.made HGB.out)⟩, ⟨HB2.out⟩⟩
              case measure => simp [intOf]; omega
        · obtain rfl : k = ts.length := by omega
          go_wp2
          go_ret
          exact ⟨true, rfl, fun _ => ⟨by have := HLE.out; omega, by simp, fun j x hx => HU.out j x (List.getElem?_eq_some_iff.1 hx).1 hx⟩, HB.out⟩

set_option maxHeartbeats 4000000 in
set_option maxRecDepth 100000 in
theorem kids_4_fft (t : S24) (I : ∀ (j : Nat) (x : S24), t.f2[j]? = some x → IsC x) (hlen : t.f2.length ≤ 9223372036854775807) (w : World) (A : Option Addr) (c : Nat) (hC : Kd.C k24 w A t.f2.length t.f2) (hc : t.f2.length ≤ c) :
    Calls Tryd.prog 11 #[.agg #[.string t.f0, .string t.f1, .slice A t.f2.length c], .int .i64 4, .bool false, .bool false, .bool true] w fun e w' => ∃ b, e = .returned (.bool b) ∧ (b = true → KidsOk t.f2 4 false false true) ∧ Below w.heap.size w w' := by
  obtain ⟨s0, s1, ts⟩ := t
  simp only at I hlen hC hc ⊢
  have HI := Aside0.mk I
  have HC := Aside0.mk hC
  have HN := Aside0.mk hlen
  clear I hC hlen
  by_cases hle : ts.length < 4
  · have d0 : decide ((ts.length : Int) < 4) = true := decide_eq_true (by omega)
    have d1 : decide (ts.length < 4) = true := decide_eq_true hle
    go_enter Tryd.func11, Tryd.ntmps11
    go_wp2
    go_ret
    exact ⟨false, rfl, by simp, below_alloc (Below.refl _ _) _⟩
  · have d0 : decide ((ts.length : Int) < 4) = false := decide_eq_false (by omega)
    have d1 : decide (ts.length < 4) = false := decide_eq_false hle
    by_cases hgt : 4 < ts.length
    · have d2 : decide ((4 : Int) < ts.length) = true := decide_eq_true (by omega)
      have d3 : decide (4 < ts.length) = true := decide_eq_true hgt
      go_enter Tryd.func11, Tryd.ntmps11
      go_wp2
      go_ret
      exact ⟨false, rfl, by simp, below_alloc (Below.refl _ _) _⟩
    · have d2 : decide ((4 : Int) < ts.length) = false := decide_eq_false (by omega)
      have d3 : decide (4 < ts.length) = false := decide_eq_false hgt
      have HLE := Aside0.mk hle
      have HGT := Aside0.mk hgt
      clear hle hgt
      have hlen := HN.out
      go_enter Tryd.func11, Tryd.ntmps11
      go_wp2
      go_loopw [33] (fun i wr => ∃ k : Nat, k ≤ ts.length ∧ i = .int .i64 k ∧ Aside0 (Upto ts false true k) ∧ Aside0 (Below w.heap.size w wr)) (fun i _ => ts.length - (intOf i).toNat)
      case atStart => exact ⟨0, Nat.zero_le _, rfl, ⟨fun j x hj => absurd hj (by omega)⟩, ⟨below_alloc (Below.refl _ _) _⟩⟩
      case round =>
        obtain ⟨k, hk, rfl, HU, HB⟩ := hrel
        by_cases hlt : k < ts.length
        · obtain ⟨x, hx⟩ : ∃ x, ts[k]? = some x := ⟨_, List.getElem?_eq_getElem hlt⟩
          obtain ⟨ad, A2, c2, rfl, h0, h1, h2, h3, h4⟩ := kid_cells HC.out k x hx
          replace h0 := cell_up HB.out h0
          replace h1 := cell_up HB.out h1
          replace h2 := cell_up HB.out h2
          have H4 := Aside0.mk (Kd.C_below h4 HB.out)
          have H3 := Aside0.mk h3
          have HT := Aside0.mk hx
          have hkn : x.f2.length ≤ 9223372036854775807 := Kd.C_max H4.out
          clear h4 h3 hx
          by_cases m0 : x.f0.toList = []
          · have M0 := Aside0.mk m0
            have b0 : (x.f0.toList == []) = true := by rw [m0]; rfl
            clear m0
            by_cases m1 : x.f1.toList = []
            · have M1 := Aside0.mk m1
              have b1 : (x.f1.toList == []) = true := by rw [m1]; rfl
              clear m1
              by_cases m2 : x.f2.length = 0
              · have M2 := Aside0.mk m2
                have b2 : ((x.f2.length : Int) == 0) = true := beq_iff_eq.mpr (by omega)
                have b3 : (x.f2.length == 0) = true := beq_iff_eq.mpr m2
                clear m2
                by_cases hz : k = 0
                · have z0 : ((k : Int) == 0) = true := beq_iff_eq.mpr (by omega)
                  have z1 : (k == 0) = true := beq_iff_eq.mpr hz
                  have z2 : decide (0 < (k : Int)) = false := decide_eq_false (by omega)
                  have z3 : decide (0 < k) = false := decide_eq_false (by omega)
                  have HZ := Aside0.mk hz
                  clear hz
                  go_wp2_with (first | (go_at_call 6; (with_reducible refine ((HI.out k x HT.out).go _ A2 c2 (Kd.C_alloc H4.out _) H3.out).mono ?_); rintro e w1 ⟨b, rfl, hg, hb⟩; have HG := Aside0.mk hg; have HB2 := Aside0.mk (below_step HB.out (below_step (below_alloc (Below.refl _ _) _) hb)); clear hg hb))
                  · go_ret
                    exact ⟨false, rfl, by simp, HB2.out⟩
                  · have hb : b = true := by simpa using ‹(!b) = false›
                    have HGB := Aside0.mk (HG.out hb)
                    clear hb
                    go_roundw
                    case rel => exact ⟨k + 1, by omega, by go_num, ⟨HU.out.step HT.out (.made HGB.out)⟩, ⟨HB2.out⟩⟩
                    case measure => simp [intOf]; omega
                · have z0 : ((k : Int) == 0) = false := beq_eq_false_iff_ne.mpr (by omega)
                  have z1 : (k == 0) = false := beq_eq_false_iff_ne.mpr hz
                  have z2 : decide (0 < (k : Int)) = true := decide_eq_true (by omega)
                  have z3 : decide (0 < k) = true := decide_eq_true (by omega)
                  have HZ := Aside0.mk hz
                  clear hz
                  go_wp2
                  go_roundw
                  case rel => exact ⟨k + 1, by omega, by go_num, ⟨HU.out.step HT.out (.missing M0.out M1.out M2.out (.inr ⟨rfl, by have := HZ.out; omega⟩))⟩, ⟨below_alloc HB.out _⟩⟩
                  case measure => simp [intOf]; omega
              · have b2 : ((x.f2.length : Int) == 0) = false := beq_eq_false_iff_ne.mpr (by omega)
                have b3 : (x.f2.length == 0) = false := beq_eq_false_iff_ne.mpr m2
                clear m2
                go_wp2_with (first | (go_at_call 6; (with_reducible refine ((HI.out k x HT.out).go _ A2 c2 (Kd.C_alloc H4.out _) H3.out).mono ?_); rintro e w1 ⟨b, rfl, hg, hb⟩; have HG := Aside0.mk hg; have HB2 := Aside0.mk (below_step HB.out (below_step (below_alloc (Below.refl _ _) _) hb)); clear hg hb))
                · go_ret
                  exact ⟨false, rfl, by simp, HB2.out⟩
                · have hb : b = true := by simpa using ‹(!b) = false›
                  have HGB := Aside0.mk (HG.out hb)
                  clear hb
                  go_roundw
                  case rel => exact ⟨k + 1, by omega, by go_num, ⟨HU.out.step HT.out (.made HGB.out)⟩, ⟨HB2.out⟩⟩
                  case measure => simp [intOf]; omega
            · have b1 : (x.f1.toList == []) = false := beq_eq_false_iff_ne.mpr m1
              clear m1
              go_wp2_with (first | (go_at_call 6; (with_reducible refine ((HI.out k x HT.out).go _ A2 c2 (Kd.C_alloc H4.out _) H3.out).mono ?_); rintro e w1 ⟨b, rfl, hg, hb⟩; have HG := Aside0.mk hg; have HB2 := Aside0.mk (below_step HB.out (below_step (below_alloc (Below.refl _ _) _) hb)); clear hg hb))
              · go_ret
                exact ⟨false, rfl, by simp, HB2.out⟩
              · have hb : b = true := by simpa using ‹(!b) = false›
                have HGB := Aside0.mk (HG.out hb)
                clear hb
                go_roundw
                case rel => exact ⟨k + 1, by omega, by go_num, ⟨HU.out.step HT.out (.made HGB.out)⟩, ⟨HB2.out⟩⟩
                case measure => simp [intOf]; omega
          · have b0 : (x.f0.toList == []) = false := beq_eq_false_iff_ne.mpr m0
            clear m0
            go_wp2_with (first | (go_at_call 6; (with_reducible refine ((HI.out k x HT.out).go _ A2 c2 (Kd.C_alloc H4.out _) H3.out).mono ?_); rintro e w1 ⟨b, rfl, hg, hb⟩; have HG := Aside0.mk hg; have HB2 := Aside0.mk (below_step HB.out (below_step (below_alloc (Below.refl _ _) _) hb)); clear hg hb))
            · go_ret
              exact ⟨false, rfl, by simp, HB2.out⟩
            · have hb : b = true := by simpa using ‹(!b) = false›
              have HGB := Aside0.mk (HG.out hb)
              clear hb
              go_roundw
              case rel => exact ⟨k + 1, by omega, by go_num, ⟨HU.out.step HT.out (.made HGB.out)⟩, ⟨HB2.out⟩⟩
              case measure => simp [intOf]; omega
        · obtain rfl : k = ts.length := by omega
          go_wp2
          go_ret
          exact ⟨true, rfl, fun _ => ⟨by have := HLE.out; omega, fun _ => by have := HLE.out; have := HGT.out; omega, fun j x hx => HU.out j x (List.getElem?_eq_some_iff.1 hx).1 hx⟩, HB.out⟩

set_option maxHeartbeats 4000000 in
set_option maxRecDepth 100000 in
theorem kids_1_ttf (t : S24) (I : ∀ (j : Nat) (x : S24), t.f2[j]? = some x → IsC x) (hlen : t.f2.length ≤ 9223372036854775807) (w : World) (A : Option Addr) (c : Nat) (hC : Kd.C k24 w A t.f2.length t.f2) (hc : t.f2.length ≤ c) :
    Calls Tryd.prog 11 #[.agg #[.string t.f0, .string t.f1, .slice A t.f2.length c], .int .i64 1, .bool true, .bool true, .bool false] w fun e w' => ∃ b, e = .returned (.bool b) ∧ (b = true → KidsOk t.f2 1 true true false) ∧ Below w.heap.size w w' := by
  obtain ⟨s0, s1, ts⟩ := t
  simp only at I hlen hC hc ⊢
  have HI := Aside0.mk I
  have HC := Aside0.mk hC
  have HN := Aside0.mk hlen
  clear I hC hlen
  by_cases hle : ts.length < 1
  · have d0 : decide ((ts.length : Int) < 1) = true := decide_eq_true (by omega)
    have d1 : decide (ts.length < 1) = true := decide_eq_true hle
    go_enter Tryd.func11, Tryd.ntmps11
    go_wp2
    go_ret
    exact ⟨false, rfl, by simp, below_alloc (Below.refl _ _) _⟩
  · have d0 : decide ((ts.length : Int) < 1) = false := decide_eq_false (by omega)
    have d1 : decide (ts.length < 1) = false := decide_eq_false hle
    by_cases hgt : 1 < ts.length
    · have d2 : decide ((1 : Int) < ts.length) = true := decide_eq_true (by omega)
      have d3 : decide (1 < ts.length) = true := decide_eq_true hgt
      have HLE := Aside0.mk hle
      have HGT := Aside0.mk hgt
      clear hle hgt
      have hlen := HN.out
      go_enter Tryd.func11, Tryd.ntmps11
      go_wp2
      go_loopw [33] (fun i wr => ∃ k : Nat, k ≤ ts.length ∧ i = .int .i64 k ∧ Aside0 (Upto ts true false k) ∧ Aside0 (Below w.heap.size w wr)) (fun i _ => ts.length - (intOf i).toNat)
      case atStart => exact ⟨0, Nat.zero_le _, rfl, ⟨fun j x hj => absurd hj (by omega)⟩, ⟨below_alloc (Below.refl _ _) _⟩⟩
      case round =>
        obtain ⟨k, hk, rfl, HU, HB⟩ := hrel
        by_cases hlt : k < ts.length
        · obtain ⟨x, hx⟩ : ∃ x, ts[k]? = some x := ⟨_, List.getElem?_eq_getElem hlt⟩
          obtain ⟨ad, A2, c2, rfl, h0, h1, h2, h3, h4⟩ := kid_cells HC.out k x hx
          replace h0 := cell_up HB.out h0
          replace h1 := cell_up HB.out h1
          replace h2 := cell_up HB.out h2
          have H4 := Aside0.mk (Kd.C_below h4 HB.out)
          have H3 := Aside0.mk h3
          have HT := Aside0.mk hx
          have hkn : x.f2.length ≤ 9223372036854775807 := Kd.C_max H4.out
          clear h4 h3 hx
          by_cases m0 : x.f0.toList = []
          · have M0 := Aside0.mk m0
            have b0 : (x.f0.toList == []) = true := by rw [m0]; rfl
            clear m0
            by_cases m1 : x.f1.toList = []
            · have M1 := Aside0.mk m1
              have b1 : (x.f1.toList == []) = true := by rw [m1]; rfl
              clear m1
              by_cases m2 : x.f2.length = 0
              · have M2 := Aside0.mk m2
                have b2 : ((x.f2.length : Int) == 0) = true := beq_iff_eq.mpr (by omega)
                have b3 : (x.f2.length == 0) = true := beq_iff_eq.mpr m2
                clear m2
                by_cases hz : k = 0
                · have z0 : ((k : Int) == 0) = true := beq_iff_eq.mpr (by omega)
                  have z1 : (k == 0) = true := beq_iff_eq.mpr hz
                  have z2 : decide (0 < (k : Int)) = false := decide_eq_false (by omega)
                  have z3 : decide (0 < k) = false := decide_eq_false (by omega)
                  have HZ := Aside0.mk hz
                  clear hz
                  go_wp2
                  go_roundw
                  case rel => exact ⟨k + 1, by omega, by go_num, ⟨HU.out.step HT.out (.missing M0.out M1.out M2.out (.inl ⟨rfl, HZ.out⟩))⟩, ⟨below_alloc HB.out _⟩⟩
                  case measure => simp [intOf]; omega
                · have z0 : ((k : Int) == 0) = false := beq_eq_false_iff_ne.mpr (by omega)
                  have z1 : (k == 0) = false := beq_eq_false_iff_ne.mpr hz
                  have z2 : decide (0 < (k : Int)) = true := decide_eq_true (by omega)
                  have z3 : decide (0 < k) = true := decide_eq_true (by omega)
                  have HZ := Aside0.mk hz
                  clear hz
                  go_wp2_with (first | (go_at_call 6; (with_reducible refine ((HI.out k x HT.out).go _ A2 c2 (Kd.C_alloc H4.out _) H3.out).mono ?_); rintro e w1 ⟨b, rfl, hg, hb⟩; have HG := Aside0.mk hg; have HB2 := Aside0.mk (below_step HB.out (below_step (below_alloc (Below.refl _ _) _) hb)); clear hg hb))
                  · go_ret
                    exact ⟨false, rfl, by simp, HB2.out⟩
                  · have hb : b = true := by simpa using ‹(!b) = false›
                    have HGB := Aside0.mk (HG.out hb)
                    clear hb
                    go_roundw
                    case rel => exact ⟨k + 1, by omega, by go_num, ⟨HU.out.step HT.out (.made HGB.out)⟩, ⟨HB2.out⟩⟩
                    case measure => simp [intOf]; omega
              · have b2 : ((x.f2.length : Int) == 0) = false := beq_eq_false_iff_ne.mpr (by omega)
                have b3 : (x.f2.length == 0) = false := beq_eq_false_iff_ne.mpr m2
                clear m2
                go_wp2_with (first | (go_at_call 6; (with_reducible refine ((HI.out k x HT.out).go _ A2 c2 (Kd.C_alloc H4.out _) H3.out).mono ?_); rintro e w1 ⟨b, rfl, hg, hb⟩; have HG := Aside0.mk hg; have HB2 := Aside0.mk (below_step HB.out (below_step (below_alloc (Below.refl _ _) _) hb)); clear hg hb))
                · go_ret
                  exact ⟨false, rfl, by simp, HB2.out⟩
                · have hb : b = true := by simpa using ‹(!b) = false›
                  have HGB := Aside0.mk (HG.out hb)
                  clear hb
                  go_roundw
                  case rel => exact ⟨k + 1, by omega, by go_num, ⟨HU.out.step HT.out (.made HGB.out)⟩, ⟨HB2.out⟩⟩
                  case measure => simp [intOf]; omega
            · have b1 : (x.f1.toList == []) = false := beq_eq_false_iff_ne.mpr m1
              clear m1
              go_wp2_with (first | (go_at_call 6; (with_reducible refine ((HI.out k x HT.out).go _ A2 c2 (Kd.C_alloc H4.out _) H3.out).mono ?_); rintro e w1 ⟨b, rfl, hg, hb⟩; have HG := Aside0.mk hg; have HB2 := Aside0.mk (below_step HB.out (below_step (below_alloc (Below.refl _ _) _) hb)); clear hg hb))
              · go_ret
                exact ⟨false, rfl, by simp, HB2.out⟩
              · have hb : b = true := by simpa using ‹(!b) = false›
                have HGB := Aside0.mk (HG.out hb)
                clear hb
                go_roundw
                case rel => exact ⟨k + 1, by omega, by go_num, ⟨HU.out.step HT.out (.made HGB.out)⟩, ⟨HB2.out⟩⟩
                case measure => simp [intOf]; omega
          · have b0 : (x.f0.toList == []) = false := beq_eq_false_iff_ne.mpr m0
            clear m0
            go_wp2_with (first | (go_at_call 6; (with_reducible refine ((HI.out k x HT.out).go _ A2 c2 (Kd.C_alloc H4.out _) H3.out).mono ?_); rintro e w1 ⟨b, rfl, hg, hb⟩; have HG := Aside0.mk hg; have HB2 := Aside0.mk (below_step HB.out (below_step (below_alloc (Below.refl _ _) _) hb)); clear hg hb))
            · go_ret
              exact ⟨false, rfl, by simp, HB2.out⟩
            · have hb : b = true := by simpa using ‹(!b) = false›
              have HGB := Aside0.mk (HG.out hb)
              clear hb
              go_roundw
              case rel => exact ⟨k + 1, by omega, by go_num, ⟨HU.out.step HT.out (.made HGB.out)⟩, ⟨HB2.out⟩⟩
              case measure => simp [intOf]; omega
        · obtain rfl : k = ts.length := by omega
          go_wp2
          go_ret
          exact ⟨true, rfl, fun _ => ⟨by have := HLE.out; omega, by simp, fun j x hx => HU.out j x (List.getElem?_eq_some_iff.1 hx).1 hx⟩, HB.out⟩
    · have d2 : decide ((1 : Int) < ts.length) = false := decide_eq_false (by omega)
      have d3 : decide (1 < ts.length) = false := decide_eq_false hgt
      have HLE := Aside0.mk hle
      have HGT := Aside0.mk hgt
      clear hle hgt
      have hlen := HN.out
      go_enter Tryd.func11, Tryd.ntmps11
      go_wp2
      go_loopw [33] (fun i wr => ∃ k : Nat, k ≤ ts.length ∧ i = .int .i64 k ∧ Aside0 (Upto ts true false k) ∧ Aside0 (Below w.heap.size w wr)) (fun i _ => ts.length - (intOf i).toNat)
      case atStart => exact ⟨0, Nat.zero_le _, rfl, ⟨fun j x hj => absurd hj (by omega)⟩, ⟨below_alloc (Below.refl _ _) _⟩⟩
      case round =>
        obtain ⟨k, hk, rfl, HU, HB⟩ := hrel
        by_cases hlt : k < ts.length
        · obtain ⟨x, hx⟩ : ∃ x, ts[k]? = some x := ⟨_, List.getElem?_eq_getElem hlt⟩
          obtain ⟨ad, A2, c2, rfl, h0, h1, h2, h3, h4⟩ := kid_cells HC.out k x hx
          replace h0 := cell_up HB.out h0
          replace h1 := cell_up HB.out h1
          replace h2 := cell_up HB.out h2
          have H4 := Aside0.mk (Kd.C_below h4 HB.out)
          have H3 := Aside0.mk h3
          have HT := Aside0.mk hx
          have hkn : x.f2.length ≤ 9223372036854775807 := Kd.C_max H4.out
          clear h4 h3 hx
          by_cases m0 : x.f0.toList = []
          · have M0 := Aside0.mk m0
            have b0 : (x.f0.toList == []) = true := by rw [m0]; rfl
            clear m0
            by_cases m1 : x.f1.toList = []
            · have M1 := Aside0.mk m1
              have b1 : (x.f1.toList == []) = true := by rw [m1]; rfl
              clear m1
              by_cases m2 : x.f2.length = 0
              · have M2 := Aside0.mk m2
                have b2 : ((x.f2.length : Int) == 0) = true := beq_iff_eq.mpr (by omega)
                have b3 : (x.f2.length == 0) = true := beq_iff_eq.mpr m2
                clear m2
                by_cases hz : k = 0
                · have z0 : ((k : Int) == 0) = true := beq_iff_eq.mpr (by omega)
                  have z1 : (k == 0) = true := beq_iff_eq.mpr hz
                  have z2 : decide (0 < (k : Int)) = false := decide_eq_false (by omega)
                  have z3 : decide (0 < k) = false := decide_eq_false (by omega)
                  have HZ := Aside0.mk hz
                  clear hz
                  go_wp2
                  go_roundw
                  case rel => exact ⟨k + 1, by omega, by go_num, ⟨HU.out.step HT.out (.missing M0.out M1.out M2.out (.inl ⟨rfl, HZ.out⟩))⟩, ⟨below_alloc HB.out _⟩⟩
                  case measure => simp [intOf]; omega
                · have z0 : ((k : Int) == 0) = false := beq_eq_false_iff_ne.mpr (by omega)
                  have z1 : (k == 0) = false := beq_eq_false_iff_ne.mpr hz
                  have z2 : decide (0 < (k : Int)) = true := decide_eq_true (by omega)
                  have z3 : decide (0 < k) = true := decide_eq_true (by omega)
                  have HZ := Aside0.mk hz
                  clear hz
                  go_wp2_with (first | (go_at_call 6; (with_reducible refine ((HI.out k x HT.out).go _ A2 c2 (Kd.C_alloc H4.out _) H3.out).mono ?_); rintro e w1 ⟨b, rfl, hg, hb⟩; have HG := Aside0.mk hg; have HB2 := Aside0.mk (below_step HB.out (below_step (below_alloc (Below.refl _ _) _) hb)); clear hg hb))
                  · go_ret
                    exact ⟨false, rfl, by simp, HB2.out⟩
                  · have hb : b = true := by simpa using ‹(!b) = false›
                    have HGB := Aside0.mk (HG.out hb)
                    clear hb
                    go_roundw
                    case rel => exact ⟨k + 1, by omega, by go_num, ⟨HU.out.step HT.out (.made HGB.out)⟩, ⟨HB2.out⟩⟩
                    case measure => simp [intOf]; omega
              · have b2 : ((x.f2.length : Int) == 0) = false := beq_eq_false_iff_ne.mpr (by omega)
                have b3 : (x.f2.length == 0) = false := beq_eq_false_iff_ne.mpr m2
                clear m2
                go_wp2_with (first | (go_at_call 6; (with_reducible refine ((HI.out k x HT.out).go _ A2 c2 (Kd.C_alloc H4.out _) H3.out).mono ?_); rintro e w1 ⟨b, rfl, hg, hb⟩; have HG := Aside0.mk hg; have HB2 := Aside0.mk (below_step HB.out (below_step (below_alloc (Below.refl _ _) _) hb)); clear hg hb))
                · go_ret
                  exact ⟨false, rfl, by simp, HB2.out⟩
                · have hb : b = true := by simpa using ‹(!b) = false›
                  have HGB := Aside0.mk (HG.out hb)
                  clear hb
                  go_roundw
                  case rel => exact ⟨k + 1, by omega, by go_num, ⟨HU.out.step HT.out (.made HGB.out)⟩, ⟨HB2.out⟩⟩
                  case measure => simp [intOf]; omega
            · have b1 : (x.f1.toList == []) = false := beq_eq_false_iff_ne.mpr m1
              clear m1
              go_wp2_with (first | (go_at_call 6; (with_reducible refine ((HI.out k x HT.out).go _ A2 c2 (Kd.C_alloc H4.out _) H3.out).mono ?_); rintro e w1 ⟨b, rfl, hg, hb⟩; have HG := Aside0.mk hg; have HB2 := Aside0.mk (below_step HB.out (below_step (below_alloc (Below.refl _ _) _) hb)); clear hg hb))
              · go_ret
                exact ⟨false, rfl, by simp, HB2.out⟩
              · have hb : b = true := by simpa using ‹(!b) = false›
                have HGB := Aside0.mk (HG.out hb)
                clear hb
                go_roundw
                case rel => exact ⟨k + 1, by omega, by go_num, ⟨HU.out.step HT.out (.made HGB.out)⟩, ⟨HB2.out⟩⟩
                case measure => simp [intOf]; omega
          · have b0 : (x.f0.toList == []) = false := beq_eq_false_iff_ne.mpr m0
            clear m0
            go_wp2_with (first | (go_at_call 6; (with_reducible refine ((HI.out k x HT.out).go _ A2 c2 (Kd.C_alloc H4.out _) H3.out).mono ?_); rintro e w1 ⟨b, rfl, hg, hb⟩; have HG := Aside0.mk hg; have HB2 := Aside0.mk (below_step HB.out (below_step (below_alloc (Below.refl _ _) _) hb)); clear hg hb))
            · go_ret
              exact ⟨false, rfl, by simp, HB2.out⟩
            · have hb : b = true := by simpa using ‹(!b) = false›
              have HGB := Aside0.mk (HG.out hb)
              clear hb
              go_roundw
              case rel => exact ⟨k + 1, by omega, by go_num, ⟨HU.out.step HT.out (.made HGB.out)⟩, ⟨HB2.out⟩⟩
              case measure => simp [intOf]; omega
        · obtain rfl : k = ts.length := by omega
          go_wp2
          go_ret
          exact ⟨true, rfl, fun _ => ⟨by have := HLE.out; omega, by simp, fun j x hx => HU.out j x (List.getElem?_eq_some_iff.1 hx).1 hx⟩, HB.out⟩

set_option maxHeartbeats 4000000 in
set_option maxRecDepth 100000 in
theorem kids_2_ftf (t : S24) (I : ∀ (j : Nat) (x : S24), t.f2[j]? = some x → IsC x) (hlen : t.f2.length ≤ 9223372036854775807) (w : World) (A : Option Addr) (c : Nat) (hC : Kd.C k24 w A t.f2.length t.f2) (hc : t.f2.length ≤ c) :
    Calls Tryd.prog 11 #[.agg #[.string t.f0, .string t.f1, .slice A t.f2.length c], .int .i64 2, .bool false, .bool true, .bool false] w fun e w' => ∃ b, e = .returned (.bool b) ∧ (b = true → KidsOk t.f2 2 false true false) ∧ Below w.heap.size w w' := by
  obtain ⟨s0, s1, ts⟩ := t
  simp only at I hlen hC hc ⊢
  have HI := Aside0.mk I
  have HC := Aside0.mk hC
  have HN := Aside0.mk hlen
  clear I hC hlen
  by_cases hle : ts.length < 2
  · have d0 : decide ((ts.length : Int) < 2) = true := decide_eq_true (by omega)
    have d1 : decide (ts.length < 2) = true := decide_eq_true hle
    go_enter Tryd.func11, Tryd.ntmps11
    go_wp2
    go_ret
    exact ⟨false, rfl, by simp, below_alloc (Below.refl _ _) _⟩
  · have d0 : decide ((ts.length : Int) < 2) = false := decide_eq_false (by omega)
    have d1 : decide (ts.length < 2) = false := decide_eq_false hle
    by_cases hgt : 2 < ts.length
    · have d2 : decide ((2 : Int) < ts.length) = true := decide_eq_true (by omega)
      have d3 : decide (2 < ts.length) = true := decide_eq_true hgt
      go_enter Tryd.func11, Tryd.ntmps11
      go_wp2
      go_ret
      exact ⟨false, rfl, by simp, below_alloc (Below.refl _ _) _⟩
    · have d2 : decide ((2 : Int) < ts.length) = false := decide_eq_false (by omega)
      have d3 : decide (2 < ts.length) = false := decide_eq_false hgt
      have HLE := Aside0.mk hle
      have HGT := Aside0.mk hgt
      clear hle hgt
      have hlen := HN.out
      go_enter Tryd.func11, Tryd.ntmps11
      go_wp2
      go_loopw [33] (fun i wr => ∃ k : Nat, k ≤ ts.length ∧ i = .int .i64 k ∧ Aside0 (Upto ts true false k) ∧ Aside0 (Below w.heap.size w wr)) (fun i _ => ts.length - (intOf i).toNat)
      case atStart => exact ⟨0, Nat.zero_le _, rfl, ⟨fun j x hj => absurd hj (by omega)⟩, ⟨below_alloc (Below.refl _ _) _⟩⟩
      case round =>
        obtain ⟨k, hk, rfl, HU, HB⟩ := hrel
        by_cases hlt : k < ts.length
        · obtain ⟨x, hx⟩ : ∃ x, ts[k]? = some x := ⟨_, List.getElem?_eq_getElem hlt⟩
          obtain ⟨ad, A2, c2, rfl, h0, h1, h2, h3, h4⟩ := kid_cells HC.out k x hx
          replace h0 := cell_up HB.out h0
          replace h1 := cell_up HB.out h1
          replace h2 := cell_up HB.out h2
          have H4 := Aside0.mk (Kd.C_below h4 HB.out)
          have H3 := Aside0.mk h3
          have HT := Aside0.mk hx
          have hkn : x.f2.length ≤ 9223372036854775807 := Kd.C_max H4.out
          clear h4 h3 hx
          by_cases m0 : x.f0.toList = []
          · have M0 := Aside0.mk m0
            have b0 : (x.f0.toList == []) = true := by rw [m0]; rfl
            clear m0
            by_cases m1 : x.f1.toList = []
            · have M1 := Aside0.mk m1
              have b1 : (x.f1.toList == []) = true := by rw [m1]; rfl
              clear m1
              by_cases m2 : x.f2.length = 0
              · have M2 := Aside0.mk m2
                have b2 : ((x.f2.length : Int) == 0) = true := beq_iff_eq.mpr (by omega)
                have b3 : (x.f2.length == 0) = true := beq_iff_eq.mpr m2
                clear m2
                by_cases hz : k = 0
                · have z0 : ((k : Int) == 0) = true := beq_iff_eq.mpr (by omega)
                  have z1 : (k == 0) = true := beq_iff_eq.mpr hz
                  have z2 : decide (0 < (k : Int)) = false := decide_eq_false (by omega)
                  have z3 : decide (0 < k) = false := decide_eq_false (by omega)
                  have HZ := Aside0.mk hz
                  clear hz
                  go_wp2
                  go_roundw
                  case rel => exact ⟨k + 1, by omega, by go_num, ⟨HU.out.step HT.out (.missing M0.out M1.out M2.out (.inl ⟨rfl, HZ.out⟩))⟩, ⟨below_alloc HB.out _⟩⟩
                  case measure => simp [intOf]; omega
                · have z0 : ((k : Int) == 0) = false := beq_eq_false_iff_ne.mpr (by omega)
                  have z1 : (k == 0) = false := beq_eq_false_iff_ne.mpr hz
                  have z2 : decide (0 < (k : Int)) = true := decide_eq_true (by omega)
                  have z3 : decide (0 < k) = true := decide_eq_true (by omega)
                  have HZ := Aside0.mk hz
                  clear hz
                  go_wp2_with (first | (go_at_call 6; (with_reducible refine ((HI.out k x HT.out).go _ A2 c2 (Kd.C_alloc H4.out _) H3.out).mono ?_); rintro e w1 ⟨b, rfl, hg, hb⟩; have HG := Aside0.mk hg; have HB2 := Aside0.mk (below_step HB.out (below_step (below_alloc (Below.refl _ _) _) hb)); clear hg hb))
                  · go_ret
                    exact ⟨false, rfl, by simp, HB2.out⟩
                  · have hb : b = true := by simpa using ‹(!b) = false›
                    have HGB := Aside0.mk (HG.out hb)
                    clear hb
                    go_roundw
                    case rel => exact ⟨k + 1, by omega, by go_num, ⟨HU.out.step HT.out (.made HGB.out)⟩, ⟨HB2.out⟩⟩
                    case measure => simp [intOf]; omega
              · have b2 : ((x.f2.length : Int) == 0) = false := beq_eq_false_iff_ne.mpr (by omega)
                have b3 : (x.f2.length == 0) = false := beq_eq_false_iff_ne.mpr m2
                clear m2
                go_wp2_with (first | (go_at_call 6; (with_reducible refine ((HI.out k x HT.out).go _ A2 c2 (Kd.C_alloc H4.out _) H3.out).mono ?_); rintro e w1 ⟨b, rfl, hg, hb⟩; have HG := Aside0.mk hg; have HB2 := Aside0.mk (below_step HB.out (below_step (below_alloc (Below.refl _ _) _) hb)); clear hg hb))
                · go_ret
                  exact ⟨false, rfl, by simp, HB2.out⟩
                · have hb : b = true := by simpa using ‹(!b) = false›
                  have HGB := Aside0.mk (HG.out hb)
                  clear hb
                  go_roundw
                  case rel => exact ⟨k + 1, by omega, by go_num, ⟨HU.out.step HT.out (.made HGB.out)⟩, ⟨HB2.out⟩⟩
                  case measure => simp [intOf]; omega
            · have b1 : (x.f1.toList == []) = false := beq_eq_false_iff_ne.mpr m1
              clear m1
              go_wp2_with (first | (go_at_call 6; (with_reducible refine ((HI.out k x HT.out).go _ A2 c2 (Kd.C_alloc H4.out _) H3.out).mono ?_); rintro e w1 ⟨b, rfl, hg, hb⟩; have HG := Aside0.mk hg; have HB2 := Aside0.mk (below_step HB.out (below_step (below_alloc (Below.refl _ _) _) hb)); clear hg hb))
              · go_ret
                exact ⟨false, rfl, by simp, HB2.out⟩
              · have hb : b = true := by simpa using ‹(!b) = false›
                have HGB := Aside0.mk (HG.out hb)
                clear hb
                go_roundw
                case rel => exact ⟨k + 1, by omega, by go_num, ⟨HU.out.step HT.out (.made HGB.out)⟩, ⟨HB2.out⟩⟩
                case measure => simp [intOf]; omega
          · have b0 : (x.f0.toList == []) = false := beq_eq_false_iff_ne.mpr m0
            clear m0
            go_wp2_with (first | (go_at_call 6; (with_reducible refine ((HI.out k x HT.out).go _ A2 c2 (Kd.C_alloc H4.out _) H3.out).mono ?_); rintro e w1 ⟨b, rfl, hg, hb⟩; have HG := Aside0.mk hg; have HB2 := Aside0.mk (below_step HB.out (below_step (below_alloc (Below.refl _ _) _) hb)); clear hg hb))
            · go_ret
              exact ⟨false, rfl, by simp, HB2.out⟩
            · have hb : b = true := by simpa using ‹(!b) = false›
              have HGB := Aside0.mk (HG.out hb)
              clear hb
              go_roundw
              case rel => exact ⟨k + 1, by omega, by go_num, ⟨HU.out.step HT.out (.made HGB.out)⟩, ⟨HB2.out⟩⟩
              case measure => simp [intOf]; omega
        · obtain rfl : k = ts.length := by omega
          go_wp2
          go_ret
          exact ⟨true, rfl, fun _ => ⟨by have := HLE.out; omega, fun _ => by have := HLE.out; have := HGT.out; omega, fun j x hx => HU.out j x (List.getElem?_eq_some_iff.1 hx).1 hx⟩, HB.out⟩

end Go.Proofs.YtjkhfdekmpaoiaaDoor
