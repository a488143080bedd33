/- The walks of NewName, madeLit, Operator.String and operatorOf: what each call comes to. The table of the operators' places is taken as it is laid ('Laid'). -/
import Derived.Test.YtjkhfdekmpaoiaaDoorRc
namespace Go.Proofs.YtjkhfdekmpaoiaaDoor
open Go.RowKit Go.Proofs.YtjkhfdekmpaoiaaDoorW.PrintWords Go.Proofs.YtjkhfdekmpaoiaaDoor.Kinds
set_option linter.unusedVariables false
set_option linter.unusedSimpArgs false

set_option maxHeartbeats 1000000 in
theorem newName_any (s : ByteArray) (w : World) : Calls Tryd.prog 26 #[.agg #[.pointer none, .int .u32 0, .int .u32 0], .string s] w fun e w' => ∃ b, e = .returned (.pointer (some ⟨b, 0, none⟩)) ∧ NameAt w' w.heap.size b s ∧ Below w.heap.size w w' := by
  go_enter Tryd.func26, Tryd.ntmps26
  go_wp2
  go_ret
  refine ⟨_, rfl, ⟨#[.string s, .pointer none, .int .u32 0, .int .u32 0, .nilIface, .nilIface, .int .u16 0], ?_, rfl, ?_⟩, below_alloc (below_alloc (Below.refl _ _) _) _⟩
  · have := blk_new (w.alloc (.cells #[.pointer none, .int .u32 0, .int .u32 0] 45)) (.cells #[.string s, .pointer none, .int .u32 0, .int .u32 0, .nilIface, .nilIface, .int .u16 0] 84)
    simpa using this
  · omega

def LitAt (w : World) (base b : Nat) (s : ByteArray) (q : Int) : Prop := ∃ cs, w.heap[b]? = some (.cells cs 129 (0, 0)) ∧ cs[0]? = some (.string s) ∧ cs[1]? = some (.int .u8 q) ∧ base ≤ b

set_option maxHeartbeats 1000000 in
theorem madeLit_int (s : ByteArray) (A : Option Addr) (c : Nat) (w : World) : Calls Tryd.prog 27 #[.agg #[.string (⟨#[105, 110, 116]⟩ : ByteArray), .string s, .slice A 0 c]] w fun e w' => ∃ b, e = .returned (.pointer (some ⟨b, 0, none⟩)) ∧ LitAt w' w.heap.size b s 0 ∧ Below w.heap.size w w' := by
  go_enter Tryd.func27, Tryd.ntmps27
  go_wp2
  go_ret
  refine ⟨_, rfl, ⟨#[.string s, .int .u8 0, .bool false, .pointer none, .int .u32 0, .int .u32 0, .nilIface, .nilIface, .int .u16 0], ?_, rfl, rfl, ?_⟩, below_alloc (below_alloc (Below.refl _ _) _) _⟩
  · have := blk_new (w.alloc (.cells #[.string (⟨#[105, 110, 116]⟩ : ByteArray), .string s, .slice A 0 c] 24)) (.cells #[.string s, .int .u8 0, .bool false, .pointer none, .int .u32 0, .int .u32 0, .nilIface, .nilIface, .int .u16 0] 129)
    simpa using this
  · omega

set_option maxHeartbeats 1000000 in
theorem madeLit_float (s : ByteArray) (A : Option Addr) (c : Nat) (w : World) : Calls Tryd.prog 27 #[.agg #[.string (⟨#[102, 108, 111, 97, 116]⟩ : ByteArray), .string s, .slice A 0 c]] w fun e w' => ∃ b, e = .returned (.pointer (some ⟨b, 0, none⟩)) ∧ LitAt w' w.heap.size b s 1 ∧ Below w.heap.size w w' := by
  go_enter Tryd.func27, Tryd.ntmps27
  go_wp2
  go_ret
  refine ⟨_, rfl, ⟨#[.string s, .int .u8 1, .bool false, .pointer none, .int .u32 0, .int .u32 0, .nilIface, .nilIface, .int .u16 0], ?_, rfl, rfl, ?_⟩, below_alloc (below_alloc (Below.refl _ _) _) _⟩
  · have := blk_new (w.alloc (.cells #[.string (⟨#[102, 108, 111, 97, 116]⟩ : ByteArray), .string s, .slice A 0 c] 24)) (.cells #[.string s, .int .u8 1, .bool false, .pointer none, .int .u32 0, .int .u32 0, .nilIface, .nilIface, .int .u16 0] 129)
    simpa using this
  · omega

set_option maxHeartbeats 1000000 in
theorem madeLit_imag (s : ByteArray) (A : Option Addr) (c : Nat) (w : World) : Calls Tryd.prog 27 #[.agg #[.string (⟨#[105, 109, 97, 103]⟩ : ByteArray), .string s, .slice A 0 c]] w fun e w' => ∃ b, e = .returned (.pointer (some ⟨b, 0, none⟩)) ∧ LitAt w' w.heap.size b s 2 ∧ Below w.heap.size w w' := by
  go_enter Tryd.func27, Tryd.ntmps27
  go_wp2
  go_ret
  refine ⟨_, rfl, ⟨#[.string s, .int .u8 2, .bool false, .pointer none, .int .u32 0, .int .u32 0, .nilIface, .nilIface, .int .u16 0], ?_, rfl, rfl, ?_⟩, below_alloc (below_alloc (Below.refl _ _) _) _⟩
  · have := blk_new (w.alloc (.cells #[.string (⟨#[105, 109, 97, 103]⟩ : ByteArray), .string s, .slice A 0 c] 24)) (.cells #[.string s, .int .u8 2, .bool false, .pointer none, .int .u32 0, .int .u32 0, .nilIface, .nilIface, .int .u16 0] 129)
    simpa using this
  · omega

set_option maxHeartbeats 1000000 in
theorem madeLit_rune (s : ByteArray) (A : Option Addr) (c : Nat) (w : World) : Calls Tryd.prog 27 #[.agg #[.string (⟨#[114, 117, 110, 101]⟩ : ByteArray), .string s, .slice A 0 c]] w fun e w' => ∃ b, e = .returned (.pointer (some ⟨b, 0, none⟩)) ∧ LitAt w' w.heap.size b s 3 ∧ Below w.heap.size w w' := by
  go_enter Tryd.func27, Tryd.ntmps27
  go_wp2
  go_ret
  refine ⟨_, rfl, ⟨#[.string s, .int .u8 3, .bool false, .pointer none, .int .u32 0, .int .u32 0, .nilIface, .nilIface, .int .u16 0], ?_, rfl, rfl, ?_⟩, below_alloc (below_alloc (Below.refl _ _) _) _⟩
  · have := blk_new (w.alloc (.cells #[.string (⟨#[114, 117, 110, 101]⟩ : ByteArray), .string s, .slice A 0 c] 24)) (.cells #[.string s, .int .u8 3, .bool false, .pointer none, .int .u32 0, .int .u32 0, .nilIface, .nilIface, .int .u16 0] 129)
    simpa using this
  · omega

set_option maxHeartbeats 1000000 in
theorem madeLit_string (s : ByteArray) (A : Option Addr) (c : Nat) (w : World) : Calls Tryd.prog 27 #[.agg #[.string (⟨#[115, 116, 114, 105, 110, 103]⟩ : ByteArray), .string s, .slice A 0 c]] w fun e w' => ∃ b, e = .returned (.pointer (some ⟨b, 0, none⟩)) ∧ LitAt w' w.heap.size b s 4 ∧ Below w.heap.size w w' := by
  go_enter Tryd.func27, Tryd.ntmps27
  go_wp2
  go_ret
  refine ⟨_, rfl, ⟨#[.string s, .int .u8 4, .bool false, .pointer none, .int .u32 0, .int .u32 0, .nilIface, .nilIface, .int .u16 0], ?_, rfl, rfl, ?_⟩, below_alloc (below_alloc (Below.refl _ _) _) _⟩
  · have := blk_new (w.alloc (.cells #[.string (⟨#[115, 116, 114, 105, 110, 103]⟩ : ByteArray), .string s, .slice A 0 c] 24)) (.cells #[.string s, .int .u8 4, .bool false, .pointer none, .int .u32 0, .int .u32 0, .nilIface, .nilIface, .int .u16 0] 129)
    simpa using this
  · omega

/-- The table of the operators' places lies in its variable as the program's text lays it. -/
def Laid (w : World) : Prop := ∀ i, i < 24 → w.cell? ⟨0, i, none⟩ = some (.int .u8 ([0, 1, 2, 4, 5, 7, 9, 11, 13, 14, 16, 17, 19, 20, 21, 22, 23, 24, 25, 26, 27, 29, 31, 33].getD i 0))
theorem Laid.grow {w w1 : World} (h : Laid w) (hb : Below w.heap.size w w1) : Laid w1 := fun i hi => cell_up hb (h i hi)
theorem ext_of {a b : ByteArray} (h : a.data.toList = b.data.toList) : a = b := by
  cases a; cases b; simp_all

theorem opString_1 (w : World) (hl : Laid w) : Calls Tryd.prog 24 #[.int .u64 1] w fun e w' => e = .returned (.string (opText 1)) ∧ Drawn0 w w' := by
  have h0 : w.cell? ⟨0, 0, none⟩ = some (.int .u8 0) := hl 0 (by decide)
  have h1 : w.cell? ⟨0, 1, none⟩ = some (.int .u8 1) := hl 1 (by decide)
  clear hl
  go_enter Tryd.func24, Tryd.ntmps24
  go_wp2
  go_quiet (fail)
  go_wp2
  go_ret
  exact ⟨rfl, ⟨⟨_, rfl⟩⟩⟩

theorem opString_2 (w : World) (hl : Laid w) : Calls Tryd.prog 24 #[.int .u64 2] w fun e w' => e = .returned (.string (opText 2)) ∧ Drawn0 w w' := by
  have h0 : w.cell? ⟨0, 1, none⟩ = some (.int .u8 1) := hl 1 (by decide)
  have h1 : w.cell? ⟨0, 2, none⟩ = some (.int .u8 2) := hl 2 (by decide)
  clear hl
  go_enter Tryd.func24, Tryd.ntmps24
  go_wp2
  go_quiet (fail)
  go_wp2
  go_ret
  exact ⟨rfl, ⟨⟨_, rfl⟩⟩⟩

theorem opString_3 (w : World) (hl : Laid w) : Calls Tryd.prog 24 #[.int .u64 3] w fun e w' => e = .returned (.string (opText 3)) ∧ Drawn0 w w' := by
  have h0 : w.cell? ⟨0, 2, none⟩ = some (.int .u8 2) := hl 2 (by decide)
  have h1 : w.cell? ⟨0, 3, none⟩ = some (.int .u8 4) := hl 3 (by decide)
  clear hl
  go_enter Tryd.func24, Tryd.ntmps24
  go_wp2
  go_quiet (fail)
  go_wp2
  go_ret
  exact ⟨rfl, ⟨⟨_, rfl⟩⟩⟩

theorem opString_4 (w : World) (hl : Laid w) : Calls Tryd.prog 24 #[.int .u64 4] w fun e w' => e = .returned (.string (opText 4)) ∧ Drawn0 w w' := by
  have h0 : w.cell? ⟨0, 3, none⟩ = some (.int .u8 4) := hl 3 (by decide)
  have h1 : w.cell? ⟨0, 4, none⟩ = some (.int .u8 5) := hl 4 (by decide)
  clear hl
  go_enter Tryd.func24, Tryd.ntmps24
  go_wp2
  go_quiet (fail)
  go_wp2
  go_ret
  exact ⟨rfl, ⟨⟨_, rfl⟩⟩⟩

theorem opString_5 (w : World) (hl : Laid w) : Calls Tryd.prog 24 #[.int .u64 5] w fun e w' => e = .returned (.string (opText 5)) ∧ Drawn0 w w' := by
  have h0 : w.cell? ⟨0, 4, none⟩ = some (.int .u8 5) := hl 4 (by decide)
  have h1 : w.cell? ⟨0, 5, none⟩ = some (.int .u8 7) := hl 5 (by decide)
  clear hl
  go_enter Tryd.func24, Tryd.ntmps24
  go_wp2
  go_quiet (fail)
  go_wp2
  go_ret
  exact ⟨rfl, ⟨⟨_, rfl⟩⟩⟩

theorem opString_6 (w : World) (hl : Laid w) : Calls Tryd.prog 24 #[.int .u64 6] w fun e w' => e = .returned (.string (opText 6)) ∧ Drawn0 w w' := by
  have h0 : w.cell? ⟨0, 5, none⟩ = some (.int .u8 7) := hl 5 (by decide)
  have h1 : w.cell? ⟨0, 6, none⟩ = some (.int .u8 9) := hl 6 (by decide)
  clear hl
  go_enter Tryd.func24, Tryd.ntmps24
  go_wp2
  go_quiet (fail)
  go_wp2
  go_ret
  exact ⟨rfl, ⟨⟨_, rfl⟩⟩⟩

theorem opString_7 (w : World) (hl : Laid w) : Calls Tryd.prog 24 #[.int .u64 7] w fun e w' => e = .returned (.string (opText 7)) ∧ Drawn0 w w' := by
  have h0 : w.cell? ⟨0, 6, none⟩ = some (.int .u8 9) := hl 6 (by decide)
  have h1 : w.cell? ⟨0, 7, none⟩ = some (.int .u8 11) := hl 7 (by decide)
  clear hl
  go_enter Tryd.func24, Tryd.ntmps24
  go_wp2
  go_quiet (fail)
  go_wp2
  go_ret
  exact ⟨rfl, ⟨⟨_, rfl⟩⟩⟩

theorem opString_8 (w : World) (hl : Laid w) : Calls Tryd.prog 24 #[.int .u64 8] w fun e w' => e = .returned (.string (opText 8)) ∧ Drawn0 w w' := by
  have h0 : w.cell? ⟨0, 7, none⟩ = some (.int .u8 11) := hl 7 (by decide)
  have h1 : w.cell? ⟨0, 8, none⟩ = some (.int .u8 13) := hl 8 (by decide)
  clear hl
  go_enter Tryd.func24, Tryd.ntmps24
  go_wp2
  go_quiet (fail)
  go_wp2
  go_ret
  exact ⟨rfl, ⟨⟨_, rfl⟩⟩⟩

theorem opString_9 (w : World) (hl : Laid w) : Calls Tryd.prog 24 #[.int .u64 9] w fun e w' => e = .returned (.string (opText 9)) ∧ Drawn0 w w' := by
  have h0 : w.cell? ⟨0, 8, none⟩ = some (.int .u8 13) := hl 8 (by decide)
  have h1 : w.cell? ⟨0, 9, none⟩ = some (.int .u8 14) := hl 9 (by decide)
  clear hl
  go_enter Tryd.func24, Tryd.ntmps24
  go_wp2
  go_quiet (fail)
  go_wp2
  go_ret
  exact ⟨rfl, ⟨⟨_, rfl⟩⟩⟩

theorem opString_10 (w : World) (hl : Laid w) : Calls Tryd.prog 24 #[.int .u64 10] w fun e w' => e = .returned (.string (opText 10)) ∧ Drawn0 w w' := by
  have h0 : w.cell? ⟨0, 9, none⟩ = some (.int .u8 14) := hl 9 (by decide)
  have h1 : w.cell? ⟨0, 10, none⟩ = some (.int .u8 16) := hl 10 (by decide)
  clear hl
  go_enter Tryd.func24, Tryd.ntmps24
  go_wp2
  go_quiet (fail)
  go_wp2
  go_ret
  exact ⟨rfl, ⟨⟨_, rfl⟩⟩⟩

theorem opString_11 (w : World) (hl : Laid w) : Calls Tryd.prog 24 #[.int .u64 11] w fun e w' => e = .returned (.string (opText 11)) ∧ Drawn0 w w' := by
  have h0 : w.cell? ⟨0, 10, none⟩ = some (.int .u8 16) := hl 10 (by decide)
  have h1 : w.cell? ⟨0, 11, none⟩ = some (.int .u8 17) := hl 11 (by decide)
  clear hl
  go_enter Tryd.func24, Tryd.ntmps24
  go_wp2
  go_quiet (fail)
  go_wp2
  go_ret
  exact ⟨rfl, ⟨⟨_, rfl⟩⟩⟩

theorem opString_12 (w : World) (hl : Laid w) : Calls Tryd.prog 24 #[.int .u64 12] w fun e w' => e = .returned (.string (opText 12)) ∧ Drawn0 w w' := by
  have h0 : w.cell? ⟨0, 11, none⟩ = some (.int .u8 17) := hl 11 (by decide)
  have h1 : w.cell? ⟨0, 12, none⟩ = some (.int .u8 19) := hl 12 (by decide)
  clear hl
  go_enter Tryd.func24, Tryd.ntmps24
  go_wp2
  go_quiet (fail)
  go_wp2
  go_ret
  exact ⟨rfl, ⟨⟨_, rfl⟩⟩⟩

theorem opString_13 (w : World) (hl : Laid w) : Calls Tryd.prog 24 #[.int .u64 13] w fun e w' => e = .returned (.string (opText 13)) ∧ Drawn0 w w' := by
  have h0 : w.cell? ⟨0, 12, none⟩ = some (.int .u8 19) := hl 12 (by decide)
  have h1 : w.cell? ⟨0, 13, none⟩ = some (.int .u8 20) := hl 13 (by decide)
  clear hl
  go_enter Tryd.func24, Tryd.ntmps24
  go_wp2
  go_quiet (fail)
  go_wp2
  go_ret
  exact ⟨rfl, ⟨⟨_, rfl⟩⟩⟩

theorem opString_14 (w : World) (hl : Laid w) : Calls Tryd.prog 24 #[.int .u64 14] w fun e w' => e = .returned (.string (opText 14)) ∧ Drawn0 w w' := by
  have h0 : w.cell? ⟨0, 13, none⟩ = some (.int .u8 20) := hl 13 (by decide)
  have h1 : w.cell? ⟨0, 14, none⟩ = some (.int .u8 21) := hl 14 (by decide)
  clear hl
  go_enter Tryd.func24, Tryd.ntmps24
  go_wp2
  go_quiet (fail)
  go_wp2
  go_ret
  exact ⟨rfl, ⟨⟨_, rfl⟩⟩⟩

theorem opString_15 (w : World) (hl : Laid w) : Calls Tryd.prog 24 #[.int .u64 15] w fun e w' => e = .returned (.string (opText 15)) ∧ Drawn0 w w' := by
  have h0 : w.cell? ⟨0, 14, none⟩ = some (.int .u8 21) := hl 14 (by decide)
  have h1 : w.cell? ⟨0, 15, none⟩ = some (.int .u8 22) := hl 15 (by decide)
  clear hl
  go_enter Tryd.func24, Tryd.ntmps24
  go_wp2
  go_quiet (fail)
  go_wp2
  go_ret
  exact ⟨rfl, ⟨⟨_, rfl⟩⟩⟩

theorem opString_16 (w : World) (hl : Laid w) : Calls Tryd.prog 24 #[.int .u64 16] w fun e w' => e = .returned (.string (opText 16)) ∧ Drawn0 w w' := by
  have h0 : w.cell? ⟨0, 15, none⟩ = some (.int .u8 22) := hl 15 (by decide)
  have h1 : w.cell? ⟨0, 16, none⟩ = some (.int .u8 23) := hl 16 (by decide)
  clear hl
  go_enter Tryd.func24, Tryd.ntmps24
  go_wp2
  go_quiet (fail)
  go_wp2
  go_ret
  exact ⟨rfl, ⟨⟨_, rfl⟩⟩⟩

theorem opString_17 (w : World) (hl : Laid w) : Calls Tryd.prog 24 #[.int .u64 17] w fun e w' => e = .returned (.string (opText 17)) ∧ Drawn0 w w' := by
  have h0 : w.cell? ⟨0, 16, none⟩ = some (.int .u8 23) := hl 16 (by decide)
  have h1 : w.cell? ⟨0, 17, none⟩ = some (.int .u8 24) := hl 17 (by decide)
  clear hl
  go_enter Tryd.func24, Tryd.ntmps24
  go_wp2
  go_quiet (fail)
  go_wp2
  go_ret
  exact ⟨rfl, ⟨⟨_, rfl⟩⟩⟩

theorem opString_18 (w : World) (hl : Laid w) : Calls Tryd.prog 24 #[.int .u64 18] w fun e w' => e = .returned (.string (opText 18)) ∧ Drawn0 w w' := by
  have h0 : w.cell? ⟨0, 17, none⟩ = some (.int .u8 24) := hl 17 (by decide)
  have h1 : w.cell? ⟨0, 18, none⟩ = some (.int .u8 25) := hl 18 (by decide)
  clear hl
  go_enter Tryd.func24, Tryd.ntmps24
  go_wp2
  go_quiet (fail)
  go_wp2
  go_ret
  exact ⟨rfl, ⟨⟨_, rfl⟩⟩⟩

theorem opString_19 (w : World) (hl : Laid w) : Calls Tryd.prog 24 #[.int .u64 19] w fun e w' => e = .returned (.string (opText 19)) ∧ Drawn0 w w' := by
  have h0 : w.cell? ⟨0, 18, none⟩ = some (.int .u8 25) := hl 18 (by decide)
  have h1 : w.cell? ⟨0, 19, none⟩ = some (.int .u8 26) := hl 19 (by decide)
  clear hl
  go_enter Tryd.func24, Tryd.ntmps24
  go_wp2
  go_quiet (fail)
  go_wp2
  go_ret
  exact ⟨rfl, ⟨⟨_, rfl⟩⟩⟩

theorem opString_20 (w : World) (hl : Laid w) : Calls Tryd.prog 24 #[.int .u64 20] w fun e w' => e = .returned (.string (opText 20)) ∧ Drawn0 w w' := by
  have h0 : w.cell? ⟨0, 19, none⟩ = some (.int .u8 26) := hl 19 (by decide)
  have h1 : w.cell? ⟨0, 20, none⟩ = some (.int .u8 27) := hl 20 (by decide)
  clear hl
  go_enter Tryd.func24, Tryd.ntmps24
  go_wp2
  go_quiet (fail)
  go_wp2
  go_ret
  exact ⟨rfl, ⟨⟨_, rfl⟩⟩⟩

theorem opString_21 (w : World) (hl : Laid w) : Calls Tryd.prog 24 #[.int .u64 21] w fun e w' => e = .returned (.string (opText 21)) ∧ Drawn0 w w' := by
  have h0 : w.cell? ⟨0, 20, none⟩ = some (.int .u8 27) := hl 20 (by decide)
  have h1 : w.cell? ⟨0, 21, none⟩ = some (.int .u8 29) := hl 21 (by decide)
  clear hl
  go_enter Tryd.func24, Tryd.ntmps24
  go_wp2
  go_quiet (fail)
  go_wp2
  go_ret
  exact ⟨rfl, ⟨⟨_, rfl⟩⟩⟩

theorem opString_22 (w : World) (hl : Laid w) : Calls Tryd.prog 24 #[.int .u64 22] w fun e w' => e = .returned (.string (opText 22)) ∧ Drawn0 w w' := by
  have h0 : w.cell? ⟨0, 21, none⟩ = some (.int .u8 29) := hl 21 (by decide)
  have h1 : w.cell? ⟨0, 22, none⟩ = some (.int .u8 31) := hl 22 (by decide)
  clear hl
  go_enter Tryd.func24, Tryd.ntmps24
  go_wp2
  go_quiet (fail)
  go_wp2
  go_ret
  exact ⟨rfl, ⟨⟨_, rfl⟩⟩⟩

theorem opString_23 (w : World) (hl : Laid w) : Calls Tryd.prog 24 #[.int .u64 23] w fun e w' => e = .returned (.string (opText 23)) ∧ Drawn0 w w' := by
  have h0 : w.cell? ⟨0, 22, none⟩ = some (.int .u8 31) := hl 22 (by decide)
  have h1 : w.cell? ⟨0, 23, none⟩ = some (.int .u8 33) := hl 23 (by decide)
  clear hl
  go_enter Tryd.func24, Tryd.ntmps24
  go_wp2
  go_quiet (fail)
  go_wp2
  go_ret
  exact ⟨rfl, ⟨⟨_, rfl⟩⟩⟩

theorem opString_any (q : Nat) (h1 : 1 ≤ q) (h2 : q ≤ 23) (w : World) (hl : Laid w) : Calls Tryd.prog 24 #[.int .u64 q] w fun e w' => e = .returned (.string (opText q)) ∧ Drawn0 w w' := by
  match q, h1, h2 with
  | 1, _, _ => exact opString_1 w hl
  | 2, _, _ => exact opString_2 w hl
  | 3, _, _ => exact opString_3 w hl
  | 4, _, _ => exact opString_4 w hl
  | 5, _, _ => exact opString_5 w hl
  | 6, _, _ => exact opString_6 w hl
  | 7, _, _ => exact opString_7 w hl
  | 8, _, _ => exact opString_8 w hl
  | 9, _, _ => exact opString_9 w hl
  | 10, _, _ => exact opString_10 w hl
  | 11, _, _ => exact opString_11 w hl
  | 12, _, _ => exact opString_12 w hl
  | 13, _, _ => exact opString_13 w hl
  | 14, _, _ => exact opString_14 w hl
  | 15, _, _ => exact opString_15 w hl
  | 16, _, _ => exact opString_16 w hl
  | 17, _, _ => exact opString_17 w hl
  | 18, _, _ => exact opString_18 w hl
  | 19, _, _ => exact opString_19 w hl
  | 20, _, _ => exact opString_20 w hl
  | 21, _, _ => exact opString_21 w hl
  | 22, _, _ => exact opString_22 w hl
  | 23, _, _ => exact opString_23 w hl
  | q + 24, _, h2 => omega

theorem Laid.drawn {w w1 : World} (h : Laid w) (hd : Drawn0 w w1) : Laid w1 := h.grow hd.below
set_option maxHeartbeats 1000000 in
theorem operatorOf_any (s : ByteArray) (q : Nat) (h1 : 1 ≤ q) (h2 : q ≤ 23) (hs : s = opText q) (w : World) (hl : Laid w) :
    Calls Tryd.prog 28 #[.string s] w fun e w' => ∃ k : Nat, e = .returned (.int .u64 k) ∧ (1 ≤ k ∧ k ≤ 23) ∧ s = opText k ∧ Drawn0 w w' := by
  have HS := Aside0.mk hs
  have HL := Aside0.mk hl
  clear hs hl
  go_enter Tryd.func28, Tryd.ntmps28
  go_wp2
  go_loopw [3] (fun i wr => ∃ k : Nat, 1 ≤ k ∧ k ≤ q ∧ i = .int .u64 k ∧ Drawn0 w wr) (fun i _ => 24 - (intOf i).toNat)
  case atStart => exact ⟨1, by omega, h1, rfl, Drawn0.refl _⟩
  case round =>
    obtain ⟨k, hk1, hk2, rfl, hd⟩ := hrel
    have HD := Aside0.mk hd
    clear hd
    have hk3 : (k : Int) ≤ 23 := by omega
    have hk0 : (0 : Int) ≤ k := by omega
    have hkd : decide ((k : Int) ≤ 23) = true := decide_eq_true hk3
    by_cases he : opText k = s
    · have hb : ((opText k).toList == s.toList) = true := by rw [he]; exact beq_self_eq_true _
      have HE := Aside0.mk he
      clear he
      go_wp2_with (go_at_call 24; (with_reducible refine (opString_any k hk1 (by omega) _ (HL.out.drawn HD.out)).mono ?_); rintro e w' ⟨rfl, ⟨nd, rfl⟩⟩)
      go_ret
      exact ⟨k, rfl, ⟨hk1, by omega⟩, HE.out.symm, HD.out.step nd⟩
    · have hb : ((opText k).toList == s.toList) = false := beq_eq_false_iff_ne.mpr (fun e => he (ext_of (by simpa [ByteArray.toList_eq] using e)))
      have hkq : k < q := by
        rcases Nat.lt_or_ge k q with h | h
        · exact h
        · have : k = q := by omega
          subst this
          exact absurd HS.out.symm he
      have HE := Aside0.mk he
      clear he
      go_wp2_with (go_at_call 24; (with_reducible refine (opString_any k hk1 (by omega) _ (HL.out.drawn HD.out)).mono ?_); rintro e w' ⟨rfl, ⟨nd, rfl⟩⟩)
      go_roundw
      case rel => exact ⟨k + 1, by omega, by omega, by go_num, HD.out.step nd⟩
      case measure => simp [intOf]; omega
end Go.Proofs.YtjkhfdekmpaoiaaDoor
