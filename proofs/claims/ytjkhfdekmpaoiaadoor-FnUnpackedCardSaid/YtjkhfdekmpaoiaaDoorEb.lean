/- The walks of nameNode and litNode: the node of a name, and of a literal. -/
import Derived.Test.YtjkhfdekmpaoiaaDoorEa
namespace Go.Proofs.YtjkhfdekmpaoiaaDoor
open Go.RowKit Go.Proofs.YtjkhfdekmpaoiaaDoorW.PrintWords Go.Proofs.YtjkhfdekmpaoiaaDoor.Kinds
set_option linter.unusedVariables false
set_option linter.unusedSimpArgs false

set_option maxHeartbeats 2000000 in
set_option maxRecDepth 100000 in
theorem nameNode_any (s : ByteArray) (b : Nat) (w : World) (h : w.cell? ⟨b, 0, none⟩ = some (.string s)) :
    Calls Tryd.prog 20 #[.pointer (some ⟨b, 0, none⟩)] w fun e w' => e = .returned (.agg #[.string (⟨#[110, 97, 109, 101]⟩ : ByteArray), .string s, .slice none 0 0]) ∧ Below w.heap.size w w' := by
  have i0 : (w.alloc (.cells #[.string ⟨#[]⟩, .string ⟨#[]⟩, .slice none 0 0] 24)).cell? ⟨b, 0, none⟩ = some (.string s) := cell_up (below_alloc (Below.refl _ _) _) h
  clear h
  go_enter Tryd.func20, Tryd.ntmps20
  go_wp2
  refine bodyPost_ret (v := .agg #[.string (⟨#[110, 97, 109, 101]⟩ : ByteArray), .string s, .slice none 0 0]) (by simp [results, Tryd.results20, go_sem]) rfl ⟨rfl, below_alloc (Below.refl _ _) _⟩

set_option maxHeartbeats 2000000 in
set_option maxRecDepth 100000 in
theorem litNode_int (s : ByteArray) (b : Nat) (w : World) (h : w.cell? ⟨b, 0, none⟩ = some (.string s)) (h1 : w.cell? ⟨b, 1, none⟩ = some (.int .u8 0)) :
    Calls Tryd.prog 21 #[.pointer (some ⟨b, 0, none⟩)] w fun e w' => e = .returned (.agg #[.string (⟨#[105, 110, 116]⟩ : ByteArray), .string s, .slice none 0 0]) ∧ Below w.heap.size w w' := by
  have i0 : (w.alloc (.cells #[.string ⟨#[]⟩, .string ⟨#[]⟩, .slice none 0 0] 24)).cell? ⟨b, 0, none⟩ = some (.string s) := cell_up (below_alloc (Below.refl _ _) _) h
  have i1 : (w.alloc (.cells #[.string ⟨#[]⟩, .string ⟨#[]⟩, .slice none 0 0] 24)).cell? ⟨b, 1, none⟩ = some (.int .u8 0) := cell_up (below_alloc (Below.refl _ _) _) h1
  clear h h1
  go_enter Tryd.func21, Tryd.ntmps21
  go_wp2
  refine bodyPost_ret (v := .agg #[.string (⟨#[105, 110, 116]⟩ : ByteArray), .string s, .slice none 0 0]) (by simp [results, Tryd.results21, go_sem]) rfl ⟨rfl, below_alloc (Below.refl _ _) _⟩

set_option maxHeartbeats 2000000 in
set_option maxRecDepth 100000 in
theorem litNode_float (s : ByteArray) (b : Nat) (w : World) (h : w.cell? ⟨b, 0, none⟩ = some (.string s)) (h1 : w.cell? ⟨b, 1, none⟩ = some (.int .u8 1)) :
    Calls Tryd.prog 21 #[.pointer (some ⟨b, 0, none⟩)] w fun e w' => e = .returned (.agg #[.string (⟨#[102, 108, 111, 97, 116]⟩ : ByteArray), .string s, .slice none 0 0]) ∧ Below w.heap.size w w' := by
  have i0 : (w.alloc (.cells #[.string ⟨#[]⟩, .string ⟨#[]⟩, .slice none 0 0] 24)).cell? ⟨b, 0, none⟩ = some (.string s) := cell_up (below_alloc (Below.refl _ _) _) h
  have i1 : (w.alloc (.cells #[.string ⟨#[]⟩, .string ⟨#[]⟩, .slice none 0 0] 24)).cell? ⟨b, 1, none⟩ = some (.int .u8 1) := cell_up (below_alloc (Below.refl _ _) _) h1
  clear h h1
  go_enter Tryd.func21, Tryd.ntmps21
  go_wp2
  refine bodyPost_ret (v := .agg #[.string (⟨#[102, 108, 111, 97, 116]⟩ : ByteArray), .string s, .slice none 0 0]) (by simp [results, Tryd.results21, go_sem]) rfl ⟨rfl, below_alloc (Below.refl _ _) _⟩

set_option maxHeartbeats 2000000 in
set_option maxRecDepth 100000 in
theorem litNode_imag (s : ByteArray) (b : Nat) (w : World) (h : w.cell? ⟨b, 0, none⟩ = some (.string s)) (h1 : w.cell? ⟨b, 1, none⟩ = some (.int .u8 2)) :
    Calls Tryd.prog 21 #[.pointer (some ⟨b, 0, none⟩)] w fun e w' => e = .returned (.agg #[.string (⟨#[105, 109, 97, 103]⟩ : ByteArray), .string s, .slice none 0 0]) ∧ Below w.heap.size w w' := by
  have i0 : (w.alloc (.cells #[.string ⟨#[]⟩, .string ⟨#[]⟩, .slice none 0 0] 24)).cell? ⟨b, 0, none⟩ = some (.string s) := cell_up (below_alloc (Below.refl _ _) _) h
  have i1 : (w.alloc (.cells #[.string ⟨#[]⟩, .string ⟨#[]⟩, .slice none 0 0] 24)).cell? ⟨b, 1, none⟩ = some (.int .u8 2) := cell_up (below_alloc (Below.refl _ _) _) h1
  clear h h1
  go_enter Tryd.func21, Tryd.ntmps21
  go_wp2
  refine bodyPost_ret (v := .agg #[.string (⟨#[105, 109, 97, 103]⟩ : ByteArray), .string s, .slice none 0 0]) (by simp [results, Tryd.results21, go_sem]) rfl ⟨rfl, below_alloc (Below.refl _ _) _⟩

set_option maxHeartbeats 2000000 in
set_option maxRecDepth 100000 in
theorem litNode_rune (s : ByteArray) (b : Nat) (w : World) (h : w.cell? ⟨b, 0, none⟩ = some (.string s)) (h1 : w.cell? ⟨b, 1, none⟩ = some (.int .u8 3)) :
    Calls Tryd.prog 21 #[.pointer (some ⟨b, 0, none⟩)] w fun e w' => e = .returned (.agg #[.string (⟨#[114, 117, 110, 101]⟩ : ByteArray), .string s, .slice none 0 0]) ∧ Below w.heap.size w w' := by
  have i0 : (w.alloc (.cells #[.string ⟨#[]⟩, .string ⟨#[]⟩, .slice none 0 0] 24)).cell? ⟨b, 0, none⟩ = some (.string s) := cell_up (below_alloc (Below.refl _ _) _) h
  have i1 : (w.alloc (.cells #[.string ⟨#[]⟩, .string ⟨#[]⟩, .slice none 0 0] 24)).cell? ⟨b, 1, none⟩ = some (.int .u8 3) := cell_up (below_alloc (Below.refl _ _) _) h1
  clear h h1
  go_enter Tryd.func21, Tryd.ntmps21
  go_wp2
  refine bodyPost_ret (v := .agg #[.string (⟨#[114, 117, 110, 101]⟩ : ByteArray), .string s, .slice none 0 0]) (by simp [results, Tryd.results21, go_sem]) rfl ⟨rfl, below_alloc (Below.refl _ _) _⟩

set_option maxHeartbeats 2000000 in
set_option maxRecDepth 100000 in
theorem litNode_string (s : ByteArray) (b : Nat) (w : World) (h : w.cell? ⟨b, 0, none⟩ = some (.string s)) (h1 : w.cell? ⟨b, 1, none⟩ = some (.int .u8 4)) :
    Calls Tryd.prog 21 #[.pointer (some ⟨b, 0, none⟩)] w fun e w' => e = .returned (.agg #[.string (⟨#[115, 116, 114, 105, 110, 103]⟩ : ByteArray), .string s, .slice none 0 0]) ∧ Below w.heap.size w w' := by
  have i0 : (w.alloc (.cells #[.string ⟨#[]⟩, .string ⟨#[]⟩, .slice none 0 0] 24)).cell? ⟨b, 0, none⟩ = some (.string s) := cell_up (below_alloc (Below.refl _ _) _) h
  have i1 : (w.alloc (.cells #[.string ⟨#[]⟩, .string ⟨#[]⟩, .slice none 0 0] 24)).cell? ⟨b, 1, none⟩ = some (.int .u8 4) := cell_up (below_alloc (Below.refl _ _) _) h1
  clear h h1
  go_enter Tryd.func21, Tryd.ntmps21
  go_wp2
  refine bodyPost_ret (v := .agg #[.string (⟨#[115, 116, 114, 105, 110, 103]⟩ : ByteArray), .string s, .slice none 0 0]) (by simp [results, Tryd.results21, go_sem]) rfl ⟨rfl, below_alloc (Below.refl _ _) _⟩

end Go.Proofs.YtjkhfdekmpaoiaaDoor
