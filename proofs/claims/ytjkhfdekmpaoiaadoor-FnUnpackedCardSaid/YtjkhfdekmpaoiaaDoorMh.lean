/- made, for every tree of an expression that fits into memory: the kinds' walks put together by induction. -/
import Derived.Test.YtjkhfdekmpaoiaaDoorMc
import Derived.Test.YtjkhfdekmpaoiaaDoorMd
import Derived.Test.YtjkhfdekmpaoiaaDoorMe
import Derived.Test.YtjkhfdekmpaoiaaDoorMf
import Derived.Test.YtjkhfdekmpaoiaaDoorMg
namespace Go.Proofs.YtjkhfdekmpaoiaaDoor
open Go.RowKit Go.Proofs.YtjkhfdekmpaoiaaDoorW.PrintWords Go.Proofs.YtjkhfdekmpaoiaaDoor.Kinds
set_option linter.unusedVariables false
set_option linter.unusedSimpArgs false

theorem made_good {t : S24} (g : Good t) : Fits t → MadeC t := by
  induction g with
  | miss => exact fun _ => made_miss
  | name s => exact fun _ => made_name s
  | lit K q hk s =>
    intro _
    simp only [lits, List.mem_cons, Prod.mk.injEq, List.not_mem_nil, or_false] at hk
    rcases hk with ⟨rfl, rfl⟩ | ⟨rfl, rfl⟩ | ⟨rfl, rfl⟩ | ⟨rfl, rfl⟩ | ⟨rfl, rfl⟩
    · exact made_int s
    · exact made_float s
    · exact made_imag s
    · exact made_rune s
    · exact made_string s
  | uno K T S hk t0 g0 ih =>
    intro f
    have i0 := ih (f.kid 0 rfl)
    simp only [ones, List.mem_cons, Prod.mk.injEq, List.not_mem_nil, or_false] at hk
    rcases hk with ⟨rfl, rfl, rfl⟩ | ⟨rfl, rfl, rfl⟩
    · exact made_paren t0 i0
    · exact made_slicetype t0 i0
  | duo K T S hk t0 t1 g0 g1 ih0 ih1 =>
    intro f
    have i0 := ih0 (f.kid 0 rfl)
    have i1 := ih1 (f.kid 1 rfl)
    simp only [twos, List.mem_cons, Prod.mk.injEq, List.not_mem_nil, or_false] at hk
    rcases hk with ⟨rfl, rfl, rfl⟩ | ⟨rfl, rfl, rfl⟩ | ⟨rfl, rfl, rfl⟩ | ⟨rfl, rfl, rfl⟩ | ⟨rfl, rfl, rfl⟩
    · exact made_keyvalue t0 t1 i0 i1
    · exact made_index t0 t1 i0 i1
    · exact made_assert t0 t1 i0 i1
    · exact made_arraytype t0 t1 i0 i1
    · exact made_maptype t0 t1 i0 i1
  | sel s t0 g0 ih => exact fun f => made_selector s t0 (ih (f.kid 0 rfl))
  | slice b t0 t1 t2 t3 g0 g1 g2 g3 ih0 ih1 ih2 ih3 =>
    intro f
    have i0 := ih0 (f.kid 0 rfl)
    have i1 := ih1 (f.kid 1 rfl)
    have i2 := ih2 (f.kid 2 rfl)
    have i3 := ih3 (f.kid 3 rfl)
    cases b
    · exact made_slice_e t0 t1 t2 t3 i0 i1 i2 i3
    · exact made_slice_f t0 t1 t2 t3 i0 i1 i2 i3
  | unary q hq t0 g0 ih => exact fun f => made_unary q hq _ rfl t0 (ih (f.kid 0 rfl))
  | binary q hq t0 t1 g0 g1 hf ih0 ih1 => exact fun f => made_binary q hq _ rfl t0 t1 hf (ih0 (f.kid 0 rfl)) (ih1 (f.kid 1 rfl))
  | chan q hq t0 g0 ih =>
    intro f
    have i0 := ih (f.kid 0 rfl)
    match q, hq with
    | 0, _ => exact made_chan_0 t0 i0
    | 1, _ => exact made_chan_1 t0 i0
    | 2, _ => exact made_chan_2 t0 i0
    | q + 3, hq => omega
  | comp t0 ts g0 gs ih0 ihs =>
    intro f
    have hl := f.len
    simp only [List.length_cons] at hl
    exact made_composite t0 ts (fun j t hj => ihs j t hj (f.kid (j + 1) (by simpa using hj))) (by omega) (ih0 (f.kid 0 rfl))
  | call b t0 ts g0 gs ih0 ihs =>
    intro f
    have hl := f.len
    simp only [List.length_cons] at hl
    cases b
    · exact made_call_e t0 ts (fun j t hj => ihs j t hj (f.kid (j + 1) (by simpa using hj))) (by omega) (ih0 (f.kid 0 rfl))
    · exact made_call_t t0 ts (fun j t hj => ihs j t hj (f.kid (j + 1) (by simpa using hj))) (by omega) (ih0 (f.kid 0 rfl))
  | list ts gs ihs => exact fun f => made_list ts (fun j t hj => ihs j t hj (f.kid j hj)) f.len
end Go.Proofs.YtjkhfdekmpaoiaaDoor
