/- exprNode, for every expression of a tree that fits into memory: the kinds' walks put together by induction. -/
import Derived.Test.YtjkhfdekmpaoiaaDoorEd
import Derived.Test.YtjkhfdekmpaoiaaDoorEe
import Derived.Test.YtjkhfdekmpaoiaaDoorEf
import Derived.Test.YtjkhfdekmpaoiaaDoorEg
import Derived.Test.YtjkhfdekmpaoiaaDoorEh
import Derived.Test.YtjkhfdekmpaoiaaDoorEi
import Derived.Test.YtjkhfdekmpaoiaaDoorEj
import Derived.Test.YtjkhfdekmpaoiaaDoorEk
import Derived.Test.YtjkhfdekmpaoiaaDoorEl
import Derived.Test.YtjkhfdekmpaoiaaDoorEm
import Derived.Test.YtjkhfdekmpaoiaaDoorEn
namespace Go.Proofs.YtjkhfdekmpaoiaaDoor
open Go.RowKit Go.Proofs.YtjkhfdekmpaoiaaDoorW.PrintWords Go.Proofs.YtjkhfdekmpaoiaaDoor.Kinds
set_option linter.unusedVariables false
set_option linter.unusedSimpArgs false

theorem node_good {w : World} {t : S24} {v : Value} (r : Rep w t v) : Fits t → NodeC w t v := by
  induction r with
  | miss => exact fun _ => node_nil w
  | name s b cs h h0 => exact fun _ => node_name w s b cs h h0
  | lit K q hk s b cs h h0 h1 =>
    intro _
    simp only [lits, List.mem_cons, Prod.mk.injEq, List.not_mem_nil, or_false] at hk
    rcases hk with ⟨rfl, rfl⟩ | ⟨rfl, rfl⟩ | ⟨rfl, rfl⟩ | ⟨rfl, rfl⟩ | ⟨rfl, rfl⟩
    · exact node_int w s b cs h h0 h1
    · exact node_float w s b cs h h0 h1
    · exact node_imag w s b cs h h0 h1
    · exact node_rune w s b cs h h0 h1
    · exact node_string w s b cs h h0 h1
  | uno K T S hk t0 v0 b cs h h0 r0 ih =>
    intro f
    have i0 := ih (f.kid 0 rfl)
    simp only [ones, List.mem_cons, Prod.mk.injEq, List.not_mem_nil, or_false] at hk
    rcases hk with ⟨rfl, rfl, rfl⟩ | ⟨rfl, rfl, rfl⟩
    · exact node_paren w t0 v0 b cs h h0 r0.cells i0
    · exact node_of_113 w _ b (blk_lt h) (type_slicetype w t0 v0 b cs h h0 r0.cells i0)
  | duo K T S hk t0 t1 v0 v1 b cs h h0 h1 r0 r1 ih0 ih1 =>
    intro f
    have i0 := ih0 (f.kid 0 rfl)
    have i1 := ih1 (f.kid 1 rfl)
    simp only [twos, List.mem_cons, Prod.mk.injEq, List.not_mem_nil, or_false] at hk
    rcases hk with ⟨rfl, rfl, rfl⟩ | ⟨rfl, rfl, rfl⟩ | ⟨rfl, rfl, rfl⟩ | ⟨rfl, rfl, rfl⟩ | ⟨rfl, rfl, rfl⟩
    · exact node_keyvalue w t0 t1 v0 v1 b cs h h0 h1 r0.cells r1.cells i0 i1
    · exact node_index w t0 t1 v0 v1 b cs h h0 h1 r0.cells r1.cells i0 i1
    · exact node_assert w t0 t1 v0 v1 b cs h h0 h1 r0.cells r1.cells i0 i1
    · exact node_of_116 w _ b (blk_lt h) (type_arraytype w t0 t1 v0 v1 b cs h h0 h1 r0.cells r1.cells i0 i1)
    · exact node_of_119 w _ b (blk_lt h) (type_maptype w t0 t1 v0 v1 b cs h h0 h1 r0.cells r1.cells i0 i1)
  | sel s t0 v0 b b2 cs cs2 h h0 h1 h2 h3 r0 ih =>
    exact fun f => node_selector w s t0 v0 b2 b cs h h0 h1 r0.cells (ih (f.kid 0 rfl)) ((blk_cell h2 0).trans h3)
  | slice d t0 t1 t2 t3 v0 v1 v2 v3 b cs h h0 h1 h2 h3 h4 r0 r1 r2 r3 ih0 ih1 ih2 ih3 =>
    intro f
    have i0 := ih0 (f.kid 0 rfl)
    have i1 := ih1 (f.kid 1 rfl)
    have i2 := ih2 (f.kid 2 rfl)
    have i3 := ih3 (f.kid 3 rfl)
    cases d
    · exact node_slice_e w t0 t1 t2 t3 v0 v1 v2 v3 b cs h h0 h1 h2 h3 h4 r0.cells r1.cells r2.cells r3.cells i0 i1 i2 i3
    · exact node_slice_f w t0 t1 t2 t3 v0 v1 v2 v3 b cs h h0 h1 h2 h3 h4 r0.cells r1.cells r2.cells r3.cells i0 i1 i2 i3
  | unary o ho t0 v0 b cs h h0 h1 h2 r0 ih =>
    exact fun f => node_unary w o ho _ rfl t0 v0 b cs h h0 h1 h2 r0.cells (ih (f.kid 0 rfl))
  | binary o ho t0 t1 v0 T1 b1 b cs h h0 h1 h2 r0 r1 ih0 ih1 =>
    exact fun f => node_binary w o ho _ rfl t0 t1 v0 T1 b1 b cs h h0 h1 h2 r0.cells (ih0 (f.kid 0 rfl)) (ih1 (f.kid 1 rfl))
  | chan d hd t0 v0 b cs h h0 h1 r0 ih =>
    intro f
    have i0 := ih (f.kid 0 rfl)
    match d, hd, h0 with
    | 0, _, h0 => exact node_of_121 w _ b (blk_lt h) (type_chan_0 w t0 v0 b cs h h0 h1 r0.cells i0)
    | 1, _, h0 => exact node_of_121 w _ b (blk_lt h) (type_chan_1 w t0 v0 b cs h h0 h1 r0.cells i0)
    | 2, _, h0 => exact node_of_121 w _ b (blk_lt h) (type_chan_2 w t0 v0 b cs h h0 h1 r0.cells i0)
    | d + 3, hd, _ => omega
  | comp t0 ts v0 b cs h h0 r0 A c ad hlc hlm hA vs hl hc hr h1 ih0 ihs =>
    intro f
    have hz := f.len
    simp only [List.length_cons] at hz
    exact node_composite w t0 v0 ts A c ad hlc hA vs hl hc (fun j t v hj hv => ihs j t v hj hv (f.kid (j + 1) (by simpa using hj))) b cs h h0 h1 hz r0.cells (ih0 (f.kid 0 rfl))
  | call d t0 ts v0 b cs h h0 r0 A c ad hlc hlm hA vs hl hc hr h1 h2 ih0 ihs =>
    intro f
    have hz := f.len
    simp only [List.length_cons] at hz
    cases d
    · exact node_call_e w t0 v0 ts A c ad hlc hA vs hl hc (fun j t v hj hv => ihs j t v hj hv (f.kid (j + 1) (by simpa using hj))) b cs h h0 h1 h2 hz r0.cells (ih0 (f.kid 0 rfl))
    · exact node_call_t w t0 v0 ts A c ad hlc hA vs hl hc (fun j t v hj hv => ihs j t v hj hv (f.kid (j + 1) (by simpa using hj))) b cs h h0 h1 h2 hz r0.cells (ih0 (f.kid 0 rfl))
  | list ts b cs h A c ad hlc hlm hA vs hl hc hr h1 ihs =>
    exact fun f => node_list w ts A c ad hlc hA vs hl hc (fun j t v hj hv => ihs j t v hj hv (f.kid j hj)) b cs h h1 f.len
end Go.Proofs.YtjkhfdekmpaoiaaDoor
