/- How an expression is put together out of its parts in a new block; what the program's trees of expressions are ('Good'); the cells of a tree's parts. Plain Lean over the model's memory; no walk. -/
import Derived.Test.YtjkhfdekmpaoiaaDoorRb
namespace Go.Proofs.YtjkhfdekmpaoiaaDoor
open Go.RowKit Go.Proofs.YtjkhfdekmpaoiaaDoorW.PrintWords Go.Proofs.YtjkhfdekmpaoiaaDoor.Kinds
set_option linter.unusedVariables false
set_option linter.unusedSimpArgs false

theorem cell_up {w w1 : World} (hB : Below w.heap.size w w1) {a : Addr} {v : Value} (h : w.cell? a = some v) : w1.cell? a = some v := pw_cell_below hB h
theorem size_up {w w1 w2 : World} {B : Nat} (h : Below B w w1) (h' : Below w1.heap.size w1 w2) : w.heap.size ≤ w2.heap.size := Nat.le_trans h.size h'.size

/-- The cells of part number j of a tree. -/
theorem kid_cells {w : World} {A : Option Addr} {n : Nat} {ts : List S24} (h : Kd.C k24 w A n ts) (j : Nat) (t : S24) (hj : ts[j]? = some t) :
    ∃ ad A2 c2, A = some ad ∧ w.cell? (ad.add (j * 3)) = some (.string t.f0) ∧ w.cell? ⟨(ad.add (j * 3)).block, (ad.add (j * 3)).off + 1, none⟩ = some (.string t.f1) ∧ w.cell? ⟨(ad.add (j * 3)).block, (ad.add (j * 3)).off + 2, none⟩ = some (.slice A2 t.f2.length c2) ∧ t.f2.length ≤ c2 ∧ k24.C w A2 t.f2.length t.f2 := by
  have hn : ts.length = n := h.1
  have hjl := (List.getElem?_eq_some_iff.1 hj).1
  obtain ⟨ad, A2, c2, e, h0, h1, h2, h3, h4⟩ := at_T24 h (j : Int) (by omega) (by omega)
  have er : rd_T24 ts (j : Int) = t := by simp [rd_T24, List.getD_eq_getElem?_getD, hj]
  rw [er] at h0 h1 h2 h3 h4
  exact ⟨ad, A2, c2, e, h0, h1, h2, h3, h4⟩

/-- b is the block of a name. -/
def NameAt (w : World) (base : Nat) (b : Nat) (s : ByteArray) : Prop := ∃ cs, w.heap[b]? = some (.cells cs 84 (0, 0)) ∧ cs[0]? = some (.string s) ∧ base ≤ b
section
variable {w w1 W : World} {base : Nat} {ok : Nat → Prop} {t t0 t1 t2 t3 : S24} {v v0 v1 v2 v3 : Value} {ts : List S24} {s : ByteArray} {cs : Array Value}
theorem NameAt.grow {b : Nat} (h : NameAt w base b s) (hb : Below w.heap.size w w1) : NameAt w1 base b s := by
  obtain ⟨cs, h1, h2, h3⟩ := h
  exact ⟨cs, blk_below h1 hb, h2, h3⟩
theorem NameAt.lower {b base' : Nat} (h : NameAt w base b s) (hb : base' ≤ base) : NameAt w base' b s := by
  obtain ⟨cs, h1, h2, h3⟩ := h
  exact ⟨cs, h1, h2, Nat.le_trans hb h3⟩
theorem Rep.nil (h : Rep w t .nilIface) : t.f0 = ⟨#[]⟩ := by
  cases h
  rfl
theorem Made.some_ (h : Made w base t v) (hf : t.f0 ≠ ⟨#[]⟩) : ∃ T b, v = .iface T (.pointer (some ⟨b, 0, none⟩)) := by
  rcases h.now.shape with rfl | h1
  · exact absurd h.now.nil hf
  · exact h1
theorem Made.up (h : Made W base t v) (o : Obj) : Made (W.alloc o) base t v := h.grow (below_alloc (Below.refl _ _) _)
theorem MadeRow.up (h : MadeRow W base ts v) (o : Obj) : MadeRow (W.alloc o) base ts v := h.grow (below_alloc (Below.refl _ _) _)

theorem Made.name_ {b : Nat} (h : NameAt W base b s) : Made W base ⟨(⟨#[110, 97, 109, 101]⟩ : ByteArray), s, []⟩ (.iface 62 (.pointer (some ⟨b, 0, none⟩))) := by
  obtain ⟨cs, h1, h2, h3⟩ := h
  exact .of fun w1 hA => .name s b cs (hA.blk h1 (by decide) h3 trivial) h2
theorem Made.lit_ {K : ByteArray} {q : Int} (hk : (K, q) ∈ lits) {b : Nat} (h : W.heap[b]? = some (.cells cs 129 (0, 0))) (h0 : cs[0]? = some (.string s)) (h1 : cs[1]? = some (.int .u8 q)) (hb : base ≤ b) : Made W base ⟨K, s, []⟩ (.iface 64 (.pointer (some ⟨b, 0, none⟩))) := .of fun w1 hA => .lit K q hk s b cs (hA.blk h (by decide) hb trivial) h0 h1
theorem Made.uno_ {K : ByteArray} {T S : Nat} (hk : (K, T, S) ∈ ones) (hS : S ∈ EL) (m0 : Made W base t0 v0) (h0 : cs[0]? = some v0) (hb : base ≤ W.heap.size) : Made (W.alloc (.cells cs S (0, 0))) base ⟨K, (⟨#[]⟩ : ByteArray), [t0]⟩ (.iface T (.pointer (some ⟨W.heap.size, 0, none⟩))) := .of fun w1 hA => .uno K T S hk t0 v0 _ cs (hA.blk (blk_new W _) hS hb trivial) h0 ((m0.up _).rep hA)
theorem Made.duo_ {K : ByteArray} {T S : Nat} (hk : (K, T, S) ∈ twos) (hS : S ∈ EL) (m0 : Made W base t0 v0) (m1 : Made W base t1 v1) (h0 : cs[0]? = some v0) (h1 : cs[1]? = some v1) (hb : base ≤ W.heap.size) : Made (W.alloc (.cells cs S (0, 0))) base ⟨K, (⟨#[]⟩ : ByteArray), [t0, t1]⟩ (.iface T (.pointer (some ⟨W.heap.size, 0, none⟩))) := .of fun w1 hA => .duo K T S hk t0 t1 v0 v1 _ cs (hA.blk (blk_new W _) hS hb trivial) h0 h1 ((m0.up _).rep hA) ((m1.up _).rep hA)
theorem Made.sel_ {b : Nat} (m0 : Made W base t0 v0) (n : NameAt W base b s) (h0 : cs[0]? = some v0) (h1 : cs[1]? = some (.pointer (some ⟨b, 0, none⟩))) (hb : base ≤ W.heap.size) : Made (W.alloc (.cells cs 86 (0, 0))) base ⟨(⟨#[115, 101, 108, 101, 99, 116, 111, 114]⟩ : ByteArray), s, [t0]⟩ (.iface 82 (.pointer (some ⟨W.heap.size, 0, none⟩))) := by
  obtain ⟨cs2, n1, n2, n3⟩ := n.grow (below_alloc (Below.refl _ _) (.cells cs 86 (0, 0)))
  exact .of fun w1 hA => .sel s t0 v0 _ b cs cs2 (hA.blk (blk_new W _) (by decide) hb trivial) h0 h1 (hA.blk n1 (by decide) n3 trivial) n2 ((m0.up _).rep hA)
theorem Made.slice_ {f : Bool} (m0 : Made W base t0 v0) (m1 : Made W base t1 v1) (m2 : Made W base t2 v2) (m3 : Made W base t3 v3) (h0 : cs[0]? = some v0) (h1 : cs[1]? = some v1) (h2 : cs[2]? = some v2) (h3 : cs[3]? = some v3) (h4 : cs[4]? = some (.bool f)) (hb : base ≤ W.heap.size) : Made (W.alloc (.cells cs 93 (0, 0))) base ⟨(⟨#[115, 108, 105, 99, 101]⟩ : ByteArray), if f then (⟨#[102, 117, 108, 108]⟩ : ByteArray) else (⟨#[]⟩ : ByteArray), [t0, t1, t2, t3]⟩ (.iface 90 (.pointer (some ⟨W.heap.size, 0, none⟩))) := .of fun w1 hA => .slice f t0 t1 t2 t3 v0 v1 v2 v3 _ cs (hA.blk (blk_new W _) (by decide) hb trivial) h0 h1 h2 h3 h4 ((m0.up _).rep hA) ((m1.up _).rep hA) ((m2.up _).rep hA) ((m3.up _).rep hA)
theorem Made.unary_ {q : Nat} (hq : 1 ≤ q ∧ q ≤ 23) (m0 : Made W base t0 v0) (h0 : cs[0]? = some (.int .u64 q)) (h1 : cs[1]? = some v0) (h2 : cs[2]? = some .nilIface) (hb : base ≤ W.heap.size) : Made (W.alloc (.cells cs 104 (0, 0))) base ⟨(⟨#[117, 110, 97, 114, 121]⟩ : ByteArray), opText q, [t0]⟩ (.iface 100 (.pointer (some ⟨W.heap.size, 0, none⟩))) := .of fun w1 hA => .unary q hq t0 v0 _ cs (hA.blk (blk_new W _) (by decide) hb trivial) h0 h1 h2 ((m0.up _).rep hA)
theorem Made.binary_ {q : Nat} (hq : 1 ≤ q ∧ q ≤ 23) (m0 : Made W base t0 v0) (m1 : Made W base t1 v1) (hf : t1.f0 ≠ ⟨#[]⟩) (h0 : cs[0]? = some (.int .u64 q)) (h1 : cs[1]? = some v0) (h2 : cs[2]? = some v1) (hb : base ≤ W.heap.size) : Made (W.alloc (.cells cs 104 (0, 0))) base ⟨(⟨#[98, 105, 110, 97, 114, 121]⟩ : ByteArray), opText q, [t0, t1]⟩ (.iface 100 (.pointer (some ⟨W.heap.size, 0, none⟩))) := by
  obtain ⟨T1, b1, rfl⟩ := m1.some_ hf
  exact .of fun w1 hA => .binary q hq t0 t1 v0 T1 b1 _ cs (hA.blk (blk_new W _) (by decide) hb trivial) h0 h1 h2 ((m0.up _).rep hA) ((m1.up _).rep hA)
theorem Made.chan_ {q : Nat} (hq : q ≤ 2) (m0 : Made W base t0 v0) (h0 : cs[0]? = some (.int .u64 q)) (h1 : cs[1]? = some v0) (hb : base ≤ W.heap.size) : Made (W.alloc (.cells cs 125 (0, 0))) base ⟨(⟨#[99, 104, 97, 110, 116, 121, 112, 101]⟩ : ByteArray), dirText q, [t0]⟩ (.iface 121 (.pointer (some ⟨W.heap.size, 0, none⟩))) := .of fun w1 hA => .chan q hq t0 v0 _ cs (hA.blk (blk_new W _) (by decide) hb trivial) h0 h1 ((m0.up _).rep hA)
theorem Made.comp_ (mr : MadeRow W base ts v1) (m0 : Made W base t0 v0) (h0 : cs[0]? = some v0) (h1 : cs[1]? = some v1) (hb : base ≤ W.heap.size) : Made (W.alloc (.cells cs 68 (0, 0))) base ⟨(⟨#[99, 111, 109, 112, 111, 115, 105, 116, 101]⟩ : ByteArray), (⟨#[]⟩ : ByteArray), t0 :: ts⟩ (.iface 66 (.pointer (some ⟨W.heap.size, 0, none⟩))) := by
  obtain ⟨A, c, ad, vs, rfl, hlc, hlm, hA', hl, hr⟩ := (mr.up (.cells cs 68 (0, 0))).row
  exact .of fun w1 hA => .comp t0 ts v0 _ cs (hA.blk (blk_new W _) (by decide) hb trivial) h0 ((m0.up _).rep hA) A c ad hlc hlm hA' vs hl (hr w1 hA).1 (hr w1 hA).2 h1
theorem Made.call_ (mr : MadeRow W base ts v1) {f : Bool} (m0 : Made W base t0 v0) (h0 : cs[0]? = some v0) (h1 : cs[1]? = some v1) (h2 : cs[2]? = some (.bool f)) (hb : base ≤ W.heap.size) : Made (W.alloc (.cells cs 108 (0, 0))) base ⟨(⟨#[99, 97, 108, 108]⟩ : ByteArray), if f then (⟨#[46, 46, 46]⟩ : ByteArray) else (⟨#[]⟩ : ByteArray), t0 :: ts⟩ (.iface 106 (.pointer (some ⟨W.heap.size, 0, none⟩))) := by
  obtain ⟨A, c, ad, vs, rfl, hlc, hlm, hA', hl, hr⟩ := (mr.up (.cells cs 108 (0, 0))).row
  exact .of fun w1 hA => .call f t0 ts v0 _ cs (hA.blk (blk_new W _) (by decide) hb trivial) h0 ((m0.up _).rep hA) A c ad hlc hlm hA' vs hl (hr w1 hA).1 (hr w1 hA).2 h1 h2
theorem Made.list_ (mr : MadeRow W base ts v1) (h0 : cs[0]? = some v1) (hb : base ≤ W.heap.size) : Made (W.alloc (.cells cs 61 (0, 0))) base ⟨(⟨#[108, 105, 115, 116]⟩ : ByteArray), (⟨#[]⟩ : ByteArray), ts⟩ (.iface 40 (.pointer (some ⟨W.heap.size, 0, none⟩))) := by
  obtain ⟨A, c, ad, vs, rfl, hlc, hlm, hA', hl, hr⟩ := (mr.up (.cells cs 61 (0, 0))).row
  exact .of fun w1 hA => .list ts _ cs (hA.blk (blk_new W _) (by decide) hb trivial) A c ad hlc hlm hA' vs hl (hr w1 hA).1 (hr w1 hA).2 h0
end

/-- The trees of expressions that the program makes and reads again (among them the missing one). -/
inductive Good : S24 → Prop
  | miss : Good ⟨(⟨#[]⟩ : ByteArray), (⟨#[]⟩ : ByteArray), []⟩
  | name (s : ByteArray) : Good ⟨(⟨#[110, 97, 109, 101]⟩ : ByteArray), s, []⟩
  | lit (K : ByteArray) (q : Int) (hk : (K, q) ∈ lits) (s : ByteArray) : Good ⟨K, s, []⟩
  | uno (K : ByteArray) (T S : Nat) (hk : (K, T, S) ∈ ones) (t0 : S24) (g0 : Good t0) : Good ⟨K, (⟨#[]⟩ : ByteArray), [t0]⟩
  | duo (K : ByteArray) (T S : Nat) (hk : (K, T, S) ∈ twos) (t0 t1 : S24) (g0 : Good t0) (g1 : Good t1) : Good ⟨K, (⟨#[]⟩ : ByteArray), [t0, t1]⟩
  | sel (s : ByteArray) (t0 : S24) (g0 : Good t0) : Good ⟨(⟨#[115, 101, 108, 101, 99, 116, 111, 114]⟩ : ByteArray), s, [t0]⟩
  | slice (f : Bool) (t0 t1 t2 t3 : S24) (g0 : Good t0) (g1 : Good t1) (g2 : Good t2) (g3 : Good t3) : Good ⟨(⟨#[115, 108, 105, 99, 101]⟩ : ByteArray), if f then (⟨#[102, 117, 108, 108]⟩ : ByteArray) else (⟨#[]⟩ : ByteArray), [t0, t1, t2, t3]⟩
  | unary (q : Nat) (hq : 1 ≤ q ∧ q ≤ 23) (t0 : S24) (g0 : Good t0) : Good ⟨(⟨#[117, 110, 97, 114, 121]⟩ : ByteArray), opText q, [t0]⟩
  | binary (q : Nat) (hq : 1 ≤ q ∧ q ≤ 23) (t0 t1 : S24) (g0 : Good t0) (g1 : Good t1) (hf : t1.f0 ≠ ⟨#[]⟩) : Good ⟨(⟨#[98, 105, 110, 97, 114, 121]⟩ : ByteArray), opText q, [t0, t1]⟩
  | chan (q : Nat) (hq : q ≤ 2) (t0 : S24) (g0 : Good t0) : Good ⟨(⟨#[99, 104, 97, 110, 116, 121, 112, 101]⟩ : ByteArray), dirText q, [t0]⟩
  | comp (t0 : S24) (ts : List S24) (g0 : Good t0) (gs : ∀ (j : Nat) (t : S24), ts[j]? = some t → Good t) : Good ⟨(⟨#[99, 111, 109, 112, 111, 115, 105, 116, 101]⟩ : ByteArray), (⟨#[]⟩ : ByteArray), t0 :: ts⟩
  | call (f : Bool) (t0 : S24) (ts : List S24) (g0 : Good t0) (gs : ∀ (j : Nat) (t : S24), ts[j]? = some t → Good t) : Good ⟨(⟨#[99, 97, 108, 108]⟩ : ByteArray), if f then (⟨#[46, 46, 46]⟩ : ByteArray) else (⟨#[]⟩ : ByteArray), t0 :: ts⟩
  | list (ts : List S24) (gs : ∀ (j : Nat) (t : S24), ts[j]? = some t → Good t) : Good ⟨(⟨#[108, 105, 115, 116]⟩ : ByteArray), (⟨#[]⟩ : ByteArray), ts⟩
/-- What fits into memory: no text and no list of nodes is longer than what is read can be. -/
inductive Fits : S24 → Prop
  | mk (t : S24) (h0 : t.f0.size ≤ 140737488351232) (h1 : t.f1.size ≤ 140737488351232) (h2 : t.f2.length * 56 ≤ 140737488351232) (hs : ∀ (j : Nat) (x : S24), t.f2[j]? = some x → Fits x) : Fits t
theorem Fits.kid {t x : S24} (h : Fits t) (j : Nat) (hj : t.f2[j]? = some x) : Fits x := by
  cases h with
  | mk _ _ _ _ hs => exact hs j x hj
theorem Fits.len {t : S24} (h : Fits t) : t.f2.length * 56 ≤ 140737488351232 := by
  cases h with
  | mk _ _ _ h2 _ => exact h2
theorem Fits.text {t : S24} (h : Fits t) : t.f1.size ≤ 140737488351232 := by
  cases h with
  | mk _ _ h1 _ _ => exact h1
end Go.Proofs.YtjkhfdekmpaoiaaDoor
