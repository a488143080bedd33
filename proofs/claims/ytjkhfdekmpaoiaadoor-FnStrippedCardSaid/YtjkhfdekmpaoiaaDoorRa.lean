/- Which values of the program's memory are the expression that is made of a tree ('Rep'), and the same as a kind of rows ('kE'). Plain Lean over the model's memory; no walk. -/
import Derived.Test.YtjkhfdekmpaoiaaDoorTa
namespace Go.Proofs.YtjkhfdekmpaoiaaDoor
open Go.RowKit Go.Proofs.YtjkhfdekmpaoiaaDoorW.PrintWords Go.Proofs.YtjkhfdekmpaoiaaDoor.Kinds
set_option linter.unusedVariables false
set_option linter.unusedSimpArgs false

/-- The texts of the operators, by number. -/
def opText : Nat → ByteArray
  | 1 => (⟨#[58]⟩ : ByteArray)
  | 2 => (⟨#[33]⟩ : ByteArray)
  | 3 => (⟨#[60, 45]⟩ : ByteArray)
  | 4 => (⟨#[126]⟩ : ByteArray)
  | 5 => (⟨#[124, 124]⟩ : ByteArray)
  | 6 => (⟨#[38, 38]⟩ : ByteArray)
  | 7 => (⟨#[61, 61]⟩ : ByteArray)
  | 8 => (⟨#[33, 61]⟩ : ByteArray)
  | 9 => (⟨#[60]⟩ : ByteArray)
  | 10 => (⟨#[60, 61]⟩ : ByteArray)
  | 11 => (⟨#[62]⟩ : ByteArray)
  | 12 => (⟨#[62, 61]⟩ : ByteArray)
  | 13 => (⟨#[43]⟩ : ByteArray)
  | 14 => (⟨#[45]⟩ : ByteArray)
  | 15 => (⟨#[124]⟩ : ByteArray)
  | 16 => (⟨#[94]⟩ : ByteArray)
  | 17 => (⟨#[42]⟩ : ByteArray)
  | 18 => (⟨#[47]⟩ : ByteArray)
  | 19 => (⟨#[37]⟩ : ByteArray)
  | 20 => (⟨#[38]⟩ : ByteArray)
  | 21 => (⟨#[38, 94]⟩ : ByteArray)
  | 22 => (⟨#[60, 60]⟩ : ByteArray)
  | 23 => (⟨#[62, 62]⟩ : ByteArray)
  | _ => (⟨#[]⟩ : ByteArray)
/-- The texts of the directions of channels. -/
def dirText : Nat → ByteArray
  | 1 => (⟨#[115, 101, 110, 100]⟩ : ByteArray)
  | 2 => (⟨#[114, 101, 99, 118]⟩ : ByteArray)
  | _ => (⟨#[]⟩ : ByteArray)
def lits : List (ByteArray × Int) := [((⟨#[105, 110, 116]⟩ : ByteArray), 0), ((⟨#[102, 108, 111, 97, 116]⟩ : ByteArray), 1), ((⟨#[105, 109, 97, 103]⟩ : ByteArray), 2), ((⟨#[114, 117, 110, 101]⟩ : ByteArray), 3), ((⟨#[115, 116, 114, 105, 110, 103]⟩ : ByteArray), 4)]
def ones : List (ByteArray × Nat × Nat) := [((⟨#[112, 97, 114, 101, 110]⟩ : ByteArray), 79, 81), ((⟨#[115, 108, 105, 99, 101, 116, 121, 112, 101]⟩ : ByteArray), 113, 115)]
def twos : List (ByteArray × Nat × Nat) := [((⟨#[107, 101, 121, 118, 97, 108, 117, 101]⟩ : ByteArray), 69, 71), ((⟨#[105, 110, 100, 101, 120]⟩ : ByteArray), 87, 89), ((⟨#[97, 115, 115, 101, 114, 116]⟩ : ByteArray), 94, 96), ((⟨#[97, 114, 114, 97, 121, 116, 121, 112, 101]⟩ : ByteArray), 116, 118), ((⟨#[109, 97, 112, 116, 121, 112, 101]⟩ : ByteArray), 119, 120)]
/-- v is, in w, the expression that is made of a tree (nil where it is missing). -/
inductive Rep (w : World) : S24 → Value → Prop
  | miss : Rep w ⟨(⟨#[]⟩ : ByteArray), (⟨#[]⟩ : ByteArray), []⟩ .nilIface
  | name (s : ByteArray) (b : Nat) (cs : Array Value) (h : w.heap[b]? = some (.cells cs 84 (0, 0))) (h0 : cs[0]? = some (.string s)) : Rep w ⟨(⟨#[110, 97, 109, 101]⟩ : ByteArray), s, []⟩ (.iface 62 (.pointer (some ⟨b, 0, none⟩)))
  | lit (K : ByteArray) (q : Int) (hk : (K, q) ∈ lits) (s : ByteArray) (b : Nat) (cs : Array Value) (h : w.heap[b]? = some (.cells cs 129 (0, 0))) (h0 : cs[0]? = some (.string s)) (h1 : cs[1]? = some (.int .u8 q)) : Rep w ⟨K, s, []⟩ (.iface 64 (.pointer (some ⟨b, 0, none⟩)))
  | uno (K : ByteArray) (T S : Nat) (hk : (K, T, S) ∈ ones) (t0 : S24) (v0 : Value) (b : Nat) (cs : Array Value) (h : w.heap[b]? = some (.cells cs S (0, 0))) (h0 : cs[0]? = some v0) (r0 : Rep w t0 v0) : Rep w ⟨K, (⟨#[]⟩ : ByteArray), [t0]⟩ (.iface T (.pointer (some ⟨b, 0, none⟩)))
  | duo (K : ByteArray) (T S : Nat) (hk : (K, T, S) ∈ twos) (t0 t1 : S24) (v0 v1 : Value) (b : Nat) (cs : Array Value) (h : w.heap[b]? = some (.cells cs S (0, 0))) (h0 : cs[0]? = some v0) (h1 : cs[1]? = some v1) (r0 : Rep w t0 v0) (r1 : Rep w t1 v1) : Rep w ⟨K, (⟨#[]⟩ : ByteArray), [t0, t1]⟩ (.iface T (.pointer (some ⟨b, 0, none⟩)))
  | sel (s : ByteArray) (t0 : S24) (v0 : Value) (b b2 : Nat) (cs cs2 : Array Value) (h : w.heap[b]? = some (.cells cs 86 (0, 0))) (h0 : cs[0]? = some v0) (h1 : cs[1]? = some (.pointer (some ⟨b2, 0, none⟩))) (h2 : w.heap[b2]? = some (.cells cs2 84 (0, 0))) (h3 : cs2[0]? = some (.string s)) (r0 : Rep w t0 v0) : Rep w ⟨(⟨#[115, 101, 108, 101, 99, 116, 111, 114]⟩ : ByteArray), s, [t0]⟩ (.iface 82 (.pointer (some ⟨b, 0, none⟩)))
  | slice (f : Bool) (t0 t1 t2 t3 : S24) (v0 v1 v2 v3 : Value) (b : Nat) (cs : Array Value) (h : w.heap[b]? = some (.cells cs 93 (0, 0))) (h0 : cs[0]? = some v0) (h1 : cs[1]? = some v1) (h2 : cs[2]? = some v2) (h3 : cs[3]? = some v3) (h4 : cs[4]? = some (.bool f)) (r0 : Rep w t0 v0) (r1 : Rep w t1 v1) (r2 : Rep w t2 v2) (r3 : Rep w t3 v3) : Rep w ⟨(⟨#[115, 108, 105, 99, 101]⟩ : ByteArray), if f then (⟨#[102, 117, 108, 108]⟩ : ByteArray) else (⟨#[]⟩ : ByteArray), [t0, t1, t2, t3]⟩ (.iface 90 (.pointer (some ⟨b, 0, none⟩)))
  | unary (o : Nat) (ho : 1 ≤ o ∧ o ≤ 23) (t0 : S24) (v0 : Value) (b : Nat) (cs : Array Value) (h : w.heap[b]? = some (.cells cs 104 (0, 0))) (h0 : cs[0]? = some (.int .u64 o)) (h1 : cs[1]? = some v0) (h2 : cs[2]? = some .nilIface) (r0 : Rep w t0 v0) : Rep w ⟨(⟨#[117, 110, 97, 114, 121]⟩ : ByteArray), opText o, [t0]⟩ (.iface 100 (.pointer (some ⟨b, 0, none⟩)))
  | binary (o : Nat) (ho : 1 ≤ o ∧ o ≤ 23) (t0 t1 : S24) (v0 : Value) (T1 b1 : Nat) (b : Nat) (cs : Array Value) (h : w.heap[b]? = some (.cells cs 104 (0, 0))) (h0 : cs[0]? = some (.int .u64 o)) (h1 : cs[1]? = some v0) (h2 : cs[2]? = some (.iface T1 (.pointer (some ⟨b1, 0, none⟩)))) (r0 : Rep w t0 v0) (r1 : Rep w t1 (.iface T1 (.pointer (some ⟨b1, 0, none⟩)))) : Rep w ⟨(⟨#[98, 105, 110, 97, 114, 121]⟩ : ByteArray), opText o, [t0, t1]⟩ (.iface 100 (.pointer (some ⟨b, 0, none⟩)))
  | chan (d : Nat) (hd : d ≤ 2) (t0 : S24) (v0 : Value) (b : Nat) (cs : Array Value) (h : w.heap[b]? = some (.cells cs 125 (0, 0))) (h0 : cs[0]? = some (.int .u64 d)) (h1 : cs[1]? = some v0) (r0 : Rep w t0 v0) : Rep w ⟨(⟨#[99, 104, 97, 110, 116, 121, 112, 101]⟩ : ByteArray), dirText d, [t0]⟩ (.iface 121 (.pointer (some ⟨b, 0, none⟩)))
  | comp (t0 : S24) (ts : List S24) (v0 : Value) (b : Nat) (cs : Array Value) (h : w.heap[b]? = some (.cells cs 68 (0, 0))) (h0 : cs[0]? = some v0) (r0 : Rep w t0 v0) (A : Option Addr) (c : Nat) (ad : Addr) (hlc : ts.length ≤ c) (hlm : ts.length ≤ 9223372036854775807) (hA : 0 < ts.length → A = some ad) (vs : List Value) (hl : vs.length = ts.length) (hc : ∀ (j : Nat) (v : Value), vs[j]? = some v → w.cell? (ad.add j) = some v) (hr : ∀ (j : Nat) (t : S24) (v : Value), ts[j]? = some t → vs[j]? = some v → Rep w t v) (h1 : cs[1]? = some (.slice A ts.length c)) : Rep w ⟨(⟨#[99, 111, 109, 112, 111, 115, 105, 116, 101]⟩ : ByteArray), (⟨#[]⟩ : ByteArray), t0 :: ts⟩ (.iface 66 (.pointer (some ⟨b, 0, none⟩)))
  | call (d : Bool) (t0 : S24) (ts : List S24) (v0 : Value) (b : Nat) (cs : Array Value) (h : w.heap[b]? = some (.cells cs 108 (0, 0))) (h0 : cs[0]? = some v0) (r0 : Rep w t0 v0) (A : Option Addr) (c : Nat) (ad : Addr) (hlc : ts.length ≤ c) (hlm : ts.length ≤ 9223372036854775807) (hA : 0 < ts.length → A = some ad) (vs : List Value) (hl : vs.length = ts.length) (hc : ∀ (j : Nat) (v : Value), vs[j]? = some v → w.cell? (ad.add j) = some v) (hr : ∀ (j : Nat) (t : S24) (v : Value), ts[j]? = some t → vs[j]? = some v → Rep w t v) (h1 : cs[1]? = some (.slice A ts.length c)) (h2 : cs[2]? = some (.bool d)) : Rep w ⟨(⟨#[99, 97, 108, 108]⟩ : ByteArray), if d then (⟨#[46, 46, 46]⟩ : ByteArray) else (⟨#[]⟩ : ByteArray), t0 :: ts⟩ (.iface 106 (.pointer (some ⟨b, 0, none⟩)))
  | list (ts : List S24) (b : Nat) (cs : Array Value) (h : w.heap[b]? = some (.cells cs 61 (0, 0))) (A : Option Addr) (c : Nat) (ad : Addr) (hlc : ts.length ≤ c) (hlm : ts.length ≤ 9223372036854775807) (hA : 0 < ts.length → A = some ad) (vs : List Value) (hl : vs.length = ts.length) (hc : ∀ (j : Nat) (v : Value), vs[j]? = some v → w.cell? (ad.add j) = some v) (hr : ∀ (j : Nat) (t : S24) (v : Value), ts[j]? = some t → vs[j]? = some v → Rep w t v) (h1 : cs[0]? = some (.slice A ts.length c)) : Rep w ⟨(⟨#[108, 105, 115, 116]⟩ : ByteArray), (⟨#[]⟩ : ByteArray), ts⟩ (.iface 40 (.pointer (some ⟨b, 0, none⟩)))

section
variable {w w1 : World}
theorem blk_mv (hm : ∀ k, k < w.heap.size → w1.heap[k]? = w.heap[k]?) {b : Nat} {o : Obj} (h : w.heap[b]? = some o) : w1.heap[b]? = some o := (hm b (blk_lt h)).trans h
theorem cell_mv (hm : ∀ k, k < w.heap.size → w1.heap[k]? = w.heap[k]?) {a : Addr} {v : Value} (h : w.cell? a = some v) : w1.cell? a = some v := (World.cell?_of_block (w := w) (hm a.block (World.block_lt_of_cell? w a h))).trans h
theorem Rep.mv (hm : ∀ k, k < w.heap.size → w1.heap[k]? = w.heap[k]?) {t : S24} {v : Value} (h : Rep w t v) : Rep w1 t v := by
  induction h with
  | miss  => exact Rep.miss 
  | name s b cs h h0 => exact Rep.name s b cs (blk_mv hm h) h0
  | lit K q hk s b cs h h0 h1 => exact Rep.lit K q hk s b cs (blk_mv hm h) h0 h1
  | uno K T S hk t0 v0 b cs h h0 r0 ih_r0 => exact Rep.uno K T S hk t0 v0 b cs (blk_mv hm h) h0 ih_r0
  | duo K T S hk t0 t1 v0 v1 b cs h h0 h1 r0 r1 ih_r0 ih_r1 => exact Rep.duo K T S hk t0 t1 v0 v1 b cs (blk_mv hm h) h0 h1 ih_r0 ih_r1
  | sel s t0 v0 b b2 cs cs2 h h0 h1 h2 h3 r0 ih_r0 => exact Rep.sel s t0 v0 b b2 cs cs2 (blk_mv hm h) h0 h1 (blk_mv hm h2) h3 ih_r0
  | slice f t0 t1 t2 t3 v0 v1 v2 v3 b cs h h0 h1 h2 h3 h4 r0 r1 r2 r3 ih_r0 ih_r1 ih_r2 ih_r3 => exact Rep.slice f t0 t1 t2 t3 v0 v1 v2 v3 b cs (blk_mv hm h) h0 h1 h2 h3 h4 ih_r0 ih_r1 ih_r2 ih_r3
  | unary o ho t0 v0 b cs h h0 h1 h2 r0 ih_r0 => exact Rep.unary o ho t0 v0 b cs (blk_mv hm h) h0 h1 h2 ih_r0
  | binary o ho t0 t1 v0 T1 b1 b cs h h0 h1 h2 r0 r1 ih_r0 ih_r1 => exact Rep.binary o ho t0 t1 v0 T1 b1 b cs (blk_mv hm h) h0 h1 h2 ih_r0 ih_r1
  | chan d hd t0 v0 b cs h h0 h1 r0 ih_r0 => exact Rep.chan d hd t0 v0 b cs (blk_mv hm h) h0 h1 ih_r0
  | comp t0 ts v0 b cs h h0 r0 A c ad hlc hlm hA vs hl hc hr h1 ih_r0 ih_hr => exact Rep.comp t0 ts v0 b cs (blk_mv hm h) h0 ih_r0 A c ad hlc hlm hA vs hl (fun j v hj => cell_mv hm (hc j v hj)) ih_hr h1
  | call d t0 ts v0 b cs h h0 r0 A c ad hlc hlm hA vs hl hc hr h1 h2 ih_r0 ih_hr => exact Rep.call d t0 ts v0 b cs (blk_mv hm h) h0 ih_r0 A c ad hlc hlm hA vs hl (fun j v hj => cell_mv hm (hc j v hj)) ih_hr h1 h2
  | list ts b cs h A c ad hlc hlm hA vs hl hc hr h1 ih_hr => exact Rep.list ts b cs (blk_mv hm h) A c ad hlc hlm hA vs hl (fun j v hj => cell_mv hm (hc j v hj)) ih_hr h1
theorem Rep.grow (hb : Below w.heap.size w w1) {t : S24} {v : Value} (h : Rep w t v) : Rep w1 t v := h.mv hb.block
theorem Rep.shape {t : S24} {v : Value} (h : Rep w t v) : v = .nilIface ∨ ∃ T b, v = .iface T (.pointer (some ⟨b, 0, none⟩)) := by
  cases h
  case miss => exact .inl rfl
  all_goals exact .inr ⟨_, _, rfl⟩
theorem Rep.cell1 {t : S24} {v : Value} (h : Rep w t v) : v.oneCell' = true := by
  rcases h.shape with rfl | ⟨T, b, rfl⟩ <;> rfl
end
/-- The types of the blocks that an expression lies in. -/
def EL : List Nat := [34, 84, 129, 68, 71, 81, 86, 89, 93, 96, 104, 108, 61, 115, 118, 120, 125]
/-- w1 holds, of the blocks of w that are ok, lie from base on and are of such a type, what w holds. -/
def Ag (w : World) (base : Nat) (ok : Nat → Prop) (w1 : World) : Prop := ∀ k, ok k → base ≤ k → k < w.heap.size → (∃ q, q ∈ EL ∧ ∃ cells, w.heap[k]? = some (.cells cells q (0, 0))) → w1.heap[k]? = w.heap[k]?
theorem Ag.refl (w : World) (base : Nat) (ok : Nat → Prop) : Ag w base ok w := fun _ _ _ _ _ => rfl
def kE : Kd S24 where
  sz := 1
  E := EL
  K := fun w x cs => ∃ v, cs = [v] ∧ Rep w x v
  M := fun w base ok x cs => ∃ v, cs = [v] ∧ ∀ w1, Ag w base ok w1 → Rep w1 x v
  K_len := by
    rintro w x cs ⟨v, rfl, h⟩
    rfl
  K_one := by
    rintro w x cs ⟨v, rfl, h⟩ u hu
    rw [List.mem_singleton.1 hu]
    exact h.cell1
  K_below := by
    rintro w w1 x cs hb ⟨v, rfl, h⟩
    exact ⟨v, rfl, h.grow hb⟩
  K_of_M := by
    rintro w base ok x cs ⟨v, rfl, h⟩
    exact ⟨v, rfl, h w (Ag.refl w base ok)⟩
  M_mono := by
    rintro w base ok ok' x cs hok ⟨v, rfl, h⟩
    exact ⟨v, rfl, fun w1 hA => h w1 (fun k hk => hA k (hok k hk))⟩
  M_bound := by
    rintro w base ok x cs ⟨v, rfl, h⟩
    exact ⟨v, rfl, fun w1 hA => h w1 (fun k h1 h2 h3 h4 => hA k ⟨h1, h2, h3, h4⟩ h2 h3 h4)⟩
  M_move := by
    rintro w w1 base ok x cs hm ⟨v, rfl, h⟩
    refine ⟨v, rfl, fun w2 hA => h w2 (fun k h1 h2 h3 h4 => ?_)⟩
    have e := hm k h1
    rw [← e]
    obtain ⟨q, hq, cells, hc⟩ := h4
    rw [← e] at hc
    exact hA k h1 h2 (blk_lt hc) ⟨q, hq, cells, hc⟩
  M_lower := by
    rintro w base base' ok x cs hb ⟨v, rfl, h⟩
    exact ⟨v, rfl, fun w1 hA => h w1 (fun k h1 h2 h3 h4 => hA k h1 (Nat.le_trans hb h2) h3 h4)⟩
end Go.Proofs.YtjkhfdekmpaoiaaDoor
