/-
  Seat b6604149a: arrays of 32 bytes in memory. 'row f': the 32 cells of an array whose byte k is f k. 'Blk w g f': block g is one such array. 'Tab w b o n Z': n arrays lie one behind the other in block b from offset o on.
-/
import Derived.Test.Qxb6604149aRows
import Derived.WalkKit
import Derived.WalkSpells
import Derived.WalkLawsBesides
import Derived.Deep.MidRow
import Derived.Laws.StructEq
namespace Go.Proofs.Qxb6604149a
open Go.RowKit

/-- a fact that neither the walk's simp nor 'contradiction' looks into -/
structure Keep (p : Prop) : Prop where
  out : p

def row (f : Nat → Nat) : List Value := (List.range 32).map fun k => Value.int .u8 ((f k : Nat) : Int)

theorem row_len (f : Nat → Nat) : (row f).length = 32 := by simp [row]
theorem row_size (f : Nat → Nat) : (row f).toArray.size = 32 := by simp [row]
theorem row_at (f : Nat → Nat) {k : Nat} (h : k < 32) : (row f)[k]? = some (.int .u8 ((f k : Nat) : Int)) := by simp [row, h]
theorem row_congr {f g : Nat → Nat} (h : ∀ k, k < 32 → f k = g k) : row f = row g :=
  List.map_congr_left fun k hk => by rw [h k (List.mem_range.1 hk)]
theorem row_one (f : Nat → Nat) : (row f).toArray.all (·.oneCell') = true :=
  all_oneCell_toArray (fun v hv => by
    obtain ⟨k, _, rfl⟩ := List.mem_map.1 hv
    rfl)
theorem row_oneCell (f : Nat → Nat) : ∀ v ∈ row f, v.oneCell' = true := fun v hv => by
  obtain ⟨k, _, rfl⟩ := List.mem_map.1 hv
  rfl

theorem info25 : (Try.prog.info? 25).map (·.size) = some 32 := by kernel_rfl
theorem info25' (f : Nat → Nat) : (Try.prog.info? 25).map (·.size) = some (row f).length := by rw [row_len]; exact info25
theorem info25'' (f : Nat → Nat) : (Try.prog.info? 25).map (·.size) = some (row f).toArray.size := by rw [row_size]; exact info25

/-- Block g is one array of 32 bytes. -/
def Blk (w : World) (g : Nat) (f : Nat → Nat) : Prop := w.heap[g]? = some (.cells (row f).toArray 25 (0, 0))

theorem Blk.congr {w : World} {g : Nat} {f f' : Nat → Nat} (h : Blk w g f) (e : ∀ k, k < 32 → f k = f' k) : Blk w g f' := by
  unfold Blk at *; rw [h, row_congr e]
theorem Blk.lt {w : World} {g : Nat} {f : Nat → Nat} (h : Blk w g f) : g < w.heap.size := (Array.getElem?_eq_some_iff.1 h).1
theorem Blk.cell {w : World} {g : Nat} {f : Nat → Nat} (h : Blk w g f) {k : Nat} (hk : k < 32) : w.cell? ⟨g, k, none⟩ = some (.int .u8 ((f k : Nat) : Int)) := by
  rw [cell_of_row w g k _ 25 (0, 0) h]; simpa using row_at f hk
theorem Blk.frozen {w : World} {g : Nat} {f : Nat → Nat} (h : Blk w g f) (k : Nat) : w.frozen? ⟨g, k, none⟩ = false := frozen_of_row w g k _ 25 h
theorem Blk.of_block {w w' : World} {g : Nat} {f : Nat → Nat} (h : Blk w g f) (e : w'.heap[g]? = w.heap[g]?) : Blk w' g f := e.trans h
theorem Blk.below {w w' : World} {g B : Nat} {f : Nat → Nat} (h : Blk w g f) (hb : Below B w w') (hg : g < B) : Blk w' g f := h.of_block (hb.block g hg)
theorem Blk.drew {w : World} {g : Nat} {f : Nat → Nat} (h : Blk w g f) : Blk w.drew g f := h
theorem Blk.alloc {w : World} {g : Nat} {f : Nat → Nat} (h : Blk w g f) (o : Obj) : Blk (w.alloc o) g f := h.of_block (Go.heap_alloc_old w o h.lt)
theorem Blk.other {w : World} {g : Nat} {f : Nat → Nat} (h : Blk w g f) {a : Addr} (ha : g ≠ a.block) (v : Value) : Blk (w.setCell a v) g f := h.of_block (heap_setCell_other w a g v ha)
theorem Blk.setRow_other {w : World} {g g' : Nat} {f : Nat → Nat} (h : Blk w g f) (hg : g ≠ g') (c : Array Value) : Blk (w.setRow g' c) g f := h.of_block (Go.setRow_other w g' g c hg)
theorem Blk.setRow {w : World} {g : Nat} {f : Nat → Nat} (h : Blk w g f) (f' : Nat → Nat) : Blk (w.setRow g (row f').toArray) g f' := setRow_heap w g _ _ 25 (0, 0) h
theorem Blk.new (w : World) (f : Nat → Nat) : Blk (w.alloc (.cells (row f).toArray 25)) w.heap.size f := heap_alloc_new w _
theorem Blk.set {w : World} {g : Nat} {f : Nat → Nat} (h : Blk w g f) {k : Nat} (hk : k < 32) (n : Nat) : Blk (w.setCell ⟨g, k, none⟩ (.int .u8 ((n : Nat) : Int))) g (fun j => if j = k then n else f j) := by
  unfold Blk
  rw [heap_setCell_same w g k _ 25 _ h]
  congr 2
  apply Array.ext_getElem?
  intro j
  rw [Array.getElem?_setIfInBounds, row_size]
  by_cases e : k = j
  · subst e
    rw [if_pos rfl, if_pos hk, List.getElem?_toArray, row_at _ hk, if_pos rfl]
  · rw [if_neg e, List.getElem?_toArray, List.getElem?_toArray]
    by_cases hj : j < 32
    · rw [row_at _ hj, row_at _ hj, if_neg (fun h => e h.symm)]
    · rw [List.getElem?_eq_none (by rw [row_len]; omega), List.getElem?_eq_none (by rw [row_len]; omega)]
theorem Blk.range {w : World} {g : Nat} {f : Nat → Nat} (h : Blk w g f) : w.rangeAt g 0 (row f) := fun j v hv => by
  have hj : j < 32 := by have := (List.getElem?_eq_some_iff.1 hv).1; rwa [row_len] at this
  rw [row_at f hj] at hv
  rw [Nat.zero_add, h.cell hj, hv]
theorem Blk.there {w : World} {g : Nat} {f : Nat → Nat} (h : Blk w g f) : w.there g 0 32 := fun j hj => by
  rw [Nat.zero_add]; exact ⟨by rw [h.cell hj]; rfl, h.frozen j⟩

/-- n arrays lie in block b from offset o on. -/
def Tab (w : World) (b o n : Nat) (Z : Nat → Nat → Nat) : Prop := ∀ i, i < n → w.rangeAt b (o + i * 32) (row (Z i))

theorem rangeAt_lt {w : World} {b o : Nat} {f : Nat → Nat} (h : w.rangeAt b o (row f)) : b < w.heap.size := block_lt_of_cell (h 0 _ (row_at f (by decide)))
theorem rangeAt_below {w w' : World} {b o B : Nat} {cs : List Value} (h : w.rangeAt b o cs) (hb : Below B w w') (hB : b < B) : w'.rangeAt b o cs := fun j v hv => by
  rw [hb.cell (p := ⟨b, o + j, none⟩) hB]; exact h j v hv
theorem there_below {w w' : World} {b o n B : Nat} (h : w.there b o n) (hb : Below B w w') (hB : b < B) : w'.there b o n := fun j hj => by
  rw [hb.cell (p := ⟨b, o + j, none⟩) hB, hb.frozen (p := ⟨b, o + j, none⟩) hB]; exact h j hj
theorem Tab.below {w w' : World} {b o n B : Nat} {Z : Nat → Nat → Nat} (h : Tab w b o n Z) (hb : Below B w w') (hB : b < B ∨ n = 0) : Tab w' b o n Z := fun i hi => by
  rcases hB with hB | hB
  · exact rangeAt_below (h i hi) hb hB
  · omega
theorem Tab.below' {w w' : World} {b o n : Nat} {Z : Nat → Nat → Nat} (h : Tab w b o n Z) (hb : Below w.heap.size w w') : Tab w' b o n Z := fun i hi =>
  rangeAt_below (h i hi) hb (rangeAt_lt (h i hi))

theorem _root_.Go.RowKit.Below.setRow {B : Nat} {a w : World} (h : Below B a w) {g : Nat} (hg : B ≤ g) (c : Array Value) : Below B a (w.setRow g c) :=
  h.trans ⟨rfl, rfl, rfl, by simp, fun k hk => Go.setRow_other w g k c (by omega)⟩
theorem below_setCells {B : Nat} {a : World} {g : Nat} (hg : B ≤ g) : ∀ (vs : List Value) (o : Nat) {w : World}, Below B a w → Below B a (w.setCells g o vs)
  | [], _, _, h => h
  | v :: r, o, _, h => below_setCells hg r (o + 1) (h.setCell hg v)
theorem heap_setCells_other (g k : Nat) (hk : k ≠ g) : ∀ (vs : List Value) (o : Nat) (w : World), (w.setCells g o vs).heap[k]? = w.heap[k]?
  | [], _, _ => rfl
  | v :: r, o, w => by rw [World.setCells, heap_setCells_other g k hk r (o + 1), heap_setCell_other w _ k v hk]
theorem size_setCells (g : Nat) : ∀ (vs : List Value) (o : Nat) (w : World), (w.setCells g o vs).heap.size = w.heap.size
  | [], _, _ => rfl
  | v :: r, o, w => by rw [World.setCells, size_setCells g r (o + 1)]; simp [World.setCell]

/-! ### the bits of a byte -/
theorem xor_u8 {a b : Nat} (ha : a < 256) (hb : b < 256) : bits .xor .u8 (a : Int) (b : Int) = ((a ^^^ b : Nat) : Int) := by
  have hx : a ^^^ b < 2 ^ 8 := Nat.xor_lt_two_pow (by omega) (by omega)
  have h1 : (BitVec.ofInt 8 (a : Int)).toNat = a := by
    rw [BitVec.ofInt_natCast, BitVec.toNat_ofNat]; exact Nat.mod_eq_of_lt (by omega)
  have h2 : (BitVec.ofInt 8 (b : Int)).toNat = b := by
    rw [BitVec.ofInt_natCast, BitVec.toNat_ofNat]; exact Nat.mod_eq_of_lt (by omega)
  show IntKind.u8.wrap ((BitVec.ofInt 8 (a : Int) ^^^ BitVec.ofInt 8 (b : Int)).toNat : Int) = _
  rw [BitVec.toNat_xor, h1, h2, IntKind.wrap_u8]
  omega
theorem or_u8 {a b : Nat} (ha : a < 256) (hb : b < 256) : bits .or .u8 (a : Int) (b : Int) = ((a ||| b : Nat) : Int) :=
  (bits_nat .u8 8 (by decide) wraps_u8 a b (by simpa using ha) (by simpa using hb)).2
theorem and_u8 {a b : Nat} (ha : a < 256) (hb : b < 256) : bits .and .u8 (a : Int) (b : Int) = ((a &&& b : Nat) : Int) :=
  (bits_nat .u8 8 (by decide) wraps_u8 a b (by simpa using ha) (by simpa using hb)).1

theorem row_zero : (#[Value.int .u8 0, Value.int .u8 0, Value.int .u8 0, Value.int .u8 0, Value.int .u8 0, Value.int .u8 0, Value.int .u8 0, Value.int .u8 0,
  Value.int .u8 0, Value.int .u8 0, Value.int .u8 0, Value.int .u8 0, Value.int .u8 0, Value.int .u8 0, Value.int .u8 0, Value.int .u8 0,
  Value.int .u8 0, Value.int .u8 0, Value.int .u8 0, Value.int .u8 0, Value.int .u8 0, Value.int .u8 0, Value.int .u8 0, Value.int .u8 0,
  Value.int .u8 0, Value.int .u8 0, Value.int .u8 0, Value.int .u8 0, Value.int .u8 0, Value.int .u8 0, Value.int .u8 0, Value.int .u8 0] : Array Value) = (row fun _ => 0).toArray := rfl
theorem Blk.zero (w : World) : Blk (w.alloc (.cells #[Value.int .u8 0, Value.int .u8 0, Value.int .u8 0, Value.int .u8 0, Value.int .u8 0, Value.int .u8 0, Value.int .u8 0, Value.int .u8 0,
  Value.int .u8 0, Value.int .u8 0, Value.int .u8 0, Value.int .u8 0, Value.int .u8 0, Value.int .u8 0, Value.int .u8 0, Value.int .u8 0,
  Value.int .u8 0, Value.int .u8 0, Value.int .u8 0, Value.int .u8 0, Value.int .u8 0, Value.int .u8 0, Value.int .u8 0, Value.int .u8 0,
  Value.int .u8 0, Value.int .u8 0, Value.int .u8 0, Value.int .u8 0, Value.int .u8 0, Value.int .u8 0, Value.int .u8 0, Value.int .u8 0] 25)) w.heap.size (fun _ => 0) := by
  rw [row_zero]; exact Blk.new w _

/-! ### '==' between two arrays -/
theorem eqGuard25 : Try.prog.eqGuardType Try.prog.depth 25 = false := by kernel_rfl

def rowEq (f g : Nat → Nat) : Bool := (List.range 32).all fun k => f k == g k
theorem rowEq_true {f g : Nat → Nat} : rowEq f g = true ↔ ∀ k, k < 32 → f k = g k := by simp [rowEq]
theorem rowEq_of {f g : Nat → Nat} (h : ∀ k, k < 32 → f k = g k) : rowEq f g = true := rowEq_true.2 h
theorem rowEq_not {f g : Nat → Nat} (h : ¬ ∀ k, k < 32 → f k = g k) : rowEq f g = false := by
  cases e : rowEq f g
  · rfl
  · exact absurd (rowEq_true.1 e) h

theorem cells5 : Try.prog.cellsOf 5 = 1 := by kernel_rfl
theorem plain5 : Try.prog.plainKey 5 = true := by kernel_rfl
theorem info5 : (Try.prog.info? 5).isSome = true := by kernel_rfl

theorem run_eqItems_row (w : World) (d : Nat) (f g : Nat → Nat) : ∀ l : List Nat, (∀ k ∈ l, k < 32) →
    (Op.eqItems (d + 1) 5 1 (row f).toArray (row g).toArray l).run Try.prog w = .ok (l.all fun k => f k == g k) w
  | [], _ => by simp [Op.eqItems]
  | k :: l, h => by
    have hk : k < 32 := h k (by simp)
    have p1 : (part 5 (row f).toArray (k * 1)).run Try.prog w = .ok (.int .u8 ((f k : Nat) : Int)) w := run_part_plain w plain5 (by rw [Nat.mul_one, List.getElem?_toArray, row_at f hk])
    have p2 : (part 5 (row g).toArray (k * 1)).run Try.prog w = .ok (.int .u8 ((g k : Nat) : Int)) w := run_part_plain w plain5 (by rw [Nat.mul_one, List.getElem?_toArray, row_at g hk])
    have ih := run_eqItems_row w d f g l (fun j hj => h j (by simp [hj]))
    have he : (((f k : Nat) : Int) == ((g k : Nat) : Int)) = (f k == g k) := by rw [Bool.eq_iff_iff]; simp; omega
    simp only [Op.eqItems, Sem.run_bind, p1, p2, Result.andThen_ok, run_equalIn_int w d 5 .u8 .u8 _ _ Try.underlying5, he]
    cases hfg : (f k == g k)
    · simp [hfg]
    · simpa [hfg] using ih

theorem run_equalIn_row (w : World) (f g : Nat → Nat) : (Op.equalIn 10000 25 (.agg (row f).toArray) (.agg (row g).toArray)).run Try.prog w = .ok (rowEq f g) w := by
  obtain ⟨i, hi⟩ := Option.isSome_iff_exists.1 info5
  rw [run_equalIn_array w 9999 _ _ Try.underlying25 hi, cells5]
  exact run_eqItems_row w 9998 f g _ (fun k hk => List.mem_range.1 hk)

theorem run_eql_row (w : World) (f g : Nat → Nat) : (binOp .eql 25 (.agg (row f).toArray) (.agg (row g).toArray)).run Try.prog w = .ok (.bool (rowEq f g)) w := by
  rw [run_eql_struct, run_equalIn_row]; rfl
theorem run_neq_row (w : World) (f g : Nat → Nat) : (binOp .neq 25 (.agg (row f).toArray) (.agg (row g).toArray)).run Try.prog w = .ok (.bool (!rowEq f g)) w := by
  rw [run_neq_struct, run_equalIn_row]; rfl

/-! ### the walk's laws -/
section
variable {ops : Array Oper} {rest : List Oper} {o : Oper} {a : Act} {w : World} {Q : Exit → Act → World → Prop}

/-- load of one array out of the middle of a block -/
theorem wl_load (hgd : o.guard = none) (x : Operand) (ho : o.op = .load 25 x) (b q : Nat) (hx : a.eval x = .pointer (some ⟨b, q, none⟩)) (f : Nat → Nat) (hc : w.rangeAt b q (row f))
    (h : wpList Try.prog ops Q rest (a.put o.dst (.agg (row f).toArray)) w) : wpList Try.prog ops Q (o :: rest) a w :=
  wpList_load_mid hgd 25 x ho b q hx (row f) _ hc Try.underlying25 rfl (info25' f) h

/-- store of one array into the middle of a block -/
theorem wl_store (hgd : o.guard = none) (x y : Operand) (ho : o.op = .store 25 x y) (b q : Nat) (f : Nat → Nat) (hx : a.eval x = .pointer (some ⟨b, q, none⟩)) (hy : a.eval y = .agg (row f).toArray) (ht : w.there b q 32)
    (h : wpList Try.prog ops Q rest (a.put o.dst undef) (w.setCells b q (row f))) : wpList Try.prog ops Q (o :: rest) a w :=
  wpList_store_mid hgd 25 x y ho b q _ hx hy (by rw [row_size]; exact ht) (info25'' f) (row_one f) (by simpa using h)

/-- store of one array into a block that is one array -/
theorem wl_store_blk (hgd : o.guard = none) (x y : Operand) (ho : o.op = .store 25 x y) (g : Nat) (f f0 : Nat → Nat) (hx : a.eval x = .pointer (some ⟨g, 0, none⟩)) (hy : a.eval y = .agg (row f).toArray) (hb : Blk w g f0)
    (h : wpList Try.prog ops Q rest (a.put o.dst undef) (w.setRow g (row f).toArray)) : wpList Try.prog ops Q (o :: rest) a w :=
  wpList_store_row hgd 25 x y ho g _ hx hy 25 _ hb (info25'' f) (by rw [row_size, row_size]) (row_one f) h
end

end Go.Proofs.Qxb6604149a
