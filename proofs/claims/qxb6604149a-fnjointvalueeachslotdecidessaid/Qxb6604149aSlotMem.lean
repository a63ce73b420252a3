/-
  Seat b6604149a: what stays of arrays in memory while other blocks are laid and written.
-/
import Derived.Test.Qxb6604149aCopy
import Derived.Test.Qxb6604149aSlotPlain
import Derived.Deep.QuietTactic
import Derived.Deep.WholeRow
import Derived.BigQuiet
namespace Go.Proofs.Qxb6604149a
open Go.RowKit

theorem Blk.keep {w w' : World} {g : Nat} {f : Nat → Nat} (h : Blk w g f) (hb : Below w.heap.size w w') : Blk w' g f := h.below hb h.lt
theorem Blk.cells_other {w : World} {g g' : Nat} {f : Nat → Nat} (h : Blk w g f) (hg : g ≠ g') (o : Nat) (vs : List Value) : Blk (w.setCells g' o vs) g f := h.of_block (heap_setCells_other g' g hg vs o w)
theorem Tab.alloc {w : World} {b o n : Nat} {Z : Nat → Nat → Nat} (h : Tab w b o n Z) (ob : Obj) : Tab (w.alloc ob) b o n Z := fun i hi => World.rangeAt_alloc (h i hi) ob
theorem Tab.drew {w : World} {b o n : Nat} {Z : Nat → Nat → Nat} (h : Tab w b o n Z) : Tab w.drew b o n Z := h
theorem Tab.cells_other {w : World} {b o n g' : Nat} {Z : Nat → Nat → Nat} (h : Tab w b o n Z) (hg : b ≠ g') (q : Nat) (vs : List Value) : Tab (w.setCells g' q vs) b o n Z := fun i hi =>
  World.rangeAt_setCells_apart (h i hi) g' q vs (Or.inl hg)
theorem Tab.congr {w : World} {b o n : Nat} {Z Z' : Nat → Nat → Nat} (h : Tab w b o n Z) (e : ∀ i, i < n → Z i = Z' i) : Tab w b o n Z' := fun i hi => by rw [← e i hi]; exact h i hi

/-- all the rows of block g may be written -/
def Free (w : World) (g n : Nat) : Prop := ∀ j, j < n → w.there g (j * 32) 32
theorem Free.keep {w w' : World} {g n : Nat} (h : Free w g n) (hb : Below w.heap.size w w') (hg : g < w.heap.size) : Free w' g n := fun j hj => there_below (h j hj) hb hg
theorem Free.alloc {w : World} {g n : Nat} (h : Free w g n) (ob : Obj) : Free (w.alloc ob) g n := fun j hj => World.there_alloc (h j hj) ob
theorem Free.cells {w : World} {g n : Nat} (h : Free w g n) (g' o : Nat) (vs : List Value) : Free (w.setCells g' o vs) g n := fun j hj => World.there_setCells (h j hj) g' o vs
theorem Free.drew {w : World} {g n : Nat} (h : Free w g n) : Free w.drew g n := h

/-- one row of the block written -/
theorem Tab.put {w : World} {g len n : Nat} {Z : Nat → Nat → Nat} (h : Tab w g 0 len Z) (hf : Free w g len) (hn : n < len) (x : Nat → Nat) : Tab (w.setCells g (n * 32) (row x)) g 0 len (put Z n x) := fun i hi => by
  by_cases e : i = n
  · subst e
    rw [put_same, Nat.zero_add]
    exact World.rangeAt_setCells_same _ _ _ _ (by rw [row_len]; exact hf i hn)
  · rw [put_other Z x e]
    exact World.rangeAt_setCells_apart (h i hi) _ _ _ (by rw [row_len, row_len]; omega)

/-- the row behind the last, written -/
theorem Tab.last {w : World} {g len : Nat} {Z : Nat → Nat → Nat} (h : Tab w g 0 len Z) (hf : Free w g (len + 1)) (x : Nat → Nat) : Tab (w.setCells g (len * 32) (row x)) g 0 (len + 1) (Go.Proofs.Qxb6604149a.put Z len x) := fun i hi => by
  by_cases e : i = len
  · subst e
    rw [put_same, Nat.zero_add]
    exact World.rangeAt_setCells_same _ _ _ _ (by rw [row_len]; exact hf i hi)
  · rw [put_other Z x e]
    exact World.rangeAt_setCells_apart (h i (by omega)) _ _ _ (by rw [row_len, row_len]; omega)

section
variable {ops : Array Oper} {rest : List Oper} {o : Oper} {a : Act} {w : World} {Q : Exit → Act → World → Prop}
/-- a store of one array into the block that was laid last -/
theorem wl_store_new (hgd : o.guard = none) (x y : Operand) (ho : o.op = .store 25 x y) (f : Nat → Nat) (hx : a.eval x = .pointer (some ⟨w.heap.size, 0, none⟩)) (hy : a.eval y = .agg (row f).toArray)
    (h : wpList Try.prog ops Q rest (a.put o.dst undef) (w.alloc (.cells (row f).toArray 25))) : wpList Try.prog ops Q (o :: rest) a (w.alloc (.cells #[Value.int .u8 0, Value.int .u8 0, Value.int .u8 0, Value.int .u8 0, Value.int .u8 0, Value.int .u8 0, Value.int .u8 0, Value.int .u8 0,
  Value.int .u8 0, Value.int .u8 0, Value.int .u8 0, Value.int .u8 0, Value.int .u8 0, Value.int .u8 0, Value.int .u8 0, Value.int .u8 0,
  Value.int .u8 0, Value.int .u8 0, Value.int .u8 0, Value.int .u8 0, Value.int .u8 0, Value.int .u8 0, Value.int .u8 0, Value.int .u8 0,
  Value.int .u8 0, Value.int .u8 0, Value.int .u8 0, Value.int .u8 0, Value.int .u8 0, Value.int .u8 0, Value.int .u8 0, Value.int .u8 0] 25)) :=
  wl_store_blk hgd x y ho w.heap.size f (fun _ => 0) hx hy (Blk.zero w) (by rw [World.setRow_alloc_new]; exact h)
end

theorem rangeAt_drewN {w w' : World} {b o : Nat} {cs : List Value} (h : w.rangeAt b o cs) (hw : ∃ n, w' = w.drewN n) : w'.rangeAt b o cs := by
  obtain ⟨n, rfl⟩ := hw
  intro j v hv
  rw [← h j v hv]
  simp

/-- one array read, in a region that draws its order and only reads -/
theorem quiet_load {ops : Array Oper} {rest : List Oper} {o : Oper} {a : Act} {C : World → Prop} {Q : Act → Prop} (hgd : o.guard = none) (x : Operand) (ho : o.op = .load 25 x) (b q : Nat) (hx : a.eval x = .pointer (some ⟨b, q, none⟩)) (f : Nat → Nat)
    (hc : ∀ w, C w → w.rangeAt b q (row f)) (h : wpQuiet Try.prog ops C Q rest (a.put o.dst (.agg (row f).toArray))) : wpQuiet Try.prog ops C Q (o :: rest) a := by
  have hw : Region.wanted o (yielded ops a.tmps) = true := by simp [Region.wanted, hgd]
  unfold wpQuiet
  rw [if_pos hw]
  refine ⟨_, fun w hC => ?_, h⟩
  unfold Oper.quietAt execOp
  simp only [ho, hx, Instr.loadAt, Instr.sureAddr, Sem.run_bind, Sem.run_pure, Result.andThen_ok, run_loadVar_mid w b q 25 (row f) _ (hc w hC) Try.underlying25 rfl (info25' f)]
  exact ⟨rfl, rfl⟩

theorem slot_test {Z : Nat → Nat → Nat} {n len : Nat} {x : Nat → Nat} (h : n < len) : rowEq (J (put Z n x) len) (J Z len) = rowEq x (Z n) := by
  rw [Bool.eq_iff_iff, rowEq_true, rowEq_true]
  exact ⟨fun e k hk => (J_put_eq h k).1 (e k hk), fun e k hk => (J_put_eq h k).2 (e k hk)⟩
theorem slot_back {Z : Nat → Nat → Nat} {n len : Nat} {x : Nat → Nat} (h : n < len) : rowEq (J (put Z n (J (put Z n x) len)) len) x = true := rowEq_of (fun k _ => J_back Z n len x h k)
theorem slot_zero {Z : Nat → Nat → Nat} {len : Nat} : rowEq (J (put Z len (J Z len)) (len + 1)) (fun _ => 0) = true := rowEq_of (fun k _ => J_zero Z len k)

end Go.Proofs.Qxb6604149a
