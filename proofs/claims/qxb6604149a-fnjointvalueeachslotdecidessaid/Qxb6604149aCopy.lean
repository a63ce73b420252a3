import Derived.Test.Qxb6604149aGuards
namespace Go.Proofs.Qxb6604149a
open Go.RowKit

theorem info25m : (Try.prog.info? 25).map (fun i => (i.zero, i.size, i.bytes)) = some (some (.agg (row fun _ => 0).toArray), 32, 32) := by kernel_rfl

/-- what make lays: n arrays of zeros -/
def made (n : Nat) : Array Value := madeCells (row fun _ => 0).toArray (n * 32)
theorem made_size (n : Nat) : (made n).size = n * 32 := size_madeCells _ _

theorem made_there (w : World) (n o : Nat) (h : o + 32 ≤ n * 32) : (w.alloc (.cells (made n) 25)).there w.heap.size o 32 := fun j hj => by
  have hh : (w.alloc (.cells (made n) 25)).heap[w.heap.size]? = some (.cells (made n) 25 (0, 0)) := heap_alloc_new w _
  refine ⟨?_, frozen_of_row _ _ _ _ 25 hh⟩
  rw [cell_of_row _ _ _ _ 25 (0, 0) hh]
  simp [made_size]; omega

theorem run_make22 (n : Nat) (h : n ≤ 8796093022208) (w : World) :
    (Instr.makeSlice 22 (.int .i64 (n : Int)) (.int .i64 (n : Int))).run Try.prog w = .ok (.slice (some ⟨w.heap.size, 0, none⟩) n n) (w.alloc (.cells (made n) 25)) := by
  obtain ⟨i, hi, hz0, hz1, hz2⟩ := info_parts info25m
  have hr := run_make (P := Try.prog) w 22 25 i _ Try.underlying22 hi hz0 .i64 .i64 n n (by omega) (Int.le_refl _) (by rw [hz2]; omega) (by omega)
  simp only [Int.toNat_natCast, hz1] at hr
  exact hr

/-- what the copy leaves -/
structure Copied (w w' : World) (len : Nat) (Z : Nat → Nat → Nat) : Prop where
  tab : Tab w' w.heap.size 0 len Z
  there : ∀ j, j < len → w'.there w.heap.size (j * 32) 32
  below : Below w.heap.size w w'
  size : w.heap.size < w'.heap.size

theorem copy_step {wr : World} {N i len : Nat} {Z : Nat → Nat → Nat} (hi : i < len) (hT : Tab wr N 0 i Z) (hth : ∀ j, j < len → wr.there N (j * 32) 32) :
    Tab (wr.setCells N (i * 32) (row (Z i))) N 0 (i + 1) Z ∧ (∀ j, j < len → (wr.setCells N (i * 32) (row (Z i))).there N (j * 32) 32) := by
  refine ⟨fun j hj => ?_, fun j hj => World.there_setCells (hth j hj) _ _ _⟩
  by_cases e : j = i
  · subst e
    rw [Nat.zero_add]
    exact World.rangeAt_setCells_same _ _ _ _ (by rw [row_len]; exact hth j hi)
  · exact World.rangeAt_setCells_apart (hT j (by omega)) _ _ _ (by rw [row_len, row_len]; omega)

set_option maxHeartbeats 400000 in
theorem copy_any (b off len cap : Nat) (w : World) (hl : len ≤ 8796093022208) (Z : Nat → Nat → Nat) (hT : Tab w b off len Z) :
    Calls Try.prog 6 #[.slice (some ⟨b, off, none⟩) len cap] w fun e w' => e = .returned (.slice (some ⟨w.heap.size, 0, none⟩) len len) ∧ Copied w w' len Z := by
  have hmk := run_make22 len hl
  have q22 : ∀ (W : World) (a : Option Addr) (n c n' c' : Nat), (binOp .eql 22 (.slice a n c) (.slice none n' c')).run Try.prog W = .ok (.bool a.isNone) W := fun W a n c n' c' => Lib.run_eql_slice_nil W _ _ a n c n' c' Try.underlying22
  go_enter Try.func6, Try.ntmps6
  go_wp2
  go_loopw [4] (fun i wr => ∃ n : Nat, n ≤ len ∧ i = .int .i64 n ∧ Tab wr w.heap.size 0 n Z ∧ (∀ j, j < len → wr.there w.heap.size (j * 32) 32) ∧ Below w.heap.size w wr ∧ w.heap.size < wr.heap.size)
    (fun i _ => len - (intOf i).toNat)
  case atStart =>
    exact ⟨0, Nat.zero_le _, rfl, fun j hj => by omega, fun j hj => made_there w len (j * 32) (by omega), (Below.refl _ _).alloc (Nat.le_refl _) _, by simp⟩
  case round =>
    clear hmk q22
    obtain ⟨n, hn, rfl, hTr, hth, hB, hsz⟩ := hrel
    by_cases hlt : n < len
    · have hrow := rangeAt_below (hT n hlt) hB (rangeAt_lt (hT n hlt))
      have hthn := hth n hlt
      have HS := copy_step hlt hTr hth
      have HB : Keep (Below w.heap.size w (wr.setCells w.heap.size (n * 32) (row (Z n)))) := ⟨below_setCells (Nat.le_refl _) _ _ hB⟩
      have HSZ : Keep (w.heap.size < (wr.setCells w.heap.size (n * 32) (row (Z n))).heap.size) := ⟨by rw [size_setCells]; exact hsz⟩
      have HT : Keep (Tab _ _ _ _ _) := ⟨HS.1⟩
      have HH : Keep (∀ j, j < len → (wr.setCells w.heap.size (n * 32) (row (Z n))).there w.heap.size (j * 32) 32) := ⟨HS.2⟩
      clear HS hth hTr
      go_wp2_with (first | (refine wl_load rfl (.tmp 20) rfl b _ rfl (Z n) ?_ ?_; exact hrow) | (refine wl_store rfl (.tmp 22) (.tmp 21) rfl w.heap.size _ (Z n) rfl rfl ?_ ?_; exact hthn))
      go_roundw
      case rel => exact ⟨n + 1, by omega, by go_num, HT.out, HH.out, HB.out, HSZ.out⟩
      case measure => simp [intOf]; omega
    · have e : n = len := by omega
      subst e
      go_wp2
      go_ret
      exact ⟨rfl, hTr, hth, hB, hsz⟩

theorem copy_nil (cap : Nat) (w : World) :
    Calls Try.prog 6 #[.slice none 0 cap] w fun e w' => e = .returned (.slice none 0 0) ∧ w' = w := by
  have q22 : ∀ (W : World) (a : Option Addr) (n c n' c' : Nat), (binOp .eql 22 (.slice a n c) (.slice none n' c')).run Try.prog W = .ok (.bool a.isNone) W := fun W a n c n' c' => Lib.run_eql_slice_nil W _ _ a n c n' c' Try.underlying22
  go_enter Try.func6, Try.ntmps6
  go_wp2
  go_ret
  exact ⟨rfl, rfl⟩

theorem copy_zero (a : Addr) (cap : Nat) (w : World) (Z : Nat → Nat → Nat) :
    Calls Try.prog 6 #[.slice (some a) 0 cap] w fun e w' => e = .returned (.slice (some ⟨w.heap.size, 0, none⟩) 0 0) ∧ Copied w w' 0 Z := by
  have hmk : ∀ W : World, (Instr.makeSlice 22 (.int .i64 0) (.int .i64 0)).run Try.prog W = .ok (.slice (some ⟨W.heap.size, 0, none⟩) 0 0) (W.alloc (.cells (made 0) 25)) := fun W => run_make22 0 (by decide) W
  have q22 : ∀ (W : World) (a : Option Addr) (n c n' c' : Nat), (binOp .eql 22 (.slice a n c) (.slice none n' c')).run Try.prog W = .ok (.bool a.isNone) W := fun W a n c n' c' => Lib.run_eql_slice_nil W _ _ a n c n' c' Try.underlying22
  go_enter Try.func6, Try.ntmps6
  go_wp2
  go_loopw [4] (fun i wr => i = .int .i64 0 ∧ Below w.heap.size w wr ∧ w.heap.size < wr.heap.size) (fun _ _ => 0)
  case atStart => exact ⟨rfl, (Below.refl _ _).alloc (Nat.le_refl _) _, by simp⟩
  case round =>
    clear hmk q22
    obtain ⟨rfl, hB, hsz⟩ := hrel
    go_wp2
    go_ret
    exact ⟨rfl, fun j hj => by omega, fun j hj => by omega, hB, hsz⟩

/-- the slice '.slice ao len cap' holds the arrays Z: it is empty, or 'len' arrays lie from its address on -/
def Vals (w : World) (ao : Option Addr) (len : Nat) (Z : Nat → Nat → Nat) : Prop :=
  len = 0 ∨ ∃ b off, ao = some ⟨b, off, none⟩ ∧ Tab w b off len Z

theorem Vals.below {w w' : World} {ao : Option Addr} {len : Nat} {Z : Nat → Nat → Nat} (h : Vals w ao len Z) (hb : Below w.heap.size w w') : Vals w' ao len Z := by
  rcases h with h | ⟨b, off, h, hT⟩
  · exact Or.inl h
  · exact Or.inr ⟨b, off, h, hT.below' hb⟩

theorem joint_gen (ao : Option Addr) (len cap : Nat) (w : World) (hl : len ≤ 9223372036854775807) (Z : Nat → Nat → Nat) (hZ : ∀ i k, Z i k < 256) (hV : Vals w ao len Z) :
    Calls Try.prog 7 #[.slice ao len cap] w fun e w' => e = .returned (.agg (row (J Z len)).toArray) ∧ Below w.heap.size w w' := by
  rcases hV with rfl | ⟨b, off, rfl, hT⟩
  · exact joint_nil ao cap w Z
  · exact joint_any b off len cap w hl Z hZ hT

/-- what the copy hands back: nil for nil; else a new block -/
def VOwn (w w' : World) (ao : Option Addr) (len : Nat) (Z : Nat → Nat → Nat) : Prop :=
  (len = 0 ∧ w' = w) ∨ (ao = some ⟨w.heap.size, 0, none⟩ ∧ Copied w w' len Z)

theorem VOwn.vals {w w' : World} {ao : Option Addr} {len : Nat} {Z : Nat → Nat → Nat} (h : VOwn w w' ao len Z) : Vals w' ao len Z := by
  rcases h with ⟨h1, _⟩ | ⟨h1, hC⟩
  · exact Or.inl h1
  · exact Or.inr ⟨_, _, h1, hC.tab⟩
theorem VOwn.below {w w' : World} {ao : Option Addr} {len : Nat} {Z : Nat → Nat → Nat} (h : VOwn w w' ao len Z) : Below w.heap.size w w' := by
  rcases h with ⟨_, rfl⟩ | ⟨_, hC⟩
  · exact Below.refl _ _
  · exact hC.below

theorem copy_gen (ao : Option Addr) (len cap : Nat) (w : World) (hl : len ≤ 8796093022208) (Z : Nat → Nat → Nat) (hV : Vals w ao len Z) :
    Calls Try.prog 6 #[.slice ao len cap] w fun e w' => ∃ ao' cap', e = .returned (.slice ao' len cap') ∧ VOwn w w' ao' len Z := by
  rcases hV with rfl | ⟨b, off, rfl, hT⟩
  · cases ao with
    | none =>
      refine (copy_nil cap w).mono ?_
      rintro e w' ⟨rfl, rfl⟩
      exact ⟨none, 0, rfl, Or.inl ⟨rfl, rfl⟩⟩
    | some a =>
      refine (copy_zero a cap w Z).mono ?_
      rintro e w' ⟨rfl, hC⟩
      exact ⟨_, _, rfl, Or.inr ⟨rfl, hC⟩⟩
  · refine (copy_any b off len cap w hl Z hT).mono ?_
    rintro e w' ⟨rfl, hC⟩
    exact ⟨_, _, rfl, Or.inr ⟨rfl, hC⟩⟩

end Go.Proofs.Qxb6604149a
