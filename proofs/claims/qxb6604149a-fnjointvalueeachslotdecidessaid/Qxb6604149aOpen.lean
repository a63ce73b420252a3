/-
  Seat b6604149a: the arguments, opened: a slice of arrays of 32 bytes; one array by value.
-/
import Derived.Test.Qxb6604149aCopy
import Derived.ProofKit
import Derived.OpenShut
import Derived.Deep.Slices
namespace Go.Proofs.Qxb6604149a
open Go.ChangeShapes Go.WideShapes Go.ChangeAt Go.RowKit

theorem cells25 : Try.prog.cellsOf 25 = 32 := by kernel_rfl

section
variable {H : Type} {enc : TypeId × Value → H} {w : World} {base : Nat} {spare : Nat → Bool} {held : Bool}

/-- 32 cells that read as an array of bytes are a row. -/
theorem row_of_trod {fuel : Nat} {cs : List Value} {x : DataW H × List MemPlace} (h : DataW.trod enc Try.prog w base spare held fuel 25 cs = some x) :
    ∃ f : Nat → Nat, cs = row f ∧ ∀ k, f k < 256 := by
  obtain ⟨xs, m, _, _, hl, hx, hi⟩ := DataW.trod_array Try.underlying25 h
  rw [cells25] at hl
  rw [cells5] at hi
  have key : ∀ k, k < 32 → ∃ z : Nat, cs[k]? = some (.int .u8 (z : Int)) ∧ z < 256 := by
    intro k hk
    have h1 := hi k hk
    rw [List.getElem?_eq_getElem (by omega), Nat.mul_one] at h1
    obtain ⟨n, hn, _, wn⟩ := DataW.trod_int Try.underlying5 h1
    have hb := bounds_u8 wn
    obtain ⟨z, rfl⟩ := Int.eq_ofNat_of_zero_le hb.1
    refine ⟨z, ?_, by omega⟩
    have h2 : (cs.drop k)[0]? = some (.int .u8 (z : Int)) := by
      have h3 : ((cs.drop k).take 1)[0]? = some (.int .u8 (z : Int)) := by rw [hn]; rfl
      rwa [List.getElem?_take_of_lt (by decide)] at h3
    simpa using h2
  obtain ⟨f, hf⟩ := Go.Deep.choose_lt key
  refine ⟨fun k => if k < 32 then f k else 0, ?_, fun k => ?_⟩
  · apply List.ext_getElem?
    intro k
    by_cases hk : k < 32
    · rw [(hf k hk).1, row_at _ hk, if_pos hk]
    · rw [List.getElem?_eq_none (by omega), List.getElem?_eq_none (by rw [row_len]; omega)]
  · show (if k < 32 then f k else 0) < 256
    by_cases hk : k < 32
    · rw [if_pos hk]; exact (hf k hk).2
    · rw [if_neg hk]; decide

theorem cells_get {a : Addr} {n : Nat} {cs : List Value} (h : w.cells? base a n = some cs) : cs.length = n ∧ ∀ j v, cs[j]? = some v → w.cell? (a.add j) = some v := by
  unfold World.cells? at h
  split at h
  · have hlen := mapM_some_length h
    simp only [List.length_range] at hlen
    refine ⟨hlen, fun j v hv => ?_⟩
    have hj : j < n := by have := (List.getElem?_eq_some_iff.1 hv).1; omega
    rw [mapM_some_get h j j (by simp [hj]), hv]
  · cases h

/-- The slice of arrays, opened. -/
theorem open_vals {v : Value} {d : DataW H} {p : List MemPlace} (h : DataW.Trod enc Try.prog w base spare held 22 v d p) (hv : Value.okWide Try.prog w .any base 22 v) :
    ∃ ao len cap Z, v = .slice ao len cap ∧ len ≤ maxLen ∧ (∀ i k, Z i k < 256) ∧ Vals w ao len Z := by
  obtain ⟨ao, len, cap, rfl⟩ := okWide_slice Try.underlying22 hv
  obtain ⟨fuel, hf⟩ := h
  rcases Go.Deep.open_slice Try.underlying22 hf with ⟨hcs, _⟩ | ⟨a, len', cap', m, n, D, Pl, hcs, _, hlc, hm, hmm, _, hel⟩
  · simp [Value.cells] at hcs
    obtain ⟨rfl, rfl, rfl⟩ := hcs
    exact ⟨none, 0, 0, fun _ _ => 0, rfl, Nat.zero_le _, fun _ _ => by simp, Or.inl rfl⟩
  · simp [Value.cells] at hcs
    obtain ⟨rfl, rfl, rfl⟩ := hcs
    rw [cells25] at hel
    have key : ∀ i, i < len → ∃ f : Nat → Nat, (∀ j v, (row f)[j]? = some v → w.cell? ((a.add (i * 32)).add j) = some v) ∧ ∀ k, f k < 256 := by
      intro i hi
      obtain ⟨cs', h1, h2⟩ := hel i (by rw [hmm]; split <;> omega)
      obtain ⟨f, rfl, hf⟩ := row_of_trod h2
      exact ⟨f, (cells_get h1).2, hf⟩
    obtain ⟨Z, hZ⟩ := Go.Deep.choose_lt (α := Nat → Nat) key
    refine ⟨some a, len, cap, fun i k => if i < len then Z i k else 0, rfl, by omega, fun i k => ?_, ?_⟩
    · show (if i < len then Z i k else 0) < 256
      by_cases hi : i < len
      · rw [if_pos hi]; exact (hZ i hi).2 k
      · rw [if_neg hi]; decide
    · by_cases h0 : len = 0
      · exact Or.inl h0
      · obtain ⟨b, off, spot⟩ := a
        have hc := (hZ 0 (by omega)).1 0 _ (row_at _ (by decide))
        have hspot : spot = none := by simpa [Addr.add] using World.cell?_spot hc
        subst hspot
        refine Or.inr ⟨b, off, rfl, fun i hi j v hv => ?_⟩
        have h1 := (hZ i hi).1 j v (by
          rw [← hv]
          congr 1
          exact row_congr (fun k _ => by simp [hi]))
        rwa [Addr.add_mid, Addr.add_mid] at h1

/-- One array by value, opened. -/
theorem open_arr {v : Value} {d : DataW H} {p : List MemPlace} (h : DataW.Trod enc Try.prog w base spare held 25 v d p) (hv : Value.okWide Try.prog w .any base 25 v) :
    ∃ f : Nat → Nat, v = .agg (row f).toArray ∧ ∀ k, f k < 256 := by
  obtain ⟨fuel, hf⟩ := h
  obtain ⟨f, hcs, hlt⟩ := row_of_trod hf
  refine ⟨f, ?_, hlt⟩
  simp only [Value.okWide, Try.underlying25] at hv
  obtain ⟨cs, rfl, _, _⟩ := hv
  rw [← hcs]
  simp [Value.cells]
end

end Go.Proofs.Qxb6604149a
