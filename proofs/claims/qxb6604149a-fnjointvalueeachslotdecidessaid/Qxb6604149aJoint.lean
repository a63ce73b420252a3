import Derived.Test.Qxb6604149aMem
import Derived.Test.Qxb6604149aPlain
namespace Go.Proofs.Qxb6604149a
open Go.RowKit

set_option maxHeartbeats 400000 in
theorem joint_any (b off len cap : Nat) (w : World) (hl : len ≤ 9223372036854775807) (Z : Nat → Nat → Nat) (hZ : ∀ i k, Z i k < 256) (hT : Tab w b off len Z) :
    Calls Try.prog 7 #[.slice (some ⟨b, off, none⟩) len cap] w fun e w' => e = .returned (.agg (row (J Z len)).toArray) ∧ Below w.heap.size w w' := by
  go_enter Try.func7, Try.ntmps7
  go_wp2
  rw [row_zero]
  go_loopw [9] (fun i wr => ∃ n : Nat, n ≤ len ∧ i = .int .i64 n ∧ Blk wr w.heap.size (fun _ => 0) ∧ Blk wr (w.heap.size + 1) (J Z n) ∧ Below w.heap.size w wr)
    (fun i _ => len - (intOf i).toNat)
  case atStart =>
    exact ⟨0, Nat.zero_le _, rfl, (Blk.new _ _).alloc _, by have h := Blk.new (w.alloc (.cells (row fun _ => 0).toArray 25)) (fun _ => 0); simp only [World.size_alloc] at h; exact h.congr (fun _ _ => rfl), ((Below.refl _ _).alloc (Nat.le_refl _) _).alloc (by simp) _⟩
  case round =>
    obtain ⟨n, hn, rfl, hR, hJ, hB⟩ := hrel
    by_cases hlt : n < len
    · have hrow := rangeAt_below (hT n hlt) hB (rangeAt_lt (hT n hlt))
      have hB5 : Below w.heap.size w ((wr.alloc (.cells (row fun _ => 0).toArray 25)).setRow wr.heap.size (row (Z n)).toArray) := (hB.alloc hB.size _).setRow hB.size _
      have hR5 := (hR.alloc (.cells (row fun _ => 0).toArray 25)).setRow_other (g' := wr.heap.size) (Nat.ne_of_lt hR.lt) (row (Z n)).toArray
      have hJ5 := (hJ.alloc (.cells (row fun _ => 0).toArray 25)).setRow_other (g' := wr.heap.size) (Nat.ne_of_lt hJ.lt) (row (Z n)).toArray
      have hV5 := (Blk.new wr (fun _ => 0)).setRow (Z n)
      have hjlt := hJ.lt
      rw [← row_zero] at hB5 hR5 hJ5 hV5
      have HB5 : Hid (Below _ _ _) := hB5
      have HR5 : Hid (Blk _ _ _) := hR5
      have HJ5 : Hid (Blk _ _ _) := hJ5
      have HV5 : Hid (Blk _ _ _) := hV5
      clear hB5 hR5 hJ5 hV5
      go_wp2_with (first | (refine wl_load rfl (.tmp 11) rfl b _ rfl (Z n) hrow ?_) | (refine wl_store_blk rfl (.tmp 5) (.tmp 12) rfl wr.heap.size (Z n) (fun _ => 0) rfl rfl (Blk.zero wr) ?_))
      go_loopw [13] (fun i wq => ∃ k : Nat, k ≤ 32 ∧ i = .int .i64 k ∧ Blk wq w.heap.size (fun _ => 0) ∧ Blk wq (w.heap.size + 1) (fun j => if j < k then J Z (n + 1) j else J Z n j) ∧ Blk wq wr.heap.size (Z n) ∧ Below w.heap.size w wq)
        (fun i _ => 32 - (intOf i).toNat)
      case atStart => exact ⟨0, Nat.zero_le _, rfl, HR5.out, HJ5.out.congr (fun _ _ => by simp), HV5.out, HB5.out⟩
      case round =>
        obtain ⟨k, hk, rfl, hR, hJ, hV, hB⟩ := hrel
        by_cases hk2 : k < 32
        · have c1 := hJ.cell hk2
          have c2 := hV.cell hk2
          have c3 := hJ.frozen k
          have hj2 := J_lt hZ n k
          have hz2 := hZ n k
          have hjJ : J Z (n + 1) k = J Z n k ^^^ Z n k := rfl
          have HJJ : Hid (J Z (n + 1) k = J Z n k ^^^ Z n k) := hjJ
          clear hjJ
          go_wp2
          go_region
          go_wp2
          go_roundw
          case rel =>
            rw [xor_u8 hj2 hz2]
            refine ⟨k + 1, by omega, by go_num, (hR.other (by simp) _).drew, ((hJ.set hk2 _).congr ?_).drew, (hV.other (by simp; omega) _).drew, (hB.setCell (by simp) _).drew⟩
            intro j hj
            by_cases e : j = k
            · subst e; simp [HJJ.out]
            · simp only [e, if_false]
              by_cases h1 : j < k
              · rw [if_pos h1, if_pos (by omega)]
              · rw [if_neg h1, if_neg (by omega)]
          case measure => simp [intOf]; omega
        · have hJ2 : Blk wr (w.heap.size + 1) (J Z (n + 1)) := hJ.congr (fun j hj => by rw [if_pos (by omega)])
          clear hJ
          go_wp2
          go_roundw
          case rel => exact ⟨n + 1, by omega, by go_num, hR, hJ2, hB⟩
          case measure => simp [intOf]; omega
    · have e : n = len := by omega
      subst e
      go_wp2_with (first | (refine wl_load rfl (.tmp 3) rfl (w.heap.size + 1) _ rfl (J Z n) hJ.range ?_) | (refine wl_store_blk rfl (.tmp 2) (.tmp 26) rfl w.heap.size (J Z n) (fun _ => 0) rfl rfl hR ?_))
      have hfin := hR.setRow (J Z n)
      exact bodyPost_ret (v := .agg (row (J Z n)).toArray) (results_cell_row (fn := Try.f7) rfl _ _ w.heap.size 25 _ (0, 0) _ rfl hfin Try.underlying25 rfl (info25'' _)) rfl ⟨rfl, hB.setRow (Nat.le_refl _) _⟩
end Go.Proofs.Qxb6604149a
