import Derived.Test.Qxb6604149aSlotMem
import Derived.Deep.RegionHeld
namespace Go.Proofs.Qxb6604149a
open Go.RowKit

set_option maxHeartbeats 1000000 in
theorem slot_walk (ao : Option Addr) (len cap : Nat) (i : Int) (x : Nat → Nat) (w : World) (hl : len ≤ 9223372036854775807) (Z : Nat → Nat → Nat) (hZ : ∀ i k, Z i k < 256) (hx : ∀ k, x k < 256) (hV : Vals w ao len Z) :
    Calls Try.prog 4 #[.slice ao len cap, .int .i64 i, .agg (row x).toArray] w fun e w' => e = .returned (.bool true) ∧ Below w.heap.size w w' := by
  have hBa : Below w.heap.size w (w.alloc (.cells (row x).toArray 25)) := (Below.refl _ _).alloc (Nat.le_refl _) _
  have hXa : Blk (w.alloc (.cells (row x).toArray 25)) w.heap.size x := Blk.new w x
  have hXr := hXa.range
  go_enter Try.func4, Try.ntmps4
  go_wp2_with (first | (refine wl_load rfl (.tmp 5) rfl w.heap.size 0 rfl x ?_ ?_; exact hXr) | fail)
  clear hXr
  refine (bytes8 ao len cap i x _ hl).mono ?_
  rintro e w0 ⟨r, rfl, hr, hB0⟩
  cases r with
  | false =>
    go_wp2
    go_ret
    exact ⟨rfl, hBa.trans (hB0.mono (by simp))⟩
  | true =>
    have hlen : len ≤ 31775 := hr rfl
    have hd : decide ((32768 : Int) < (len : Int)) = false := by simp; omega
    have hX := hXa.keep hB0
    have hV0 := (hV.below hBa).below hB0
    have hsz0 : w.heap.size < w0.heap.size := by have := hB0.size; simp at this; omega
    have hB := hBa.trans (hB0.mono (by simp))
    clear hr hl hXa hB0 hBa hV
    by_cases hi0 : i < 0
    · have hd2 : decide (i < 0) = true := decide_eq_true hi0
      go_wp2
      go_ret
      exact ⟨rfl, hB⟩
    · obtain ⟨n, rfl⟩ := Int.eq_ofNat_of_zero_le (show 0 ≤ i by omega)
      have hd2 : decide ((n : Int) < 0) = false := by simp
      clear hi0
      by_cases hin : n < len
      · have hd3 : decide ((len : Int) ≤ (n : Int)) = false := by simp; omega
        go_wp2_with fail
        refine (copy_gen ao len cap w0 (by omega) Z hV0).mono ?_
        rintro e w1 ⟨ao1, cap1, rfl, hO⟩
        rcases hO with ⟨h0, _⟩ | ⟨rfl, hC⟩
        · omega
        have hX1 := hX.keep hC.below
        have hT1 : Tab w1 w0.heap.size 0 len Z := hC.tab
        have hB1 := hB.trans (hC.below.mono (Nat.le_of_lt hsz0))
        have hsz1 := hC.size
        clear hX hC hB hV0 hd hd2 hd3
        have hr1 := hT1 n hin
        rw [Nat.zero_add] at hr1
        go_wp2_with (first | (refine wl_load rfl (.tmp 34) rfl w0.heap.size _ rfl (Z n) ?_ ?_; exact hr1) | (refine wl_store_new rfl (.tmp 7) (.tmp 35) rfl (Z n) rfl rfl ?_))
        clear hr1
        -- orig
        refine (joint_gen _ len cap1 _ (by omega) Z hZ (Or.inr ⟨_, _, rfl, hT1.alloc _⟩)).mono ?_
        rintro e w2 ⟨rfl, hb2⟩
        have hO2 : Blk w2 w1.heap.size (Z n) := (Blk.new w1 (Z n)).keep hb2
        have hX2 := (hX1.alloc (.cells (row (Z n)).toArray 25)).keep hb2
        have hT2 := (hT1.alloc (.cells (row (Z n)).toArray 25)).below' hb2
        have hsz2 : w1.heap.size < w2.heap.size := by have := hb2.size; simp at this; omega
        have hB2 : Below w.heap.size w w2 := (hB1.alloc hB1.size _).trans (hb2.mono (by have := hB1.size; simp; omega))
        clear hX1 hT1 hb2 hB1
        go_wp2_with (first | (refine wl_store_new rfl (.tmp 8) (.tmp 37) rfl (J Z len) rfl rfl ?_) | fail)
        -- the second copy
        refine (copy_gen _ len cap1 _ (by omega) Z (Or.inr ⟨_, _, rfl, hT2.alloc _⟩)).mono ?_
        rintro e w3 ⟨ao3, cap3, rfl, hO⟩
        rcases hO with ⟨h0, _⟩ | ⟨rfl, hC⟩
        · omega
        have hR3 : Blk w3 w2.heap.size (J Z len) := (Blk.new w2 (J Z len)).keep hC.below
        have hO3 := (hO2.alloc (.cells (row (J Z len)).toArray 25)).keep hC.below
        have hX3 := (hX2.alloc (.cells (row (J Z len)).toArray 25)).keep hC.below
        have hT3 := (hT2.alloc (.cells (row (J Z len)).toArray 25)).below' hC.below
        have hW3 : Tab w3 (w2.heap.size + 1) 0 len Z := by have := hC.tab; simpa only [World.size_alloc] using this
        have hF3 : Free w3 (w2.heap.size + 1) len := by have := hC.there; simp only [World.size_alloc] at this; exact this
        have hsz3 : w2.heap.size + 1 < w3.heap.size := by have := hC.size; simpa only [World.size_alloc] using this
        have hB3 : Below w.heap.size w w3 := (hB2.alloc hB2.size _).trans (hC.below.mono (by have := hB2.size; simp; omega))
        clear hO2 hX2 hT2 hC hB2
        have hxr := hX3.range
        have hfr := hF3 n hin
        have KW : Keep (Tab _ _ _ _ _) := ⟨hW3.put hF3 hin x⟩
        simp only [World.size_alloc]
        go_wp2_with (first | (refine wl_load rfl (.tmp 5) rfl w.heap.size 0 rfl x ?_ ?_; exact hxr) | (refine wl_store rfl (.tmp 43) (.tmp 42) rfl (w2.heap.size + 1) _ x rfl rfl ?_ ?_; exact hfr))
        -- j
        refine (joint_gen _ len cap3 _ (by omega) (put Z n x) (put_lt hZ hx n) (Or.inr ⟨_, _, rfl, KW.out⟩)).mono ?_
        rintro e w4 ⟨rfl, hb4⟩
        have hX4 := (hX3.cells_other (show w.heap.size ≠ w2.heap.size + 1 by omega) (n * 32) (row x)).keep hb4
        have hO4 := (hO3.cells_other (show w1.heap.size ≠ w2.heap.size + 1 by omega) (n * 32) (row x)).keep hb4
        have hR4 := (hR3.cells_other (show w2.heap.size ≠ w2.heap.size + 1 by omega) (n * 32) (row x)).keep hb4
        have hT4 := (hT3.cells_other (show w0.heap.size ≠ w2.heap.size + 1 by omega) (n * 32) (row x)).below' hb4
        have hW4 := KW.out.below' hb4
        have hF4 := (hF3.cells (w2.heap.size + 1) (n * 32) (row x)).keep hb4 (by rw [size_setCells]; omega)
        have hsz4 : w2.heap.size + 1 < w4.heap.size := by have := hb4.size; rw [size_setCells] at this; omega
        have hB4 : Below w.heap.size w w4 := (below_setCells (show w.heap.size ≤ w2.heap.size + 1 by omega) _ _ hB3).trans (hb4.mono (by rw [size_setCells]; omega))
        clear KW hxr hfr hX3 hO3 hR3 hT3 hW3 hF3 hb4 hB3 hsz3
        generalize hJ' : J (put Z n x) len = jx
        have HJ' : Keep (J (put Z n x) len = jx) := ⟨hJ'⟩
        clear hJ'
        go_wp2_with (first | (refine wl_store_new rfl (.tmp 10) (.tmp 45) rfl jx rfl rfl ?_))
        -- the first test
        have hb5 : Below w4.heap.size w4 (w4.alloc (.cells (row jx).toArray 25)) := (Below.refl _ _).alloc (Nat.le_refl _) _
        have hX5 := hX4.keep hb5
        have hO5 := hO4.keep hb5
        have hR5 := hR4.keep hb5
        have hT5 := hT4.below' hb5
        have hW5 := hW4.below' hb5
        have hF5 := hF4.keep hb5 (by omega)
        have hJ5 : Blk _ w4.heap.size jx := Blk.new w4 jx
        have hB5 := hB4.trans (hb5.mono (by omega))
        have hsz5 : w4.heap.size < (w4.alloc (.cells (row jx).toArray 25)).heap.size := by simp
        clear hX4 hO4 hR4 hT4 hW4 hF4 hB4 hb5
        generalize w4.alloc (.cells (row jx).toArray 25) = w5 at *
        have e1 := fun W => run_eql_row W jx (J Z len)
        have e2 := fun W => run_eql_row W x (Z n)
        have hgd := eqGuard25
        have r1 := hJ5.range
        have r2 := hR5.range
        have r3 := hX5.range
        have r4 := hO5.range
        refine wp_region_quiet_lit (by kernel_rfl) (by kernel_rfl) ?_
        refine quiet_load rfl (.tmp 10) rfl w4.heap.size 0 rfl jx (fun _ h => rangeAt_drewN r1 h) ?_
        refine quiet_load rfl (.tmp 8) rfl w2.heap.size 0 rfl (J Z len) (fun _ h => rangeAt_drewN r2 h) ?_
        quiet_step (fail)
        refine quiet_load rfl (.tmp 5) rfl w.heap.size 0 rfl x (fun _ h => rangeAt_drewN r3 h) ?_
        refine quiet_load rfl (.tmp 7) rfl w1.heap.size 0 rfl (Z n) (fun _ h => rangeAt_drewN r4 h) ?_
        quiet_step (fail)
        quiet_step (fail)
        refine wpQuiet_nil ?_
        intro _ hw'
        obtain ⟨nq, hw''⟩ := hw'
        subst hw''
        have ht : rowEq jx (J Z len) = rowEq x (Z n) := by rw [← HJ'.out]; exact slot_test hin
        rw [ht]
        simp only [beq_self_eq_true, Bool.not_true]
        clear e1 e2 r1 r2 r3 r4 ht
        have hbq : Below w5.heap.size w5 (w5.drewN nq) := below_drewN (Below.refl _ _) nq
        have hX6 := hX5.keep hbq
        have hR6 := hR5.keep hbq
        have hT6 := hT5.below' hbq
        have hW6 := hW5.below' hbq
        have hF6 := hF5.keep hbq (by omega)
        have hJ6 := hJ5.keep hbq
        have hB6 := hB5.trans (hbq.mono (by omega))
        have hsz6 : w4.heap.size < (w5.drewN nq).heap.size := by have := hbq.size; omega
        clear hX5 hO5 hR5 hT5 hW5 hF5 hJ5 hB5 hbq hsz5
        generalize w5.drewN nq = w6 at *
        have r1 := hJ6.range
        have f1 := hF6 n hin
        go_wp2_with (first | (refine wl_load rfl (.tmp 10) rfl w4.heap.size 0 rfl jx ?_ ?_; exact r1) | (refine wl_store rfl (.tmp 56) (.tmp 55) rfl (w2.heap.size + 1) _ jx rfl rfl ?_ ?_; exact f1))
        -- the second test
        have hX7 := hX6.cells_other (show w.heap.size ≠ w2.heap.size + 1 by omega) (n * 32) (row jx)
        have hR7 := hR6.cells_other (show w2.heap.size ≠ w2.heap.size + 1 by omega) (n * 32) (row jx)
        have hT7 := hT6.cells_other (show w0.heap.size ≠ w2.heap.size + 1 by omega) (n * 32) (row jx)
        have hW7 := hW6.put hF6 hin jx
        rw [put_put] at hW7
        have hB7 := below_setCells (show w.heap.size ≤ w2.heap.size + 1 by omega) (row jx) (n * 32) hB6
        have hsz7 : w4.heap.size < (w6.setCells (w2.heap.size + 1) (n * 32) (row jx)).heap.size := by rw [size_setCells]; exact hsz6
        clear r1 f1 hX6 hR6 hT6 hW6 hF6 hB6 hsz6 hJ6
        generalize w6.setCells (w2.heap.size + 1) (n * 32) (row jx) = w7 at *
        have hjx : ∀ k, jx k < 256 := by rw [← HJ'.out]; exact J_lt (put_lt hZ hx n) len
        have hback : rowEq (J (put Z n jx) len) x = true := by rw [← HJ'.out]; exact slot_back hin
        have hu := Try.underlying25
        have hi1 := info25' x
        have hl1 := row_len x
        have ho1 := row_oneCell x
        have e1 := fun W => run_neq_row W (J (put Z n jx) len) x
        have r1 := hX7.range
        have hrngd : w7.drew.rangeAt w.heap.size 0 (row x) := r1
        have hbl := hX7.lt
        have hVd : Vals w7.drew (some ⟨w2.heap.size + 1, 0, none⟩) len (put Z n jx) := Or.inr ⟨_, _, rfl, hW7.drew⟩
        have hle : len ≤ 9223372036854775807 := by omega
        have hpl := put_lt hZ hjx n
        have HV : Keep (Vals w7.drew (some ⟨w2.heap.size + 1, 0, none⟩) len (put Z n jx)) := ⟨hVd⟩
        clear hVd
        go_region_held (fun w' => w'.rangeAt w.heap.size 0 (row x)) (first | (simp only [World.rangeAt_drew]; assumption) | assumption)
          (first | (go_at_call 7; go_must (refine (joint_gen _ len cap3 _ hle (put Z n jx) hpl HV.out).mono ?_; rintro e w8 ⟨rfl, hb8⟩; have hS : w8.rangeAt w.heap.size 0 (row x) := rangeAt_below (w := w7.drew) hrngd hb8 hbl)))
        have hR8 := (hR7.drew).keep hb8
        have hT8 := (hT7.drew).below' hb8
        have hB8 : Below w.heap.size w w8 := hB7.drew.trans (hb8.mono (Nat.le_of_lt hbl))
        have hsz8 : w4.heap.size < w8.heap.size := Nat.lt_of_lt_of_le hsz7 hb8.size
        clear hX7 hR7 hT7 hW7 hB7 hsz7 hjx hback hu hi1 hl1 ho1 e1 r1 hrngd hbl hle hpl HV hb8 HJ' hS
        -- the list with its joint value behind it
        have hmk : ∀ W : World, (Instr.makeSlice 22 (.int .i64 ((len : Int) + 1)) (.int .i64 ((len : Int) + 1))).run Try.prog W = .ok (.slice (some ⟨W.heap.size, 0, none⟩) (len + 1) (len + 1)) (W.alloc (.cells (made (len + 1)) 25)) := fun W => run_make22 (len + 1) (by omega) W
        go_wp2
        clear hmk
        go_loopw [12] (fun c wr => ∃ m : Nat, m ≤ len ∧ c = .int .i64 m ∧ Tab wr w8.heap.size 0 m Z ∧ Free wr w8.heap.size (len + 1) ∧ Below w8.heap.size w8 wr ∧ w8.heap.size < wr.heap.size) (fun c _ => len - (intOf c).toNat)
        case atStart => exact ⟨0, Nat.zero_le _, rfl, fun j hj => by omega, fun j hj => made_there w8 (len + 1) (j * 32) (by omega), (Below.refl _ _).alloc (Nat.le_refl _) _, by simp⟩
        case round =>
          obtain ⟨m, hm, rfl, hTr, hFr, hBr, hszr⟩ := hrel
          by_cases hlt : m < len
          · have hrow := rangeAt_below (hT8 m hlt) hBr (rangeAt_lt (hT8 m hlt))
            rw [Nat.zero_add] at hrow
            have hth := hFr m (by omega)
            have HS := copy_step (len := len + 1) (by omega) hTr hFr
            have KT : Keep (Tab _ _ _ _ _) := ⟨HS.1⟩
            have KF : Keep (Free (wr.setCells w8.heap.size (m * 32) (row (Z m))) w8.heap.size (len + 1)) := ⟨HS.2⟩
            have KB : Keep (Below w8.heap.size w8 (wr.setCells w8.heap.size (m * 32) (row (Z m)))) := ⟨below_setCells (Nat.le_refl _) _ _ hBr⟩
            have KS : Keep (w8.heap.size < (wr.setCells w8.heap.size (m * 32) (row (Z m))).heap.size) := ⟨by rw [size_setCells]; exact hszr⟩
            clear HS hFr hTr
            go_wp2_with (first | (refine wl_load rfl (.tmp 75) rfl w0.heap.size _ rfl (Z m) ?_ ?_; exact hrow) | (refine wl_store rfl (.tmp 77) (.tmp 76) rfl w8.heap.size _ (Z m) rfl rfl ?_ ?_; exact hth))
            go_roundw
            case rel => exact ⟨m + 1, by omega, by go_num, KT.out, KF.out, KB.out, KS.out⟩
            case measure => simp [intOf]; omega
          · have e : m = len := by omega
            subst e
            have hR9 := hR8.below hBr hR8.lt
            have rr := hR9.range
            have hth := hFr m (by omega)
            go_wp2_with (first | (refine wl_load rfl (.tmp 8) rfl w2.heap.size 0 rfl (J Z m) ?_ ?_; exact rr) | (refine wl_store rfl (.tmp 82) (.tmp 81) rfl w8.heap.size _ (J Z m) rfl rfl ?_ ?_; exact hth))
            have hT9 := hTr.last hFr (J Z m)
            have hB9 : Below w8.heap.size w8 _ := below_setCells (Nat.le_refl w8.heap.size) (row (J Z m)) (m * 32) hBr
            clear hTr hFr rr hth hR9 hBr
            rw [row_zero]
            generalize wr.setCells w8.heap.size (m * 32) (row (J Z m)) = w9 at *
            have hZ9 := Blk.new w9 (fun _ => 0)
            have hT10 := hT9.alloc (.cells (row fun _ => 0).toArray 25)
            have hB10 := (hB8.trans (hB9.mono (hB8.size))).alloc (Nat.le_trans hB8.size hB9.size) (.cells (row fun _ => 0).toArray 25)
            clear hT9
            have hbl : w9.heap.size < (w9.alloc (.cells (row fun _ => 0).toArray 25)).heap.size := by simp
            have hwl : w.heap.size ≤ (w9.alloc (.cells (row fun _ => 0).toArray 25)).heap.size := hB10.size
            generalize w9.alloc (.cells (row fun _ => 0).toArray 25) = wA at *
            have hu := Try.underlying25
            have hi1 := info25' (fun _ => 0)
            have hl1 := row_len (fun _ => 0)
            have ho1 := row_oneCell (fun _ => 0)
            have e1 := fun W => run_eql_row W (J (put Z m (J Z m)) (m + 1)) (fun _ => 0)
            have hgd := eqGuard25
            have hzero := slot_zero (Z := Z) (len := m)
            have r1 := hZ9.range
            have hrngd : wA.drew.rangeAt w9.heap.size 0 (row fun _ => 0) := r1
            have hle : m + 1 ≤ 9223372036854775807 := by omega
            have hpl := put_lt hZ (J_lt hZ m) m
            have HV : Keep (Vals wA.drew (some ⟨w8.heap.size, 0, none⟩) (m + 1) (put Z m (J Z m))) := ⟨Or.inr ⟨_, _, rfl, hT10.drew⟩⟩
            clear hT10 hZ9
            go_region_held (fun w' => w'.rangeAt w9.heap.size 0 (row fun _ => 0)) (first | (simp only [World.rangeAt_drew]; assumption) | assumption)
              (first | (go_at_call 7; go_must (refine (joint_gen _ (m + 1) (m + 1) _ hle (put Z m (J Z m)) hpl HV.out).mono ?_; rintro e wB ⟨rfl, hbB⟩; have hS : wB.rangeAt w9.heap.size 0 (row fun _ => 0) := rangeAt_below (w := wA.drew) hrngd hbB hbl)))
            have hfin : Below w.heap.size w wB := hB10.drew.trans (hbB.mono hwl)
            go_wp2
            go_ret
            exact ⟨rfl, hfin⟩
      · have hd3 : decide ((len : Int) ≤ (n : Int)) = true := by simp; omega
        go_wp2
        go_ret
        exact ⟨rfl, hB⟩
end Go.Proofs.Qxb6604149a
