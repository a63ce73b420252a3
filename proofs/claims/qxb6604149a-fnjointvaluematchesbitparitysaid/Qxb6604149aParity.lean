import Derived.Test.Qxb6604149aCopy
import Derived.Deep.RegionHeld
namespace Go.Proofs.Qxb6604149a
open Go.RowKit

theorem bit_test (z bb : Nat) (hz : z < 256) : bits .and .u8 ((z : Int) / 2 ^ bb) 1 = ((z / 2 ^ bb % 2 : Nat) : Int) := by
  have hd : ((z : Int) / 2 ^ bb) = ((z / 2 ^ bb : Nat) : Int) := by simp
  have hlt : z / 2 ^ bb < 256 := Nat.lt_of_le_of_lt (Nat.div_le_self _ _) hz
  rw [hd, show (1 : Int) = ((1 : Nat) : Int) from rfl, and_u8 hlt (by decide), Nat.and_one_is_mod]
theorem bit_yes {z bb : Nat} (hz : z < 256) (h : (bits .and .u8 ((z : Int) / 2 ^ bb) 1 == 1) = true) : z / 2 ^ bb % 2 = 1 := by
  rw [bit_test z bb hz] at h
  have := eq_of_beq h
  omega
theorem bit_no {z bb : Nat} (hz : z < 256) (h : (bits .and .u8 ((z : Int) / 2 ^ bb) 1 == 1) = false) : z / 2 ^ bb % 2 = 0 := by
  rw [bit_test z bb hz] at h
  have := ne_of_beq_false h
  omega

theorem or_step {x bb c : Nat} (hb : bb < 8) (hc : c % 2 = x / 2 ^ bb % 2) (h : ((c : Int) % 2 == 1) = true) : bits .or .u8 ((out x bb : Nat) : Int) (2 ^ bb % 256) = ((out x (bb + 1) : Nat) : Int) := by
  have h1 := eq_of_beq h
  have h2 : x / 2 ^ bb % 2 = 1 := by omega
  have hp : 2 ^ bb ≤ 2 ^ 7 := Nat.pow_le_pow_right (by decide) (by omega)
  have he : ((2 : Int) ^ bb % 256) = ((2 ^ bb : Nat) : Int) := by
    have e : ((2 : Int) ^ bb) = ((2 ^ bb : Nat) : Int) := by simp
    rw [e]; generalize 2 ^ bb = q at *; omega
  rw [he, or_u8 (out_lt x bb (by omega)) (by omega), out_odd x bb h2]
theorem no_step {x bb c : Nat} (hc : c % 2 = x / 2 ^ bb % 2) (h : ((c : Int) % 2 == 1) = false) : ((out x bb : Nat) : Int) = ((out x (bb + 1) : Nat) : Int) := by
  have h1 := ne_of_beq_false h
  have h2 : x / 2 ^ bb % 2 = 0 := by omega
  rw [out_even x bb h2]

set_option maxHeartbeats 800000 in
theorem parity_walk (ao : Option Addr) (len cap : Nat) (w : World) (hl : len ≤ 9223372036854775807) (Z : Nat → Nat → Nat) (hZ : ∀ i k, Z i k < 256) (hV : Vals w ao len Z) :
    Calls Try.prog 3 #[.slice ao len cap] w fun e w' => e = .returned (.bool true) ∧ Below w.heap.size w w' := by
  go_enter Try.func3, Try.ntmps3
  go_wp2_with fail
  refine (bytes5 ao len cap w hl).mono ?_
  rintro e w0 ⟨r, rfl, hr, hB0⟩
  cases r with
  | false =>
    go_wp2
    go_ret
    exact ⟨rfl, hB0⟩
  | true =>
    have hlen : len ≤ 31775 := hr rfl
    clear hr hl
    have hd : decide ((32768 : Int) < (len : Int)) = false := by simp; omega
    go_wp2_with fail
    refine (copy_gen ao len cap w0 (by omega) Z (hV.below hB0)).mono ?_
    rintro e w1 ⟨ao1, cap1, rfl, hO⟩
    have hV1 := hO.vals
    have hB1 := hB0.trans (hO.below.mono hB0.size)
    clear hO hV hB0
    clear hd
    go_wp2
    rw [row_zero]
    go_loopw [4] (fun i wr => ∃ k : Nat, k ≤ 32 ∧ i = .int .i64 k ∧ Blk wr w1.heap.size (fun j => if j < k then J Z len j else 0) ∧ Below w1.heap.size w1 wr) (fun i _ => 32 - (intOf i).toNat)
    case atStart => exact ⟨0, Nat.zero_le _, rfl, (Blk.new _ _).congr (fun _ _ => by simp), (Below.refl _ _).alloc (Nat.le_refl _) _⟩
    case round =>
      obtain ⟨k, hk, rfl, hW, hB⟩ := hrel
      by_cases hk2 : k < 32
      · go_wp2
        go_loop [5, 6] (fun o b => ∃ bb : Nat, bb ≤ 8 ∧ b = .int .u64 bb ∧ o = .int .u8 ((out (J Z len k) bb : Nat) : Int)) (fun _ b => 8 - (intOf b).toNat)
        case atStart => exact ⟨0, Nat.zero_le _, rfl, by rw [out_zero]; rfl⟩
        case round =>
          obtain ⟨bb, hbb, rfl, rfl⟩ := hrel
          by_cases hb2 : bb < 8
          · go_wp2
            go_loop [7, 8] (fun c i => ∃ n : Nat, n ≤ len ∧ i = .int .i64 n ∧ c = .int .i64 ((cnt Z k bb n : Nat) : Int)) (fun _ i => len - (intOf i).toNat)
            case atStart => exact ⟨0, Nat.zero_le _, rfl, rfl⟩
            case round =>
              obtain ⟨n, hn, rfl, rfl⟩ := hrel
              by_cases hlt : n < len
              · obtain ⟨b, off, hao, hT⟩ : ∃ b off, ao1 = some ⟨b, off, none⟩ ∧ Tab w1 b off len Z := by
                  rcases hV1 with h | h
                  · omega
                  · exact h
                have hcell : wr.cell? ⟨b, off + n * 32 + k, none⟩ = some (.int .u8 ((Z n k : Nat) : Int)) := (rangeAt_below (hT n hlt) hB (rangeAt_lt (hT n hlt))) k _ (row_at _ hk2)
                have hc := cnt_le Z k bb n
                have hz := hZ n k
                subst hao
                clear hV1 hT hB hW
                go_wp2
                · go_round
                  case rel => exact ⟨n + 1, by omega, by go_num, by rw [cnt, bit_yes hz (by assumption)]; rfl⟩
                  case measure => simp [intOf]; omega
                · go_round
                  case rel => exact ⟨n + 1, by omega, by go_num, by rw [cnt, bit_no hz (by assumption)]; rfl⟩
                  case measure => simp [intOf]; omega
              · have e : n = len := by omega
                subst e
                have hp := cnt_parity Z k bb n
                have HP : Keep (cnt Z k bb n % 2 = J Z n k / 2 ^ bb % 2) := ⟨hp⟩
                have hc := cnt_le Z k bb n
                clear hp
                go_wp2
                · go_round
                  case rel => exact ⟨bb + 1, by omega, by go_num, by first | exact or_step hb2 HP.out (by assumption) | exact congrArg _ (or_step hb2 HP.out (by assumption))⟩
                  case measure => simp [intOf]; omega
                · go_round
                  case rel => exact ⟨bb + 1, by omega, by go_num, by first | exact no_step HP.out (by assumption) | exact congrArg _ (no_step HP.out (by assumption))⟩
                  case measure => simp [intOf]; omega
          · have e : bb = 8 := by omega
            subst e
            have hj := J_lt hZ len k
            rw [out_eight _ hj]
            have hcell := hW.cell hk2
            have hfr := hW.frozen k
            have HW : Keep (Blk (wr.setCell ⟨w1.heap.size, k, none⟩ (.int .u8 ((J Z len k : Nat) : Int))) w1.heap.size (fun j => if j < k + 1 then J Z len j else 0)) := ⟨(hW.set hk2 _).congr (fun j _ => by
              by_cases e : j = k
              · subst e; simp
              · simp only [e, if_false]
                by_cases h1 : j < k
                · rw [if_pos h1, if_pos (by omega)]
                · rw [if_neg h1, if_neg (by omega)])⟩
            clear hW
            go_wp2
            go_roundw
            case rel => exact ⟨k + 1, by omega, by go_num, HW.out, hB.setCell (Nat.le_refl _) _⟩
            case measure => simp [intOf]; omega
      · have e : k = 32 := by omega
        subst e
        have hW2 : Blk wr w1.heap.size (J Z len) := hW.congr (fun j hj => by rw [if_pos hj])
        clear hW
        go_wp2
        have hu := Try.underlying25
        have hi := info25' (J Z len)
        have hrl := row_len (J Z len)
        have hone := row_oneCell (J Z len)
        have heq := fun W => run_eql_row W (J Z len) (J Z len)
        have hgd := eqGuard25
        have hrng := hW2.range
        have hbl := hW2.lt
        have hrngd : wr.drew.rangeAt w1.heap.size 0 (row (J Z len)) := hrng
        have hVd : Vals wr.drew ao1 len Z := hV1.below hB.drew
        have hle : len ≤ 9223372036854775807 := by omega
        go_region_held (fun w' => w'.rangeAt w1.heap.size 0 (row (J Z len))) (first | (simp only [World.rangeAt_drew]; assumption) | assumption)
          (first | (go_at_call 7; go_must (refine (joint_gen ao1 len cap1 _ hle Z hZ hVd).mono ?_; rintro e w' ⟨rfl, hb⟩; have hS : w'.rangeAt w1.heap.size 0 (row (J Z len)) := rangeAt_below (w := wr.drew) hrngd hb hbl)))
        rw [rowEq_of (fun _ _ => rfl)]
        have hfin : Below w.heap.size w w' := (hB1.trans (hB.drew.mono hB1.size)).trans (hb.mono (Nat.le_trans hB1.size hB.size))
        go_wp2
        go_ret
        exact ⟨rfl, hfin⟩
end Go.Proofs.Qxb6604149a
