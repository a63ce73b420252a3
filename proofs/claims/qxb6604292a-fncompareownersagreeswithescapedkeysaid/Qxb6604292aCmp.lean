/-
  Seat b6604292a: the contract of compareBytesB1.
-/
import Derived.Test.Qxb6604292aOwners
import Derived.Test.Qxb6604292aKeyPlain
import Derived.Deep.QuietTactic
import Derived.BigQuiet
namespace Go.Proofs.Qxb6604292a
open Go.RowKit

structure Keep (p : Prop) : Prop where
  out : p

/-- the bytes xs lie at the head of block g -/
def Lies (w : World) (g : Nat) (xs : List UInt8) : Prop := ∀ j (h : j < xs.length), w.cell? ⟨g, j, none⟩ = some (.int .u8 (xs[j].toNat : Int))

set_option maxHeartbeats 800000 in
theorem cmp_any (g1 g2 c1 c2 : Nat) (xs ys : List UInt8) (w : World) (h1 : Lies w g1 xs) (h2 : Lies w g2 ys) (hx : xs.length ≤ 9223372036854775807) (_hy : ys.length ≤ 9223372036854775807) :
    Calls Try.prog 8 #[.slice (some ⟨g1, 0, none⟩) xs.length c1, .slice (some ⟨g2, 0, none⟩) ys.length c2] w fun e w' => e = .returned (.int .i64 (cb xs ys)) ∧ ∃ nq, w' = w.drewN nq := by
  go_enter Try.func8, Try.ntmps8
  go_wp2
  go_loopw [5] (fun i wr => ∃ k nq : Nat, k ≤ xs.length ∧ k ≤ ys.length ∧ i = .int .i64 k ∧ wr = w.drewN nq ∧ Keep (cb xs ys = cb (xs.drop k) (ys.drop k))) (fun i _ => xs.length - (intOf i).toNat)
  case atStart => exact ⟨0, 0, Nat.zero_le _, Nat.zero_le _, rfl, rfl, ⟨rfl⟩⟩
  case round =>
    obtain ⟨k, nq, hk1, hk2, rfl, rfl, HC⟩ := hrel
    by_cases hxk : k < xs.length
    · by_cases hyk : k < ys.length
      · have q1 := h1 k hxk
        have q2 := h2 k hyk
        have HD : Keep (cb (xs.drop k) (ys.drop k) = if xs[k] < ys[k] then -1 else if ys[k] < xs[k] then 1 else cb (xs.drop (k + 1)) (ys.drop (k + 1))) := ⟨cb_drop hxk hyk⟩
        have HX : Keep (xs[k] < ys[k] ↔ xs[k].toNat < ys[k].toNat) := ⟨UInt8.lt_iff_toNat_lt⟩
        have HY : Keep (ys[k] < xs[k] ↔ ys[k].toNat < xs[k].toNat) := ⟨UInt8.lt_iff_toNat_lt⟩
        have hb1 : xs[k].toNat < 256 := xs[k].toNat_lt
        have hb2 : ys[k].toNat < 256 := ys[k].toNat_lt
        have hi1 : (k : Int) < (xs.length : Int) := by omega
        have hi2 : (k : Int) < (ys.length : Int) := by omega
        have HT : Keep (cb xs ys = if xs[k] < ys[k] then -1 else if ys[k] < xs[k] then 1 else cb (xs.drop (k + 1)) (ys.drop (k + 1))) := ⟨HC.out.trans HD.out⟩
        clear HC HD h1 h2
        generalize xs[k].toNat = x at *
        generalize ys[k].toNat = y at *
        by_cases hlt : x < y
        · have HR : Keep (cb xs ys = -1) := ⟨by rw [HT.out, if_pos (HX.out.2 hlt)]⟩
          have hlt' : (x : Int) < (y : Int) := by omega
          clear HT HX HY
          go_wp2
          go_quiet (fail)
          go_wp2
          go_ret
          exact ⟨by rw [HR.out]; rfl, _, World.drewN_drewN _ _ _⟩
        · by_cases hgt : y < x
          · have HR : Keep (cb xs ys = 1) := ⟨by rw [HT.out, if_neg (fun h => hlt (HX.out.1 h)), if_pos (HY.out.2 hgt)]⟩
            have hlt' : decide ((x : Int) < (y : Int)) = false := by simp; omega
            have hgt' : (y : Int) < (x : Int) := by omega
            clear HT HX HY
            go_wp2
            go_quiet (fail)
            go_wp2
            go_quiet (fail)
            go_wp2
            go_ret
            exact ⟨by rw [HR.out]; rfl, _, by rw [World.drewN_drewN, World.drewN_drewN]⟩
          · have HR : Keep (cb xs ys = cb (xs.drop (k + 1)) (ys.drop (k + 1))) := ⟨by rw [HT.out, if_neg (fun h => hlt (HX.out.1 h)), if_neg (fun h => hgt (HY.out.1 h))]⟩
            have hlt' : decide ((x : Int) < (y : Int)) = false := by simp; omega
            have hgt' : decide ((y : Int) < (x : Int)) = false := by simp; omega
            clear HT HX HY
            go_wp2
            go_quiet (fail)
            go_wp2
            go_quiet (fail)
            go_wp2
            go_roundw
            case rel => exact ⟨k + 1, _, by omega, by omega, by go_num, rfl, HR⟩
            case measure => simp [intOf]; omega
      · have HR : Keep (cb xs ys = 1) := ⟨HC.out.trans (cb_end_gt hxk (by omega))⟩
        clear HC h1 h2
        go_wp2
        go_ret
        exact ⟨by rw [HR.out]; rfl, _, rfl⟩
    · by_cases hyk : k < ys.length
      · have HR : Keep (cb xs ys = -1) := ⟨HC.out.trans (cb_end_lt (by omega) hyk)⟩
        clear HC h1 h2
        go_wp2
        go_ret
        exact ⟨by rw [HR.out]; rfl, _, rfl⟩
      · have HR : Keep (cb xs ys = 0) := ⟨HC.out.trans (cb_end_eq (by omega) (by omega))⟩
        clear HC h1 h2
        go_wp2
        go_ret
        exact ⟨by rw [HR.out]; rfl, _, rfl⟩
end Go.Proofs.Qxb6604292a
