/-
  Seat b6604292a: the contract of ownerKeyB1.
-/
import Derived.Test.Qxb6604292aCmp
namespace Go.Proofs.Qxb6604292a
open Go.RowKit

theorem info5 : (Try.prog.info? 5).map (fun i => (i.zero, i.size, i.bytes)) = some (some (.int .u8 0), 1, 1) := by kernel_rfl

/-- bytes as cells -/
def cells (l : List UInt8) : List Value := l.map fun c => Value.int .u8 (c.toNat : Int)
theorem cells_append (a b : List UInt8) : cells (a ++ b) = cells a ++ cells b := by simp [cells]
theorem cells_length (a : List UInt8) : (cells a).length = a.length := by simp [cells]

theorem take_snoc (s : ByteArray) (k : Nat) (h : k < s.size) : s.data.toList.take (k + 1) = s.data.toList.take k ++ [s[k]] := by
  rw [List.take_succ_eq_append_getElem (by simpa using h)]; rfl

set_option maxHeartbeats 800000 in
theorem key_any (m n : ByteArray) (w : World) (hs : m.size + n.size ≤ 1048576) :
    Calls Try.prog 7 #[.string m, .string n] w fun e w' => ∃ c, e = .returned (.slice (some ⟨w.heap.size, 0, none⟩) (key m.data.toList n.data.toList).length c) ∧ w'.ownsRow w.heap.size 5 1 (.slice (some ⟨w.heap.size, 0, none⟩) (key m.data.toList n.data.toList).length c) (key m.data.toList n.data.toList).length (cells (key m.data.toList n.data.toList)) ∧ Below w.heap.size w w' := by
  obtain ⟨i0, hi, hz0, hz1, hz2⟩ := info_parts info5
  go_enter Try.func7, Try.ntmps7
  go_wp2_with (at_make; refine wpList_make_own _ rfl _ _ 24 rfl w.heap.size 5 i0 (.int .u8 0) 1 Try.underlying24 hi hz0 hz1 _ _ _ (2 * m.size + 2 * n.size + 2) rfl rfl (by omega) ?b2 ?b3 (Nat.le_refl _) ?_)
  case b2 => rw [hz2]; omega
  case b3 => unfold maxLen; omega
  intro w0 hown0 hgrow0
  have hB0 : Below w.heap.size w w0 := (Below.refl _ _).grown hgrow0 (Nat.le_refl _) (fun k h => by cases h)
  clear hgrow0
  go_wp2
  go_loopw [5, 6] (fun v i wr => ∃ k : Nat, k ≤ m.size ∧ i = .int .i64 k ∧ v = .slice (some ⟨w.heap.size, 0, none⟩) (2 * k) (2 * m.size + 2 * n.size + 2) ∧
      wr.ownsRow w.heap.size 5 1 (.slice (some ⟨w.heap.size, 0, none⟩) (2 * k) (2 * m.size + 2 * n.size + 2)) (2 * k) (cells (esc (m.data.toList.take k))) ∧ Below w.heap.size w wr) (fun _ i _ => m.size - (intOf i).toNat)
  case atStart => exact ⟨0, Nat.zero_le _, rfl, rfl, hown0, hB0⟩
  case round =>
    clear hown0 hB0
    obtain ⟨k, hk, rfl, rfl, hown, hB⟩ := hrel
    by_cases hlt : k < m.size
    · have HT : Keep (cells (esc (m.data.toList.take (k + 1))) = cells (esc (m.data.toList.take k)) ++ [.int .u8 1, .int .u8 (m[k].toNat : Int)]) := ⟨by
        rw [take_snoc m k hlt, esc_append, cells_append]; rfl⟩
      go_wp2_with (at_builtin; refine wpList_append_fits _ rfl (.tmp 23) (.tmp 27) 24 rfl w.heap.size 5 i0 1 Try.underlying24 hi hz1 w.heap.size (2 * k) (2 * m.size + 2 * n.size + 2) _ rfl (hown.alloc _) ⟨wr.heap.size, 0, none⟩ 2 2 [.int .u8 1, .int .u8 (m[k].toNat : Int)] rfl rfl ?c1 ?c2 ?c3 ?_)
      case c1 =>
        intro j u hj
        match j, hj with
        | 0, hj => simp at hj; subst hj; simp [Addr.add]
        | 1, hj => simp at hj; subst hj; simp [Addr.add]
      case c2 => intro u hu; simp at hu; rcases hu with rfl | rfl <;> rfl
      case c3 => omega
      intro w1 hown1 hgrow1
      have hB1 : Below w.heap.size w w1 := (hB.alloc hB.size _).grown hgrow1 (by have := hB.size; simp; omega) (fun j h => by cases h; exact Nat.le_refl _)
      have HO : Keep (w1.ownsRow w.heap.size 5 1 (.slice (some ⟨w.heap.size, 0, none⟩) (2 * (k + 1)) (2 * m.size + 2 * n.size + 2)) (2 * (k + 1)) (cells (esc (m.data.toList.take (k + 1))))) := ⟨by rw [HT.out]; exact hown1⟩
      clear hown1 hgrow1 hown hB HT
      go_wp2
      go_roundw
      case rel => exact ⟨k + 1, by omega, by go_num, rfl, HO.out, hB1⟩
      case measure => simp [intOf]; omega
    · have e : k = m.size := by omega
      subst e
      have et : m.data.toList.take m.size = m.data.toList := List.take_of_length_le (by simp)
      rw [et] at hown
      clear et
      go_wp2_with (at_builtin; refine wpList_append_fits _ rfl (.tmp 29) (.tmp 30) 24 rfl w.heap.size 5 i0 1 Try.underlying24 hi hz1 w.heap.size (2 * m.size) (2 * m.size + 2 * n.size + 2) _ rfl (hown.alloc _) ⟨wr.heap.size, 0, none⟩ 1 1 [.int .u8 0] rfl rfl ?d1 ?d2 ?d3 ?_)
      case d1 =>
        intro j u hj
        match j, hj with
        | 0, hj => simp at hj; subst hj; simp [Addr.add]
      case d2 => intro u hu; simp at hu; subst hu; rfl
      case d3 => omega
      intro w2 hown2 hgrow2
      have hB2 : Below w.heap.size w w2 := (hB.alloc hB.size _).grown hgrow2 (by have := hB.size; simp; omega) (fun j h => by cases h; exact Nat.le_refl _)
      have HO2 : Keep (w2.ownsRow w.heap.size 5 1 (.slice (some ⟨w.heap.size, 0, none⟩) (2 * m.size + 1 + 2 * 0) (2 * m.size + 2 * n.size + 2)) (2 * m.size + 1 + 2 * 0) (cells (esc m.data.toList ++ 0 :: esc (n.data.toList.take 0)))) := ⟨by
        have e : cells (esc m.data.toList ++ 0 :: esc (n.data.toList.take 0)) = cells (esc m.data.toList) ++ [.int .u8 0] := by rw [cells_append]; rfl
        rw [e]; exact hown2⟩
      clear hown2 hgrow2 hown hB
      go_wp2
      go_loopw [5, 7] (fun v i wr => ∃ k : Nat, k ≤ n.size ∧ i = .int .i64 k ∧ v = .slice (some ⟨w.heap.size, 0, none⟩) (2 * m.size + 1 + 2 * k) (2 * m.size + 2 * n.size + 2) ∧
          wr.ownsRow w.heap.size 5 1 (.slice (some ⟨w.heap.size, 0, none⟩) (2 * m.size + 1 + 2 * k) (2 * m.size + 2 * n.size + 2)) (2 * m.size + 1 + 2 * k) (cells (esc m.data.toList ++ 0 :: esc (n.data.toList.take k))) ∧ Below w.heap.size w wr) (fun _ i _ => n.size - (intOf i).toNat)
      case atStart => exact ⟨0, Nat.zero_le _, rfl, rfl, HO2.out, hB2⟩
      case round =>
        clear HO2 hB2
        obtain ⟨k, hk, rfl, rfl, hown, hB⟩ := hrel
        by_cases hlt : k < n.size
        · have HT : Keep (cells (esc m.data.toList ++ 0 :: esc (n.data.toList.take (k + 1))) = cells (esc m.data.toList ++ 0 :: esc (n.data.toList.take k)) ++ [.int .u8 1, .int .u8 (n[k].toNat : Int)]) := ⟨by
            rw [take_snoc n k hlt, esc_append, ← List.cons_append, ← List.append_assoc, cells_append]; rfl⟩
          go_wp2_with (at_builtin; refine wpList_append_fits _ rfl (.tmp 38) (.tmp 42) 24 rfl w.heap.size 5 i0 1 Try.underlying24 hi hz1 w.heap.size (2 * m.size + 1 + 2 * k) (2 * m.size + 2 * n.size + 2) _ rfl (hown.alloc _) ⟨wr.heap.size, 0, none⟩ 2 2 [.int .u8 1, .int .u8 (n[k].toNat : Int)] rfl rfl ?e1 ?e2 ?e3 ?_)
          case e1 =>
            intro j u hj
            match j, hj with
            | 0, hj => simp at hj; subst hj; simp [Addr.add]
            | 1, hj => simp at hj; subst hj; simp [Addr.add]
          case e2 => intro u hu; simp at hu; rcases hu with rfl | rfl <;> rfl
          case e3 => omega
          intro w1 hown1 hgrow1
          have hB1 : Below w.heap.size w w1 := (hB.alloc hB.size _).grown hgrow1 (by have := hB.size; simp; omega) (fun j h => by cases h; exact Nat.le_refl _)
          have HO : Keep (w1.ownsRow w.heap.size 5 1 (.slice (some ⟨w.heap.size, 0, none⟩) (2 * m.size + 1 + 2 * (k + 1)) (2 * m.size + 2 * n.size + 2)) (2 * m.size + 1 + 2 * (k + 1)) (cells (esc m.data.toList ++ 0 :: esc (n.data.toList.take (k + 1))))) := ⟨by rw [HT.out]; exact hown1⟩
          clear hown1 hgrow1 hown hB HT
          go_wp2
          go_roundw
          case rel => exact ⟨k + 1, by omega, by go_num, rfl, HO.out, hB1⟩
          case measure => simp [intOf]; omega
        · have e : k = n.size := by omega
          subst e
          have et : n.data.toList.take n.size = n.data.toList := List.take_of_length_le (by simp)
          rw [et] at hown
          clear et
          go_wp2_with (at_builtin; refine wpList_append_fits _ rfl (.tmp 44) (.tmp 45) 24 rfl w.heap.size 5 i0 1 Try.underlying24 hi hz1 w.heap.size (2 * m.size + 1 + 2 * n.size) (2 * m.size + 2 * n.size + 2) _ rfl (hown.alloc _) ⟨wr.heap.size, 0, none⟩ 1 1 [.int .u8 0] rfl rfl ?f1 ?f2 ?f3 ?_)
          case f1 =>
            intro j u hj
            match j, hj with
            | 0, hj => simp at hj; subst hj; simp [Addr.add]
          case f2 => intro u hu; simp at hu; subst hu; rfl
          case f3 => omega
          intro w3 hown3 hgrow3
          have hB3 : Below w.heap.size w w3 := (hB.alloc hB.size _).grown hgrow3 (by have := hB.size; simp; omega) (fun j h => by cases h; exact Nat.le_refl _)
          have HL : Keep ((key m.data.toList n.data.toList).length = 2 * m.size + 1 + 2 * n.size + 1) := ⟨by rw [key_length]; simp; omega⟩
          have HK : Keep (cells (key m.data.toList n.data.toList) = cells (esc m.data.toList ++ 0 :: esc n.data.toList) ++ [.int .u8 0]) := ⟨by
            unfold key; rw [← List.cons_append, ← List.append_assoc, cells_append]; rfl⟩
          have HO : Keep (w3.ownsRow _ _ _ _ _ _) := ⟨hown3⟩
          clear hown3 hgrow3 hown hB
          go_wp2
          go_ret
          exact ⟨2 * m.size + 2 * n.size + 2, by rw [HL.out]; rfl, by rw [HL.out, HK.out]; exact HO.out, hB3⟩
end Go.Proofs.Qxb6604292a
