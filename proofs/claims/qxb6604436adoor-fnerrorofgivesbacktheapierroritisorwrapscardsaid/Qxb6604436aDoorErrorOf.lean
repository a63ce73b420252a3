/-
  Seat b6604436aD: errors.Join at one error; ErrorOf.
-/
import Derived.Test.Qxb6604436aDoorAs
namespace Go.Proofs.Qxb6604436aDoor
open Go.RowKit Go.Extern.Stop Go.Stop Go.Extern

set_option maxHeartbeats 1000000 in
theorem join_any (s0 e : Addr) (w : World) (hs : w.cell? s0 = some (.iface 23 (.pointer (some e)))) :
    Calls Tryd.prog 8 #[.slice (some s0) 1 1] w fun ev w' => ∃ j s c, ev = .returned (.iface 37 (.pointer (some j))) ∧ w'.cell? j = some (.slice (some s) 1 c) ∧ w'.cell? s = some (.iface 23 (.pointer (some e))) ∧ Below w.heap.size w w' := by
  have hsl : s0.block < w.heap.size := World.block_lt_of_cell? w s0 hs
  have hmk : ∀ W : World, (Instr.makeSlice 36 (.int .i64 0) (.int .i64 1)).run Tryd.prog W = .ok (.slice (some ⟨W.heap.size, 0, none⟩) 0 1) (W.alloc (.cells #[.nilIface] 31)) := fun _ => by kernel_rfl
  go_enter Tryd.func8, Tryd.ntmps8
  go_wp2
  refine wp_loop_rounds 2 ?_
  rw [rounds_succ]
  go_wp2
  rw [rounds_succ]
  go_wp2
  have hs2 : ((w.alloc (Obj.cells #[Value.nilIface] 31)).alloc (Obj.cells #[Value.slice (some { block := w.heap.size, off := 0 }) 0 1] 39)).cell? s0 = some (.iface 23 (.pointer (some e))) := by
    rw [World.cell?_alloc_lt _ _ s0 (by simp; omega), World.cell?_alloc_lt _ _ s0 hsl]; exact hs
  clear hmk
  refine wp_loop_rounds 2 ?_
  rw [rounds_succ]
  go_wp2
  rw [rounds_succ]
  go_wp2
  go_ret
  refine ⟨⟨w.heap.size + 1, 0, none⟩, ⟨w.heap.size, 0, none⟩, 1, rfl, ?_, ?_, ((((Below.refl _ _).alloc (Nat.le_refl _) _).alloc (by simp) _).alloc (by simp; omega) _)⟩
  · rw [World.cell?_alloc_lt _ _ _ (by simp), World.cell?_alloc_at _ _ _ _ (by simp)]; rfl
  · rw [World.cell?_alloc_lt _ _ _ (by simp; omega), World.cell?_alloc_lt _ _ _ (by simp), World.cell?_alloc_at _ _ _ _ rfl]; rfl

/-- what errors.As leaves: the target is set; what lay below it is as it was -/
def SetTo (t e : Addr) (w : World) (_ : Ending) (w' : World) : Prop := w'.cell? t = some (.pointer (some e)) ∧ Below t.block w w'

theorem setTo_hit {t e : Addr} {w : World} {old : Value} (ht : w.cell? t = some old) (A B C D : Obj) (ev : Ending) :
    SetTo t e w ev (((((w.alloc A).alloc B).alloc C).alloc D).setCell t (.pointer (some e))) := by
  have htl : t.block < w.heap.size := World.block_lt_of_cell? w t ht
  refine ⟨?_, ?_⟩
  · refine World.cell?_setCell_same _ _ _ (u := old) ?_
    rw [World.cell?_alloc_lt _ _ t (by simp; omega), World.cell?_alloc_lt _ _ t (by simp; omega), World.cell?_alloc_lt _ _ t (by simp; omega), World.cell?_alloc_lt _ _ t htl]
    exact ht
  · exact (((((Below.refl _ _).alloc (by omega) _).alloc (by simp; omega) _).alloc (by simp; omega) _).alloc (by simp; omega) _).setCell (Nat.le_refl _) _
theorem setTo_join {t e : Addr} {w : World} {old : Value} (ht : w.cell? t = some old) (A B C D E : Obj) (ev : Ending) :
    SetTo t e w ev ((((((w.alloc A).alloc B).alloc C).alloc D).alloc E).setCell t (.pointer (some e))) := by
  have htl : t.block < w.heap.size := World.block_lt_of_cell? w t ht
  refine ⟨?_, ?_⟩
  · refine World.cell?_setCell_same _ _ _ (u := old) ?_
    rw [World.cell?_alloc_lt _ _ t (by simp; omega), World.cell?_alloc_lt _ _ t (by simp; omega), World.cell?_alloc_lt _ _ t (by simp; omega), World.cell?_alloc_lt _ _ t (by simp; omega), World.cell?_alloc_lt _ _ t htl]
    exact ht
  · exact ((((((Below.refl _ _).alloc (by omega) _).alloc (by simp; omega) _).alloc (by simp; omega) _).alloc (by simp; omega) _).alloc (by simp; omega) _).setCell (Nat.le_refl _) _

theorem at2 {w : World} {a : Addr} {v : Value} (h : w.cell? a = some v) (A B : Obj) : ((w.alloc A).alloc B).cell? a = some v := by
  have hl : a.block < w.heap.size := World.block_lt_of_cell? w a h
  rw [World.cell?_alloc_lt _ _ a (by simp; omega), World.cell?_alloc_lt _ _ a hl]; exact h

theorem errorType_alloc {w : World} {v : Value} (hg : w.cell? ⟨0, 0, none⟩ = some v) (A : Obj) : (w.alloc A).cell? ⟨0, 0, none⟩ = some v := by
  rw [World.cell?_alloc_lt _ _ _ (World.block_lt_of_cell? w _ hg)]; exact hg

set_option maxHeartbeats 1000000 in
theorem errorOf_hit (e : Addr) (w : World) (hg : w.cell? ⟨0, 0, none⟩ = some (.iface 54 (.agg #[.pointer (some ⟨1, 31, none⟩)]))) :
    Calls Tryd.prog 7 #[.iface 23 (.pointer (some e))] w fun ev w' => ev = .returned (.pointer (some e)) ∧ Below w.heap.size w w' := by
  have ht : (w.alloc (.cells #[.pointer none] 23)).cell? ⟨w.heap.size, 0, none⟩ = some (.pointer none) := by simp
  have hf : (w.alloc (.cells #[.pointer none] 23)).frozen? ⟨w.heap.size, 0, none⟩ = false := by simp
  have hAs : Calls Tryd.prog 9 #[.iface 23 (.pointer (some e)), .iface 34 (.pointer (some ⟨w.heap.size, 0, none⟩))] (w.alloc (.cells #[.pointer none] 23)) fun ev w' => ev = .returned (.bool true) ∧ SetTo ⟨w.heap.size, 0, none⟩ e (w.alloc (.cells #[.pointer none] 23)) ev w' := by
    refine as_all (SetTo ⟨w.heap.size, 0, none⟩ e) _ _ _ ⟨_, _, rfl⟩ (errorType_alloc hg _) ?_
    refine (as_hit e ⟨w.heap.size, 0, none⟩ ⟨(w.alloc (.cells #[.pointer none] 23)).heap.size, 0, none⟩ (.pointer none) _ _ ?_ (at2 ht _ _) ?_).mono ?_
    · rw [World.cell?_alloc_lt _ _ _ (by simp), World.cell?_alloc_at _ _ _ _ rfl]; rfl
    · rw [World.frozen?_alloc_old _ _ _ (by simp; omega), World.frozen?_alloc_old _ _ _ (by simp)]; exact hf
    · rintro ev w' ⟨rfl, rfl⟩
      exact ⟨rfl, setTo_hit ht _ _ _ _ _⟩
  clear ht hf hg
  have HAS : Hid _ := hAs
  clear hAs
  go_enter Tryd.func7, Tryd.ntmps7
  go_wp2_with fail
  refine Calls.mono HAS.out ?_
  rintro ev w' ⟨rfl, hc, hb⟩
  clear HAS
  have hbb : Below w.heap.size w w' := ((Below.refl _ _).alloc (Nat.le_refl _) _).trans hb
  go_wp2
  go_ret
  exact ⟨rfl, hbb⟩

set_option maxHeartbeats 1000000 in
theorem errorOf_join (e j s : Addr) (c : Nat) (w : World) (hg : w.cell? ⟨0, 0, none⟩ = some (.iface 54 (.agg #[.pointer (some ⟨1, 31, none⟩)])))
    (hj : w.cell? j = some (.slice (some s) 1 c)) (hs : w.cell? s = some (.iface 23 (.pointer (some e)))) :
    Calls Tryd.prog 7 #[.iface 37 (.pointer (some j))] w fun ev w' => ev = .returned (.pointer (some e)) ∧ Below w.heap.size w w' := by
  have ht : (w.alloc (.cells #[.pointer none] 23)).cell? ⟨w.heap.size, 0, none⟩ = some (.pointer none) := by simp
  have hf : (w.alloc (.cells #[.pointer none] 23)).frozen? ⟨w.heap.size, 0, none⟩ = false := by simp
  have hj1 : (w.alloc (.cells #[.pointer none] 23)).cell? j = some (.slice (some s) 1 c) := by rw [World.cell?_alloc_lt _ _ _ (World.block_lt_of_cell? w _ hj)]; exact hj
  have hs1 : (w.alloc (.cells #[.pointer none] 23)).cell? s = some (.iface 23 (.pointer (some e))) := by rw [World.cell?_alloc_lt _ _ _ (World.block_lt_of_cell? w _ hs)]; exact hs
  have hAs : Calls Tryd.prog 9 #[.iface 37 (.pointer (some j)), .iface 34 (.pointer (some ⟨w.heap.size, 0, none⟩))] (w.alloc (.cells #[.pointer none] 23)) fun ev w' => ev = .returned (.bool true) ∧ SetTo ⟨w.heap.size, 0, none⟩ e (w.alloc (.cells #[.pointer none] 23)) ev w' := by
    refine as_all (SetTo ⟨w.heap.size, 0, none⟩ e) _ _ _ ⟨_, _, rfl⟩ (errorType_alloc hg _) ?_
    refine (as_join e ⟨w.heap.size, 0, none⟩ ⟨(w.alloc (.cells #[.pointer none] 23)).heap.size, 0, none⟩ j s c (.pointer none) _ _ ?_ (at2 ht _ _) ?_ (at2 hj1 _ _) (at2 hs1 _ _)).mono ?_
    · rw [World.cell?_alloc_lt _ _ _ (by simp), World.cell?_alloc_at _ _ _ _ rfl]; rfl
    · rw [World.frozen?_alloc_old _ _ _ (by simp; omega), World.frozen?_alloc_old _ _ _ (by simp)]; exact hf
    · rintro ev w' ⟨rfl, rfl⟩
      exact ⟨rfl, setTo_join ht _ _ _ _ _ _⟩
  clear ht hf hg hj1 hs1 hj hs
  have HAS : Hid _ := hAs
  clear hAs
  go_enter Tryd.func7, Tryd.ntmps7
  go_wp2_with fail
  refine Calls.mono HAS.out ?_
  rintro ev w' ⟨rfl, hc, hb⟩
  clear HAS
  have hbb : Below w.heap.size w w' := ((Below.refl _ _).alloc (Nat.le_refl _) _).trans hb
  go_wp2
  go_ret
  exact ⟨rfl, hbb⟩

theorem zz_error (e : Addr) (w : World) (hg : w.cell? ⟨0, 0, none⟩ = some (.iface 54 (.agg #[.pointer (some ⟨1, 31, none⟩)]))) :
    Calls Tryd.prog 5 #[.pointer (some e)] w fun ev w' => ev = .returned (.pointer (some e)) ∧ Below w.heap.size w w' := by
  go_enter Tryd.func5, Tryd.ntmps5
  go_wp2_with (go_at_call 7; refine (errorOf_hit e _ hg).mono ?_; rintro ev w' ⟨rfl, hb⟩)
  go_ret
  exact ⟨rfl, hb⟩

set_option maxHeartbeats 1000000 in
theorem zz_joined (e : Addr) (w : World) (hg : w.cell? ⟨0, 0, none⟩ = some (.iface 54 (.agg #[.pointer (some ⟨1, 31, none⟩)]))) :
    Calls Tryd.prog 6 #[.pointer (some e)] w fun ev w' => ev = .returned (.pointer (some e)) ∧ Below w.heap.size w w' := by
  have hlt : 0 < w.heap.size := World.block_lt_of_cell? w _ hg
  go_enter Tryd.func6, Tryd.ntmps6
  go_wp2_with fail
  refine (join_any ⟨w.heap.size, 0, none⟩ e _ (by simp)).mono ?_
  rintro ev w1 ⟨j, s, c, rfl, hj, hs, hb⟩
  have hg1 : w1.cell? ⟨0, 0, none⟩ = some (.iface 54 (.agg #[.pointer (some ⟨1, 31, none⟩)])) := by
    rw [hb.cell (p := ⟨0, 0, none⟩) (by simp)]; exact errorType_alloc hg _
  have hb1 : Below w.heap.size w w1 := ((Below.refl _ _).alloc (Nat.le_refl _) _).trans (hb.mono (by simp))
  clear hb hg
  go_wp2_with fail
  refine (errorOf_join e j s c w1 hg1 hj hs).mono ?_
  rintro ev w2 ⟨rfl, hb2⟩
  have hbb : Below w.heap.size w w2 := hb1.trans (hb2.mono hb1.size)
  clear hg1 hj hs hb1 hb2
  go_wp2
  go_ret
  exact ⟨rfl, hbb⟩
end Go.Proofs.Qxb6604436aDoor
