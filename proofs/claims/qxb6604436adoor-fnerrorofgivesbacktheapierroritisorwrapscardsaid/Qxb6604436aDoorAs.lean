/-
  Seat b6604436aD: errors.as and errors.As by their contracts.
-/
import Derived.Test.Qxb6604436aDoorFacts
namespace Go.Proofs.Qxb6604436aDoor
open Go.RowKit Go.Extern.Stop Go.Stop Go.Extern

/-- the reflectlite.Value of a **protocol.Error whose own variable lies at a -/
abbrev V34 (a : Addr) : Array Value := #[.pointer (some ⟨1, 34, none⟩), .pointer (some a), .int .u64 150]

set_option maxHeartbeats 1000000 in
/-- errors.as where the error's own dynamic type is *protocol.Error. -/
theorem as_hit (e t a : Addr) (old tg : Value) (w : World) (ha : w.cell? a = some (.pointer (some t))) (ht : w.cell? t = some old) (hf : w.frozen? t = false) :
    Calls Tryd.prog 13 #[.iface 23 (.pointer (some e)), tg, .agg (V34 a), .iface 54 (.agg #[.pointer (some ⟨1, 23, none⟩)])] w fun ev w' =>
      ev = .returned (.bool true) ∧ w' = ((w.alloc (.cells (V34 a) 43)).alloc (.cells #[.pointer (some e)] 23)).setCell t (.pointer (some e)) := by
  have h14 := @run_callFunc_extern Tryd.prog 14 _ ReflectliteType.typeOf Tryd.func14 (by kernel_rfl) (by kernel_rfl) (by kernel_rfl) (by kernel_rfl)
  have h42 := @run_callFunc_extern Tryd.prog 42 _ (ReflectliteType.relation "AssignableTo" ReflectliteType.assignableTo) Tryd.func42 (by kernel_rfl) (by kernel_rfl) (by kernel_rfl) (by kernel_rfl)
  have h15 := @run_callFunc_extern Tryd.prog 15 _ (ReflectliteValue.method (ReflectliteValue.valueError "reflectlite.Value.Elem" 0) ReflectliteValue.elem) Tryd.func15 (by kernel_rfl) (by kernel_rfl) (by kernel_rfl) (by kernel_rfl)
  have h16 := @run_callFunc_extern Tryd.prog 16 _ ReflectliteValue.set Tryd.func16 (by kernel_rfl) (by kernel_rfl) (by kernel_rfl) (by kernel_rfl)
  have h10 := @run_callFunc_extern Tryd.prog 10 _ (fun args => ReflectliteValue.unpack (args.getD 0 (.tuple #[]))) Tryd.func10 (by kernel_rfl) (by kernel_rfl) (by kernel_rfl) (by kernel_rfl)
  have tO := typeOf23
  have mA := methodAssignableTo
  have a23 := assignable23
  have v23 := valueOf23
  have hal : a.block < w.heap.size := World.block_lt_of_cell? w a ha
  have htl : t.block < w.heap.size := World.block_lt_of_cell? w t ht
  have el := elemV34 a t (w.alloc (.cells (V34 a) 43)) (by rw [World.cell?_alloc_lt _ _ a hal]; exact ha)
  have st := set23 t ⟨w.heap.size + 1, 0, none⟩ e old ((w.alloc (.cells (V34 a) 43)).alloc (.cells #[.pointer (some e)] 23))
    (by rw [World.cell?_alloc_at _ _ _ _ (by simp)]; rfl)
    (by rw [World.cell?_alloc_lt _ _ t (by simp; omega), World.cell?_alloc_lt _ _ t htl]; exact ht)
    (by rw [World.frozen?_alloc_old _ _ t (by simp; omega), World.frozen?_alloc_old _ _ t (Nat.ne_of_lt htl)]; exact hf)
  go_enter Tryd.func13, Tryd.ntmps13
  go_wp2
  refine wp_loop_rounds 1 ?_
  rw [rounds_succ]
  go_wp2
  go_ret
  exact ⟨rfl, rfl⟩

theorem unwrap_any (j : Addr) (v : Option Addr) (n c : Nat) (w : World) (hj : w.cell? j = some (.slice v n c)) :
    Calls Tryd.prog 37 #[.pointer (some j)] w fun ev w' => ev = .returned (.slice v n c) ∧ w' = w := by
  go_enter Tryd.func37, Tryd.ntmps37
  go_wp2
  go_ret
  exact ⟨rfl, rfl⟩

set_option maxHeartbeats 1000000 in
/-- errors.as at an error that errors.Join has made of one *protocol.Error. -/
theorem as_join (e t a j s : Addr) (c : Nat) (old tg : Value) (w : World) (ha : w.cell? a = some (.pointer (some t))) (ht : w.cell? t = some old) (hf : w.frozen? t = false)
    (hj : w.cell? j = some (.slice (some s) 1 c)) (hs : w.cell? s = some (.iface 23 (.pointer (some e)))) :
    Calls Tryd.prog 13 #[.iface 37 (.pointer (some j)), tg, .agg (V34 a), .iface 54 (.agg #[.pointer (some ⟨1, 23, none⟩)])] w fun ev w' =>
      ev = .returned (.bool true) ∧ w' = (((w.alloc (.cells (V34 a) 43)).alloc (.cells (V34 a) 43)).alloc (.cells #[.pointer (some e)] 23)).setCell t (.pointer (some e)) := by
  have h14 := @run_callFunc_extern Tryd.prog 14 _ ReflectliteType.typeOf Tryd.func14 (by kernel_rfl) (by kernel_rfl) (by kernel_rfl) (by kernel_rfl)
  have h42 := @run_callFunc_extern Tryd.prog 42 _ (ReflectliteType.relation "AssignableTo" ReflectliteType.assignableTo) Tryd.func42 (by kernel_rfl) (by kernel_rfl) (by kernel_rfl) (by kernel_rfl)
  have tO := typeOf37
  have mA := methodAssignableTo
  have a37 := assignable37
  have n1 := noAs37
  have n2 := noUnwrap37
  have n3 := isUnwraps37
  have mU := methodUnwrap
  have hal : a.block < w.heap.size := World.block_lt_of_cell? w a ha
  have htl : t.block < w.heap.size := World.block_lt_of_cell? w t ht
  have hjl : j.block < w.heap.size := World.block_lt_of_cell? w j hj
  have hsl : s.block < w.heap.size := World.block_lt_of_cell? w s hs
  have ha1 : (w.alloc (.cells (V34 a) 43)).cell? a = some (.pointer (some t)) := by rw [World.cell?_alloc_lt _ _ a hal]; exact ha
  have ht1 : (w.alloc (.cells (V34 a) 43)).cell? t = some old := by rw [World.cell?_alloc_lt _ _ t htl]; exact ht
  have hf1 : (w.alloc (.cells (V34 a) 43)).frozen? t = false := by rw [World.frozen?_alloc_old _ _ t (Nat.ne_of_lt htl)]; exact hf
  have hj1 : (w.alloc (.cells (V34 a) 43)).cell? j = some (.slice (some s) 1 c) := by rw [World.cell?_alloc_lt _ _ j hjl]; exact hj
  have hs1 : (w.alloc (.cells (V34 a) 43)).cell? s = some (.iface 23 (.pointer (some e))) := by rw [World.cell?_alloc_lt _ _ s hsl]; exact hs
  go_enter Tryd.func13, Tryd.ntmps13
  go_wp2
  refine wp_loop_rounds 1 ?_
  rw [rounds_succ]
  go_wp2_with (go_at_call 37; refine (unwrap_any j (some s) 1 c _ hj1).mono ?_; rintro ev w' ⟨rfl, rfl⟩)
  refine wp_loop_rounds 1 ?_
  rw [rounds_succ]
  go_wp2_with (go_at_call 13; refine (as_hit e t a old tg _ ha1 ht1 hf1).mono ?_; rintro ev w' ⟨rfl, rfl⟩)
  go_ret
  exact ⟨rfl, rfl⟩

set_option maxHeartbeats 1000000 in
/-- errors.As up to its call of errors.as. -/
theorem as_all (Q : World → Ending → World → Prop) (err : Value) (t : Addr) (w : World) (hn : ∃ u x, err = .iface u x) (hg : w.cell? ⟨0, 0, none⟩ = some (.iface 54 (.agg #[.pointer (some ⟨1, 31, none⟩)])))
    (has : Calls Tryd.prog 13 #[err, .iface 34 (.pointer (some t)), .agg (V34 ⟨w.heap.size, 0, none⟩), .iface 54 (.agg #[.pointer (some ⟨1, 23, none⟩)])] ((w.alloc (.cells #[.pointer (some t)] 34)).alloc (.cells (V34 ⟨w.heap.size, 0, none⟩) 43)) fun ev w' => ev = .returned (.bool true) ∧ Q w ev w') :
    Calls Tryd.prog 9 #[err, .iface 34 (.pointer (some t))] w fun ev w' => ev = .returned (.bool true) ∧ Q w ev w' := by
  obtain ⟨u, x, rfl⟩ := hn
  have h10 := @run_callFunc_extern Tryd.prog 10 _ (fun args => ReflectliteValue.unpack (args.getD 0 (.tuple #[]))) Tryd.func10 (by kernel_rfl) (by kernel_rfl) (by kernel_rfl) (by kernel_rfl)
  have h11 := @run_callFunc_extern Tryd.prog 11 _ (ReflectliteValue.methodAny (ReflectliteValue.valueError "reflectlite.Value.Type" 0) (fun t _ _ _ => ReflectliteType.toType t)) Tryd.func11 (by kernel_rfl) (by kernel_rfl) (by kernel_rfl) (by kernel_rfl)
  have h12 := @run_callFunc_extern Tryd.prog 12 _ (ReflectliteValue.method (ReflectliteValue.valueError "reflectlite.Value.IsNil" 0) ReflectliteValue.isNil) Tryd.func12 (by kernel_rfl) (by kernel_rfl) (by kernel_rfl) (by kernel_rfl)
  have h31 := @run_callFunc_extern Tryd.prog 31 _ (ReflectliteType.abiMethod fun t => do pure (.int .u8 (← Rtype.kind t))) Tryd.func31 (by kernel_rfl) (by kernel_rfl) (by kernel_rfl) (by kernel_rfl)
  have h44 := @run_callFunc_extern Tryd.prog 44 _ (ReflectliteType.method ReflectliteType.elem) Tryd.func44 (by kernel_rfl) (by kernel_rfl) (by kernel_rfl) (by kernel_rfl)
  have h45 := @run_callFunc_extern Tryd.prog 45 _ (ReflectliteType.relation "Implements" ReflectliteType.implements_) Tryd.func45 (by kernel_rfl) (by kernel_rfl) (by kernel_rfl) (by kernel_rfl)
  have f6 := valueOf34
  have f7 := type34
  have mK := methodKind
  have mE := methodElem
  have mI := methodImplements
  have k34 := kind34
  have k23 := kind23
  have e34 := elem34
  have i23 := implements23
  have n8 := isNil34 ⟨w.heap.size, 0, none⟩ t ((w.alloc (.cells #[.pointer (some t)] 34)).alloc (.cells (V34 ⟨w.heap.size, 0, none⟩) 43)) (by simp)
  have hlt : 0 < w.heap.size := World.block_lt_of_cell? w _ hg
  have hg2 : ((w.alloc (.cells #[.pointer (some t)] 34)).alloc (.cells (V34 ⟨w.heap.size, 0, none⟩) 43)).cell? ⟨0, 0, none⟩ = some (.iface 54 (.agg #[.pointer (some ⟨1, 31, none⟩)])) := by
    rw [World.cell?_alloc_lt _ _ ⟨0, 0, none⟩ (by simp), World.cell?_alloc_lt _ _ ⟨0, 0, none⟩ hlt]; exact hg
  have HAS : Hid _ := has
  clear has
  go_enter Tryd.func9, Tryd.ntmps9
  go_wp2_with fail
  refine Calls.mono HAS.out ?_
  rintro ev w' ⟨rfl, hq⟩
  clear h10 h11 h12 h31 h44 h45 f6 f7 mK mE mI k34 k23 e34 i23 n8 hg hg2 HAS
  go_wp2
  go_ret
  exact ⟨rfl, hq⟩

end Go.Proofs.Qxb6604436aDoor
