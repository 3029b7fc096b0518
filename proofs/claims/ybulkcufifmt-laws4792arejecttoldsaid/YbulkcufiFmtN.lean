/-
  NewDecoder over the law's own reader; Offset; decodeUint where Uint fails.
-/
import Derived.Test.YbulkcufiFmtM
import Derived.OwnWalk
namespace Go.Proofs.YbulkcufiFmt
open Go.RowKit Go.Extern.Stop Go.Stop Go.Extern
attribute [local go_sem] alloc_drewN setCell_drewN

theorem info5z : (Ybaf.prog.info? 5).map (fun i => (i.zero, i.size, i.bytes)) = some (some (.int .u8 0), 1, 1) := by kernel_rfl
theorem maken (n : Nat) (hn : n ≤ 100000) : ∃ zs : List Value, zs.length = n ∧ ∀ W : World, (Instr.makeSlice 24 (.int .i64 (n : Int)) (.int .i64 (n : Int))).run Ybaf.prog W = .ok (.slice (some ⟨W.heap.size, 0, none⟩) n n) (W.alloc (.cells zs.toArray 5)) := by
  obtain ⟨i0, hi, hz0, hz1, hz2⟩ := info_parts info5z
  refine ⟨(madeCells #[.int .u8 0] n).toList, by rw [toList_madeCells_one]; exact List.length_replicate, fun W => ?_⟩
  have hr := run_make (P := Ybaf.prog) W 24 5 i0 (.int .u8 0) Ybaf.underlying24 hi hz0 .i64 .i64 n n (by omega) (by omega) (by rw [hz2]; omega) (by omega)
  rw [hr, hz1]
  simp [Value.cells]
theorem make4096 : ∃ zs : List Value, zs.length = 4096 ∧ ∀ W : World, (Instr.makeSlice 24 (.int .i64 4096) (.int .i64 4096)).run Ybaf.prog W = .ok (.slice (some ⟨W.heap.size, 0, none⟩) 4096 4096) (W.alloc (.cells zs.toArray 5)) := maken 4096 (by omega)

set_option maxRecDepth 100000 in
theorem offset_does (N : Nat) (x : Int) (w : World) (hD : w.heap[N + 3]? = some (dObj N x)) : Calls Ybaf.prog 10 #[.pointer (some ⟨N + 3, 0, none⟩)] w fun e w' => e = .returned (.int .i64 x) ∧ w' = w := by
  obtain ⟨-, d1, -⟩ := dcell hD
  clear hD
  go_enter Ybaf.func10, Ybaf.ntmps10
  go_wp2
  go_ret
  exact ⟨rfl, rfl⟩

set_option maxRecDepth 100000 in
theorem dec16_fail (N : Nat) (off at_ : Int) (err p : Value) (w : World) (hD : w.heap[N + 3]? = some (dObj N 0))
    (HU : Hid (Calls Ybaf.prog 17 #[.pointer (some ⟨N + 3, 0, none⟩)] w fun e w' => ∃ E, e = .returned (.tuple #[.int .u64 0, .iface 23 (.pointer (some ⟨E, 0, none⟩))]) ∧ Hid (Failed N off at_ err w E w'))) :
    Calls Ybaf.prog 9 #[.pointer (some ⟨N + 3, 0, none⟩), p] w fun e w' => ∃ E, e = .returned (.iface 23 (.pointer (some ⟨E, 0, none⟩))) ∧ Hid (Failed N off at_ err w E w') := by
  have HO : Hid (Calls Ybaf.prog 10 #[.pointer (some ⟨N + 3, 0, none⟩)] w fun e w' => e = .returned (.int .i64 0) ∧ w' = w) := offset_does N 0 w hD
  clear hD
  go_enter Ybaf.func9, Ybaf.ntmps9
  go_wp2_with (first | (go_at_call 10; refine HO.out.mono ?_; rintro e w' ⟨rfl, rfl⟩) | (go_at_call 17; refine HU.out.mono ?_; rintro e w1 ⟨E, rfl, HE⟩))
  go_ret
  exact ⟨E, rfl, HE⟩

set_option maxRecDepth 100000 in
theorem dec64_fail (N : Nat) (off at_ : Int) (err p : Value) (w : World) (hD : w.heap[N + 3]? = some (dObj N 0))
    (HU : Hid (Calls Ybaf.prog 17 #[.pointer (some ⟨N + 3, 0, none⟩)] w fun e w' => ∃ E, e = .returned (.tuple #[.int .u64 0, .iface 23 (.pointer (some ⟨E, 0, none⟩))]) ∧ Hid (Failed N off at_ err w E w'))) :
    Calls Ybaf.prog 15 #[.pointer (some ⟨N + 3, 0, none⟩), p] w fun e w' => ∃ E, e = .returned (.iface 23 (.pointer (some ⟨E, 0, none⟩))) ∧ Hid (Failed N off at_ err w E w') := by
  have HO : Hid (Calls Ybaf.prog 10 #[.pointer (some ⟨N + 3, 0, none⟩)] w fun e w' => e = .returned (.int .i64 0) ∧ w' = w) := offset_does N 0 w hD
  clear hD
  go_enter Ybaf.func15, Ybaf.ntmps15
  go_wp2_with (first | (go_at_call 10; refine HO.out.mono ?_; rintro e w' ⟨rfl, rfl⟩) | (go_at_call 17; refine HU.out.mono ?_; rintro e w1 ⟨E, rfl, HE⟩))
  go_ret
  exact ⟨E, rfl, HE⟩

theorem rsetAll {w : World} {R : Nat} {v0 v1 v2 v3 v4 v5 v6 : Value} (h : w.heap[R]? = some (.cells #[v0, v1, v2, v3, v4, v5, v6] 99 (0, 0))) (a b c d e f g : Value) :
    (((((((w.setCell ⟨R, 0, none⟩ a).setCell ⟨R, 1, none⟩ b).setCell ⟨R, 2, none⟩ c).setCell ⟨R, 3, none⟩ d).setCell ⟨R, 4, none⟩ e).setCell ⟨R, 5, none⟩ f).setCell ⟨R, 6, none⟩ g).heap[R]? = some (.cells #[a, b, c, d, e, f, g] 99 (0, 0)) := by
  have h0 : (w.setCell ⟨R, 0, none⟩ a).heap[R]? = some (.cells #[a, v1, v2, v3, v4, v5, v6] 99 (0, 0)) := heap_setCell_same _ R 0 _ _ a h
  have h1 : ((w.setCell ⟨R, 0, none⟩ a).setCell ⟨R, 1, none⟩ b).heap[R]? = some (.cells #[a, b, v2, v3, v4, v5, v6] 99 (0, 0)) := heap_setCell_same _ R 1 _ _ b h0
  have h2 : (((w.setCell ⟨R, 0, none⟩ a).setCell ⟨R, 1, none⟩ b).setCell ⟨R, 2, none⟩ c).heap[R]? = some (.cells #[a, b, c, v3, v4, v5, v6] 99 (0, 0)) := heap_setCell_same _ R 2 _ _ c h1
  have h3 : ((((w.setCell ⟨R, 0, none⟩ a).setCell ⟨R, 1, none⟩ b).setCell ⟨R, 2, none⟩ c).setCell ⟨R, 3, none⟩ d).heap[R]? = some (.cells #[a, b, c, d, v4, v5, v6] 99 (0, 0)) := heap_setCell_same _ R 3 _ _ d h2
  have h4 : (((((w.setCell ⟨R, 0, none⟩ a).setCell ⟨R, 1, none⟩ b).setCell ⟨R, 2, none⟩ c).setCell ⟨R, 3, none⟩ d).setCell ⟨R, 4, none⟩ e).heap[R]? = some (.cells #[a, b, c, d, e, v5, v6] 99 (0, 0)) := heap_setCell_same _ R 4 _ _ e h3
  have h5 : ((((((w.setCell ⟨R, 0, none⟩ a).setCell ⟨R, 1, none⟩ b).setCell ⟨R, 2, none⟩ c).setCell ⟨R, 3, none⟩ d).setCell ⟨R, 4, none⟩ e).setCell ⟨R, 5, none⟩ f).heap[R]? = some (.cells #[a, b, c, d, e, f, v6] 99 (0, 0)) := heap_setCell_same _ R 5 _ _ f h4
  exact heap_setCell_same _ R 6 _ _ g h5

set_option maxRecDepth 100000 in
theorem reset_does (N : Nat) (v0 v1 v2 v3 v4 v5 v6 : Value) (w : World) (hR : w.heap[N + 1]? = some (.cells #[v0, v1, v2, v3, v4, v5, v6] 99 (0, 0))) :
    Calls Ybaf.prog 28 #[.pointer (some ⟨N + 1, 0, none⟩), .slice (some ⟨N + 2, 0, none⟩) 4096 4096, .iface 43 (.pointer (some ⟨N, 0, none⟩))] w fun e w' => e = .returned (.tuple #[]) ∧
      w'.heap[N + 1]? = some (rObj N 0 0 .nilIface (.int .i64 (-1)) (.int .i64 (-1))) ∧ w'.heap.size = w.heap.size ∧ Fx (fun i => i = N + 1) w w' := by
  have c0 : w.cell? ⟨N + 1, 0, none⟩ = some v0 := by rw [cell_heap hR]; rfl
  have c1 : w.cell? ⟨N + 1, 1, none⟩ = some v1 := by rw [cell_heap hR]; rfl
  have c2 : w.cell? ⟨N + 1, 2, none⟩ = some v2 := by rw [cell_heap hR]; rfl
  have c3 : w.cell? ⟨N + 1, 3, none⟩ = some v3 := by rw [cell_heap hR]; rfl
  have c4 : w.cell? ⟨N + 1, 4, none⟩ = some v4 := by rw [cell_heap hR]; rfl
  have c5 : w.cell? ⟨N + 1, 5, none⟩ = some v5 := by rw [cell_heap hR]; rfl
  have c6 : w.cell? ⟨N + 1, 6, none⟩ = some v6 := by rw [cell_heap hR]; rfl
  have cf : ∀ i, w.frozen? ⟨N + 1, i, none⟩ = false := fun i => frozen_heap hR i
  have HR : Hid _ := hR
  clear hR
  go_enter Ybaf.func28, Ybaf.ntmps28
  go_wp2
  refine bodyPost_end (results_none rfl _ _ _) rfl ?_
  refine ⟨rfl, ?_, by simp, ?_⟩
  · exact rsetAll HR.out _ _ _ _ _ _ _
  · repeat (first | with_reducible exact Fx.refl _ _ | with_reducible refine Fx.setCell ?_ (by simp) _)

theorem noBufio (v : Value) (w : World) : (Instr.typeAssert (.iface 43 v) 65 66 true).run Ybaf.prog w = .ok (.tuple #[.pointer none, .bool false]) w := by kernel_rfl

set_option maxRecDepth 100000 in
set_option maxHeartbeats 1000000 in
theorem newReader_does (N : Nat) (w : World) (hN : w.heap.size = N + 1) :
    Calls Ybaf.prog 22 #[.iface 43 (.pointer (some ⟨N, 0, none⟩)), .int .i64 4096] w fun e w' => e = .returned (.pointer (some ⟨N + 1, 0, none⟩)) ∧
      Hid (w'.heap[N + 1]? = some (rObj N 0 0 .nilIface (.int .i64 (-1)) (.int .i64 (-1))) ∧ (∃ zs : List Value, zs.length = 4096 ∧ w'.heap[N + 2]? = some (.cells zs.toArray 5 (0, 0))) ∧ w'.heap.size = N + 3 ∧ Fx (fun _ => False) w w') := by
  obtain ⟨zs, hz, hm⟩ := make4096
  have hnb := noBufio
  go_enter Ybaf.func22, Ybaf.ntmps22
  go_upto_region 5 with fail
  have HR : Hid (Calls Ybaf.prog 28 #[.pointer (some ⟨N + 1, 0, none⟩), .slice (some ⟨N + 2, 0, none⟩) 4096 4096, .iface 43 (.pointer (some ⟨N, 0, none⟩))]
      ((w.alloc (.cells #[.slice none 0 0, .nilIface, .int .i64 0, .int .i64 0, .nilIface, .int .i64 0, .int .i64 0] 99)).alloc (.cells zs.toArray 5)) fun e w' => e = .returned (.tuple #[]) ∧
      Hid (w'.heap[N + 1]? = some (rObj N 0 0 .nilIface (.int .i64 (-1)) (.int .i64 (-1))) ∧ (∃ zs : List Value, zs.length = 4096 ∧ w'.heap[N + 2]? = some (.cells zs.toArray 5 (0, 0))) ∧ w'.heap.size = N + 3 ∧ Fx (fun _ => False) w w')) := by
    refine (reset_does N _ _ _ _ _ _ _ _ ((Below.heap_alloc _ _ _ (by rw [World.size_alloc]; omega)).trans (heap_at _ _ _ hN.symm))).mono ?_
    rintro e w' ⟨rfl, h1, h2, h3⟩
    refine ⟨rfl, h1, ⟨zs, hz, (h3.block (N + 2) (by rw [World.size_alloc, World.size_alloc]; omega) (by omega)).trans (heap_at _ _ _ (by rw [World.size_alloc]; omega))⟩, by rw [h2, World.size_alloc, World.size_alloc]; omega, ?_⟩
    exact Fx.cut ((((Fx.refl _ w).alloc _).alloc _).trans (h3.mono fun i hi => Or.inr (by omega)))
  go_wp2_with (go_at_call 28; refine HR.out.mono ?_; rintro e w1 ⟨rfl, HE⟩)
  go_ret
  exact ⟨rfl, HE⟩

set_option maxRecDepth 100000 in
/-- The decoder over the reader at the newest block. -/
theorem newDecoder_does (N : Nat) (w : World) (hN : w.heap.size = N + 1) :
    Calls Ybaf.prog 8 #[.iface 43 (.pointer (some ⟨N, 0, none⟩))] w fun e w' => e = .returned (.pointer (some ⟨N + 3, 0, none⟩)) ∧
      Hid (w'.heap[N + 1]? = some (rObj N 0 0 .nilIface (.int .i64 (-1)) (.int .i64 (-1))) ∧ (∃ zs : List Value, zs.length = 4096 ∧ w'.heap[N + 2]? = some (.cells zs.toArray 5 (0, 0))) ∧ w'.heap[N + 3]? = some (dObj N 0) ∧ w'.heap.size = N + 4 ∧ Fx (fun _ => False) w w') := by
  have HR : Hid (Calls Ybaf.prog 22 #[.iface 43 (.pointer (some ⟨N, 0, none⟩)), .int .i64 4096] w fun e w' => e = .returned (.pointer (some ⟨N + 1, 0, none⟩)) ∧ ∃ hsz : w'.heap.size = N + 3,
      Hid (w'.heap[N + 1]? = some (rObj N 0 0 .nilIface (.int .i64 (-1)) (.int .i64 (-1))) ∧ (∃ zs : List Value, zs.length = 4096 ∧ w'.heap[N + 2]? = some (.cells zs.toArray 5 (0, 0))) ∧ Fx (fun _ => False) w w')) := by
    refine (newReader_does N w hN).mono ?_
    rintro e w' ⟨rfl, h1, h2, h3, h4⟩
    exact ⟨rfl, h3, h1, h2, h4⟩
  have HR2 : Hid (Calls Ybaf.prog 16 #[.iface 43 (.pointer (some ⟨N, 0, none⟩))] w fun e w' => e = .returned (.pointer (some ⟨N + 1, 0, none⟩)) ∧ ∃ hsz : w'.heap.size = N + 3,
      Hid (w'.heap[N + 1]? = some (rObj N 0 0 .nilIface (.int .i64 (-1)) (.int .i64 (-1))) ∧ (∃ zs : List Value, zs.length = 4096 ∧ w'.heap[N + 2]? = some (.cells zs.toArray 5 (0, 0))) ∧ Fx (fun _ => False) w w')) := by
    go_enter Ybaf.func16, Ybaf.ntmps16
    go_wp2_with (go_at_call 22; refine HR.out.mono ?_; rintro e w1 ⟨rfl, hsz, HE⟩)
    go_ret
    exact ⟨rfl, hsz, HE⟩
  have hnb := noBufio
  clear hN HR
  go_enter Ybaf.func8, Ybaf.ntmps8
  go_wp2_with (go_at_call 16; refine HR2.out.mono ?_; rintro e w1 ⟨rfl, hsz, HE⟩)
  go_ret
  obtain ⟨h1, ⟨zs, hz, h2⟩, h3⟩ := HE.out
  refine ⟨rfl, (Below.heap_alloc _ _ _ (lt_heap h1)).trans h1, ⟨zs, hz, (Below.heap_alloc _ _ _ (lt_heap h2)).trans h2⟩, heap_at _ _ _ hsz.symm, by rw [World.size_alloc]; omega, h3.alloc _⟩
end Go.Proofs.YbulkcufiFmt
