/-
  bufio.Reader over the law's own reader: readErr, fill, ReadByte.
-/
import Derived.Test.YbulkcufiFmtC
namespace Go.Proofs.YbulkcufiFmt
open Go.RowKit

/-- The bufio.Reader's block. -/
def rObj (N : Nat) (R W : Int) (err lb lr : Value) : Obj :=
  .cells #[.slice (some ⟨N + 2, 0, none⟩) 4096 4096, .iface 43 (.pointer (some ⟨N, 0, none⟩)), .int .i64 R, .int .i64 W, err, lb, lr] 99 (0, 0)
def aObj (pb : Option Addr) (k cap : Nat) (i : Int) : Obj := .cells #[.slice pb k cap, .int .i64 i] 45 (0, 0)

theorem methodRead43 (v : Value) (w : World) : (Go.method 257 43 v "Read").run Ybaf.prog w = .ok (61, v) w := by kernel_rfl
theorem methodRead66 (v : Value) (w : World) : (Go.method 257 66 v "Read").run Ybaf.prog w = .ok (65, v) w := by kernel_rfl

theorem rcell {w : World} {N : Nat} {R W : Int} {err lb lr : Value} (h : w.heap[N + 1]? = some (rObj N R W err lb lr)) :
    w.cell? ⟨N + 1, 0, none⟩ = some (.slice (some ⟨N + 2, 0, none⟩) 4096 4096) ∧ w.cell? ⟨N + 1, 1, none⟩ = some (.iface 43 (.pointer (some ⟨N, 0, none⟩))) ∧
    w.cell? ⟨N + 1, 2, none⟩ = some (.int .i64 R) ∧ w.cell? ⟨N + 1, 3, none⟩ = some (.int .i64 W) ∧ w.cell? ⟨N + 1, 4, none⟩ = some err ∧ w.cell? ⟨N + 1, 5, none⟩ = some lb ∧ w.cell? ⟨N + 1, 6, none⟩ = some lr ∧
    (∀ i, w.frozen? ⟨N + 1, i, none⟩ = false) :=
  ⟨by rw [cell_heap h]; rfl, by rw [cell_heap h]; rfl, by rw [cell_heap h]; rfl, by rw [cell_heap h]; rfl, by rw [cell_heap h]; rfl, by rw [cell_heap h]; rfl, by rw [cell_heap h]; rfl, fun i => frozen_heap h i⟩

theorem rset2 {w : World} {N : Nat} {R W : Int} {err lb lr : Value} (h : w.heap[N + 1]? = some (rObj N R W err lb lr)) (x : Int) : (w.setCell ⟨N + 1, 2, none⟩ (.int .i64 x)).heap[N + 1]? = some (rObj N x W err lb lr) :=
  heap_setCell_same w (N + 1) 2 _ _ (.int .i64 x) h
theorem rset3 {w : World} {N : Nat} {R W : Int} {err lb lr : Value} (h : w.heap[N + 1]? = some (rObj N R W err lb lr)) (x : Int) : (w.setCell ⟨N + 1, 3, none⟩ (.int .i64 x)).heap[N + 1]? = some (rObj N R x err lb lr) :=
  heap_setCell_same w (N + 1) 3 _ _ (.int .i64 x) h
theorem rset4 {w : World} {N : Nat} {R W : Int} {err lb lr : Value} (h : w.heap[N + 1]? = some (rObj N R W err lb lr)) (x : Value) : (w.setCell ⟨N + 1, 4, none⟩ x).heap[N + 1]? = some (rObj N R W x lb lr) :=
  heap_setCell_same w (N + 1) 4 _ _ x h
theorem rset5 {w : World} {N : Nat} {R W : Int} {err lb lr : Value} (h : w.heap[N + 1]? = some (rObj N R W err lb lr)) (x : Value) : (w.setCell ⟨N + 1, 5, none⟩ x).heap[N + 1]? = some (rObj N R W err x lr) :=
  heap_setCell_same w (N + 1) 5 _ _ x h
theorem rset6 {w : World} {N : Nat} {R W : Int} {err lb lr : Value} (h : w.heap[N + 1]? = some (rObj N R W err lb lr)) (x : Value) : (w.setCell ⟨N + 1, 6, none⟩ x).heap[N + 1]? = some (rObj N R W err lb x) :=
  heap_setCell_same w (N + 1) 6 _ _ x h

theorem readErr_does (g : Nat) (E : Value) (w : World) (h : w.cell? ⟨g, 4, none⟩ = some E) (hf : w.frozen? ⟨g, 4, none⟩ = false) :
    Calls Ybaf.prog 35 #[.pointer (some ⟨g, 0, none⟩)] w fun e w' => e = .returned E ∧ w' = w.setCell ⟨g, 4, none⟩ .nilIface := by
  go_enter Ybaf.func35, Ybaf.ntmps35
  go_wp2
  go_ret
  exact ⟨rfl, rfl⟩

set_option maxRecDepth 100000 in
set_option maxHeartbeats 1000000 in
theorem fill_more (N b k cap : Nat) (dat cur : List Value) (lb lr : Value) (w : World) (hA : w.heap[N]? = some (aObj (some ⟨b, 0, none⟩) k cap 0)) (hR : w.heap[N + 1]? = some (rObj N 0 0 .nilIface lb lr))
    (hU : w.heap[N + 2]? = some (.cells cur.toArray 5 (0, 0))) (hL : cur.length = 4096) (hk0 : 0 < k) (hkc : k ≤ cap) (hk : k ≤ 4096) (hd : dat.length = k) (h1 : ∀ v ∈ dat, v.oneCell' = true)
    (hB : ∀ j v, dat[j]? = some v → w.cell? ⟨b, j, none⟩ = some v) :
    Calls Ybaf.prog 36 #[.pointer (some ⟨N + 1, 0, none⟩)] w fun e w' => e = .returned (.tuple #[]) ∧
      w'.heap[N]? = some (aObj (some ⟨b, 0, none⟩) k cap k) ∧ w'.heap[N + 1]? = some (rObj N 0 k .nilIface lb lr) ∧ w'.heap[N + 2]? = some (.cells (splice cur 0 dat).toArray 5 (0, 0)) ∧ Fx (fun i => N ≤ i ∧ i ≤ N + 2) w w' := by
  obtain ⟨r0, r1, r2, r3, r4, -, -, rf⟩ := rcell hR
  have HR : Hid _ := hR
  have HA : Hid _ := hA
  have HU : Hid _ := hU
  have HB : Hid _ := hB
  have H1 : Hid _ := h1
  have HK : Hid (0 < k ∧ k ≤ cap ∧ k ≤ 4096 ∧ dat.length = k ∧ cur.length = 4096) := ⟨hk0, hkc, hk, hd, hL⟩
  clear hR hA hU hB h1 hd hL
  have mR := methodRead43
  go_enter Ybaf.func36, Ybaf.ntmps36
  go_wp2
  go_quiet (fail)
  go_wp2
  refine wp_loop_rounds 1 ?_
  rw [rounds_succ]
  go_wp2
  go_region_with (go_at_call 61; refine (ardRead_more N (N + 2) b k cap 4096 dat cur _ (by exact HA.out) (by exact HU.out) HK.out.2.2.2.2 HK.out.1 HK.out.2.1 HK.out.2.2.1 (by omega) HK.out.2.2.2.1 H1.out (by exact HB.out) (by omega)).mono ?_; rintro e w1 ⟨rfl, HA1, HU1, HF1⟩)
  all_goals
    have HR1 : Hid _ := (HF1.block (N + 1) (lt_heap HR.out) (by omega)).trans HR.out
    have HX : Hid (_ ∧ _ ∧ _) := ⟨HA1, HU1, HF1⟩
    clear HA1 HU1 HF1
    obtain ⟨s0, s1, s2, s3, s4, -, -, sf⟩ := rcell HR1.out
    go_wp2
    refine bodyPost_ret (results_none rfl _ _ _) rfl ?_
    refine ⟨rfl, ?_, rset3 HR1.out _, ?_, ?_⟩
    · exact (heap_setCell_other w1 _ N _ (by simp)).trans HX.out.1
    · exact (heap_setCell_other w1 _ (N + 2) _ (by simp)).trans HX.out.2.1
    · refine Fx.setCell ?_ (by simp) _
      exact ((Fx.refl _ w).drewN _).trans (HX.out.2.2.mono fun k h => by omega)
end Go.Proofs.YbulkcufiFmt
