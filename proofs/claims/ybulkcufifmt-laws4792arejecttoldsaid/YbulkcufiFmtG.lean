/-
  (*bufio.Reader).Read over the law's own reader.
-/
import Derived.Test.YbulkcufiFmtF
namespace Go.Proofs.YbulkcufiFmt
open Go.RowKit
attribute [local go_sem] alloc_drewN setCell_drewN

def Bytes (dat : List Value) : Prop := ∀ v ∈ dat, ∃ x : Int, v = .int .u8 x ∧ 0 ≤ x ∧ x < 256
theorem Bytes.one {dat : List Value} (h : Bytes dat) : ∀ v ∈ dat, v.oneCell' = true := by
  intro v hv; obtain ⟨x, rfl, _⟩ := h v hv; rfl
theorem Bytes.at {dat : List Value} (h : Bytes dat) {j : Nat} (hj : j < dat.length) : ∃ x : Int, dat[j]? = some (.int .u8 x) ∧ 0 ≤ x ∧ x < 256 := by
  obtain ⟨x, hx, hb⟩ := h dat[j] (List.getElem_mem hj)
  exact ⟨x, by rw [List.getElem?_eq_getElem hj, hx], hb⟩

set_option maxRecDepth 100000 in
set_option maxHeartbeats 1000000 in
theorem read_eof1 (N k cap L C : Nat) (pb : Option Addr) (pa : Option Addr) (ea : Addr) (lb lr : Value) (w : World) (hL0 : 0 < L) (hL : L < 4096) (hA : w.heap[N]? = some (aObj pb k cap k)) (hR : w.heap[N + 1]? = some (rObj N k k .nilIface lb lr))
    (hE : w.cell? ⟨3, 0, none⟩ = some (.iface 111 (.pointer (some ea)))) (hN : 7 ≤ N) :
    Calls Ybaf.prog 65 #[.pointer (some ⟨N + 1, 0, none⟩), .slice pa L C] w fun e w' => e = .returned (.tuple #[.int .i64 0, .iface 111 (.pointer (some ea))]) ∧ Fx (fun i => i = N + 1) w w' := by
  obtain ⟨r0, r1, r2, r3, r4, -, r6, rf⟩ := rcell hR
  have HR : Hid _ := rset3 (rset2 hR 0) 0
  have HA : Hid (((w.setCell ⟨N + 1, 2, none⟩ (.int .i64 0)).setCell ⟨N + 1, 3, none⟩ (.int .i64 0)).heap[N]? = _) := (heap_setCell_other _ _ N _ (by simp)).trans ((heap_setCell_other _ _ N _ (by simp)).trans hA)
  have HE : Hid (((w.setCell ⟨N + 1, 2, none⟩ (.int .i64 0)).setCell ⟨N + 1, 3, none⟩ (.int .i64 0)).cell? ⟨3, 0, none⟩ = some (.iface 111 (.pointer (some ea)))) := (((Fx.refl (fun i => i = N + 1) w).setCell (p := ⟨N + 1, 2, none⟩) rfl _).setCell (p := ⟨N + 1, 3, none⟩) rfl _).cell hE (by show ¬ 3 = N + 1; omega)
  clear hR hA hE
  have hl0 : ¬ (L = 0) := by omega
  have hl1 : ¬ ((4096 : Int) ≤ (L : Int)) := by omega
  have hl2 : ¬ (4096 ≤ L) := by omega
  have mR := methodRead43
  go_enter Ybaf.func65, Ybaf.ntmps65
  go_wp2
  go_quiet (fail)
  go_wp2
  go_region_with (go_at_call 61; refine (ardRead_eof N k cap pb _ _ _ (by exact HA.out) (by exact HE.out)).mono ?_; rintro e w1 ⟨rfl, n, rfl⟩)
  all_goals
    go_wp2_with (go_at_call 35; refine (readErr_does (N + 1) (.iface 111 (.pointer (some ea))) _ (by exact (rcell (rset4 HR.out _)).2.2.2.2.1) (by exact (rcell (rset4 HR.out _)).2.2.2.2.2.2.2 4)).mono ?_; rintro e w2 ⟨rfl, rfl⟩)
    go_ret2
    refine ⟨rfl, ?_⟩
    repeat (first | with_reducible exact Fx.refl _ _ | with_reducible refine Fx.drewN ?_ _ | with_reducible refine Fx.drew ?_ | with_reducible refine Fx.setCell ?_ (by simp) _)

set_option maxRecDepth 100000 in
set_option maxHeartbeats 1000000 in
theorem read_some1 (N k pos P o L C m T : Nat) (y : Int) (cur pc cs : List Value) (lb lr : Value) (w : World) (hpk : pos < k) (hk : k < 4096) (hm : pos + m = k) (hmL : m < L) (hR : w.heap[N + 1]? = some (rObj N pos k .nilIface lb lr))
    (hU : w.heap[N + 2]? = some (.cells cur.toArray 5 (0, 0))) (hP : w.heap[P]? = some (.cells pc.toArray T (0, 0))) (hoL : o + L ≤ pc.length) (hPN : N + 2 < P)
    (hcs : cs.length = m) (hc1 : ∀ v ∈ cs, v.oneCell' = true) (hcc : ∀ j v, cs[j]? = some v → cur[pos + j]? = some v) (hy : cur[k - 1]? = some (.int .u8 y)) (hy0 : 0 ≤ y) (hy1 : y < 256) :
    Calls Ybaf.prog 65 #[.pointer (some ⟨N + 1, 0, none⟩), .slice (some ⟨P, o, none⟩) L C] w fun e w' => e = .returned (.tuple #[.int .i64 m, .nilIface]) ∧
      w'.heap[N + 1]? = some (rObj N k k .nilIface (.int .i64 y) (.int .i64 (-1))) ∧ Fx (fun i => i = N + 1 ∨ i = P) w w' := by
  obtain ⟨r0, r1, r2, r3, r4, r5, r6, rf⟩ := rcell hR
  have HR : Hid _ := hR
  have HU : Hid _ := hU
  have HP : Hid _ := hP
  have HC : Hid (cs.length = m ∧ (∀ v ∈ cs, v.oneCell' = true) ∧ (∀ j v, cs[j]? = some v → cur[pos + j]? = some v) ∧ o + L ≤ pc.length ∧ cur[k - 1]? = some (.int .u8 y)) := ⟨hcs, hc1, hcc, hoL, hy⟩
  clear hR hU hP hcs hc1 hcc hoL hy
  have hl0 : ¬ (L = 0) := by omega
  have hne : ¬ ((pos : Int) = (k : Int)) := by omega
  have hne2 : ¬ (pos = k) := by omega
  have hpI : (pos : Int) ≤ (k : Int) := by omega
  have hkI : (k : Int) ≤ 4096 := by omega
  have hp4 : ¬ (4096 = pos) := by omega
  go_enter Ybaf.func65, Ybaf.ntmps65
  go_wp2
  go_quiet (fail)
  go_upto_region 25 with fail
  go_cut [4] (fun s wx => s = .int .i64 m ∧ Hid (Fx (fun i => i = P) w wx))
  case first =>
    go_region_law (refine step_copy_fx rfl (.tmp 109) (.tmp 122) 24 24 rfl 5 Ybaf.underlying24 info5 (some ⟨P, o, none⟩) (some ⟨N + 2, pos, none⟩) L C (k - pos) (4096 - pos) rfl rfl P o pc T (by exact HP.out) cs (by have := HC.out.1; show _ = min (k - pos) L; omega) (fun _ => ⟨rfl, _, rfl, fun j v hj => by rw [Go.WideShapes.add_plain]; exact (cell_heap HU.out _).trans (by rw [List.getElem?_toArray]; exact HC.out.2.2.1 j v hj)⟩) (by have := HC.out; omega) HC.out.2.1 ?_; intro w1 hg1 hf1)
    all_goals
      go_wp2
      go_meet
      exact ⟨by rw [HC.out.1], ((Fx.refl _ w).drewN _).trans hf1.out⟩
  case rest =>
    obtain ⟨rfl, HF⟩ := hcut
    have HR1 : Hid _ := (HF.out.block (N + 1) (lt_heap HR.out) (by omega)).trans HR.out
    have HU1 : Hid _ := (HF.out.block (N + 2) (lt_heap HU.out) (by omega)).trans HU.out
    clear r0 r1 r2 r3 r4 r5 r6 rf
    obtain ⟨r0, r1, r2, r3, r4, r5, r6, rf⟩ := rcell HR1.out
    have hb : wc.cell? ⟨N + 2, k - 1, none⟩ = some (.int .u8 y) := by
      rw [cell_heap HU1.out, List.getElem?_toArray]; exact HC.out.2.2.2.2
    have hpm : (pos : Int) + (m : Int) = (k : Int) := by omega
    have hk1 : ((k : Int) - 1).toNat = k - 1 := by omega
    have hk2 : (0 : Int) ≤ (k : Int) - 1 := by omega
    have hk3 : (k : Int) - 1 < 4096 := by omega
    go_wp2
    go_region
    all_goals
      go_wp2
      go_ret2
      refine ⟨rfl, ?_, ?_⟩
      · exact rset6 (rset5 (rset2 HR1.out _) _) _
      · refine Fx.trans (HF.out.mono fun i h => Or.inr h) ?_
        repeat (first | with_reducible exact Fx.refl _ _ | with_reducible refine Fx.drewN ?_ _ | with_reducible refine Fx.drew ?_ | with_reducible refine Fx.setCell ?_ (by simp) _)
end Go.Proofs.YbulkcufiFmt
