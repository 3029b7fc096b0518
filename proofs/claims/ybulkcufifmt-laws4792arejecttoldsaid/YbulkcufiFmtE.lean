/-
  bufio.Reader over the law's own reader: fill at the end of the bytes.
-/
import Derived.Test.YbulkcufiFmtD
import Derived.Deep.DeepCutAuto
import Derived.Deep.CutRange
import Derived.Lib.LazyBuf
namespace Go.Proofs.YbulkcufiFmt
open Go.RowKit

theorem alloc_drewN (w : World) (o : Obj) (n : Nat) : (w.drewN n).alloc o = (w.alloc o).drewN n := rfl
theorem setCell_drewN (w : World) (a : Addr) (v : Value) (n : Nat) : (w.drewN n).setCell a v = (w.setCell a v).drewN n := rfl
attribute [local go_sem] alloc_drewN setCell_drewN

set_option maxRecDepth 100000 in
set_option maxHeartbeats 1000000 in
theorem fill_eof (N k cap c : Nat) (pb : Option Addr) (ea : Addr) (lb lr : Value) (w : World) (hc1 : c < 4096) (hA : w.heap[N]? = some (aObj pb k cap k)) (hR : w.heap[N + 1]? = some (rObj N c c .nilIface lb lr))
    (hE : w.cell? ⟨3, 0, none⟩ = some (.iface 111 (.pointer (some ea)))) (hN : 7 ≤ N) :
    Calls Ybaf.prog 36 #[.pointer (some ⟨N + 1, 0, none⟩)] w fun e w' => e = .returned (.tuple #[]) ∧
      w'.heap[N + 1]? = some (rObj N 0 0 (.iface 111 (.pointer (some ea))) lb lr) ∧ Fx (fun i => i = N + 1) w w' := by
  obtain ⟨r0, r1, r2, r3, r4, -, -, rf⟩ := rcell hR
  have HR : Hid _ := hR
  have HA : Hid _ := hA
  clear hR hA
  have hcI : (c : Int) ≤ 4096 := by omega
  have hcn : ¬ 4096 = c := by omega
  have mR := methodRead43
  go_enter Ybaf.func36, Ybaf.ntmps36
  go_upto_if 9 with fail
  go_cut [] (fun wx => wx.heap[N + 1]? = some (rObj N 0 0 .nilIface lb lr) ∧ Fx (fun i => i = N + 1) w wx)
  case first =>
    by_cases hc0 : c = 0
    · subst hc0
      go_wp2
      go_meet
      exact ⟨HR.out, Fx.refl _ _⟩
    · have hcp : 0 < c := by omega
      go_upto_region 1 with fail
      go_cut [] (fun wx => ∃ n, wx = w.drewN n)
      case first =>
        go_region_law (refine step_copy_none rfl (.tmp 13) (.tmp 26) 24 24 rfl 5 Ybaf.underlying24 info5 _ _ 4096 4096 0 (4096 - c) rfl rfl (by rfl) ?_)
        all_goals
          go_wp2
          go_meet
          exact ⟨_, rfl⟩
      case rest =>
        obtain ⟨n, rfl⟩ := hcut
        go_upto_region 2 with fail
        go_region
        all_goals
          go_wp2
          go_meet
          exact ⟨rset2 (rset3 HR.out _) _, by repeat (first | with_reducible exact Fx.refl _ _ | with_reducible refine Fx.drewN ?_ _ | with_reducible refine Fx.drew ?_ | with_reducible refine Fx.setCell ?_ (by simp) _)⟩
  case rest =>
    obtain ⟨HR1, HF1⟩ := hcut
    have HA1 : Hid _ := (HF1.block N (lt_heap HA.out) (by omega)).trans HA.out
    have HE1 : wc.cell? ⟨3, 0, none⟩ = some (.iface 111 (.pointer (some ea))) := HF1.cell hE (by show ¬ 3 = N + 1; omega)
    have HR2 : Hid _ := HR1
    have HF2 : Hid _ := HF1
    clear HF1 HR1 r0 r1 r2 r3 r4 rf hE
    obtain ⟨r0, r1, r2, r3, r4, -, -, rf⟩ := rcell HR2.out
    go_wp2
    go_quiet (fail)
    go_wp2
    refine wp_loop_rounds 1 ?_
    rw [rounds_succ]
    go_wp2
    go_region_with (go_at_call 61; refine (ardRead_eof N k cap pb _ _ _ (by exact HA1.out) (by exact HE1)).mono ?_; rintro e w1 ⟨rfl, n, rfl⟩)
    all_goals
      go_wp2
      refine bodyPost_ret (results_none rfl _ _ _) rfl ?_
      refine ⟨rfl, ?_, ?_⟩
      · exact rset4 (rset3 HR2.out _) _
      · refine HF2.out.trans ?_
        repeat (first | with_reducible exact Fx.refl _ _ | with_reducible refine Fx.drewN ?_ _ | with_reducible refine Fx.drew ?_ | with_reducible refine Fx.setCell ?_ (by simp) _)
end Go.Proofs.YbulkcufiFmt
