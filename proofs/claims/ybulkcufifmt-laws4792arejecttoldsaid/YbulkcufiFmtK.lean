/-
  (*Decoder).readHead where another major type stands behind the tags.
-/
import Derived.Test.YbulkcufiFmtJ
namespace Go.Proofs.YbulkcufiFmt
open Go.RowKit
attribute [local go_sem] alloc_drewN setCell_drewN

set_option maxRecDepth 100000 in
set_option maxHeartbeats 1000000 in
theorem readHead_other (N b k cap t : Nat) (mj info : Int) (ea ua : Addr) (dat : List Value) (w : World) (hR : Rs N b k cap dat 0 w) (hG : Gl N ea ua w) (hD : w.heap[N + 3]? = some (dObj N 0))
    (hkc : k ≤ cap) (hk : k < 4096) (hd : dat.length = k) (hB : Bytes dat) (hb : ∀ j v, dat[j]? = some v → w.cell? ⟨b, j, none⟩ = some v) (hbN : b < N) (ht : t ≤ 2) (hkt : k = t + 1)
    (htag : ∀ j, j < t → dat[j]? = some (.int .u8 (192 + j))) (hhead : dat[t]? = some (.int .u8 (mj * 32 + info))) (hmj0 : 0 ≤ mj) (hmj7 : mj ≤ 7) (hmj6 : mj ≠ 6) (hi0 : 0 ≤ info) (hi1 : info < 24) (hsz : N + 4 ≤ w.heap.size) :
    Calls Ybaf.prog 23 #[.pointer (some ⟨N + 3, 0, none⟩)] w fun e w' => e = .returned (.tuple #[.agg #[.int .i64 t, .int .u8 mj, .int .u8 info, .int .u64 info], .nilIface]) ∧
      w'.heap[N + 3]? = some (dObj N (t + 1 : Nat)) ∧ Fx (fun i => N ≤ i ∧ i ≤ N + 3) w w' := by
  have HDs : Hid (Ds N b k cap ea ua dat 0 w (w.alloc (.cells #[.int .i64 0, .int .u8 0, .int .u8 0, .int .u64 0] 90 (0, 0)))) := by
    have hf := (Fx.refl (fun _ => False) w).alloc (.cells #[.int .i64 0, .int .u8 0, .int .u8 0, .int .u64 0] 90 (0, 0))
    exact ⟨hR.keep hf id id id, hG.keep hf (fun _ _ => id), (hf.block _ (lt_heap hD) id).trans hD, ⟨_, _, _, _, heap_alloc_new w _⟩, fun j v h => hf.cell (hb j v h) id, hf.mono (fun _ h => h.elim), hsz, hbN⟩
  have HK : Hid ((k ≤ cap ∧ k < 4096 ∧ dat.length = k ∧ Bytes dat) ∧ t ≤ 2 ∧ k = t + 1 ∧ (∀ j, j < t → dat[j]? = some (.int .u8 (192 + j))) ∧ dat[t]? = some (.int .u8 (mj * 32 + info))) := ⟨⟨hkc, hk, hd, hB⟩, ht, hkt, htag, hhead⟩
  clear hR hG hD hd hB hb hbN htag hhead hsz hkt
  go_enter Ybaf.func23, Ybaf.ntmps23
  go_wp2
  go_loopw [4, 5, 6] (fun _ _ _ wx => ∃ pos : Nat, pos ≤ t ∧ Hid (Ds N b k cap ea ua dat pos w wx)) (fun _ _ _ wx => t - offOf N wx)
  case atStart => exact ⟨0, Nat.zero_le _, HDs⟩
  case round =>
    obtain ⟨pos, hpq, HS⟩ := hrel
    obtain ⟨d0, d1, df⟩ := dcell HS.out.d
    have hNs : N + 3 < wr.heap.size := lt_heap HS.out.d
    have hMs : w.heap.size < wr.heap.size := by obtain ⟨c0, c1, c2, c3, hm⟩ := HS.out.res; exact lt_heap hm
    have hpqI : pos < 4096 := by have := HK.out; omega
    by_cases hlt : pos < t
    · have HRB : Hid (Calls Ybaf.prog 29 #[.pointer (some ⟨N + 1, 0, none⟩)] (wr.alloc (.cells #[.int .i64 pos, .int .u8 0, .int .u8 0, .int .u64 0] 90)) fun e w' => e = .returned (.tuple #[.int .u8 (192 + pos), .nilIface]) ∧ Rs N b k cap dat (pos + 1) w' ∧
          Fx (fun i => N ≤ i ∧ i ≤ N + 2) (wr.alloc (.cells #[.int .i64 pos, .int .u8 0, .int .u8 0, .int .u64 0] 90)) w') := by
        have hf := (Fx.refl (fun _ => False) wr).alloc (.cells #[.int .i64 pos, .int .u8 0, .int .u8 0, .int .u64 0] 90)
        have hk := HK.out
        exact rb_some N b k cap pos _ dat _ (HS.out.rs.keep hf id id id) (by omega) hk.1.1 (by omega) hk.1.2.2.1 hk.1.2.2.2.one (fun j v h => hf.cell (HS.out.by_ j v h) id) HS.out.bN (hk.2.2.2.1 pos hlt) (by omega) (by omega)
      go_upto_region 5 with (go_at_call 29; refine HRB.out.mono ?_; rintro e w1 ⟨rfl, HR1, HF1⟩)
      have HD1 : Hid _ := (HF1.block (N + 3) (by simp; omega) (by omega)).trans ((Below.heap_alloc _ _ _ hNs).trans HS.out.d)
      have HH1 : Hid (w1.heap[wr.heap.size]? = some (hObj (.int .i64 pos) (.int .u8 0) (.int .u8 0) (.int .u64 0))) := (HF1.block wr.heap.size (by simp) (by omega)).trans (heap_alloc_new _ _)
      have HX1 : Hid (_ ∧ _) := ⟨HR1, HF1⟩
      clear HR1 HF1 d0 d1 df
      obtain ⟨d0, d1, df⟩ := dcell HD1.out
      obtain ⟨h0, h1, h2, h3, hf⟩ := hcell HH1.out
      have hHN : ¬ (wr.heap.size = N + 3) := by omega
      have hNH : ¬ (N + 3 = wr.heap.size) := by omega
      have hp2 : pos = 0 ∨ pos = 1 := by have := HK.out; omega
      rcases hp2 with hp2 | hp2
      all_goals
        subst hp2
        go_wp2
        go_roundw
        case rel => exact ⟨_, hlt, HS.out.tag HX1.out.1 HX1.out.2 HD1.out _ rfl _ _ _⟩
        case measure =>
          refine Nat.lt_of_le_of_lt (Nat.le_of_eq (congrArg (fun z => t - z) (offOf_of (HS.out.tag HX1.out.1 HX1.out.2 HD1.out _ rfl _ _ _).d))) ?_
          rw [offOf_of HS.out.d]
          omega
    · obtain rfl : pos = t := by omega
      have HRB : Hid (Calls Ybaf.prog 29 #[.pointer (some ⟨N + 1, 0, none⟩)] (wr.alloc (.cells #[.int .i64 pos, .int .u8 0, .int .u8 0, .int .u64 0] 90)) fun e w' => e = .returned (.tuple #[.int .u8 (mj * 32 + info), .nilIface]) ∧ Rs N b k cap dat (pos + 1) w' ∧
          Fx (fun i => N ≤ i ∧ i ≤ N + 2) (wr.alloc (.cells #[.int .i64 pos, .int .u8 0, .int .u8 0, .int .u64 0] 90)) w') := by
        have hf := (Fx.refl (fun _ => False) wr).alloc (.cells #[.int .i64 pos, .int .u8 0, .int .u8 0, .int .u64 0] 90)
        have hk := HK.out
        exact rb_some N b k cap pos _ dat _ (HS.out.rs.keep hf id id id) (by omega) hk.1.1 (by omega) hk.1.2.2.1 hk.1.2.2.2.one (fun j v h => hf.cell (HS.out.by_ j v h) id) HS.out.bN hk.2.2.2.2 (by omega) (by omega)
      go_upto_region 5 with (go_at_call 29; refine HRB.out.mono ?_; rintro e w1 ⟨rfl, HR1, HF1⟩)
      have HD1 : Hid _ := (HF1.block (N + 3) (by simp; omega) (by omega)).trans ((Below.heap_alloc _ _ _ hNs).trans HS.out.d)
      have HH1 : Hid (w1.heap[wr.heap.size]? = some (hObj (.int .i64 pos) (.int .u8 0) (.int .u8 0) (.int .u64 0))) := (HF1.block wr.heap.size (by simp) (by omega)).trans (heap_alloc_new _ _)
      have HX1 : Hid (_ ∧ _) := ⟨HR1, HF1⟩
      clear HR1 HF1 d0 d1 df HRB
      obtain ⟨d0, d1, df⟩ := dcell HD1.out
      obtain ⟨h0, h1, h2, h3, hf⟩ := hcell HH1.out
      have hHN : ¬ (wr.heap.size = N + 3) := by omega
      have hNH : ¬ (N + 3 = wr.heap.size) := by omega
      have hs1 : wr.heap.size < w1.heap.size := lt_heap HH1.out
      have hd32 : (mj * 32 + info) / 32 = mj := by omega
      have hm32 : (mj * 32 + info) % 32 = info := by omega
      have hm33 : info % 32 = info := by omega
      have HT : Hid (Ds N b k cap ea ua dat (pos + 1) w ((((w1.setCell ⟨N + 3, 1, none⟩ (.int .i64 ((pos : Int) + 1))).setCell ⟨wr.heap.size, 1, none⟩ (.int .u8 mj)).setCell ⟨wr.heap.size, 2, none⟩ (.int .u8 info)).setCell ⟨wr.heap.size, 3, none⟩ (.int .u64 info))) :=
        HS.out.tag HX1.out.1 HX1.out.2 HD1.out _ rfl _ _ _
      obtain ⟨c0, c1, c2, c3, hm⟩ := HS.out.res
      have hsz := HS.out.sz
      have HM1 : Hid (w1.heap[w.heap.size]? = some (hObj c0 c1 c2 c3)) := (HX1.out.2.block w.heap.size (by simp; omega) (by omega)).trans ((Below.heap_alloc _ _ _ hMs).trans hm)
      clear hm
      obtain ⟨m0, m1, m2, m3, mf⟩ := hcell HM1.out
      have hHM : ¬ (wr.heap.size = w.heap.size) := by omega
      have hMH : ¬ (w.heap.size = wr.heap.size) := by omega
      have hNM : ¬ (N + 3 = w.heap.size) := by omega
      have hMN : ¬ (w.heap.size = N + 3) := by omega
      go_upto_region 21 with fail
      go_cut [3] (fun s wx => s = .nilIface ∧ Hid (wx.heap[N + 3]? = some (dObj N (pos + 1 : Nat)) ∧ Fx (fun i => N ≤ i ∧ i ≤ N + 3) w wx ∧ wx.heap[w.heap.size]? = some (hObj (.int .i64 pos) (.int .u8 mj) (.int .u8 info) (.int .u64 info))))
      case first =>
        go_wp2
        go_meet
        have hf3 := fun (W : World) => (show Fx (fun i => i = w.heap.size) W ((((W.setCell ⟨w.heap.size, 0, none⟩ (.int .i64 pos)).setCell ⟨w.heap.size, 1, none⟩ (.int .u8 mj)).setCell ⟨w.heap.size, 2, none⟩ (.int .u8 info)).setCell ⟨w.heap.size, 3, none⟩ (.int .u64 info)) by
          repeat (first | with_reducible exact Fx.refl _ _ | with_reducible refine Fx.setCell ?_ (by simp) _))
        obtain ⟨g0, g1, g2, g3, hg⟩ := HT.out.res
        refine ⟨rfl, ((hf3 _).block _ (lt_heap HT.out.d) (by omega)).trans HT.out.d, ?_, hset hg _ _ _ _⟩
        exact Fx.cut (Fx.trans (HT.out.fx.mono fun i h => Or.inl h) ((hf3 _).mono fun i h => Or.inr (by omega)))
      case rest =>
        obtain ⟨rfl, HZ⟩ := hcut
        obtain ⟨e0, e1, e2, e3, ef⟩ := hcell HZ.out.2.2
        go_wp2
        refine bodyPost_ret (by simp [results, Ybaf.results23, go_sem, e0, e1, e2, e3]; try rfl) rfl ?_
        exact ⟨rfl, HZ.out.1, HZ.out.2.1⟩
end Go.Proofs.YbulkcufiFmt
