/-
  (*Decoder).readHead: at most two tags are read past; then the bytes end too soon, or another major type stands there.
-/
import Derived.Test.YbulkcufiFmtI
import Derived.Handy
namespace Go.Proofs.YbulkcufiFmt
open Go.RowKit
attribute [local go_sem] alloc_drewN setCell_drewN

/-- Where the decoder stands behind pos bytes; M: the block of readHead's result. -/
structure Ds (N b k cap : Nat) (ea ua : Addr) (dat : List Value) (pos : Nat) (w wx : World) : Prop where
  rs : Rs N b k cap dat pos wx
  gl : Gl N ea ua wx
  d : wx.heap[N + 3]? = some (dObj N pos)
  res : ∃ c0 c1 c2 c3, wx.heap[w.heap.size]? = some (.cells #[c0, c1, c2, c3] 90 (0, 0))
  by_ : ∀ j v, dat[j]? = some v → wx.cell? ⟨b, j, none⟩ = some v
  fx : Fx (fun i => N ≤ i ∧ i ≤ N + 3) w wx
  sz : N + 4 ≤ w.heap.size
  bN : b < N

theorem Fx.cut {S : Nat → Prop} {w w' : World} (h : Fx (fun i => S i ∨ w.heap.size ≤ i) w w') : Fx S w w' :=
  ⟨h.os, h.tape, h.output, h.size, fun k hk hs => h.block k hk (fun e => e.elim hs (fun h => by omega))⟩

def hObj (a b c d : Value) : Obj := .cells #[a, b, c, d] 90 (0, 0)
theorem hcell {w : World} {H : Nat} {a b c d : Value} (h : w.heap[H]? = some (hObj a b c d)) :
    w.cell? ⟨H, 0, none⟩ = some a ∧ w.cell? ⟨H, 1, none⟩ = some b ∧ w.cell? ⟨H, 2, none⟩ = some c ∧ w.cell? ⟨H, 3, none⟩ = some d ∧ ∀ i, w.frozen? ⟨H, i, none⟩ = false :=
  ⟨by rw [cell_heap h]; rfl, by rw [cell_heap h]; rfl, by rw [cell_heap h]; rfl, by rw [cell_heap h]; rfl, fun i => frozen_heap h i⟩

/-- The decoder behind one more byte. -/
theorem Ds.step {N b k cap : Nat} {ea ua : Addr} {dat : List Value} {pos : Nat} {w wx w1 wf : World} {o : Obj} (h : Ds N b k cap ea ua dat pos w wx) (hr : Rs N b k cap dat (pos + 1) w1) (h1 : Fx (fun i => N ≤ i ∧ i ≤ N + 2) (wx.alloc o) w1)
    (h2 : Fx (fun i => i = N + 3 ∨ wx.heap.size ≤ i) w1 wf) (hd : wf.heap[N + 3]? = some (dObj N (pos + 1 : Nat))) : Ds N b k cap ea ua dat (pos + 1) w wf := by
  have hsz := h.sz
  have hle := h.fx.size
  have hf : Fx (fun i => (N ≤ i ∧ i ≤ N + 3) ∨ wx.heap.size ≤ i) wx wf := (((Fx.refl _ wx).alloc o).trans (h1.mono fun i hi => by omega)).trans (h2.mono fun i hi => by omega)
  have hg := hf.cut
  refine ⟨?_, h.gl.keep hg (fun i hi => by omega), hd, ?_, fun j v hj => hg.cell (h.by_ j v hj) (by have := h.bN; show ¬ (N ≤ b ∧ b ≤ N + 3); omega), h.fx.trans hg, hsz, h.bN⟩
  · exact hr.keep h2 (by omega) (by omega) (by omega)
  · obtain ⟨c0, c1, c2, c3, hm⟩ := h.res
    exact ⟨c0, c1, c2, c3, (hg.block _ (lt_heap hm) (by omega)).trans hm⟩

def offOf (N : Nat) (w : World) : Nat := (intOf ((w.cell? ⟨N + 3, 1, none⟩).getD (.int .i64 0))).toNat

theorem hset {w1 : World} {M : Nat} {c0 c1 c2 c3 : Value} (hM : w1.heap[M]? = some (hObj c0 c1 c2 c3)) (a b c d : Value) :
    ((((w1.setCell ⟨M, 0, none⟩ a).setCell ⟨M, 1, none⟩ b).setCell ⟨M, 2, none⟩ c).setCell ⟨M, 3, none⟩ d).heap[M]? = some (hObj a b c d) :=
  heap_setCell_same _ M 3 _ _ d (heap_setCell_same _ M 2 _ _ c (heap_setCell_same _ M 1 _ _ b (heap_setCell_same _ M 0 _ _ a hM)))
theorem endE {w1 : World} {M : Nat} {c0 c1 c2 c3 : Value} (hM : w1.heap[M]? = some (hObj c0 c1 c2 c3)) (a b c d : Value) (o : Obj) (n : Nat) :
    ((((((w1.setCell ⟨M, 0, none⟩ a).setCell ⟨M, 1, none⟩ b).setCell ⟨M, 2, none⟩ c).setCell ⟨M, 3, none⟩ d).alloc o).drewN n).heap[w1.heap.size]? = some o ∧
    ((((((w1.setCell ⟨M, 0, none⟩ a).setCell ⟨M, 1, none⟩ b).setCell ⟨M, 2, none⟩ c).setCell ⟨M, 3, none⟩ d).alloc o).drewN n).heap[M]? = some (hObj a b c d) ∧
    Fx (fun i => i = M) w1 ((((((w1.setCell ⟨M, 0, none⟩ a).setCell ⟨M, 1, none⟩ b).setCell ⟨M, 2, none⟩ c).setCell ⟨M, 3, none⟩ d).alloc o).drewN n) := by
  refine ⟨?_, ?_, ?_⟩
  · have := heap_alloc_new ((((w1.setCell ⟨M, 0, none⟩ a).setCell ⟨M, 1, none⟩ b).setCell ⟨M, 2, none⟩ c).setCell ⟨M, 3, none⟩ d) o
    simp only [World.size_setCell] at this
    exact this
  · exact (Below.heap_alloc _ _ _ (lt_heap (hset hM a b c d))).trans (hset hM a b c d)
  · repeat (first | with_reducible exact Fx.refl _ _ | with_reducible refine Fx.drewN ?_ _ | with_reducible refine Fx.alloc ?_ _ | with_reducible refine Fx.setCell ?_ (by simp) _)

theorem offOf_of {N x : Nat} {w : World} (h : w.heap[N + 3]? = some (dObj N x)) : offOf N w = x := by
  simp [offOf, (dcell h).2.1, intOf]

theorem Ds.tag {N b k cap : Nat} {ea ua : Addr} {dat : List Value} {pos : Nat} {w wx w1 : World} {o : Obj} (h : Ds N b k cap ea ua dat pos w wx) (hr : Rs N b k cap dat (pos + 1) w1) (h1 : Fx (fun i => N ≤ i ∧ i ≤ N + 2) (wx.alloc o) w1)
    (hd1 : w1.heap[N + 3]? = some (dObj N pos)) (x : Int) (hx : x = (pos + 1 : Nat)) (a c d : Value) :
    Ds N b k cap ea ua dat (pos + 1) w ((((w1.setCell ⟨N + 3, 1, none⟩ (.int .i64 x)).setCell ⟨wx.heap.size, 1, none⟩ a).setCell ⟨wx.heap.size, 2, none⟩ c).setCell ⟨wx.heap.size, 3, none⟩ d) := by
  have hlt := lt_heap h.d
  refine h.step hr h1 ?_ ?_
  · exact Fx.setCell (Fx.setCell (Fx.setCell (Fx.setCell (Fx.refl _ _) (Or.inl rfl) _) (Or.inr (Nat.le_refl _)) _) (Or.inr (Nat.le_refl _)) _) (Or.inr (Nat.le_refl _)) _
  · subst hx
    exact (heap_setCell_other _ _ _ _ (by show ¬ N + 3 = wx.heap.size; omega)).trans ((heap_setCell_other _ _ _ _ (by show ¬ N + 3 = wx.heap.size; omega)).trans ((heap_setCell_other _ _ _ _ (by show ¬ N + 3 = wx.heap.size; omega)).trans (dset hd1 _)))

/-- Before the argument's bytes are read. -/
theorem Ds.buf {N b k cap : Nat} {ea ua : Addr} {dat : List Value} {pos : Nat} {w wx w1 : World} {v0 v1 v2 v3 : Value} (h : Ds N b k cap ea ua dat pos w wx) (hr : Rs N b k cap dat (pos + 1) w1) (h1 : Fx (fun i => N ≤ i ∧ i ≤ N + 2) (wx.alloc (hObj v0 v1 v2 v3)) w1)
    (hd1 : w1.heap[N + 3]? = some (dObj N pos)) (x : Int) (hx : x = (pos + 1 : Nat)) (a c : Value) (ob : Obj) :
    let W := (((w1.setCell ⟨N + 3, 1, none⟩ (.int .i64 x)).setCell ⟨wx.heap.size, 1, none⟩ a).setCell ⟨wx.heap.size, 2, none⟩ c).alloc ob
    Rs N b k cap dat (pos + 1) W ∧ Gl N ea ua W ∧ W.heap[N + 3]? = some (dObj N (pos + 1 : Nat)) ∧ W.heap[w1.heap.size]? = some ob ∧ Fx (fun i => N ≤ i ∧ i ≤ N + 3) w W ∧ (∃ c0 c1 c2 c3, W.heap[w.heap.size]? = some (hObj c0 c1 c2 c3)) ∧
      W.heap[wx.heap.size]? = some (hObj v0 a c v3) ∧ W.heap.size = w1.heap.size + 1 := by
  intro W
  have hlt := lt_heap h.d
  have hsz := h.sz
  have hH1 : w1.heap[wx.heap.size]? = some (hObj v0 v1 v2 v3) := (h1.block wx.heap.size (by simp) (by omega)).trans (heap_alloc_new _ _)
  have h2 : Fx (fun i => i = N + 3 ∨ wx.heap.size ≤ i) w1 W :=
    Fx.alloc (Fx.setCell (Fx.setCell (Fx.setCell (Fx.refl _ _) (Or.inl rfl) _) (Or.inr (Nat.le_refl _)) _) (Or.inr (Nat.le_refl _)) _) _
  have hs := h.step hr h1 h2 (by
    subst hx
    exact (Below.heap_alloc _ _ _ (by simp only [World.size_setCell]; exact lt_heap hd1)).trans ((heap_setCell_other _ _ _ _ (by show ¬ N + 3 = wx.heap.size; omega)).trans ((heap_setCell_other _ _ _ _ (by show ¬ N + 3 = wx.heap.size; omega)).trans (dset hd1 _))))
  refine ⟨hs.rs, hs.gl, hs.d, ?_, hs.fx, hs.res, ?_, by simp [W]⟩
  · have := heap_alloc_new (((w1.setCell ⟨N + 3, 1, none⟩ (.int .i64 x)).setCell ⟨wx.heap.size, 1, none⟩ a).setCell ⟨wx.heap.size, 2, none⟩ c) ob
    simp only [World.size_setCell] at this
    exact this
  · have hh : (w1.setCell ⟨N + 3, 1, none⟩ (.int .i64 x)).heap[wx.heap.size]? = some (hObj v0 v1 v2 v3) := (heap_setCell_other _ _ _ _ (by show ¬ wx.heap.size = N + 3; omega)).trans hH1
    exact (Below.heap_alloc _ _ _ (by simp only [World.size_setCell]; exact lt_heap hH1)).trans (heap_setCell_same _ wx.heap.size 2 _ _ c (heap_setCell_same _ wx.heap.size 1 _ _ a hh))

set_option maxRecDepth 100000 in
set_option maxHeartbeats 1000000 in
theorem readHead_cut (N b k cap t q : Nat) (ea ua : Addr) (dat : List Value) (w : World) (hR : Rs N b k cap dat 0 w) (hG : Gl N ea ua w) (hD : w.heap[N + 3]? = some (dObj N 0))
    (hkc : k ≤ cap) (hk : k < 4096) (hd : dat.length = k) (hB : Bytes dat) (hb : ∀ j v, dat[j]? = some v → w.cell? ⟨b, j, none⟩ = some v) (hbN : b < N) (ht : t ≤ 2) (hq : q = min t k)
    (htag : ∀ j, j < q → dat[j]? = some (.int .u8 (192 + j))) (hhead : t < k → ∃ i : Nat, i < 4 ∧ dat[t]? = some (.int .u8 (24 + i)) ∧ k < t + 1 + 2 ^ i) (hsz : N + 4 ≤ w.heap.size) :
    Calls Ybaf.prog 23 #[.pointer (some ⟨N + 3, 0, none⟩)] w fun e w' => ∃ E msg, ∃ x0 x1 x2 x3 : Int, e = .returned (.tuple #[.agg #[.int .i64 x0, .int .u8 x1, .int .u8 x2, .int .u64 x3], .iface 23 (.pointer (some ⟨E, 0, none⟩))]) ∧ w.heap.size ≤ E ∧
      w'.heap[E]? = some (eObj k msg (.iface 111 (.pointer (some ua)))) ∧ w'.heap[N + 3]? = some (dObj N k) ∧ Fx (fun i => N ≤ i ∧ i ≤ N + 3) w w' := by
  have HDs : Hid (Ds N b k cap ea ua dat 0 w (w.alloc (.cells #[.int .i64 0, .int .u8 0, .int .u8 0, .int .u64 0] 90 (0, 0)))) := by
    have hf := (Fx.refl (fun _ => False) w).alloc (.cells #[.int .i64 0, .int .u8 0, .int .u8 0, .int .u64 0] 90 (0, 0))
    exact ⟨hR.keep hf id id id, hG.keep hf (fun _ _ => id), (hf.block _ (lt_heap hD) id).trans hD, ⟨_, _, _, _, heap_alloc_new w _⟩, fun j v h => hf.cell (hb j v h) id, hf.mono (fun _ h => h.elim), hsz, hbN⟩
  have HK : Hid ((k ≤ cap ∧ k < 4096 ∧ dat.length = k ∧ Bytes dat) ∧ t ≤ 2 ∧ q = min t k ∧ (∀ j, j < q → dat[j]? = some (.int .u8 (192 + j))) ∧ (t < k → ∃ i : Nat, i < 4 ∧ dat[t]? = some (.int .u8 (24 + i)) ∧ k < t + 1 + 2 ^ i)) := ⟨⟨hkc, hk, hd, hB⟩, ht, hq, htag, hhead⟩
  clear hR hG hD hd hB hb hbN htag hhead hsz hq
  go_enter Ybaf.func23, Ybaf.ntmps23
  go_wp2
  go_loopw [4, 5, 6] (fun _ _ _ wx => ∃ pos : Nat, pos ≤ q ∧ Hid (Ds N b k cap ea ua dat pos w wx)) (fun _ _ _ wx => q - offOf N wx)
  case atStart => exact ⟨0, Nat.zero_le _, HDs⟩
  case round =>
    obtain ⟨pos, hpq, HS⟩ := hrel
    obtain ⟨d0, d1, df⟩ := dcell HS.out.d
    have hNs : N + 3 < wr.heap.size := lt_heap HS.out.d
    have hMs : w.heap.size < wr.heap.size := by obtain ⟨c0, c1, c2, c3, hm⟩ := HS.out.res; exact lt_heap hm
    have hpqI : pos < 4096 := by have := HK.out; omega
    by_cases hlt : pos < q
    · have HRB : Hid (Calls Ybaf.prog 29 #[.pointer (some ⟨N + 1, 0, none⟩)] (wr.alloc (.cells #[.int .i64 pos, .int .u8 0, .int .u8 0, .int .u64 0] 90)) fun e w' => e = .returned (.tuple #[.int .u8 (192 + pos), .nilIface]) ∧ Rs N b k cap dat (pos + 1) w' ∧
          Fx (fun i => N ≤ i ∧ i ≤ N + 2) (wr.alloc (.cells #[.int .i64 pos, .int .u8 0, .int .u8 0, .int .u64 0] 90)) w') := by
        have hf := (Fx.refl (fun _ => False) wr).alloc (.cells #[.int .i64 pos, .int .u8 0, .int .u8 0, .int .u64 0] 90)
        have hk := HK.out
        exact rb_some N b k cap pos _ dat _ (HS.out.rs.keep hf id id id) (by omega) hk.1.1 (by omega) hk.1.2.2.1 hk.1.2.2.2.one (fun j v h => hf.cell (HS.out.by_ j v h) id) HS.out.bN (hk.2.2.2.1 pos hlt) (by omega) (by omega)
      go_upto_region 5 with (go_at_call 29; refine HRB.out.mono ?_; rintro e w1 ⟨rfl, HR1, HF1⟩)
      have HD1 : Hid _ := (HF1.block (N + 3) (by simp; omega) (by omega)).trans ((Below.heap_alloc _ _ _ hNs).trans HS.out.d)
      have HH1 : Hid (w1.heap[wr.heap.size]? = some (hObj (.int .i64 pos) (.int .u8 0) (.int .u8 0) (.int .u64 0))) := (HF1.block wr.heap.size (by simp) (by omega)).trans (heap_alloc_new _ _)
      have HX1 : Hid (_ ∧ _) := ⟨HR1, HF1⟩
      clear HR1 HF1 d0 d1 df
      obtain ⟨d0, d1, df⟩ := dcell HD1.out
      obtain ⟨h0, h1, h2, h3, hf⟩ := hcell HH1.out
      have hHN : ¬ (wr.heap.size = N + 3) := by omega
      have hNH : ¬ (N + 3 = wr.heap.size) := by omega
      have hp2 : pos = 0 ∨ pos = 1 := by have := HK.out; omega
      rcases hp2 with hp2 | hp2
      all_goals
        subst hp2
        go_wp2
        go_roundw
        case rel => exact ⟨_, hlt, HS.out.tag HX1.out.1 HX1.out.2 HD1.out _ rfl _ _ _⟩
        case measure =>
          refine Nat.lt_of_le_of_lt (Nat.le_of_eq (congrArg (fun z => q - z) (offOf_of (HS.out.tag HX1.out.1 HX1.out.2 HD1.out _ rfl _ _ _).d))) ?_
          rw [offOf_of HS.out.d]
          omega
    · obtain rfl : pos = q := by omega
      by_cases hkt : k ≤ t
      · have HRB : Hid (Calls Ybaf.prog 29 #[.pointer (some ⟨N + 1, 0, none⟩)] (wr.alloc (.cells #[.int .i64 pos, .int .u8 0, .int .u8 0, .int .u64 0] 90)) fun e w' => e = .returned (.tuple #[.int .u8 0, .iface 111 (.pointer (some ea))]) ∧ 
            Fx (fun i => N ≤ i ∧ i ≤ N + 2) (wr.alloc (.cells #[.int .i64 pos, .int .u8 0, .int .u8 0, .int .u64 0] 90)) w') := by
          have hf := (Fx.refl (fun _ => False) wr).alloc (.cells #[.int .i64 pos, .int .u8 0, .int .u8 0, .int .u64 0] 90)
          have hk := HK.out
          obtain rfl : pos = k := by omega
          exact rb_eof N b pos cap ea dat _ (HS.out.rs.keep hf id id id) hk.1.2.1 (HS.out.gl.keep hf (fun _ _ => id)).1 HS.out.gl.2.2.2.2.2.2.2
        go_upto_region 4 with (go_at_call 29; refine HRB.out.mono ?_; rintro e w1 ⟨rfl, HF1⟩)
        have HD1 : Hid _ := (HF1.block (N + 3) (by simp; omega) (by omega)).trans ((Below.heap_alloc _ _ _ hNs).trans HS.out.d)
        have HH1 : Hid (w1.heap[wr.heap.size]? = some (hObj (.int .i64 pos) (.int .u8 0) (.int .u8 0) (.int .u64 0))) := (HF1.block wr.heap.size (by simp) (by omega)).trans (heap_alloc_new _ _)
        obtain ⟨c0, c1, c2, c3, hm⟩ := HS.out.res
        have hsz := HS.out.sz
        have HM1 : Hid (w1.heap[w.heap.size]? = some (hObj c0 c1 c2 c3)) := (HF1.block w.heap.size (by simp; omega) (by omega)).trans ((Below.heap_alloc _ _ _ hMs).trans hm)
        have HG1 : Hid (Gl N ea ua w1) := (Gl.keep HS.out.gl ((Fx.refl (fun _ => False) wr).alloc _) (fun _ _ => id)).keep HF1 (fun i hi => by omega)
        have HF2 : Hid _ := HF1
        clear HF1 d0 d1 df hm
        obtain ⟨d0, d1, df⟩ := dcell HD1.out
        obtain ⟨h0, h1, h2, h3, hf⟩ := hcell HH1.out
        obtain ⟨m0, m1, m2, m3, mf⟩ := hcell HM1.out
        have hHN : ¬ (wr.heap.size = N + 3) := by omega
        have hNH : ¬ (N + 3 = wr.heap.size) := by omega
        have hs1 : wr.heap.size < w1.heap.size := lt_heap HH1.out
        have hs2 : w.heap.size < w1.heap.size := by omega
        go_cut [3] (fun s wx => ∃ E msg, s = .iface 23 (.pointer (some ⟨E, 0, none⟩)) ∧ Hid (w.heap.size ≤ E ∧ wx.heap[E]? = some (eObj k msg (.iface 111 (.pointer (some ua)))) ∧ wx.heap[N + 3]? = some (dObj N k) ∧ Fx (fun i => N ≤ i ∧ i ≤ N + 3) w wx ∧
          wx.heap[w.heap.size]? = some (hObj (.int .i64 pos) (.int .u8 0) (.int .u8 0) (.int .u64 0))))
        case first =>
          go_region_with (go_at_call 30; refine (readError_does N ea ua ea pos _ (by exact HG1.out) (Or.inl rfl) (by exact HD1.out)).mono ?_; rintro e w2 ⟨rfl, n, msg, rfl⟩)
          all_goals
            go_wp2
            go_meet
            obtain ⟨a1, a2, a3⟩ := endE HM1.out (.int .i64 pos) (.int .u8 0) (.int .u8 0) (.int .u64 0) (eObj pos msg (.iface 111 (.pointer (some ua)))) (1 + n)
            obtain rfl : pos = k := by have := HK.out; omega
            refine ⟨w1.heap.size, msg, rfl, ?_, a1, ?_, ?_, a2⟩
            · omega
            · exact (a3.block _ (lt_heap HD1.out) (by omega)).trans HD1.out
            · refine Fx.cut (Fx.trans (b := w1) ?_ (a3.mono fun i h => Or.inr (by omega)))
              refine Fx.trans (b := wr) (HS.out.fx.mono fun i h => Or.inl h) ?_
              exact ((Fx.refl _ wr).alloc _).trans (HF2.out.mono fun i h => Or.inl (by omega))
        case rest =>
          obtain ⟨E, msg, rfl, HE⟩ := hcut
          obtain ⟨e0, e1, e2, e3, ef⟩ := hcell HE.out.2.2.2.2
          go_wp2
          refine bodyPost_ret (by simp [results, Ybaf.results23, go_sem, e0, e1, e2, e3]; try rfl) rfl ?_
          exact ⟨E, msg, _, _, _, _, rfl, HE.out.1, HE.out.2.1, HE.out.2.2.1, HE.out.2.2.2.1⟩
      · obtain ⟨ii, hi, hdt, hki⟩ := HK.out.2.2.2.2 (by omega)
        obtain rfl : pos = t := by have := HK.out; omega
        have HRB : Hid (Calls Ybaf.prog 29 #[.pointer (some ⟨N + 1, 0, none⟩)] (wr.alloc (.cells #[.int .i64 pos, .int .u8 0, .int .u8 0, .int .u64 0] 90)) fun e w' => e = .returned (.tuple #[.int .u8 (24 + ii), .nilIface]) ∧ Rs N b k cap dat (pos + 1) w' ∧
            Fx (fun i => N ≤ i ∧ i ≤ N + 2) (wr.alloc (.cells #[.int .i64 pos, .int .u8 0, .int .u8 0, .int .u64 0] 90)) w') := by
          have hf := (Fx.refl (fun _ => False) wr).alloc (.cells #[.int .i64 pos, .int .u8 0, .int .u8 0, .int .u64 0] 90)
          have hk := HK.out
          exact rb_some N b k cap pos _ dat _ (HS.out.rs.keep hf id id id) (by omega) hk.1.1 (by omega) hk.1.2.2.1 hk.1.2.2.2.one (fun j v h => hf.cell (HS.out.by_ j v h) id) HS.out.bN hdt (by omega) (by omega)
        have HKI : Hid (k < pos + 1 + 2 ^ ii ∧ pos < k) := ⟨hki, by omega⟩
        clear hdt hki
        go_upto_region 5 with (go_at_call 29; refine HRB.out.mono ?_; rintro e w1 ⟨rfl, HR1, HF1⟩)
        have HD1 : Hid _ := (HF1.block (N + 3) (by simp; omega) (by omega)).trans ((Below.heap_alloc _ _ _ hNs).trans HS.out.d)
        have HH1 : Hid (w1.heap[wr.heap.size]? = some (hObj (.int .i64 pos) (.int .u8 0) (.int .u8 0) (.int .u64 0))) := (HF1.block wr.heap.size (by simp) (by omega)).trans (heap_alloc_new _ _)
        have HX1 : Hid (_ ∧ _) := ⟨HR1, HF1⟩
        clear HR1 HF1 d0 d1 df HRB
        obtain ⟨d0, d1, df⟩ := dcell HD1.out
        obtain ⟨h0, h1, h2, h3, hf⟩ := hcell HH1.out
        have hHN : ¬ (wr.heap.size = N + 3) := by omega
        have hNH : ¬ (N + 3 = wr.heap.size) := by omega
        have hs1 : wr.heap.size < w1.heap.size := lt_heap HH1.out
        have hi4 : ii = 0 ∨ ii = 1 ∨ ii = 2 ∨ ii = 3 := by omega
        rcases hi4 with hi4 | hi4 | hi4 | hi4
        · subst hi4
          go_upto_region 13 with fail
          obtain ⟨q1, q2, q3, q4, q5, ⟨c0, c1, c2, c3, q6⟩, q7, q8⟩ := HS.out.buf HX1.out.1 HX1.out.2 HD1.out ((pos : Int) + 1) rfl (.int .u8 0) (.int .u8 24) (.cells #[.int .u8 0, .int .u8 0, .int .u8 0, .int .u8 0, .int .u8 0, .int .u8 0, .int .u8 0, .int .u8 0] 104)
          have HC : Hid (Calls Ybaf.prog 31 #[.pointer (some ⟨N + 3, 0, none⟩), .slice (some ⟨w1.heap.size, 7, none⟩) 1 1] ((((w1.setCell ⟨N + 3, 1, none⟩ (.int .i64 ((pos : Int) + 1))).setCell ⟨wr.heap.size, 1, none⟩ (.int .u8 0)).setCell ⟨wr.heap.size, 2, none⟩ (.int .u8 24)).alloc (.cells #[.int .u8 0, .int .u8 0, .int .u8 0, .int .u8 0, .int .u8 0, .int .u8 0, .int .u8 0, .int .u8 0] 104))
              fun e w' => ∃ E msg, e = .returned (.iface 23 (.pointer (some ⟨E, 0, none⟩))) ∧ Hid (w.heap.size ≤ E ∧ w1.heap.size < E ∧ w'.heap[E]? = some (eObj k msg (.iface 111 (.pointer (some ua)))) ∧ w'.heap[N + 3]? = some (dObj N k) ∧ Fx (fun i => N ≤ i ∧ i ≤ N + 3) w w' ∧
                w'.heap[w.heap.size]? = some (hObj c0 c1 c2 c3) ∧ w'.heap[wr.heap.size]? = some (hObj (.int .i64 pos) (.int .u8 0) (.int .u8 24) (.int .u64 0)))) := by
            have hki := HKI.out
            have hkk := HK.out.1
            have hsz := HS.out.sz
            have hle := HS.out.fx.size
            refine (dreadFull_does N b k cap (pos + 1) (k - (pos + 1)) w1.heap.size 7 1 1 104 ea ua ((pos + 1 : Nat) : Int) dat [.int .u8 0, .int .u8 0, .int .u8 0, .int .u8 0, .int .u8 0, .int .u8 0, .int .u8 0, .int .u8 0] _ q1 (by omega) (by omega) hkk.2.1 hkk.2.2.1 hkk.2.2.2 q2 q3 (by omega) (by omega) (by omega) (by omega) (by omega) q4 (by simp) (by omega)).mono ?_
            rintro e w' ⟨E, msg, rfl, r1, r2, r3, r4⟩
            have ek : (((pos + 1 : Nat) : Int) + ((k - (pos + 1) : Nat) : Int)) = (k : Int) := by omega
            rw [ek] at r2 r3
            rw [q8] at r1
            refine ⟨E, msg, rfl, by omega, by omega, r2, r3, ?_, (r4.block _ (lt_heap q6) (by omega)).trans q6, (r4.block _ (lt_heap q7) (by omega)).trans q7⟩
            exact Fx.cut (Fx.trans (q5.mono fun i h => Or.inl h) (r4.mono fun i h => by omega))
          clear q1 q2 q3 q4 q5 q6 q7 q8
          go_upto_region 15 with (go_at_call 31; refine HC.out.mono ?_; rintro e w3 ⟨E, msg, rfl, HE⟩)
          obtain ⟨p0, p1, p2, p3, pf⟩ := hcell HE.out.2.2.2.2.2.2
          obtain ⟨m0, m1, m2, m3, mf⟩ := hcell HE.out.2.2.2.2.2.1
          go_cut [3] (fun s wx => s = .iface 23 (.pointer (some ⟨E, 0, none⟩)) ∧ Hid (wx.heap[E]? = some (eObj k msg (.iface 111 (.pointer (some ua)))) ∧ wx.heap[N + 3]? = some (dObj N k) ∧ Fx (fun i => N ≤ i ∧ i ≤ N + 3) w wx ∧
            wx.heap[w.heap.size]? = some (hObj (.int .i64 pos) (.int .u8 0) (.int .u8 24) (.int .u64 0))))
          case first =>
            go_wp2
            go_meet
            have he := HE.out
            have hsz := HS.out.sz
            have hle := HS.out.fx.size
            have hf3 : Fx (fun i => i = w.heap.size) w3 ((((w3.setCell ⟨w.heap.size, 0, none⟩ (.int .i64 pos)).setCell ⟨w.heap.size, 1, none⟩ (.int .u8 0)).setCell ⟨w.heap.size, 2, none⟩ (.int .u8 24)).setCell ⟨w.heap.size, 3, none⟩ (.int .u64 0)) := by
              repeat (first | with_reducible exact Fx.refl _ _ | with_reducible refine Fx.setCell ?_ (by simp) _)
            refine ⟨rfl, (hf3.block _ (lt_heap he.2.2.1) (by omega)).trans he.2.2.1, (hf3.block _ (lt_heap he.2.2.2.1) (by omega)).trans he.2.2.2.1, ?_, hset he.2.2.2.2.2.1 _ _ _ _⟩
            exact Fx.cut (Fx.trans (he.2.2.2.2.1.mono fun i h => Or.inl h) (hf3.mono fun i h => Or.inr (by omega)))
          case rest =>
            obtain ⟨rfl, HZ⟩ := hcut
            obtain ⟨e0, e1, e2, e3, ef⟩ := hcell HZ.out.2.2.2
            go_wp2
            refine bodyPost_ret (by simp [results, Ybaf.results23, go_sem, e0, e1, e2, e3]; try rfl) rfl ?_
            exact ⟨E, msg, _, _, _, _, rfl, HE.out.1, HZ.out.1, HZ.out.2.1, HZ.out.2.2.1⟩
        · subst hi4
          go_upto_region 13 with fail
          obtain ⟨q1, q2, q3, q4, q5, ⟨c0, c1, c2, c3, q6⟩, q7, q8⟩ := HS.out.buf HX1.out.1 HX1.out.2 HD1.out ((pos : Int) + 1) rfl (.int .u8 0) (.int .u8 25) (.cells #[.int .u8 0, .int .u8 0, .int .u8 0, .int .u8 0, .int .u8 0, .int .u8 0, .int .u8 0, .int .u8 0] 104)
          have HC : Hid (Calls Ybaf.prog 31 #[.pointer (some ⟨N + 3, 0, none⟩), .slice (some ⟨w1.heap.size, 6, none⟩) 2 2] ((((w1.setCell ⟨N + 3, 1, none⟩ (.int .i64 ((pos : Int) + 1))).setCell ⟨wr.heap.size, 1, none⟩ (.int .u8 0)).setCell ⟨wr.heap.size, 2, none⟩ (.int .u8 25)).alloc (.cells #[.int .u8 0, .int .u8 0, .int .u8 0, .int .u8 0, .int .u8 0, .int .u8 0, .int .u8 0, .int .u8 0] 104))
              fun e w' => ∃ E msg, e = .returned (.iface 23 (.pointer (some ⟨E, 0, none⟩))) ∧ Hid (w.heap.size ≤ E ∧ w1.heap.size < E ∧ w'.heap[E]? = some (eObj k msg (.iface 111 (.pointer (some ua)))) ∧ w'.heap[N + 3]? = some (dObj N k) ∧ Fx (fun i => N ≤ i ∧ i ≤ N + 3) w w' ∧
                w'.heap[w.heap.size]? = some (hObj c0 c1 c2 c3) ∧ w'.heap[wr.heap.size]? = some (hObj (.int .i64 pos) (.int .u8 0) (.int .u8 25) (.int .u64 0)))) := by
            have hki := HKI.out
            have hkk := HK.out.1
            have hsz := HS.out.sz
            have hle := HS.out.fx.size
            refine (dreadFull_does N b k cap (pos + 1) (k - (pos + 1)) w1.heap.size 6 2 2 104 ea ua ((pos + 1 : Nat) : Int) dat [.int .u8 0, .int .u8 0, .int .u8 0, .int .u8 0, .int .u8 0, .int .u8 0, .int .u8 0, .int .u8 0] _ q1 (by omega) (by omega) hkk.2.1 hkk.2.2.1 hkk.2.2.2 q2 q3 (by omega) (by omega) (by omega) (by omega) (by omega) q4 (by simp) (by omega)).mono ?_
            rintro e w' ⟨E, msg, rfl, r1, r2, r3, r4⟩
            have ek : (((pos + 1 : Nat) : Int) + ((k - (pos + 1) : Nat) : Int)) = (k : Int) := by omega
            rw [ek] at r2 r3
            rw [q8] at r1
            refine ⟨E, msg, rfl, by omega, by omega, r2, r3, ?_, (r4.block _ (lt_heap q6) (by omega)).trans q6, (r4.block _ (lt_heap q7) (by omega)).trans q7⟩
            exact Fx.cut (Fx.trans (q5.mono fun i h => Or.inl h) (r4.mono fun i h => by omega))
          clear q1 q2 q3 q4 q5 q6 q7 q8
          go_upto_region 15 with (go_at_call 31; refine HC.out.mono ?_; rintro e w3 ⟨E, msg, rfl, HE⟩)
          obtain ⟨p0, p1, p2, p3, pf⟩ := hcell HE.out.2.2.2.2.2.2
          obtain ⟨m0, m1, m2, m3, mf⟩ := hcell HE.out.2.2.2.2.2.1
          go_cut [3] (fun s wx => s = .iface 23 (.pointer (some ⟨E, 0, none⟩)) ∧ Hid (wx.heap[E]? = some (eObj k msg (.iface 111 (.pointer (some ua)))) ∧ wx.heap[N + 3]? = some (dObj N k) ∧ Fx (fun i => N ≤ i ∧ i ≤ N + 3) w wx ∧
            wx.heap[w.heap.size]? = some (hObj (.int .i64 pos) (.int .u8 0) (.int .u8 25) (.int .u64 0))))
          case first =>
            go_wp2
            go_meet
            have he := HE.out
            have hsz := HS.out.sz
            have hle := HS.out.fx.size
            have hf3 : Fx (fun i => i = w.heap.size) w3 ((((w3.setCell ⟨w.heap.size, 0, none⟩ (.int .i64 pos)).setCell ⟨w.heap.size, 1, none⟩ (.int .u8 0)).setCell ⟨w.heap.size, 2, none⟩ (.int .u8 25)).setCell ⟨w.heap.size, 3, none⟩ (.int .u64 0)) := by
              repeat (first | with_reducible exact Fx.refl _ _ | with_reducible refine Fx.setCell ?_ (by simp) _)
            refine ⟨rfl, (hf3.block _ (lt_heap he.2.2.1) (by omega)).trans he.2.2.1, (hf3.block _ (lt_heap he.2.2.2.1) (by omega)).trans he.2.2.2.1, ?_, hset he.2.2.2.2.2.1 _ _ _ _⟩
            exact Fx.cut (Fx.trans (he.2.2.2.2.1.mono fun i h => Or.inl h) (hf3.mono fun i h => Or.inr (by omega)))
          case rest =>
            obtain ⟨rfl, HZ⟩ := hcut
            obtain ⟨e0, e1, e2, e3, ef⟩ := hcell HZ.out.2.2.2
            go_wp2
            refine bodyPost_ret (by simp [results, Ybaf.results23, go_sem, e0, e1, e2, e3]; try rfl) rfl ?_
            exact ⟨E, msg, _, _, _, _, rfl, HE.out.1, HZ.out.1, HZ.out.2.1, HZ.out.2.2.1⟩
        · subst hi4
          go_upto_region 13 with fail
          obtain ⟨q1, q2, q3, q4, q5, ⟨c0, c1, c2, c3, q6⟩, q7, q8⟩ := HS.out.buf HX1.out.1 HX1.out.2 HD1.out ((pos : Int) + 1) rfl (.int .u8 0) (.int .u8 26) (.cells #[.int .u8 0, .int .u8 0, .int .u8 0, .int .u8 0, .int .u8 0, .int .u8 0, .int .u8 0, .int .u8 0] 104)
          have HC : Hid (Calls Ybaf.prog 31 #[.pointer (some ⟨N + 3, 0, none⟩), .slice (some ⟨w1.heap.size, 4, none⟩) 4 4] ((((w1.setCell ⟨N + 3, 1, none⟩ (.int .i64 ((pos : Int) + 1))).setCell ⟨wr.heap.size, 1, none⟩ (.int .u8 0)).setCell ⟨wr.heap.size, 2, none⟩ (.int .u8 26)).alloc (.cells #[.int .u8 0, .int .u8 0, .int .u8 0, .int .u8 0, .int .u8 0, .int .u8 0, .int .u8 0, .int .u8 0] 104))
              fun e w' => ∃ E msg, e = .returned (.iface 23 (.pointer (some ⟨E, 0, none⟩))) ∧ Hid (w.heap.size ≤ E ∧ w1.heap.size < E ∧ w'.heap[E]? = some (eObj k msg (.iface 111 (.pointer (some ua)))) ∧ w'.heap[N + 3]? = some (dObj N k) ∧ Fx (fun i => N ≤ i ∧ i ≤ N + 3) w w' ∧
                w'.heap[w.heap.size]? = some (hObj c0 c1 c2 c3) ∧ w'.heap[wr.heap.size]? = some (hObj (.int .i64 pos) (.int .u8 0) (.int .u8 26) (.int .u64 0)))) := by
            have hki := HKI.out
            have hkk := HK.out.1
            have hsz := HS.out.sz
            have hle := HS.out.fx.size
            refine (dreadFull_does N b k cap (pos + 1) (k - (pos + 1)) w1.heap.size 4 4 4 104 ea ua ((pos + 1 : Nat) : Int) dat [.int .u8 0, .int .u8 0, .int .u8 0, .int .u8 0, .int .u8 0, .int .u8 0, .int .u8 0, .int .u8 0] _ q1 (by omega) (by omega) hkk.2.1 hkk.2.2.1 hkk.2.2.2 q2 q3 (by omega) (by omega) (by omega) (by omega) (by omega) q4 (by simp) (by omega)).mono ?_
            rintro e w' ⟨E, msg, rfl, r1, r2, r3, r4⟩
            have ek : (((pos + 1 : Nat) : Int) + ((k - (pos + 1) : Nat) : Int)) = (k : Int) := by omega
            rw [ek] at r2 r3
            rw [q8] at r1
            refine ⟨E, msg, rfl, by omega, by omega, r2, r3, ?_, (r4.block _ (lt_heap q6) (by omega)).trans q6, (r4.block _ (lt_heap q7) (by omega)).trans q7⟩
            exact Fx.cut (Fx.trans (q5.mono fun i h => Or.inl h) (r4.mono fun i h => by omega))
          clear q1 q2 q3 q4 q5 q6 q7 q8
          go_upto_region 15 with (go_at_call 31; refine HC.out.mono ?_; rintro e w3 ⟨E, msg, rfl, HE⟩)
          obtain ⟨p0, p1, p2, p3, pf⟩ := hcell HE.out.2.2.2.2.2.2
          obtain ⟨m0, m1, m2, m3, mf⟩ := hcell HE.out.2.2.2.2.2.1
          go_cut [3] (fun s wx => s = .iface 23 (.pointer (some ⟨E, 0, none⟩)) ∧ Hid (wx.heap[E]? = some (eObj k msg (.iface 111 (.pointer (some ua)))) ∧ wx.heap[N + 3]? = some (dObj N k) ∧ Fx (fun i => N ≤ i ∧ i ≤ N + 3) w wx ∧
            wx.heap[w.heap.size]? = some (hObj (.int .i64 pos) (.int .u8 0) (.int .u8 26) (.int .u64 0))))
          case first =>
            go_wp2
            go_meet
            have he := HE.out
            have hsz := HS.out.sz
            have hle := HS.out.fx.size
            have hf3 : Fx (fun i => i = w.heap.size) w3 ((((w3.setCell ⟨w.heap.size, 0, none⟩ (.int .i64 pos)).setCell ⟨w.heap.size, 1, none⟩ (.int .u8 0)).setCell ⟨w.heap.size, 2, none⟩ (.int .u8 26)).setCell ⟨w.heap.size, 3, none⟩ (.int .u64 0)) := by
              repeat (first | with_reducible exact Fx.refl _ _ | with_reducible refine Fx.setCell ?_ (by simp) _)
            refine ⟨rfl, (hf3.block _ (lt_heap he.2.2.1) (by omega)).trans he.2.2.1, (hf3.block _ (lt_heap he.2.2.2.1) (by omega)).trans he.2.2.2.1, ?_, hset he.2.2.2.2.2.1 _ _ _ _⟩
            exact Fx.cut (Fx.trans (he.2.2.2.2.1.mono fun i h => Or.inl h) (hf3.mono fun i h => Or.inr (by omega)))
          case rest =>
            obtain ⟨rfl, HZ⟩ := hcut
            obtain ⟨e0, e1, e2, e3, ef⟩ := hcell HZ.out.2.2.2
            go_wp2
            refine bodyPost_ret (by simp [results, Ybaf.results23, go_sem, e0, e1, e2, e3]; try rfl) rfl ?_
            exact ⟨E, msg, _, _, _, _, rfl, HE.out.1, HZ.out.1, HZ.out.2.1, HZ.out.2.2.1⟩
        · subst hi4
          go_upto_region 13 with fail
          obtain ⟨q1, q2, q3, q4, q5, ⟨c0, c1, c2, c3, q6⟩, q7, q8⟩ := HS.out.buf HX1.out.1 HX1.out.2 HD1.out ((pos : Int) + 1) rfl (.int .u8 0) (.int .u8 27) (.cells #[.int .u8 0, .int .u8 0, .int .u8 0, .int .u8 0, .int .u8 0, .int .u8 0, .int .u8 0, .int .u8 0] 104)
          have HC : Hid (Calls Ybaf.prog 31 #[.pointer (some ⟨N + 3, 0, none⟩), .slice (some ⟨w1.heap.size, 0, none⟩) 8 8] ((((w1.setCell ⟨N + 3, 1, none⟩ (.int .i64 ((pos : Int) + 1))).setCell ⟨wr.heap.size, 1, none⟩ (.int .u8 0)).setCell ⟨wr.heap.size, 2, none⟩ (.int .u8 27)).alloc (.cells #[.int .u8 0, .int .u8 0, .int .u8 0, .int .u8 0, .int .u8 0, .int .u8 0, .int .u8 0, .int .u8 0] 104))
              fun e w' => ∃ E msg, e = .returned (.iface 23 (.pointer (some ⟨E, 0, none⟩))) ∧ Hid (w.heap.size ≤ E ∧ w1.heap.size < E ∧ w'.heap[E]? = some (eObj k msg (.iface 111 (.pointer (some ua)))) ∧ w'.heap[N + 3]? = some (dObj N k) ∧ Fx (fun i => N ≤ i ∧ i ≤ N + 3) w w' ∧
                w'.heap[w.heap.size]? = some (hObj c0 c1 c2 c3) ∧ w'.heap[wr.heap.size]? = some (hObj (.int .i64 pos) (.int .u8 0) (.int .u8 27) (.int .u64 0)))) := by
            have hki := HKI.out
            have hkk := HK.out.1
            have hsz := HS.out.sz
            have hle := HS.out.fx.size
            refine (dreadFull_does N b k cap (pos + 1) (k - (pos + 1)) w1.heap.size 0 8 8 104 ea ua ((pos + 1 : Nat) : Int) dat [.int .u8 0, .int .u8 0, .int .u8 0, .int .u8 0, .int .u8 0, .int .u8 0, .int .u8 0, .int .u8 0] _ q1 (by omega) (by omega) hkk.2.1 hkk.2.2.1 hkk.2.2.2 q2 q3 (by omega) (by omega) (by omega) (by omega) (by omega) q4 (by simp) (by omega)).mono ?_
            rintro e w' ⟨E, msg, rfl, r1, r2, r3, r4⟩
            have ek : (((pos + 1 : Nat) : Int) + ((k - (pos + 1) : Nat) : Int)) = (k : Int) := by omega
            rw [ek] at r2 r3
            rw [q8] at r1
            refine ⟨E, msg, rfl, by omega, by omega, r2, r3, ?_, (r4.block _ (lt_heap q6) (by omega)).trans q6, (r4.block _ (lt_heap q7) (by omega)).trans q7⟩
            exact Fx.cut (Fx.trans (q5.mono fun i h => Or.inl h) (r4.mono fun i h => by omega))
          clear q1 q2 q3 q4 q5 q6 q7 q8
          go_upto_region 15 with (go_at_call 31; refine HC.out.mono ?_; rintro e w3 ⟨E, msg, rfl, HE⟩)
          obtain ⟨p0, p1, p2, p3, pf⟩ := hcell HE.out.2.2.2.2.2.2
          obtain ⟨m0, m1, m2, m3, mf⟩ := hcell HE.out.2.2.2.2.2.1
          go_cut [3] (fun s wx => s = .iface 23 (.pointer (some ⟨E, 0, none⟩)) ∧ Hid (wx.heap[E]? = some (eObj k msg (.iface 111 (.pointer (some ua)))) ∧ wx.heap[N + 3]? = some (dObj N k) ∧ Fx (fun i => N ≤ i ∧ i ≤ N + 3) w wx ∧
            wx.heap[w.heap.size]? = some (hObj (.int .i64 pos) (.int .u8 0) (.int .u8 27) (.int .u64 0))))
          case first =>
            go_wp2
            go_meet
            have he := HE.out
            have hsz := HS.out.sz
            have hle := HS.out.fx.size
            have hf3 : Fx (fun i => i = w.heap.size) w3 ((((w3.setCell ⟨w.heap.size, 0, none⟩ (.int .i64 pos)).setCell ⟨w.heap.size, 1, none⟩ (.int .u8 0)).setCell ⟨w.heap.size, 2, none⟩ (.int .u8 27)).setCell ⟨w.heap.size, 3, none⟩ (.int .u64 0)) := by
              repeat (first | with_reducible exact Fx.refl _ _ | with_reducible refine Fx.setCell ?_ (by simp) _)
            refine ⟨rfl, (hf3.block _ (lt_heap he.2.2.1) (by omega)).trans he.2.2.1, (hf3.block _ (lt_heap he.2.2.2.1) (by omega)).trans he.2.2.2.1, ?_, hset he.2.2.2.2.2.1 _ _ _ _⟩
            exact Fx.cut (Fx.trans (he.2.2.2.2.1.mono fun i h => Or.inl h) (hf3.mono fun i h => Or.inr (by omega)))
          case rest =>
            obtain ⟨rfl, HZ⟩ := hcut
            obtain ⟨e0, e1, e2, e3, ef⟩ := hcell HZ.out.2.2.2
            go_wp2
            refine bodyPost_ret (by simp [results, Ybaf.results23, go_sem, e0, e1, e2, e3]; try rfl) rfl ?_
            exact ⟨E, msg, _, _, _, _, rfl, HE.out.1, HZ.out.1, HZ.out.2.1, HZ.out.2.2.1⟩
end Go.Proofs.YbulkcufiFmt
