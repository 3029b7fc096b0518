/-
  (*bufio.Reader).ReadByte over the law's own reader.
-/
import Derived.Test.YbulkcufiFmtE
namespace Go.Proofs.YbulkcufiFmt
open Go.RowKit
attribute [local go_sem] alloc_drewN setCell_drewN

/-- The reader behind 'pos' bytes: not yet filled, or filled. -/
def Rs (N b k cap : Nat) (dat : List Value) (pos : Nat) (w : World) : Prop := ∃ (lb lr : Value) (cur : List Value), cur.length = 4096 ∧ w.heap[N + 2]? = some (.cells cur.toArray 5 (0, 0)) ∧
  ((pos = 0 ∧ w.heap[N]? = some (aObj (some ⟨b, 0, none⟩) k cap 0) ∧ w.heap[N + 1]? = some (rObj N 0 0 .nilIface lb lr)) ∨
   (w.heap[N]? = some (aObj (some ⟨b, 0, none⟩) k cap k) ∧ w.heap[N + 1]? = some (rObj N pos k .nilIface lb lr) ∧ ∀ j, j < k → cur[j]? = dat[j]?))

theorem Rs.keep {N b k cap : Nat} {dat : List Value} {pos : Nat} {w w' : World} (h : Rs N b k cap dat pos w) {S : Nat → Prop} (hf : Fx S w w') (h0 : ¬ S N) (h1 : ¬ S (N + 1)) (h2 : ¬ S (N + 2)) : Rs N b k cap dat pos w' := by
  obtain ⟨lb, lr, cur, hl, hU, h⟩ := h
  refine ⟨lb, lr, cur, hl, (hf.block _ (lt_heap hU) h2).trans hU, ?_⟩
  rcases h with ⟨hp, hA, hR⟩ | ⟨hA, hR, hd⟩
  · exact Or.inl ⟨hp, (hf.block _ (lt_heap hA) h0).trans hA, (hf.block _ (lt_heap hR) h1).trans hR⟩
  · exact Or.inr ⟨(hf.block _ (lt_heap hA) h0).trans hA, (hf.block _ (lt_heap hR) h1).trans hR, hd⟩

set_option maxRecDepth 100000 in
set_option maxHeartbeats 1000000 in
theorem rb_eof1 (N k cap c : Nat) (pb : Option Addr) (ea : Addr) (lb lr : Value) (w : World) (hc1 : c < 4096) (hA : w.heap[N]? = some (aObj pb k cap k)) (hR : w.heap[N + 1]? = some (rObj N c c .nilIface lb lr))
    (hE : w.cell? ⟨3, 0, none⟩ = some (.iface 111 (.pointer (some ea)))) (hN : 7 ≤ N) :
    Calls Ybaf.prog 29 #[.pointer (some ⟨N + 1, 0, none⟩)] w fun e w' => e = .returned (.tuple #[.int .u8 0, .iface 111 (.pointer (some ea))]) ∧ Fx (fun i => N ≤ i ∧ i ≤ N + 2) w w' := by
  obtain ⟨r0, r1, r2, r3, r4, -, r6, rf⟩ := rcell hR
  have HR : Hid _ := rset6 hR (.int .i64 (-1))
  have HA : Hid ((w.setCell ⟨N + 1, 6, none⟩ (.int .i64 (-1))).heap[N]? = _) := (heap_setCell_other _ _ N _ (by simp)).trans hA
  have HE : Hid ((w.setCell ⟨N + 1, 6, none⟩ (.int .i64 (-1))).cell? ⟨3, 0, none⟩ = some (.iface 111 (.pointer (some ea)))) := ((Fx.refl (fun i => i = N + 1) w).setCell (p := ⟨N + 1, 6, none⟩) rfl _).cell hE (by show ¬ 3 = N + 1; omega)
  clear hR hA hE
  go_enter Ybaf.func29, Ybaf.ntmps29
  go_wp2
  refine wp_loop_rounds 2 ?_
  rw [rounds_succ]
  go_wp2
  go_quiet (fail)
  go_wp2_with (go_at_call 36; refine (fill_eof N k cap c pb ea lb _ _ hc1 (by exact HA.out) (by exact HR.out) (by exact HE.out) hN).mono ?_; rintro e w1 ⟨rfl, HR1, HF1⟩)
  have HR2 : Hid _ := HR1
  have HF2 : Hid _ := HF1
  clear HF1 HR1 r0 r1 r2 r3 r4 r6 rf
  obtain ⟨r0, r1, r2, r3, r4, -, r6, rf⟩ := rcell HR2.out
  go_wp2
  rw [rounds_succ]
  go_wp2
  go_quiet (fail)
  go_wp2_with (go_at_call 35; refine (readErr_does (N + 1) (.iface 111 (.pointer (some ea))) _ (by exact r4) (by exact rf 4)).mono ?_; rintro e w2 ⟨rfl, rfl⟩)
  go_ret2
  refine ⟨rfl, ?_⟩
  refine Fx.drewN (Fx.setCell ?_ (by simp) _) _
  refine Fx.trans ?_ (HF2.out.mono fun i h => by omega)
  repeat (first | with_reducible exact Fx.refl _ _ | with_reducible refine Fx.drewN ?_ _ | with_reducible refine Fx.drew ?_ | with_reducible refine Fx.setCell ?_ (by simp) _)

set_option maxRecDepth 100000 in
set_option maxHeartbeats 1000000 in
theorem rb_next (N k pos : Nat) (x : Int) (cur : List Value) (lb lr : Value) (w : World) (hpk : pos < k) (hk : k ≤ 4096) (hU : w.heap[N + 2]? = some (.cells cur.toArray 5 (0, 0))) (hR : w.heap[N + 1]? = some (rObj N pos k .nilIface lb lr))
    (hx : cur[pos]? = some (.int .u8 x)) (hx0 : 0 ≤ x) (hx1 : x < 256) :
    Calls Ybaf.prog 29 #[.pointer (some ⟨N + 1, 0, none⟩)] w fun e w' => e = .returned (.tuple #[.int .u8 x, .nilIface]) ∧
      w'.heap[N + 1]? = some (rObj N (pos + 1 : Nat) k .nilIface (.int .i64 x) (.int .i64 (-1))) ∧ Fx (fun i => i = N + 1) w w' := by
  obtain ⟨r0, r1, r2, r3, r4, r5, r6, rf⟩ := rcell hR
  have HR : Hid _ := rset6 hR (.int .i64 (-1))
  have hb : w.cell? ⟨N + 2, pos, none⟩ = some (.int .u8 x) := by rw [cell_heap hU]; simpa using hx
  clear hR hU
  have hne : ¬ ((pos : Int) = (k : Int)) := by omega
  have hne2 : ¬ (pos = k) := by omega
  have hp4 : pos < 4096 := by omega
  go_enter Ybaf.func29, Ybaf.ntmps29
  go_wp2
  refine wp_loop_rounds 1 ?_
  rw [rounds_succ]
  go_wp2
  go_quiet (fail)
  go_wp2
  go_quiet (fail)
  go_wp2
  go_ret2
  refine ⟨rfl, ?_, ?_⟩
  · exact rset5 (rset2 HR.out _) _
  · repeat (first | with_reducible exact Fx.refl _ _ | with_reducible refine Fx.drewN ?_ _ | with_reducible refine Fx.drew ?_ | with_reducible refine Fx.setCell ?_ (by simp) _)

theorem splice_at {cur dat : List Value} {j : Nat} (hj : j < dat.length) : (splice cur 0 dat)[j]? = dat[j]? := by
  simp [splice, List.getElem?_append_left hj]

set_option maxRecDepth 100000 in
set_option maxHeartbeats 1000000 in
/-- The first byte: the buffer is filled. -/
theorem rb_fresh (N b k cap : Nat) (x : Int) (dat cur : List Value) (lb lr : Value) (w : World) (hA : w.heap[N]? = some (aObj (some ⟨b, 0, none⟩) k cap 0)) (hR : w.heap[N + 1]? = some (rObj N 0 0 .nilIface lb lr))
    (hU : w.heap[N + 2]? = some (.cells cur.toArray 5 (0, 0))) (hL : cur.length = 4096) (hk0 : 0 < k) (hkc : k ≤ cap) (hk : k ≤ 4096) (hd : dat.length = k) (h1 : ∀ v ∈ dat, v.oneCell' = true)
    (hB : ∀ j v, dat[j]? = some v → w.cell? ⟨b, j, none⟩ = some v) (hbN : b < N) (hx : dat[0]? = some (.int .u8 x)) (hx0 : 0 ≤ x) (hx1 : x < 256) :
    Calls Ybaf.prog 29 #[.pointer (some ⟨N + 1, 0, none⟩)] w fun e w' => e = .returned (.tuple #[.int .u8 x, .nilIface]) ∧
      w'.heap[N]? = some (aObj (some ⟨b, 0, none⟩) k cap k) ∧ w'.heap[N + 1]? = some (rObj N (1 : Nat) k .nilIface (.int .i64 x) (.int .i64 (-1))) ∧ w'.heap[N + 2]? = some (.cells (splice cur 0 dat).toArray 5 (0, 0)) ∧ Fx (fun i => N ≤ i ∧ i ≤ N + 2) w w' := by
  obtain ⟨r0, r1, r2, r3, r4, r5, r6, rf⟩ := rcell hR
  have HR : Hid _ := rset6 hR (.int .i64 (-1))
  have HA : Hid ((w.setCell ⟨N + 1, 6, none⟩ (.int .i64 (-1))).heap[N]? = _) := (heap_setCell_other _ _ N _ (by simp)).trans hA
  have HU : Hid ((w.setCell ⟨N + 1, 6, none⟩ (.int .i64 (-1))).heap[N + 2]? = _) := (heap_setCell_other _ _ (N + 2) _ (by simp)).trans hU
  have HB : Hid (∀ j v, dat[j]? = some v → (w.setCell ⟨N + 1, 6, none⟩ (.int .i64 (-1))).cell? ⟨b, j, none⟩ = some v) := fun j v hj => ((Fx.refl (fun i => i = N + 1) w).setCell (p := ⟨N + 1, 6, none⟩) rfl _).cell (hB j v hj) (by show ¬ b = N + 1; omega)
  have HK : Hid (cur.length = 4096 ∧ 0 < k ∧ k ≤ cap ∧ k ≤ 4096 ∧ dat.length = k ∧ ∀ v ∈ dat, v.oneCell' = true) := ⟨hL, hk0, hkc, hk, hd, h1⟩
  have HX : Hid _ := hx
  clear hR hA hU hB h1 hL hd hx
  have hne : ¬ ((0 : Int) = (k : Int)) := by omega
  have hne2 : ¬ (0 = k) := by omega
  have hne3 : ¬ (k = 0) := by omega
  go_enter Ybaf.func29, Ybaf.ntmps29
  go_wp2
  refine wp_loop_rounds 2 ?_
  rw [rounds_succ]
  go_wp2
  go_quiet (fail)
  go_wp2_with (go_at_call 36; refine (fill_more N b k cap dat cur lb _ _ (by exact HA.out) (by exact HR.out) (by exact HU.out) HK.out.1 HK.out.2.1 HK.out.2.2.1 HK.out.2.2.2.1 HK.out.2.2.2.2.1 HK.out.2.2.2.2.2 (by exact HB.out)).mono ?_; rintro e w1 ⟨rfl, HA1, HR1, HU1, HF1⟩)
  have HR2 : Hid _ := HR1
  have HX2 : Hid (_ ∧ _ ∧ _) := ⟨HA1, HU1, HF1⟩
  clear HF1 HR1 HA1 HU1 r0 r1 r2 r3 r4 r5 r6 rf
  obtain ⟨r0, r1, r2, r3, r4, r5, r6, rf⟩ := rcell HR2.out
  have hb : w1.cell? ⟨N + 2, 0, none⟩ = some (.int .u8 x) := by
    have hk := HK.out
    rw [cell_heap HX2.out.2.1, List.getElem?_toArray, splice_at (by omega)]; exact HX.out
  go_wp2
  rw [rounds_succ]
  go_wp2
  go_quiet (fail)
  go_wp2
  go_quiet (fail)
  go_wp2
  go_ret2
  refine ⟨rfl, ?_, ?_, ?_, ?_⟩
  · exact (heap_setCell_other _ _ N _ (by simp)).trans ((heap_setCell_other _ _ N _ (by simp)).trans HX2.out.1)
  · exact rset5 (rset2 HR2.out _) _
  · exact (heap_setCell_other _ _ (N + 2) _ (by simp)).trans ((heap_setCell_other _ _ (N + 2) _ (by simp)).trans HX2.out.2.1)
  · refine Fx.drewN (Fx.setCell (Fx.setCell ?_ (by simp) _) (by simp) _) _
    refine Fx.trans ?_ HX2.out.2.2
    repeat (first | with_reducible exact Fx.refl _ _ | with_reducible refine Fx.drewN ?_ _ | with_reducible refine Fx.drew ?_ | with_reducible refine Fx.setCell ?_ (by simp) _)

/-- ReadByte where a byte is left. -/
theorem rb_some (N b k cap pos : Nat) (x : Int) (dat : List Value) (w : World) (h : Rs N b k cap dat pos w) (hp : pos < k) (hkc : k ≤ cap) (hk : k ≤ 4096) (hd : dat.length = k) (h1 : ∀ v ∈ dat, v.oneCell' = true)
    (hB : ∀ j v, dat[j]? = some v → w.cell? ⟨b, j, none⟩ = some v) (hbN : b < N) (hx : dat[pos]? = some (.int .u8 x)) (hx0 : 0 ≤ x) (hx1 : x < 256) :
    Calls Ybaf.prog 29 #[.pointer (some ⟨N + 1, 0, none⟩)] w fun e w' => e = .returned (.tuple #[.int .u8 x, .nilIface]) ∧ Rs N b k cap dat (pos + 1) w' ∧ Fx (fun i => N ≤ i ∧ i ≤ N + 2) w w' := by
  obtain ⟨lb, lr, cur, hl, hU, h⟩ := h
  rcases h with ⟨rfl, hA, hR⟩ | ⟨hA, hR, hdd⟩
  · refine (rb_fresh N b k cap x dat cur lb lr w hA hR hU hl (by omega) hkc hk hd h1 hB hbN hx hx0 hx1).mono ?_
    rintro e w' ⟨rfl, a1, a2, a3, a4⟩
    exact ⟨rfl, ⟨_, _, splice cur 0 dat, by rw [length_splice _ _ _ (by omega), hl], a3, Or.inr ⟨a1, a2, fun j hj => splice_at (by omega)⟩⟩, a4⟩
  · refine (rb_next N k pos x cur lb lr w hp hk hU hR (by rw [hdd pos hp]; exact hx) hx0 hx1).mono ?_
    rintro e w' ⟨rfl, a1, a2⟩
    exact ⟨rfl, ⟨_, _, cur, hl, (a2.block _ (lt_heap hU) (by simp)).trans hU, Or.inr ⟨(a2.block _ (lt_heap hA) (by simp)).trans hA, a1, hdd⟩⟩, a2.mono fun i h => by omega⟩

/-- ReadByte where none is left. -/
theorem rb_eof (N b k cap : Nat) (ea : Addr) (dat : List Value) (w : World) (h : Rs N b k cap dat k w) (hk : k < 4096)
    (hE : w.cell? ⟨3, 0, none⟩ = some (.iface 111 (.pointer (some ea)))) (hN : 7 ≤ N) :
    Calls Ybaf.prog 29 #[.pointer (some ⟨N + 1, 0, none⟩)] w fun e w' => e = .returned (.tuple #[.int .u8 0, .iface 111 (.pointer (some ea))]) ∧ Fx (fun i => N ≤ i ∧ i ≤ N + 2) w w' := by
  obtain ⟨lb, lr, cur, hl, hU, h⟩ := h
  rcases h with ⟨rfl, hA, hR⟩ | ⟨hA, hR, hdd⟩
  · exact rb_eof1 N 0 cap 0 _ ea lb lr w (by omega) hA hR hE hN
  · exact rb_eof1 N k cap k _ ea lb lr w hk hA hR hE hN
end Go.Proofs.YbulkcufiFmt
