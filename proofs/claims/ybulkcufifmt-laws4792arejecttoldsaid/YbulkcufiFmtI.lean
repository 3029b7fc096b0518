/-
  The decoder's readError and readFull, where the bytes end too soon.
-/
import Derived.Test.YbulkcufiFmtH
namespace Go.Proofs.YbulkcufiFmt
open Go.RowKit
attribute [local go_sem] alloc_drewN setCell_drewN

def dObj (N : Nat) (off : Int) : Obj := .cells #[.pointer (some ⟨N + 1, 0, none⟩), .int .i64 off, .int .i64 0] 70 (0, 0)
def eObj (off : Int) (msg err : Value) : Obj := .cells #[.int .i64 off, msg, err] 35 (0, 0)
theorem dcell {w : World} {N : Nat} {off : Int} (h : w.heap[N + 3]? = some (dObj N off)) :
    w.cell? ⟨N + 3, 0, none⟩ = some (.pointer (some ⟨N + 1, 0, none⟩)) ∧ w.cell? ⟨N + 3, 1, none⟩ = some (.int .i64 off) ∧ ∀ i, w.frozen? ⟨N + 3, i, none⟩ = false :=
  ⟨by rw [cell_heap h]; rfl, by rw [cell_heap h]; rfl, fun i => frozen_heap h i⟩
theorem dset {w : World} {N : Nat} {off : Int} (h : w.heap[N + 3]? = some (dObj N off)) (x : Int) : (w.setCell ⟨N + 3, 1, none⟩ (.int .i64 x)).heap[N + 3]? = some (dObj N x) :=
  heap_setCell_same w (N + 3) 1 _ _ (.int .i64 x) h

set_option maxRecDepth 100000 in
set_option maxHeartbeats 1000000 in
theorem readError_does (N : Nat) (ea ua za : Addr) (off : Int) (w : World) (hG : Gl N ea ua w) (hz : za = ea ∨ za = ua) (hD : w.heap[N + 3]? = some (dObj N off)) :
    Calls Ybaf.prog 30 #[.pointer (some ⟨N + 3, 0, none⟩), .iface 111 (.pointer (some za))] w fun e w' => e = .returned (.iface 23 (.pointer (some ⟨w.heap.size, 0, none⟩))) ∧
      ∃ n msg, w' = (w.alloc (eObj off msg (.iface 111 (.pointer (some ua))))).drewN n := by
  obtain ⟨-, d1, -⟩ := dcell hD
  obtain ⟨g3, g0, hne, -, -, ⟨ca, ta, hca⟩, ⟨cb, tb, hcb⟩, -⟩ := hG
  have HO : Hid (Calls Ybaf.prog 37 #[.iface 111 (.pointer (some ua)), .iface 111 (.pointer (some ea))] w fun e w' => e = .returned (.bool false) ∧ w' = w) := is_other ua ea cb ca tb ta w (fun e => hne e.symm) hcb hca
  clear hD hca hcb
  rcases hz with hz | hz
  · rw [hz]
    clear hz
    go_enter Ybaf.func30, Ybaf.ntmps30
    go_wp2_with (go_at_call 37; refine (is_same _ _).mono ?_; rintro e w' ⟨rfl, rfl⟩)
    go_region
    all_goals
      go_wp2
      go_ret
      exact ⟨rfl, _, _, rfl⟩
  · rw [hz]
    clear hz
    have tok : True := trivial
    go_enter Ybaf.func30, Ybaf.ntmps30
    go_wp2_with (first | (go_at_call 37; have _t := tok; refine HO.out.mono ?_; rintro e w' ⟨rfl, rfl⟩; clear tok) | (go_at_call 37; refine (is_same ua _).mono ?_; rintro e w' ⟨rfl, rfl⟩))
    go_region
    all_goals
      go_wp2
      go_ret
      exact ⟨rfl, _, _, rfl⟩

set_option maxRecDepth 100000 in
set_option maxHeartbeats 1000000 in
theorem dreadFull_does (N b k cap pos m P o L C T : Nat) (ea ua : Addr) (off : Int) (dat pc : List Value) (w : World) (h : Rs N b k cap dat pos w) (hp0 : 0 < pos) (hm : pos + m = k) (hk : k < 4096) (hd : dat.length = k) (hB : Bytes dat)
    (hG : Gl N ea ua w) (hD : w.heap[N + 3]? = some (dObj N off)) (ho0 : 0 ≤ off) (ho1 : off < 4096) (hmL : m < L) (hL : L < 4096) (hLC : L ≤ C) (hP : w.heap[P]? = some (.cells pc.toArray T (0, 0))) (hoL : o + L ≤ pc.length) (hPN : N + 3 < P) :
    Calls Ybaf.prog 31 #[.pointer (some ⟨N + 3, 0, none⟩), .slice (some ⟨P, o, none⟩) L C] w fun e w' => ∃ E msg, e = .returned (.iface 23 (.pointer (some ⟨E, 0, none⟩))) ∧ w.heap.size ≤ E ∧
      w'.heap[E]? = some (eObj (off + m) msg (.iface 111 (.pointer (some ua)))) ∧ w'.heap[N + 3]? = some (dObj N (off + m)) ∧ Fx (fun i => (N ≤ i ∧ i ≤ N + 3) ∨ i = P) w w' := by
  obtain ⟨za, hza⟩ : ∃ za, za = (if m = 0 then ea else ua) := ⟨_, rfl⟩
  have hz : za = ea ∨ za = ua := by rw [hza]; split <;> simp
  have H : Hid (Calls Ybaf.prog 38 #[.iface 66 (.pointer (some ⟨N + 1, 0, none⟩)), .slice (some ⟨P, o, none⟩) L C] w fun e w' => e = .returned (.tuple #[.int .i64 m, .iface 111 (.pointer (some za))]) ∧ Fx (fun i => (N ≤ i ∧ i ≤ N + 2) ∨ i = P) w w') :=
    hza ▸ rfull N b k cap pos m P o L C T ea ua dat pc w h hp0 hm hk hd hB hG hmL hL hLC hP hoL (by omega)
  obtain ⟨d0, d1, df⟩ := dcell hD
  have HX : Hid (Gl N ea ua w ∧ w.heap[N + 3]? = some (dObj N off) ∧ (za = ea ∨ za = ua)) := ⟨hG, hD, hz⟩
  have hmk : m < 4096 := by omega
  clear h hd hB hG hP hoL hza hD hz
  go_enter Ybaf.func31, Ybaf.ntmps31
  go_upto_region 2 with (go_at_call 38; refine H.out.mono ?_; rintro e w1 ⟨rfl, hf⟩)
  have HD1 : Hid _ := (hf.block (N + 3) (lt_heap HX.out.2.1) (by omega)).trans HX.out.2.1
  have HG1 : Hid (Gl N ea ua w1) := Gl.keep HX.out.1 hf (fun i h => by omega)
  have HF1 : Hid _ := hf
  clear hf d0 d1 df
  obtain ⟨d0, d1, df⟩ := dcell HD1.out
  have HR : Hid (Calls Ybaf.prog 30 #[.pointer (some ⟨N + 3, 0, none⟩), .iface 111 (.pointer (some za))] (w1.setCell ⟨N + 3, 1, none⟩ (.int .i64 (off + m))) fun e w' => e = .returned (.iface 23 (.pointer (some ⟨w1.heap.size, 0, none⟩))) ∧
      ∃ n msg, w' = ((w1.setCell ⟨N + 3, 1, none⟩ (.int .i64 (off + m))).alloc (eObj (off + m) msg (.iface 111 (.pointer (some ua))))).drewN n) := by
    have := readError_does N ea ua za (off + m) (w1.setCell ⟨N + 3, 1, none⟩ (.int .i64 (off + m))) (Gl.keep HG1.out ((Fx.refl (fun i => i = N + 3) w1).setCell (p := ⟨N + 3, 1, none⟩) rfl _) (fun i h => by omega)) HX.out.2.2 (dset HD1.out _)
    rw [World.size_setCell] at this
    exact this
  go_wp2_with (go_at_call 30; refine HR.out.mono ?_; rintro e w2 ⟨rfl, n, msg, rfl⟩)
  go_ret
  refine ⟨w1.heap.size, msg, rfl, HF1.out.size, ?_, ?_, ?_⟩
  · exact (by rw [← World.size_setCell (a := ⟨N + 3, 1, none⟩) (v := .int .i64 (off + m))]; exact heap_alloc_new _ _)
  · exact (Below.heap_alloc _ _ _ (by rw [World.size_setCell]; exact lt_heap HD1.out)).trans (dset HD1.out _)
  · refine Fx.drewN (Fx.alloc (Fx.setCell (HF1.out.mono fun i h => by omega) (by simp) _) _) _
end Go.Proofs.YbulkcufiFmt
