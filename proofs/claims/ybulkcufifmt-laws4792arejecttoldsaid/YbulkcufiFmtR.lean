/-
  The law's odd branch: another major type.
-/
import Derived.Test.YbulkcufiFmtQ
import Derived.Laws.BitsLemmas
namespace Go.Proofs.YbulkcufiFmt
open Go.RowKit Go.Extern.Stop Go.Stop Go.Extern
attribute [local go_sem] alloc_drewN setCell_drewN

theorem orHead (mj y : Int) (h0 : 0 ≤ mj) (h7 : mj ≤ 7) (y0 : 0 ≤ y) (y1 : y < 24) : bits BinOp.or IntKind.u8 (mj * 32) y = mj * 32 + y :=
  bits_join .u8 8 (by decide) wraps_u8 5 (mj * 32) y (by omega) (by omega) (by omega) y0 (by omega) (by omega)

/-- The array of major types. -/
def majs : Obj := .cells #[.int .u8 1, .int .u8 2, .int .u8 3, .int .u8 4, .int .u8 5, .int .u8 7] 36 (0, 0)
theorem majs_at (q : Nat) (hq : q < 6) : ∃ mj : Int, 0 < mj ∧ mj ≤ 7 ∧ mj ≠ 6 ∧ ∀ (w : World) (b : Nat), w.heap[b]? = some majs → w.cell? ⟨b, q, none⟩ = some (.int .u8 mj) := by
  have : q = 0 ∨ q = 1 ∨ q = 2 ∨ q = 3 ∨ q = 4 ∨ q = 5 := by omega
  rcases this with rfl | rfl | rfl | rfl | rfl | rfl
  · exact ⟨1, by omega, by omega, by omega, fun w b h => by rw [cell_heap h]; rfl⟩
  · exact ⟨2, by omega, by omega, by omega, fun w b h => by rw [cell_heap h]; rfl⟩
  · exact ⟨3, by omega, by omega, by omega, fun w b h => by rw [cell_heap h]; rfl⟩
  · exact ⟨4, by omega, by omega, by omega, fun w b h => by rw [cell_heap h]; rfl⟩
  · exact ⟨5, by omega, by omega, by omega, fun w b h => by rw [cell_heap h]; rfl⟩
  · exact ⟨7, by omega, by omega, by omega, fun w b h => by rw [cell_heap h]; rfl⟩

theorem other_of (t : Nat) (ht : t ≤ 2) (mj y : Int) (h0 : 0 < mj) (h7 : mj ≤ 7) (h6 : mj ≠ 6) (y0 : 0 ≤ y) (y1 : y < 24) : OtherAt (t + 1) (tg t ++ [.int .u8 (mj * 32 + y)]) t mj y ∧ Bytes (tg t ++ [.int .u8 (mj * 32 + y)]) := by
  refine ⟨⟨ht, rfl, fun j hj => ?_, ?_, h0, h7, h6, y0, y1⟩, (tg_bytes t ht).append ?_⟩
  · rw [List.getElem?_append_left (by rw [tg_length]; omega)]
    exact tg_at t j hj
  · rw [List.getElem?_append_right (by rw [tg_length]; omega), tg_length, Nat.sub_self]
    rfl
  · intro v hv
    obtain rfl := List.mem_singleton.1 hv
    exact ⟨_, rfl, by omega, by omega⟩

/-- Own, the row's block under a name. -/
def OwnG (G : Nat) (w wr : World) (n c : Nat) (xs : List Value) : Prop := wr.ownsRow G 5 1 (.slice (some ⟨G, 0, none⟩) n c) n xs ∧ Fx (fun _ => False) w wr
theorem ownG_of {G : Nat} {w wr : World} {n c : Nat} {xs : List Value} (hs : w.heap.size = G) (h : Own w wr n c xs) : OwnG G w wr n c xs := by subst hs; exact h
theorem ownG_to {G : Nat} {w wr : World} {n c : Nat} {xs : List Value} (hs : w.heap.size = G) (h : OwnG G w wr n c xs) : Own w wr n c xs := by subst hs; exact h
theorem ownG_step {G : Nat} {w wr w1 : World} {n m c : Nat} {xs ys : List Value} {O : Obj} (hs : w.heap.size = G) (how : OwnG G w wr n c xs) (hown : w1.ownsRow G 5 1 (.slice (some ⟨G, 0, none⟩) (n + m) c) (n + m) ys) (hg : (wr.alloc O).grownBy w1 (some G)) :
    OwnG G w w1 (n + m) c ys := by subst hs; exact own_step how hown hg

set_option maxRecDepth 100000 in
set_option maxHeartbeats 4000000 in
theorem law_odd (F : Interp) (u width tags cut major info init : Int) (ea ua : Addr) (S : Nat) (W : World) (hF : F.answers W.tape) (t0 : 0 ≤ tags) (t1 : tags < 256)
    (m0 : 0 ≤ major) (m1 : major < 256) (f0 : 0 ≤ info) (f1 : info < 256) (n0 : 0 ≤ init) (n1 : init < 18446744073709551616) (hM : major % 2 = 1) (hS : W.heap.size = S) (hG : Gl S ea ua W)
    (hg : W.cell? ⟨1, 0, none⟩ = some (.iface 75 (.agg #[.pointer (some ⟨7, 28, none⟩)]))) :
    Calls Ybaf.prog 3 #[.int .u64 u, .int .u8 width, .int .u8 tags, .int .u8 cut, .int .u8 major, .int .u8 info, .int .u64 init] W fun e W' => e = .returned (.bool true) ∧ Fx (fun _ => False) W W' := by
  have HX : Hid (Gl S ea ua W ∧ W.cell? ⟨1, 0, none⟩ = some (.iface 75 (.agg #[.pointer (some ⟨7, 28, none⟩)])) ∧ F.answers W.tape) := ⟨hG, hg, hF⟩
  clear hG hg hF
  go_enter Ybaf.func3, Ybaf.ntmps3
  go_upto_region 11 with fail
  obtain ⟨w0, hw0⟩ : ∃ w0 : World, w0 = (W.alloc (.cells #[.pointer none] 23)).alloc (.cells #[.int .u8 1, .int .u8 2, .int .u8 3, .int .u8 4, .int .u8 5, .int .u8 7] 36) := ⟨_, rfl⟩
  rw [← hw0]
  have hsz : w0.heap.size = S + 2 := by rw [hw0, World.size_alloc, World.size_alloc, hS]
  have HW : Hid (w0.heap[S]? = some (.cells #[.pointer none] 23 (0, 0)) ∧ w0.heap[S + 1]? = some majs ∧ Fx (fun _ => False) W w0) := by
    rw [hw0]
    exact ⟨(Below.heap_alloc _ _ _ (by rw [World.size_alloc]; omega)).trans (heap_at _ _ _ hS.symm), heap_at _ _ _ (by rw [World.size_alloc, hS]), ((Fx.refl _ W).alloc _).alloc _⟩
  clear hw0 hM
  obtain ⟨q, hq⟩ : ∃ q : Nat, major / 2 % 6 = (q : Int) := ⟨(major / 2 % 6).toNat, by omega⟩
  have hq6 : q < 6 := by omega
  obtain ⟨mj, hm0, hm7, hm6, hmj⟩ := majs_at q hq6
  have hc := hmj w0 (S + 1) HW.out.2.1
  clear hmj
  obtain ⟨t, ht⟩ : ∃ t : Nat, (t : Int) = tags % 3 := ⟨(tags % 3).toNat, by omega⟩
  have ht2 : t ≤ 2 := by omega
  obtain ⟨i0, hi, hz0, hz1, hz2⟩ := info_parts info5z
  obtain ⟨zs, hz, hm⟩ := make4
  go_wp2
  clear hq
  go_loopw [26, 27] (fun v i wr => ∃ k : Nat, k ≤ t ∧ i = .int .i64 k ∧ v = .slice (some ⟨S + 2, 0, none⟩) k 4 ∧ OwnG (S + 2) w0 wr k 4 (tg k)) (fun _ i _ => t - (intOf i).toNat)
  case atStart => exact ⟨0, by omega, rfl, rfl, ownG_of hsz (own_start w0 zs 4 hz (by unfold maxLen; omega))⟩
  case round =>
    obtain ⟨k, hk, rfl, rfl, how⟩ := hrel
    clear hm zs hz hc
    by_cases hlt : k < t
    · have hlI : (k : Int) < tags % 3 := by omega
      have hwk : IntKind.u8.wrap (k : Int) = k := by rw [IntKind.wrap_u8]; omega
      have hor := or192 k (by omega)
      go_wp2_with (at_builtin; refine wpList_append_fits _ rfl _ _ 24 rfl (S + 2) 5 i0 1 Ybaf.underlying24 hi hz1 (S + 2) k 4 (tg k) rfl (how.1.alloc _) ⟨wr.heap.size, 0, none⟩ 1 1 [_] rfl rfl (cells_new _ _ _) (by simp [Value.oneCell']) (by omega) ?_)
      intro w1 hown' hgrow
      have how' := ownG_step hsz how hown' hgrow
      clear hown' hgrow how
      go_wp2
      go_roundw
      case rel => exact ⟨k + 1, by omega, by go_num, rfl, by rw [tg_succ]; exact how'⟩
      case measure => simp [intOf]; omega
    · obtain rfl : t = k := by omega
      have hlI : ¬ ((t : Int) < tags % 3) := by omega
      clear hlt
      have hor := orHead mj (info % 24) (by omega) hm7 (by omega) (by omega)
      have hsh : IntKind.u8.wrap (mj * 32) = mj * 32 := by rw [IntKind.wrap_u8]; omega
      go_wp2_with (at_builtin; refine wpList_append_fits _ rfl _ _ 24 rfl (S + 2) 5 i0 1 Ybaf.underlying24 hi hz1 (S + 2) t 4 (tg t) rfl (how.1.alloc _) ⟨wr.heap.size, 0, none⟩ 1 1 [_] rfl rfl (cells_new _ _ _) (by simp [Value.oneCell']) (by omega) ?_)
      intro w1 hown' hgrow
      have HO : Hid (OwnG (S + 2) w0 w1 (t + 1) 4 _) := ownG_step hsz how hown' hgrow
      clear hown' hgrow how
      have HR : Hid (Calls Ybaf.prog 7 #[.slice (some ⟨S + 2, 0, none⟩) (t + 1) 4, .int .u64 init] w1 fun e w' => ∃ E, e = .returned (.tuple #[.int .u64 init, .iface 23 (.pointer (some ⟨E, 0, none⟩)), .int .i64 (t + 1 : Nat)]) ∧ Hid (Bad t .nilIface w1 E w')) := by
        obtain ⟨o1, o2⟩ := (ownG_to hsz HO.out).at
        have o3 := HO.out.2
        have hlt : S + 2 < w1.heap.size := (HO.out.1.lt _ rfl).2
        rw [hsz] at o2
        have hf := HW.out.2.2.trans o3
        obtain ⟨q1, q2⟩ := other_of t ht2 mj (info % 24) hm0 hm7 hm6 (by omega) (by omega)
        refine run64_fails w1.heap.size (S + 2) (t + 1) 4 ea ua _ init t (t + 1 : Nat) _ w1 rfl ((HX.out.1.keep hf (fun _ _ => id)).grow (by omega)) ⟨by omega, by omega, o1, q2, o2⟩ hlt n0 n1 ?_
        intro W' hw' hs hsz'
        exact uint_other F _ (S + 2) (t + 1) 4 t mj (info % 24) ea ua _ W' (by rw [hw'.tape, hf.tape]; exact HX.out.2.2) hs q1 hsz'
      go_upto_region 20 with (go_at_call 7; refine HR.out.mono ?_; rintro e w2 ⟨E, rfl, HB⟩)
      clear HR
      have HA : Hid (Calls Ybaf.prog 6 #[.iface 23 (.pointer (some ⟨E, 0, none⟩)), .iface 33 (.pointer (some ⟨S, 0, none⟩))] w2 fun e w' => e = .returned (.bool true) ∧
          Hid (w'.cell? ⟨S, 0, none⟩ = some (.pointer (some ⟨E, 0, none⟩)) ∧ w'.cell? ⟨E, 0, none⟩ = some (.int .i64 t) ∧ w'.cell? ⟨E, 2, none⟩ = some .nilIface ∧ Fx (fun _ => False) W w')) := by
        obtain ⟨b1, ⟨msg, b2⟩, b3⟩ := HB.out
        have o3 := HO.out.2
        have hlt : S + 2 < w1.heap.size := (HO.out.1.lt _ rfl).2
        have hf := (HW.out.2.2.trans o3).trans b3
        refine (as_does E S w2 (hf.cell HX.out.2.1 id) (((o3.trans b3).block S (by omega) id).trans HW.out.1)).mono ?_
        rintro e w' ⟨rfl, HZ⟩
        have hz := HZ.out
        have hE : E ≠ S := by omega
        obtain ⟨q0, q2⟩ := ecell ((hz.2.block E (lt_heap b2) hE).trans b2)
        exact ⟨rfl, hz.1, q0, q2, Fx.cut ((hf.mono fun _ h => h.elim).trans (hz.2.mono fun i h => Or.inr (by omega)))⟩
      go_upto_region 22 with (go_at_call 6; refine HA.out.mono ?_; rintro e w3 ⟨rfl, HZ⟩)
      obtain ⟨z0, z1, z2, -⟩ := HZ.out
      go_wp2
      go_ret
      exact ⟨rfl, HZ.out.2.2.2⟩
end Go.Proofs.YbulkcufiFmt
