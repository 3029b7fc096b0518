/-
  The law's two branches.
-/
import Derived.Test.YbulkcufiFmtP
import Derived.Test.YbulkcufiFmtB
namespace Go.Proofs.YbulkcufiFmt
open Go.RowKit Go.Extern.Stop Go.Stop Go.Extern
attribute [local go_sem] alloc_drewN setCell_drewN

theorem Gl.grow {N M : Nat} {ea ua : Addr} {w : World} (h : Gl N ea ua w) (hNM : N ≤ M) : Gl M ea ua w := by
  obtain ⟨a, b, c, d, e, f, g, i⟩ := h
  exact ⟨a, b, c, by omega, by omega, f, g, by omega⟩

theorem as_does (E S : Nat) (w : World) (hg : w.cell? ⟨1, 0, none⟩ = some (.iface 75 (.agg #[.pointer (some ⟨7, 28, none⟩)]))) (hS : w.heap[S]? = some (.cells #[.pointer none] 23 (0, 0))) :
    Calls Ybaf.prog 6 #[.iface 23 (.pointer (some ⟨E, 0, none⟩)), .iface 33 (.pointer (some ⟨S, 0, none⟩))] w fun e w' => e = .returned (.bool true) ∧
      Hid (w'.cell? ⟨S, 0, none⟩ = some (.pointer (some ⟨E, 0, none⟩)) ∧ Fx (fun i => i = S) w w') := by
  refine (as_hit ⟨E, 0, none⟩ ⟨S, 0, none⟩ (.pointer none) w hg (by rw [cell_heap hS]; rfl) (frozen_heap hS 0)).mono ?_
  rintro e w' ⟨rfl, rfl⟩
  have hk := lt_heap hS
  refine ⟨rfl, ?_, ?_⟩
  · have h4 : ((((w.alloc (.cells #[.pointer (some ⟨S, 0, none⟩)] 33)).alloc (.cells #[.pointer (some ⟨7, 33, none⟩), .pointer (some ⟨w.heap.size, 0, none⟩), .int .u64 150] 52)).alloc (.cells #[.pointer (some ⟨7, 33, none⟩), .pointer (some ⟨w.heap.size, 0, none⟩), .int .u64 150] 52)).alloc (.cells #[.pointer (some ⟨E, 0, none⟩)] 23)).heap[S]? = some (.cells #[.pointer none] 23 (0, 0)) :=
      ((((((Fx.refl (fun _ => False) w).alloc _).alloc _).alloc _).alloc _).block S hk id).trans hS
    rw [cell_heap (heap_setCell_same _ S 0 _ _ (.pointer (some ⟨E, 0, none⟩)) h4)]
    rfl
  · repeat (first | with_reducible exact Fx.refl _ _ | with_reducible refine Fx.alloc ?_ _ | with_reducible refine Fx.setCell ?_ (by simp) _)

theorem ecell {w : World} {E : Nat} {off : Int} {msg err : Value} (h : w.heap[E]? = some (eObj off msg err)) : w.cell? ⟨E, 0, none⟩ = some (.int .i64 off) ∧ w.cell? ⟨E, 2, none⟩ = some err :=
  ⟨by rw [cell_heap h]; rfl, by rw [cell_heap h]; rfl⟩

set_option maxRecDepth 100000 in
set_option maxHeartbeats 4000000 in
theorem law_even (u width tags cut major info init : Int) (ea ua : Addr) (S : Nat) (W : World) (u0 : 0 ≤ u) (u1 : u < 18446744073709551616) (w0 : 0 ≤ width) (w1 : width < 256) (t0 : 0 ≤ tags) (t1 : tags < 256) (c0 : 0 ≤ cut) (c1 : cut < 256)
    (m0 : 0 ≤ major) (m1 : major < 256) (hM : major % 2 = 0) (hS : W.heap.size = S) (hG : Gl S ea ua W)
    (hg : W.cell? ⟨1, 0, none⟩ = some (.iface 75 (.agg #[.pointer (some ⟨7, 28, none⟩)]))) :
    Calls Ybaf.prog 3 #[.int .u64 u, .int .u8 width, .int .u8 tags, .int .u8 cut, .int .u8 major, .int .u8 info, .int .u64 init] W fun e W' => e = .returned (.bool true) ∧ Fx (fun _ => False) W W' := by
  have HX : Hid (Gl S ea ua W ∧ W.cell? ⟨1, 0, none⟩ = some (.iface 75 (.agg #[.pointer (some ⟨7, 28, none⟩)]))) := ⟨hG, hg⟩
  clear hG hg
  have HENC : Hid (Calls Ybaf.prog 4 #[.int .u64 u, .int .u8 width, .int .u8 tags] (W.alloc (.cells #[.pointer none] 23)) fun e w' => ∃ (t n : Nat) (dat : List Value) (x : Int), e = .returned (.tuple #[.slice (some ⟨S + 1, 0, none⟩) n 16, .int .u64 x]) ∧
      Hid (Enc t n dat ∧ dat.length = n ∧ (∀ j v, dat[j]? = some v → w'.cell? ⟨S + 1, j, none⟩ = some v) ∧ w'.heap[S]? = some (.cells #[.pointer none] 23 (0, 0)) ∧ Fx (fun _ => False) W w' ∧ S + 1 < w'.heap.size)) := by
    have hsz : (W.alloc (.cells #[.pointer none] 23)).heap.size = S + 1 := by rw [World.size_alloc, hS]
    refine (encode_does u width tags _ u0 u1 w0 w1 t0 t1).mono ?_
    rintro e w' ⟨t, n, dat, x, rfl, he, ho⟩
    obtain ⟨h1, h2⟩ := ho.at
    have h3 := ho.2
    have hlt : (W.alloc (.cells #[.pointer none] 23)).heap.size < w'.heap.size := (ho.1.lt _ rfl).2
    rw [hsz] at h2 hlt ⊢
    exact ⟨t, n, dat, x, rfl, he, h1, h2, (h3.block S (by omega) id).trans (heap_at _ _ _ hS.symm), ((Fx.refl _ W).alloc _).trans h3, hlt⟩
  obtain ⟨i16, h16⟩ : ∃ i16, IntKind.u16.wrap init = i16 := ⟨_, rfl⟩
  have i0 : 0 ≤ i16 ∧ i16 < 65536 := by rw [← h16, IntKind.wrap_u16]; omega
  have h64 : IntKind.u64.wrap i16 = i16 := by rw [IntKind.wrap_u64]; omega
  go_enter Ybaf.func3, Ybaf.ntmps3
  go_upto_region 4 with (go_at_call 4; refine HENC.out.mono ?_; rintro e w1 ⟨t, n, dat, x, rfl, HE⟩)
  have hn0 : ¬ (n = 0) := by have := HE.out.1.pos; omega
  obtain ⟨K, hK⟩ : ∃ K : Nat, cut % (n : Int) = (K : Int) := ⟨(cut % n).toNat, by have := Int.emod_nonneg cut (b := n) (by omega); omega⟩
  have hKn : K < n := by have := Int.emod_lt_of_pos cut (b := n) (by omega); omega
  have hn11 : n ≤ 11 := HE.out.1.small
  have HR : Hid (Calls Ybaf.prog 5 #[.slice (some ⟨S + 1, 0, none⟩) K 16, .int .u16 i16] w1 fun e w' => ∃ E, e = .returned (.tuple #[.int .u64 i16, .iface 23 (.pointer (some ⟨E, 0, none⟩)), .int .i64 K]) ∧ Hid (Bad K (.iface 111 (.pointer (some ua))) w1 E w')) := by
    obtain ⟨e1, e2, e3, e4, e5, e6⟩ := HE.out
    refine run16_fails w1.heap.size (S + 1) K 16 ea ua (dat.take K) i16 K K _ w1 rfl ((HX.out.1.keep e5 (fun _ _ => id)).grow (by omega)) ⟨by omega, by omega, by simp; omega, e1.by_.take K, fun j v hj => e3 j v ?_⟩ e6 i0.1 i0.2 ?_
    · rw [List.getElem?_take] at hj
      split at hj
      · exact hj
      · cases hj
    · intro W' _ hs hsz
      exact uint_cut _ (S + 1) K 16 t ea ua (dat.take K) W' hs (e1.cut K hKn) hsz
  clear HENC
  go_upto_region 7 with (go_at_call 5; refine HR.out.mono ?_; rintro e w2 ⟨E, rfl, HB⟩)
  clear HR
  have HA : Hid (Calls Ybaf.prog 6 #[.iface 23 (.pointer (some ⟨E, 0, none⟩)), .iface 33 (.pointer (some ⟨S, 0, none⟩))] w2 fun e w' => e = .returned (.bool true) ∧
      Hid (w'.cell? ⟨S, 0, none⟩ = some (.pointer (some ⟨E, 0, none⟩)) ∧ w'.cell? ⟨E, 0, none⟩ = some (.int .i64 K) ∧ w'.cell? ⟨E, 2, none⟩ = some (.iface 111 (.pointer (some ua))) ∧ w'.cell? ⟨0, 0, none⟩ = some (.iface 111 (.pointer (some ua))) ∧ Fx (fun _ => False) W w')) := by
    obtain ⟨e1, e2, e3, e4, e5, e6⟩ := HE.out
    obtain ⟨b1, ⟨msg, b2⟩, b3⟩ := HB.out
    have hf := e5.trans b3
    refine (as_does E S w2 (hf.cell HX.out.2 id) ((b3.block S (by omega) id).trans e4)).mono ?_
    rintro e w' ⟨rfl, HZ⟩
    have hz := HZ.out
    have h7 : 7 ≤ S := HX.out.1.2.2.2.2.2.2.2
    have hE : E ≠ S := by omega
    obtain ⟨q0, q2⟩ := ecell ((hz.2.block E (lt_heap b2) hE).trans b2)
    exact ⟨rfl, hz.1, q0, q2, hz.2.cell (hf.cell HX.out.1.2.1 id) (by show ¬ 0 = S; omega), Fx.cut ((hf.mono fun _ h => h.elim).trans (hz.2.mono fun i h => Or.inr (by omega)))⟩
  go_upto_region 9 with (go_at_call 6; refine HA.out.mono ?_; rintro e w3 ⟨rfl, HZ⟩)
  obtain ⟨z0, z1, z2, z3, -⟩ := HZ.out
  obtain ⟨ii, jj, hii, hcmp, hjj, -⟩ := eqlSame
  have heq := fun W => run_eql_iface_ptr_same (P := Ybaf.prog) W ua Ybaf.underlying28 Ybaf.underlying111 hii hcmp hjj
  go_quiet (fail)
  go_wp2
  go_ret
  exact ⟨rfl, HZ.out.2.2.2.2.drewN _⟩
end Go.Proofs.YbulkcufiFmt
