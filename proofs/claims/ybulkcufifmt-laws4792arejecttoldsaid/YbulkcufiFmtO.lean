/-
  The law's own run of the decoder, where Uint fails: the target is untouched.
-/
import Derived.Test.YbulkcufiFmtN
namespace Go.Proofs.YbulkcufiFmt
open Go.RowKit Go.Extern.Stop Go.Stop Go.Extern
attribute [local go_sem] alloc_drewN setCell_drewN

/-- What the run asks of the bytes. -/
structure Dat (b k cap : Nat) (dat : List Value) (w : World) : Prop where
  kc : k ≤ cap
  k4 : k < 4096
  len : dat.length = k
  by_ : Bytes dat
  cells : ∀ j v, dat[j]? = some v → w.cell? ⟨b, j, none⟩ = some v

/-- The run's failure: a new *cbor.Error at E; nothing old has turned. -/
structure Bad (off : Int) (err : Value) (w : World) (E : Nat) (w' : World) : Prop where
  new : w.heap.size ≤ E
  e : ∃ msg, w'.heap[E]? = some (eObj off msg err)
  fx : Fx (fun _ => False) w w'


set_option maxRecDepth 100000 in
set_option maxHeartbeats 1000000 in
theorem run16_fails (N b k cap : Nat) (ea ua : Addr) (dat : List Value) (init off at_ : Int) (err : Value) (w : World) (hN : w.heap.size = N) (hG : Gl N ea ua w) (hB : Dat b k cap dat w) (hb : b < N) (hi0 : 0 ≤ init) (hi1 : init < 65536)
    (HU : Hid (∀ W, Fx (fun _ => False) w W → St0 N b k cap ea ua dat W → N + 4 ≤ W.heap.size → Calls Ybaf.prog 17 #[.pointer (some ⟨N + 3, 0, none⟩)] W fun e w' => ∃ E, e = .returned (.tuple #[.int .u64 0, .iface 23 (.pointer (some ⟨E, 0, none⟩))]) ∧ Hid (Failed N off at_ err W E w'))) :
    Calls Ybaf.prog 5 #[.slice (some ⟨b, 0, none⟩) k cap, .int .u16 init] w fun e w' => ∃ E, e = .returned (.tuple #[.int .u64 init, .iface 23 (.pointer (some ⟨E, 0, none⟩)), .int .i64 at_]) ∧ Hid (Bad off err w E w') := by
  have HX : Hid (Gl N ea ua w ∧ Dat b k cap dat w ∧ b < N) := ⟨hG, hB, hb⟩
  have HN : Hid (Calls Ybaf.prog 8 #[.iface 43 (.pointer (some ⟨N, 0, none⟩))] (w.alloc (aObj (some ⟨b, 0, none⟩) k cap 0)) fun e w' => e = .returned (.pointer (some ⟨N + 3, 0, none⟩)) ∧ ∃ hsz : w'.heap.size = N + 4,
      Hid (Fx (fun _ => False) w w' ∧ St0 N b k cap ea ua dat w')) := by
    refine (newDecoder_does N _ (by rw [World.size_alloc]; omega)).mono ?_
    rintro e w' ⟨rfl, h1, ⟨zs, hz, h2⟩, h3, h4, h5⟩
    have hf : Fx (fun _ => False) w w' := Fx.trans ((Fx.refl _ w).alloc _) h5
    refine ⟨rfl, h4, hf, ⟨⟨_, _, zs, hz, h2, Or.inl ⟨rfl, (h5.block N (by rw [World.size_alloc]; omega) id).trans (heap_at _ _ _ hN.symm), h1⟩⟩, hG.keep hf (fun _ _ => id), h3, hB.kc, hB.k4, hB.len, hB.by_, fun j v e => hf.cell (hB.cells j v e) id, hb⟩⟩
  clear hG hB hb
  go_enter Ybaf.func5, Ybaf.ntmps5
  go_upto_region 3 with (go_at_call 8; refine HN.out.mono ?_; rintro e w1 ⟨rfl, hsz, HS⟩)
  have HD : Hid (Calls Ybaf.prog 9 #[.pointer (some ⟨N + 3, 0, none⟩), .pointer (some ⟨N + 4, 0, none⟩)] (w1.alloc (.cells #[.int .u16 init] 31)) fun e w' => ∃ E, e = .returned (.iface 23 (.pointer (some ⟨E, 0, none⟩))) ∧
      Hid (w'.cell? ⟨N + 4, 0, none⟩ = some (.int .u16 init) ∧ w'.heap[N + 3]? = some (dObj N at_) ∧ Bad off err w E w')) := by
    have hs := HS.out.2.keep ((Fx.refl _ w1).alloc (.cells #[.int .u16 init] 31))
    have hf := HS.out.1.alloc (.cells #[.int .u16 init] 31)
    refine (dec16_fail N off at_ err _ _ hs.d (HU.out _ hf hs (by rw [World.size_alloc]; omega))).mono ?_
    rintro e w' ⟨E, rfl, HE⟩
    have hc : (w1.alloc (.cells #[.int .u16 init] 31)).heap[N + 4]? = some (.cells #[.int .u16 init] 31 (0, 0)) := heap_at _ _ _ hsz.symm
    have h := HE.out
    have hle : N + 4 < E := Nat.lt_of_lt_of_le (lt_heap hc) h.new
    refine ⟨E, rfl, ?_, h.d, by omega, h.e, ?_⟩
    · have := (h.fx.block (N + 4) (lt_heap hc) (by omega)).trans hc
      rw [cell_heap this]
      rfl
    · exact Fx.cut (Fx.trans (hf.mono fun _ h => h.elim) (h.fx.mono fun i hi => Or.inr (by omega)))
  go_upto_region 4 with (go_at_call 9; refine HD.out.mono ?_; rintro e w2 ⟨E, rfl, HE⟩)
  have hv := HE.out.1
  have hwr : IntKind.u64.wrap init = init := by rw [IntKind.wrap_u64]; omega
  go_quiet ((go_at_call 10; refine Calls.quiet_of_same (offset_does N at_ _ (by exact HE.out.2.1))))
  go_wp2
  refine bodyPost_ret (by simp [results, Ybaf.results5, go_sem]; try rfl) rfl ?_
  have hb := HE.out.2.2
  obtain ⟨msg, he⟩ := hb.e
  exact ⟨E, rfl, hb.new, ⟨msg, he⟩, hb.fx.drewN _⟩

set_option maxRecDepth 100000 in
set_option maxHeartbeats 1000000 in
theorem run64_fails (N b k cap : Nat) (ea ua : Addr) (dat : List Value) (init off at_ : Int) (err : Value) (w : World) (hN : w.heap.size = N) (hG : Gl N ea ua w) (hB : Dat b k cap dat w) (hb : b < N) (hi0 : 0 ≤ init) (hi1 : init < 18446744073709551616)
    (HU : Hid (∀ W, Fx (fun _ => False) w W → St0 N b k cap ea ua dat W → N + 4 ≤ W.heap.size → Calls Ybaf.prog 17 #[.pointer (some ⟨N + 3, 0, none⟩)] W fun e w' => ∃ E, e = .returned (.tuple #[.int .u64 0, .iface 23 (.pointer (some ⟨E, 0, none⟩))]) ∧ Hid (Failed N off at_ err W E w'))) :
    Calls Ybaf.prog 7 #[.slice (some ⟨b, 0, none⟩) k cap, .int .u64 init] w fun e w' => ∃ E, e = .returned (.tuple #[.int .u64 init, .iface 23 (.pointer (some ⟨E, 0, none⟩)), .int .i64 at_]) ∧ Hid (Bad off err w E w') := by
  have HX : Hid (Gl N ea ua w ∧ Dat b k cap dat w ∧ b < N) := ⟨hG, hB, hb⟩
  have HN : Hid (Calls Ybaf.prog 8 #[.iface 43 (.pointer (some ⟨N, 0, none⟩))] (w.alloc (aObj (some ⟨b, 0, none⟩) k cap 0)) fun e w' => e = .returned (.pointer (some ⟨N + 3, 0, none⟩)) ∧ ∃ hsz : w'.heap.size = N + 4,
      Hid (Fx (fun _ => False) w w' ∧ St0 N b k cap ea ua dat w')) := by
    refine (newDecoder_does N _ (by rw [World.size_alloc]; omega)).mono ?_
    rintro e w' ⟨rfl, h1, ⟨zs, hz, h2⟩, h3, h4, h5⟩
    have hf : Fx (fun _ => False) w w' := Fx.trans ((Fx.refl _ w).alloc _) h5
    refine ⟨rfl, h4, hf, ⟨⟨_, _, zs, hz, h2, Or.inl ⟨rfl, (h5.block N (by rw [World.size_alloc]; omega) id).trans (heap_at _ _ _ hN.symm), h1⟩⟩, hG.keep hf (fun _ _ => id), h3, hB.kc, hB.k4, hB.len, hB.by_, fun j v e => hf.cell (hB.cells j v e) id, hb⟩⟩
  clear hG hB hb
  go_enter Ybaf.func7, Ybaf.ntmps7
  go_upto_region 3 with (go_at_call 8; refine HN.out.mono ?_; rintro e w1 ⟨rfl, hsz, HS⟩)
  have HD : Hid (Calls Ybaf.prog 15 #[.pointer (some ⟨N + 3, 0, none⟩), .pointer (some ⟨N + 4, 0, none⟩)] (w1.alloc (.cells #[.int .u64 init] 22)) fun e w' => ∃ E, e = .returned (.iface 23 (.pointer (some ⟨E, 0, none⟩))) ∧
      Hid (w'.cell? ⟨N + 4, 0, none⟩ = some (.int .u64 init) ∧ w'.heap[N + 3]? = some (dObj N at_) ∧ Bad off err w E w')) := by
    have hs := HS.out.2.keep ((Fx.refl _ w1).alloc (.cells #[.int .u64 init] 22))
    have hf := HS.out.1.alloc (.cells #[.int .u64 init] 22)
    refine (dec64_fail N off at_ err _ _ hs.d (HU.out _ hf hs (by rw [World.size_alloc]; omega))).mono ?_
    rintro e w' ⟨E, rfl, HE⟩
    have hc : (w1.alloc (.cells #[.int .u64 init] 22)).heap[N + 4]? = some (.cells #[.int .u64 init] 22 (0, 0)) := heap_at _ _ _ hsz.symm
    have h := HE.out
    have hle : N + 4 < E := Nat.lt_of_lt_of_le (lt_heap hc) h.new
    refine ⟨E, rfl, ?_, h.d, by omega, h.e, ?_⟩
    · have := (h.fx.block (N + 4) (lt_heap hc) (by omega)).trans hc
      rw [cell_heap this]
      rfl
    · exact Fx.cut (Fx.trans (hf.mono fun _ h => h.elim) (h.fx.mono fun i hi => Or.inr (by omega)))
  go_upto_region 4 with (go_at_call 15; refine HD.out.mono ?_; rintro e w2 ⟨E, rfl, HE⟩)
  have hv := HE.out.1
  have hwr : IntKind.u64.wrap init = init := by rw [IntKind.wrap_u64]; omega
  go_quiet ((go_at_call 10; refine Calls.quiet_of_same (offset_does N at_ _ (by exact HE.out.2.1))))
  go_wp2
  refine bodyPost_ret (by simp [results, Ybaf.results7, go_sem]; try rfl) rfl ?_
  have hb := HE.out.2.2
  obtain ⟨msg, he⟩ := hb.e
  exact ⟨E, rfl, hb.new, ⟨msg, he⟩, hb.fx.drewN _⟩
end Go.Proofs.YbulkcufiFmt
