/-
  (*Decoder).Uint where the bytes end too soon, or where another major type stands.
-/
import Derived.Test.YbulkcufiFmtL
namespace Go.Proofs.YbulkcufiFmt
open Go.RowKit Go.Extern.Stop Go.Stop Go.Extern
attribute [local go_sem] alloc_drewN setCell_drewN

/-- A call failed: a new *cbor.Error stands at E, the decoder stands at at_. -/
structure Failed (N : Nat) (off at_ : Int) (err : Value) (w : World) (E : Nat) (w' : World) : Prop where
  new : w.heap.size ≤ E
  e : ∃ msg, w'.heap[E]? = some (eObj off msg err)
  d : w'.heap[N + 3]? = some (dObj N at_)
  fx : Fx (fun i => N ≤ i ∧ i ≤ N + 3) w w'

theorem Failed.after {N : Nat} {off at_ : Int} {err : Value} {w : World} {E : Nat} {w' w'' : World} (h : Failed N off at_ err w E w') (hf : Fx (fun _ => False) w' w'') : Failed N off at_ err w E w'' := by
  obtain ⟨msg, he⟩ := h.e
  exact ⟨h.new, ⟨msg, (hf.block _ (lt_heap he) id).trans he⟩, (hf.block _ (lt_heap h.d) id).trans h.d, h.fx.trans (hf.mono fun _ h => h.elim)⟩
theorem Failed.before {N : Nat} {off at_ : Int} {err : Value} {w0 w : World} {E : Nat} {w' : World} (hf : Fx (fun _ => False) w0 w) (h : Failed N off at_ err w E w') : Failed N off at_ err w0 E w' :=
  ⟨Nat.le_trans hf.size h.new, h.e, h.d, (hf.mono fun _ h => h.elim).trans h.fx⟩

/-- The decoder before its first byte. -/
structure St0 (N b k cap : Nat) (ea ua : Addr) (dat : List Value) (w : World) : Prop where
  rs : Rs N b k cap dat 0 w
  gl : Gl N ea ua w
  d : w.heap[N + 3]? = some (dObj N 0)
  kc : k ≤ cap
  k4 : k < 4096
  len : dat.length = k
  by_ : Bytes dat
  cells : ∀ j v, dat[j]? = some v → w.cell? ⟨b, j, none⟩ = some v
  bN : b < N
theorem St0.keep {N b k cap : Nat} {ea ua : Addr} {dat : List Value} {w w' : World} (h : St0 N b k cap ea ua dat w) (hf : Fx (fun _ => False) w w') : St0 N b k cap ea ua dat w' :=
  ⟨h.rs.keep hf id id id, h.gl.keep hf (fun _ _ => id), (hf.block _ (lt_heap h.d) id).trans h.d, h.kc, h.k4, h.len, h.by_, fun j v e => hf.cell (h.cells j v e) id, h.bN⟩

/-- Cut short: at most two tags, then the head of an unsigned integer that has not all its bytes. -/
structure CutAt (k : Nat) (dat : List Value) (t : Nat) : Prop where
  t2 : t ≤ 2
  tag : ∀ j, j < min t k → dat[j]? = some (.int .u8 (192 + j))
  head : t < k → ∃ i : Nat, i < 4 ∧ dat[t]? = some (.int .u8 (24 + i)) ∧ k < t + 1 + 2 ^ i

/-- Another major type behind the tags. -/
structure OtherAt (k : Nat) (dat : List Value) (t : Nat) (mj info : Int) : Prop where
  t2 : t ≤ 2
  kt : k = t + 1
  tag : ∀ j, j < t → dat[j]? = some (.int .u8 (192 + j))
  head : dat[t]? = some (.int .u8 (mj * 32 + info))
  m0 : 0 < mj
  m7 : mj ≤ 7
  m6 : mj ≠ 6
  i0 : 0 ≤ info
  i1 : info < 24

set_option maxRecDepth 100000 in
set_option maxHeartbeats 1000000 in
theorem uint_cut (N b k cap t : Nat) (ea ua : Addr) (dat : List Value) (w : World) (hS : St0 N b k cap ea ua dat w) (hC : CutAt k dat t) (hsz : N + 4 ≤ w.heap.size) :
    Calls Ybaf.prog 17 #[.pointer (some ⟨N + 3, 0, none⟩)] w fun e w' => ∃ E, e = .returned (.tuple #[.int .u64 0, .iface 23 (.pointer (some ⟨E, 0, none⟩))]) ∧ Hid (Failed N k k (.iface 111 (.pointer (some ua))) w E w') := by
  have HC : Hid (Calls Ybaf.prog 23 #[.pointer (some ⟨N + 3, 0, none⟩)] w fun e w' => ∃ E, ∃ x0 x1 x2 x3 : Int, e = .returned (.tuple #[.agg #[.int .i64 x0, .int .u8 x1, .int .u8 x2, .int .u64 x3], .iface 23 (.pointer (some ⟨E, 0, none⟩))]) ∧
      Hid (Failed N k k (.iface 111 (.pointer (some ua))) w E w')) := by
    refine (readHead_cut N b k cap t _ ea ua dat w hS.rs hS.gl hS.d hS.kc hS.k4 hS.len hS.by_ hS.cells hS.bN hC.t2 rfl hC.tag hC.head hsz).mono ?_
    rintro e w' ⟨E, msg, x0, x1, x2, x3, rfl, h1, h2, h3, h4⟩
    exact ⟨E, x0, x1, x2, x3, rfl, ⟨h1, ⟨msg, h2⟩, h3, h4⟩⟩
  clear hS hC hsz
  go_enter Ybaf.func17, Ybaf.ntmps17
  go_wp2_with (go_at_call 23; refine HC.out.mono ?_; rintro e w1 ⟨E, x0, x1, x2, x3, rfl, HE⟩)
  go_ret2
  refine ⟨E, rfl, HE.out.after ?_⟩
  repeat (first | with_reducible exact Fx.refl _ _ | with_reducible refine Fx.drewN ?_ _ | with_reducible refine Fx.drew ?_ | with_reducible refine Fx.alloc ?_ _)

set_option maxRecDepth 100000 in
set_option maxHeartbeats 1000000 in
theorem uint_other (F : Interp) (N b k cap t : Nat) (mj info : Int) (ea ua : Addr) (dat : List Value) (w : World) (hF : F.answers w.tape) (hS : St0 N b k cap ea ua dat w) (hC : OtherAt k dat t mj info) (hsz : N + 4 ≤ w.heap.size) :
    Calls Ybaf.prog 17 #[.pointer (some ⟨N + 3, 0, none⟩)] w fun e w' => ∃ E, e = .returned (.tuple #[.int .u64 0, .iface 23 (.pointer (some ⟨E, 0, none⟩))]) ∧ Hid (Failed N t (t + 1 : Nat) .nilIface w E w') := by
  have HC : Hid (Calls Ybaf.prog 23 #[.pointer (some ⟨N + 3, 0, none⟩)] w fun e w' => e = .returned (.tuple #[.agg #[.int .i64 t, .int .u8 mj, .int .u8 info, .int .u64 info], .nilIface]) ∧
      Hid (F.answers w'.tape ∧ w'.heap[N + 3]? = some (dObj N (t + 1 : Nat)) ∧ Fx (fun i => N ≤ i ∧ i ≤ N + 3) w w')) := by
    refine (readHead_other N b k cap t mj info ea ua dat w hS.rs hS.gl hS.d hS.kc hS.k4 hS.len hS.by_ hS.cells hS.bN hC.t2 hC.kt hC.tag hC.head (by have := hC.m0; omega) hC.m7 hC.m6 hC.i0 hC.i1 hsz).mono ?_
    rintro e w' ⟨rfl, h1, h2⟩
    exact ⟨rfl, by rw [h2.tape]; exact hF, h1, h2⟩
  have hm : ¬ (mj = 0) := by have := hC.m0; omega
  clear hS hC hsz hF
  go_enter Ybaf.func17, Ybaf.ntmps17
  go_wp2_with (go_at_call 23; refine HC.out.mono ?_; rintro e w1 ⟨rfl, HE⟩)
  go_region_with (first | (go_at_call 25; refine (describeMajor_does _ _).mono ?_; rintro e w2 ⟨⟨s2, rfl⟩, rfl⟩) | (go_at_call 24; refine (mismatch_does F N _ _ _ _ _ _ (by exact HE.out.1)).mono ?_; rintro e w3 ⟨E, msg, rfl, h1, h2, h3⟩))
  all_goals go_wp2
  all_goals go_ret2
  all_goals
    refine ⟨E, rfl, ?_⟩
    have hd := HE.out.2.1
    have hf := HE.out.2.2
    have ha : Fx (fun _ => False) w1 w3 := Fx.trans (by repeat (first | with_reducible exact Fx.refl _ _ | with_reducible refine Fx.drewN ?_ _ | with_reducible refine Fx.drew ?_ | with_reducible refine Fx.alloc ?_ _)) h3
    have hE : w1.heap.size ≤ E := by
      have h1' : (w1.alloc _).heap.size ≤ E := h1
      rw [World.size_alloc] at h1'
      omega
    refine Failed.after (w' := w3) ⟨Nat.le_trans hf.size hE, ⟨msg, h2⟩, (ha.block _ (lt_heap hd) id).trans hd, hf.trans (ha.mono fun _ h => h.elim)⟩ ?_
    repeat (first | with_reducible exact Fx.refl _ _ | with_reducible refine Fx.drewN ?_ _ | with_reducible refine Fx.drew ?_ | with_reducible refine Fx.alloc ?_ _)
end Go.Proofs.YbulkcufiFmt
