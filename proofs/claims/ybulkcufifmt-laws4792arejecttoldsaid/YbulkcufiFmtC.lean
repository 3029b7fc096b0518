/-
  THE FRAME of the reader's road, and the law's own reader: (*ard).Read.
-/
import Derived.Test.YbulkcufiFmtRows
import Derived.WalkKit
import Derived.WalkSpells
import Derived.WalkLawsBesides
import Derived.StillTactics
import Derived.Laws.Pointers
import Derived.RegionTactic
import Derived.Deep.QuietTactic
import Derived.BigQuiet
import Derived.Deep.RegionHeld3
import Derived.RowKit3
import Derived.Laws.CopyOwn
import Derived.Laws.Rows
namespace Go.Proofs.YbulkcufiFmt
open Go.RowKit

/-- Blocks outside S are as they were; none has gone. -/
structure Fx (S : Nat → Prop) (w w' : World) : Prop where
  os : w'.os = w.os
  tape : w'.tape = w.tape
  output : w'.output = w.output
  size : w.heap.size ≤ w'.heap.size
  block : ∀ k, k < w.heap.size → ¬ S k → w'.heap[k]? = w.heap[k]?

theorem Fx.refl (S : Nat → Prop) (w : World) : Fx S w w := ⟨rfl, rfl, rfl, Nat.le_refl _, fun _ _ _ => rfl⟩
theorem Fx.trans {S : Nat → Prop} {a b c : World} (h : Fx S a b) (k : Fx S b c) : Fx S a c :=
  ⟨k.os.trans h.os, k.tape.trans h.tape, k.output.trans h.output, Nat.le_trans h.size k.size, fun i hi hs => (k.block i (Nat.lt_of_lt_of_le hi h.size) hs).trans (h.block i hi hs)⟩
theorem Fx.mono {S T : Nat → Prop} {w w' : World} (h : Fx S w w') (hst : ∀ k, S k → T k) : Fx T w w' :=
  ⟨h.os, h.tape, h.output, h.size, fun k hk hs => h.block k hk (fun hh => hs (hst k hh))⟩
theorem Fx.drewN {S : Nat → Prop} {a w : World} (h : Fx S a w) (n : Nat) : Fx S a (w.drewN n) := ⟨h.os, h.tape, h.output, h.size, h.block⟩
theorem Fx.drew {S : Nat → Prop} {a w : World} (h : Fx S a w) : Fx S a w.drew := ⟨h.os, h.tape, h.output, h.size, h.block⟩
theorem Fx.alloc {S : Nat → Prop} {a w : World} (h : Fx S a w) (o : Obj) : Fx S a (w.alloc o) :=
  h.trans ⟨rfl, rfl, rfl, by simp, fun k hk _ => Below.heap_alloc _ _ _ hk⟩
theorem Fx.setCell {S : Nat → Prop} {a w : World} (h : Fx S a w) {p : Addr} (hp : S p.block) (u : Value) : Fx S a (w.setCell p u) :=
  h.trans ⟨rfl, rfl, rfl, by simp [World.setCell], fun k _ hs => Below.heap_setCell _ _ _ _ (fun e => hs (e ▸ hp))⟩
theorem Fx.setRow {S : Nat → Prop} {a w : World} (h : Fx S a w) {g : Nat} (hp : S g) (cs : Array Value) : Fx S a (w.setRow g cs) :=
  h.trans ⟨rfl, rfl, rfl, by simp, fun k _ hs => setRow_other w g k cs (fun e => hs (e ▸ hp))⟩
theorem Fx.below {S : Nat → Prop} {w w' : World} (h : Fx S w w') {B : Nat} (hB : B ≤ w.heap.size) (hS : ∀ k, k < B → ¬ S k) : Below B w w' :=
  ⟨h.os, h.tape, h.output, h.size, fun k hk => h.block k (by omega) (hS k hk)⟩
theorem Fx.cell {S : Nat → Prop} {w w' : World} (h : Fx S w w') {p : Addr} {v : Value} (hp : w.cell? p = some v) (hs : ¬ S p.block) : w'.cell? p = some v :=
  (World.cell?_of_block (w := w) (h.block p.block (block_lt_of_cell hp) hs)).trans hp

theorem cell_heap {w : World} {b : Nat} {cs : Array Value} {t : TypeId} {fz : Nat × Nat} (h : w.heap[b]? = some (.cells cs t fz)) (i : Nat) : w.cell? ⟨b, i, none⟩ = cs[i]? := by
  simp [World.cell?, h]
theorem frozen_heap {w : World} {b : Nat} {cs : Array Value} {t : TypeId} (h : w.heap[b]? = some (.cells cs t (0, 0))) (i : Nat) : w.frozen? ⟨b, i, none⟩ = false :=
  frozen_of_row w b i cs t h
theorem lt_heap {w : World} {b : Nat} {o : Obj} (h : w.heap[b]? = some o) : b < w.heap.size := (Array.getElem?_eq_some_iff.1 h).1

theorem info5 : (Ybaf.prog.info? 5).map (·.size) = some 1 := by kernel_rfl

/-- copy within a region that draws its order, the world behind it said by a frame on the one block. -/
theorem step_copy_fx {P : Program} {ops : Array Oper} {o : Oper} {a : Act} {w : World} {K : Act → World → Prop} {Q : Exit → Act → World → Prop} {E : Prop} (hgd : o.guard = none) (d s : Operand) (dT sT : TypeId)
    (ho : o.op = .call { callee := .builtin .copy, args := #[d, s], argTypes := #[dT, sT] }) (elem : TypeId) (hu : P.underlying dT = some (.slice elem)) (hsz : (P.info? elem).map (·.size) = some 1)
    (dp sp : Option Addr) (dLen dCap sLen sCap : Nat) (hd : a.eval d = .slice dp dLen dCap) (hs : a.eval s = .slice sp sLen sCap)
    (g off : Nat) (cur : List Value) (t : TypeId) (hg : w.heap[g]? = some (.cells cur.toArray t (0, 0))) (cs : List Value) (hn : cs.length = Nat.min sLen dLen)
    (hpos : 0 < cs.length → dp = some ⟨g, off, none⟩ ∧ ∃ ad, sp = some ad ∧ ∀ j v, cs[j]? = some v → w.cell? (ad.add j) = some v)
    (hfit : off + cs.length ≤ cur.length) (h1 : ∀ v ∈ cs, v.oneCell' = true)
    (h : ∀ w', Hid (w'.heap[g]? = some (.cells (splice cur off cs).toArray t (0, 0))) → Hid (Fx (· = g) w w') → K (a.put o.dst (goInt cs.length)) w') :
    if Region.wanted o (yielded ops a.tmps) = true then Oper.wp P o a w K Q else E := by
  have hw : Region.wanted o (yielded ops a.tmps) = true := by simp [Region.wanted, hgd]
  rw [if_pos hw]
  by_cases h0 : cs.length = 0
  · obtain rfl : cs = [] := List.eq_nil_of_length_eq_zero h0
    have hrun := run_copy_none (P := P) w dT sT o.type elem dp sp dLen dCap sLen sCap hu hsz (by simpa using hn.symm)
    unfold Oper.wp
    simp [execOp, ho, resolve, invoke, builtin, hd, hs, hrun, Result.andThen]
    exact h w (show _ = _ by simpa [splice] using hg) (Fx.refl _ _)
  · obtain ⟨rfl, ad, rfl, hsrc⟩ := hpos (by omega)
    have hrun := run_copy_row (P := P) w dT sT o.type elem g off dLen dCap ad sLen sCap cur.toArray t cs hu hsz hg hn hsrc (by simpa using hfit) h1
    unfold Oper.wp
    simp [execOp, ho, resolve, invoke, builtin, hd, hs, hrun, Result.andThen]
    exact h _ (show _ = _ by simpa [splice] using setRow_heap w g _ _ t _ hg) (show Fx _ _ _ from (Fx.refl (· = g) w).setRow (S := (· = g)) rfl _)

theorem step_copy_none {P : Program} {ops : Array Oper} {o : Oper} {a : Act} {w : World} {K : Act → World → Prop} {Q : Exit → Act → World → Prop} {E : Prop} (hgd : o.guard = none) (d s : Operand) (dT sT : TypeId)
    (ho : o.op = .call { callee := .builtin .copy, args := #[d, s], argTypes := #[dT, sT] }) (elem : TypeId) (hu : P.underlying dT = some (.slice elem)) (hsz : (P.info? elem).map (·.size) = some 1)
    (dp sp : Option Addr) (dLen dCap sLen sCap : Nat) (hd : a.eval d = .slice dp dLen dCap) (hs : a.eval s = .slice sp sLen sCap) (hn : Nat.min sLen dLen = 0)
    (h : K (a.put o.dst (goInt 0)) w) :
    if Region.wanted o (yielded ops a.tmps) = true then Oper.wp P o a w K Q else E := by
  have hw : Region.wanted o (yielded ops a.tmps) = true := by simp [Region.wanted, hgd]
  rw [if_pos hw]
  have hrun := run_copy_none (P := P) w dT sT o.type elem dp sp dLen dCap sLen sCap hu hsz hn
  unfold Oper.wp
  simp [execOp, ho, resolve, invoke, builtin, hd, hs, hrun, Result.andThen]
  exact h

/-- (*ard).Read at the end of its bytes. -/
theorem ardRead_eof (N k cap : Nat) (pb : Option Addr) (p E : Value) (w : World) (hA : w.heap[N]? = some (.cells #[.slice pb k cap, .int .i64 k] 45 (0, 0)))
    (hE : w.cell? ⟨3, 0, none⟩ = some E) :
    Calls Ybaf.prog 61 #[.pointer (some ⟨N, 0, none⟩), p] w fun e w' => e = .returned (.tuple #[.int .i64 0, E]) ∧ ∃ n, w' = w.drewN n := by
  have a0 := cell_heap hA 0
  have a1 := cell_heap hA 1
  simp at a0 a1
  clear hA
  go_enter Ybaf.func61, Ybaf.ntmps61
  go_wp2
  go_quiet (fail)
  go_wp2
  go_quiet (fail)
  go_wp2
  go_ret2
  exact ⟨rfl, _, by simp only [World.drewN_drewN]; rfl⟩

/-- (*ard).Read of fresh bytes, into a row that takes them all. -/
theorem ardRead_more (N U b k cap L : Nat) (dat cur : List Value) (w : World) (hA : w.heap[N]? = some (.cells #[.slice (some ⟨b, 0, none⟩) k cap, .int .i64 0] 45 (0, 0)))
    (hU : w.heap[U]? = some (.cells cur.toArray 5 (0, 0))) (hL : cur.length = L) (hk0 : 0 < k) (hkc : k ≤ cap) (hk : k ≤ L) (hL0 : L < 2 ^ 62) (hd : dat.length = k) (h1 : ∀ v ∈ dat, v.oneCell' = true)
    (hB : ∀ j v, dat[j]? = some v → w.cell? ⟨b, j, none⟩ = some v) (hUN : U ≠ N) :
    Calls Ybaf.prog 61 #[.pointer (some ⟨N, 0, none⟩), .slice (some ⟨U, 0, none⟩) L L] w fun e w' => e = .returned (.tuple #[.int .i64 k, .nilIface]) ∧
      w'.heap[N]? = some (.cells #[.slice (some ⟨b, 0, none⟩) k cap, .int .i64 k] 45 (0, 0)) ∧ w'.heap[U]? = some (.cells (splice cur 0 dat).toArray 5 (0, 0)) ∧ Fx (fun i => i = N ∨ i = U) w w' := by
  have a0 := cell_heap hA 0
  have a1 := cell_heap hA 1
  simp at a0 a1
  have hne : ¬ ((0 : Int) ≥ (k : Int)) := by omega
  go_enter Ybaf.func61, Ybaf.ntmps61
  go_wp2
  go_quiet (fail)
  go_wp2
  have HK : Hid (0 < k ∧ k ≤ cap ∧ k ≤ L ∧ L < 2 ^ 62 ∧ dat.length = k) := ⟨hk0, hkc, hk, hL0, hd⟩
  have HA : Hid _ := hA
  have HU : Hid _ := hU
  have HB : Hid _ := hB
  have H1 : Hid _ := h1
  clear hA hU hB h1
  have hck : 0 < cap := by omega
  go_region_law (refine step_copy_fx rfl (.tmp 18) (.tmp 27) 24 24 rfl 5 Ybaf.underlying24 info5 (some ⟨U, 0, none⟩) (some ⟨b, 0, none⟩) L L k cap rfl rfl U 0 cur 5 HU.out dat (by have := HK.out; show dat.length = min k L; omega) (fun _ => ⟨rfl, _, rfl, fun j v hj => by rw [Go.WideShapes.add_plain]; simpa using HB.out j v hj⟩) (by have := HK.out; omega) H1.out ?_; intro w1 hg1 hf1)
  all_goals
    have HN1 : Hid _ := (hf1.out.block N (lt_heap HA.out) (fun e => hUN e.symm)).trans HA.out
    have b1 : w1.cell? ⟨N, 1, none⟩ = some (.int .i64 0) := by rw [cell_heap HN1.out]; rfl
    have f1 : w1.frozen? ⟨N, 1, none⟩ = false := frozen_heap HN1.out 1
    go_wp2
    go_ret2
    refine ⟨rfl, ?_, ?_, ?_⟩
    · simpa using heap_setCell_same w1 N 1 _ _ (.int .i64 k) HN1.out
    · exact (heap_setCell_other w1 _ U _ hUN).trans hg1.out
    · refine Fx.setCell ?_ (Or.inl rfl) _
      exact ((Fx.refl _ w).drewN _).trans (hf1.out.mono fun k h => Or.inr h)
end Go.Proofs.YbulkcufiFmt
