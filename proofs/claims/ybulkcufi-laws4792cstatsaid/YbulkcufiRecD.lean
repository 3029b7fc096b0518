/-
  zzs4792cbuild, by its contract.
-/
import Derived.Test.YbulkcufiRecC
namespace Go.Proofs.Ybulkcufi.Rec
open Go.RowKit

theorem info74 : (Yba.prog.info? 74).map (fun i => (i.zero, i.size, i.bytes)) = some (some (.agg #[.int .i64 0, .nilFunc, .nilFunc]), 3, 24) := by kernel_rfl

/-- The closure of field i: the boxes of log, idx, rec, same. -/
def clo (B x : Nat) : Value := .func (.func 19) #[] #[.pointer (some ⟨B + 1, 0, none⟩), .pointer (some ⟨x, 0, none⟩), .pointer (some ⟨B, 0, none⟩), .pointer (some ⟨B + 2, 0, none⟩)]

/-- The cells of the first k fields. -/
def flds (mod : Nat) (ks : List Int) (B : Nat) (ix : Nat → Nat) : Nat → List Value
  | 0 => []
  | k + 1 => flds mod ks B ix k ++ [.int .i64 (ks.getD k 0 % mod), clo B (ix k), .nilFunc]

theorem flds_len (mod : Nat) (ks : List Int) (B : Nat) (ix : Nat → Nat) : ∀ k, (flds mod ks B ix k).length = k * 3
  | 0 => rfl
  | k + 1 => by simp only [flds, List.length_append, flds_len mod ks B ix k, List.length_cons, List.length_nil]; omega
theorem flds_congr (mod : Nat) (ks : List Int) (B : Nat) (ix iy : Nat → Nat) : ∀ k, (∀ i, i < k → ix i = iy i) → flds mod ks B ix k = flds mod ks B iy k
  | 0, _ => rfl
  | k + 1, h => by
    simp only [flds]
    rw [flds_congr mod ks B ix iy k (fun i hi => h i (by omega)), h k (by omega)]
theorem flds_get (mod : Nat) (ks : List Int) (B : Nat) (ix : Nat → Nat) : ∀ k i, i < k → (flds mod ks B ix k)[i * 3]? = some (.int .i64 (ks.getD i 0 % mod)) ∧ (flds mod ks B ix k)[i * 3 + 1]? = some (clo B (ix i)) ∧ (flds mod ks B ix k)[i * 3 + 2]? = some .nilFunc
  | 0, i, h => by omega
  | k + 1, i, h => by
    have hl := flds_len mod ks B ix k
    by_cases hi : i < k
    · have ih := flds_get mod ks B ix k i hi
      simp only [flds]
      rw [List.getElem?_append_left (by omega), List.getElem?_append_left (by omega), List.getElem?_append_left (by omega)]
      exact ih
    · obtain rfl : i = k := by omega
      simp only [flds]
      rw [List.getElem?_append_right (by omega), List.getElem?_append_right (by omega), List.getElem?_append_right (by omega), hl]
      have e0 : i * 3 - i * 3 = 0 := by omega
      have e1 : i * 3 + 1 - i * 3 = 1 := by omega
      have e2 : i * 3 + 2 - i * 3 = 2 := by omega
      rw [e0, e1, e2]
      exact ⟨rfl, rfl, rfl⟩

/-- What cbuild leaves: the three boxes, the fields' row, the indices' cells. -/
structure Built (mod : Nat) (ks : List Int) (B R L S F n : Nat) (ix : Nat → Nat) (w : World) : Prop where
  brec : w.heap[B]? = some (.cells #[.pointer (some ⟨R, 0, none⟩)] 48 (0, 0))
  blog : w.heap[B + 1]? = some (.cells #[.pointer (some ⟨L, 0, none⟩)] 54 (0, 0))
  bsame : w.heap[B + 2]? = some (.cells #[.pointer (some ⟨S, 0, none⟩)] 55 (0, 0))
  row : w.ownsRow (B + 3) 74 3 (.slice (some ⟨F, 0, none⟩) n n) n (flds mod ks B ix n)
  idx : ∀ i, i < n → w.heap[ix i]? = some (.cells #[.int .i64 (i : Int)] 3 (0, 0)) ∧ B + 3 ≤ ix i

/-- .. behind k of n rounds. -/
structure BuiltTo (mod : Nat) (ks : List Int) (B R L S F k n : Nat) (ix : Nat → Nat) (w : World) : Prop where
  brec : w.heap[B]? = some (.cells #[.pointer (some ⟨R, 0, none⟩)] 48 (0, 0))
  blog : w.heap[B + 1]? = some (.cells #[.pointer (some ⟨L, 0, none⟩)] 54 (0, 0))
  bsame : w.heap[B + 2]? = some (.cells #[.pointer (some ⟨S, 0, none⟩)] 55 (0, 0))
  row : w.ownsRow (B + 3) 74 3 (.slice (some ⟨F, 0, none⟩) k n) k (flds mod ks B ix k)
  idx : ∀ i, i < k → w.heap[ix i]? = some (.cells #[.int .i64 (i : Int)] 3 (0, 0)) ∧ B + 3 ≤ ix i

theorem heap_three (w : World) (a b c : Obj) : (((w.alloc a).alloc b).alloc c).heap[w.heap.size]? = some a ∧ (((w.alloc a).alloc b).alloc c).heap[w.heap.size + 1]? = some b ∧ (((w.alloc a).alloc b).alloc c).heap[w.heap.size + 2]? = some c := by
  refine ⟨?_, ?_, ?_⟩
  · rw [Below.heap_alloc _ _ _ (by simp; omega), Below.heap_alloc _ _ _ (by simp)]; exact heap_alloc_new w a
  · rw [Below.heap_alloc _ _ _ (by simp)]
    have := heap_alloc_new (w.alloc a) b
    simpa using this
  · have := heap_alloc_new ((w.alloc a).alloc b) c
    simpa using this

theorem heap_two (w : World) (a b : Obj) (k : Nat) (hk : k < w.heap.size) : ((w.alloc a).alloc b).heap[k]? = w.heap[k]? ∧ ((w.alloc a).alloc b).heap[w.heap.size]? = some a := by
  refine ⟨?_, ?_⟩
  · rw [Below.heap_alloc _ _ _ (by simp; omega), Below.heap_alloc _ _ _ hk]
  · rw [Below.heap_alloc _ _ _ (by simp)]; exact heap_alloc_new w a

/-- One round of cbuild. -/
theorem BuiltTo.step {mod : Nat} {ks : List Int} {B R L S F k n : Nat} {ix : Nat → Nat} {w w2 : World} {O : Obj} (h : BuiltTo mod ks B R L S F k n ix w) (hF : F < w.heap.size) (hBF : B + 3 ≤ F) (hFt : ∃ cur, w.heap[F]? = some (.cells cur 74 (0, 0)))
    (h1 : w2.ownsRow (B + 3) 74 3 (.slice (some ⟨F, 0, none⟩) (k + 1) n) (k + 1) (flds mod ks B ix k ++ [.int .i64 (ks.getD k 0 % mod), clo B w.heap.size, .nilFunc]))
    (h2 : ((w.alloc (.cells #[.int .i64 (k : Int)] 3)).alloc O).grownBy w2 (some F)) : ∃ iy, BuiltTo mod ks B R L S F (k + 1) n iy w2 := by
  have old : ∀ j, j < w.heap.size → j ≠ F → w2.heap[j]? = w.heap[j]? := fun j hj hne => (h2.block j (by simp; omega) (by simpa using hne)).trans (heap_two w _ _ j hj).1
  have lt : ∀ j o, w.heap[j]? = some o → j < w.heap.size := by
    intro j o ho
    by_cases hj : j < w.heap.size
    · exact hj
    · rw [Array.getElem?_eq_none (by omega)] at ho; cases ho
  have hnew : w2.heap[w.heap.size]? = some (.cells #[.int .i64 (k : Int)] 3 (0, 0)) := (h2.block w.heap.size (by simp; omega) (by simp; omega)).trans (heap_two w _ _ F hF).2
  refine ⟨fun i => if i = k then w.heap.size else ix i, (old _ (lt _ _ h.brec) (by omega)).trans h.brec, (old _ (lt _ _ h.blog) (by omega)).trans h.blog, (old _ (lt _ _ h.bsame) (by omega)).trans h.bsame, ?_, ?_⟩
  · have e : flds mod ks B (fun i => if i = k then w.heap.size else ix i) (k + 1) = flds mod ks B ix k ++ [.int .i64 (ks.getD k 0 % mod), clo B w.heap.size, .nilFunc] := by
      simp only [flds, if_true]
      rw [flds_congr mod ks B _ ix k (fun i hi => by rw [if_neg (by omega)])]
    rw [e]; exact h1
  · intro i hi
    by_cases hik : i = k
    · subst hik
      simp only [if_true]
      exact ⟨hnew, by omega⟩
    · simp only [if_neg hik]
      obtain ⟨g1, g2⟩ := h.idx i (by omega)
      refine ⟨(old _ (lt _ _ g1) ?_).trans g1, g2⟩
      intro he
      obtain ⟨cur, hc⟩ := hFt
      rw [he, hc] at g1
      simp at g1

theorem cell_three (w : World) (x y z : Value) (t : TypeId) (b : Nat) (hb : b = w.heap.size) : ∀ j u, [x, y, z][j]? = some u → (w.alloc (.cells #[x, y, z] t)).cell? ((⟨b, 0, none⟩ : Addr).add j) = some u := by
  subst hb; exact cell_three_new w x y z t
theorem three_fld (k : Int) (B x : Nat) : ∀ u ∈ [Value.int .i64 k, clo B x, .nilFunc], u.oneCell' = true := by
  intro u hu; simp at hu; rcases hu with rfl | rfl | rfl <;> rfl

set_option maxRecDepth 100000 in
set_option maxHeartbeats 4000000 in
theorem cbuild_any (mod : Nat) (ka : Option Addr) (klen kcap : Nat) (ks : List Int) (R L S : Nat) (w : World) (hm0 : 0 < mod) (hm1 : mod ≤ 24) (hkl : klen ≤ 1024) (hK : InRow w ka klen kcap ks) :
    Calls Yba.prog 11 #[.slice ka klen kcap, .int .i64 mod, .pointer (some ⟨R, 0, none⟩), .pointer (some ⟨L, 0, none⟩), .pointer (some ⟨S, 0, none⟩)] w fun e w' => ∃ F ix, e = .returned (.slice (some ⟨F, 0, none⟩) klen klen) ∧
      Built mod ks w.heap.size R L S F klen ix w' ∧ Below w.heap.size w w' := by
  obtain ⟨i0, hi, hz0, hz1, hz2⟩ := info_parts info74
  have hm0' : (0 : Int) < (mod : Int) := by omega
  have hmn : ¬ (mod : Int) = 0 := by omega
  have hmb : ((mod : Int) == 0) = false := by simp; omega
  have HK : Hid (InRow w ka klen kcap ks) := hK
  clear hK
  go_enter Yba.func11, Yba.ntmps11
  go_wp2_with (at_make; refine wpList_make_own _ rfl _ _ 52 rfl (w.heap.size + 3) 74 i0 (.agg #[.int .i64 0, .nilFunc, .nilFunc]) 3 Yba.underlying52 hi hz0 hz1 .i64 .i64 _ klen rfl rfl rfl ?c1 ?c2 ?c3 ?_)
  case c1 => rw [hz2]; omega
  case c2 => unfold maxLen; omega
  case c3 => simp
  intro w1 hown hg
  have hs1 := hg.size
  simp at hs1
  have h3 := heap_three w (.cells #[.pointer (some ⟨R, 0, none⟩)] 48) (.cells #[.pointer (some ⟨L, 0, none⟩)] 54) (.cells #[.pointer (some ⟨S, 0, none⟩)] 55)
  have hbx : w1.heap[w.heap.size]? = some (.cells #[.pointer (some ⟨R, 0, none⟩)] 48 (0, 0)) ∧ w1.heap[w.heap.size + 1]? = some (.cells #[.pointer (some ⟨L, 0, none⟩)] 54 (0, 0)) ∧ w1.heap[w.heap.size + 2]? = some (.cells #[.pointer (some ⟨S, 0, none⟩)] 55 (0, 0)) :=
    ⟨(hg.block _ (by simp; omega) (by simp)).trans h3.1, (hg.block _ (by simp) (by simp)).trans h3.2.1, (hg.block _ (by simp) (by simp)).trans h3.2.2⟩
  have hb1 : Below w.heap.size w w1 := ((((Below.refl _ w).alloc (Nat.le_refl _) _).alloc (by simp) _).alloc (by simp; omega) _).grown hg (by simp; omega) (fun k hk => by cases hk)
  have HX : Hid (∃ ix, BuiltTo mod ks w.heap.size R L S (w.heap.size + 3) 0 klen ix w1 ∧ Below w.heap.size w w1) := ⟨fun _ => 0, ⟨hbx.1, hbx.2.1, hbx.2.2, hown, fun i hi => by omega⟩, hb1⟩
  clear hbx h3 hg hown hb1
  go_wp2
  go_loopw [11, 12, 13] (fun v i _ wx => ∃ k : Nat, k ≤ klen ∧ i = .int .i64 k ∧ v = .slice (some ⟨w.heap.size + 3, 0, none⟩) k klen ∧ ∃ ix, BuiltTo mod ks w.heap.size R L S (w.heap.size + 3) k klen ix wx ∧ Below w.heap.size w wx) (fun _ i _ _ => klen - (intOf i).toNat)
  case atStart => exact ⟨0, by omega, rfl, rfl, HX.out⟩
  case round =>
    clear HX
    obtain ⟨k, hk, rfl, rfl, ix, hbt, hb⟩ := hrel
    by_cases hlt : k < klen
    · obtain ⟨kb, koff, hka, hkB, hkc⟩ := HK.out.at_ (by omega)
      subst hka
      have hc : wr.cell? ⟨kb, koff + k, none⟩ = some (.int .u8 (ks.getD k 0)) := (hb.cell hkB).trans (hkc k hlt)
      have hzb := HK.out.byte k
      obtain ⟨z, hz⟩ : ∃ z, z = ks.getD k 0 := ⟨_, rfl⟩
      rw [← hz] at hc hzb
      have HZ : Hid (z = ks.getD k 0) := hz
      clear hz hkc
      obtain ⟨q1, q2⟩ := hzb
      have m0 : 0 ≤ z % (mod : Int) := Int.emod_nonneg _ hmn
      have m1 : z % (mod : Int) < mod := Int.emod_lt_of_pos _ hm0'
      have hkB2 : kb < wr.heap.size := by have := hb.size; omega
      have HBT : Hid (BuiltTo mod ks w.heap.size R L S (w.heap.size + 3) k klen ix wr) := hbt
      have HB : Hid (Below w.heap.size w wr) := hb
      clear hbt hb
      go_wp2_with (at_builtin; refine wpList_append_fits _ rfl _ _ 52 rfl (w.heap.size + 3) 74 i0 3 Yba.underlying52 hi hz1 (w.heap.size + 3) k klen _ rfl ((HBT.out.row.alloc _).alloc _) ⟨wr.heap.size + 1, 0, none⟩ 1 1 [.int .i64 (z % mod), clo w.heap.size wr.heap.size, .nilFunc] rfl rfl (cell_three _ _ _ _ _ _ (by simp)) (three_fld _ _ _) (by omega) ?_)
      intro w2 h1 h2
      have hsz := HB.out.size
      have hFt : ∃ cur, wr.heap[w.heap.size + 3]? = some (.cells cur 74 (0, 0)) := by
        rcases HBT.out.row.2 with ⟨h, _⟩ | ⟨g, cap, cur, h, _, hc, _⟩
        · cases h
        · simp at h; obtain ⟨rfl, _⟩ := h; exact ⟨cur, hc⟩
      have hFl : w.heap.size + 3 < wr.heap.size := (HBT.out.row.lt _ rfl).2
      have hst : ∃ iy, BuiltTo mod ks w.heap.size R L S (w.heap.size + 3) (k + 1) klen iy w2 := HBT.out.step hFl (Nat.le_refl _) hFt (by rw [← HZ.out]; exact h1) h2
      have hb2 : Below w.heap.size w w2 := ((HB.out.alloc (by omega) _).alloc (by simp; omega) _).grown h2 (by simp; omega) (fun j hj => by simp at hj; omega)
      have HN : Hid (∃ iy, BuiltTo mod ks w.heap.size R L S (w.heap.size + 3) (k + 1) klen iy w2 ∧ Below w.heap.size w w2) := by
        obtain ⟨iy, hy⟩ := hst; exact ⟨iy, hy, hb2⟩
      clear h1 h2 hst hb2 hFt
      go_wp2
      go_roundw
      case rel => first | exact ⟨k + 1, by omega, by go_num, rfl, HN.out⟩ | ((repeat apply Exists.intro); exact ⟨⟨k + 1, by omega, by go_num, rfl, HN.out⟩, rfl⟩)
      case measure => simp [intOf]; omega
    · obtain rfl : klen = k := by omega
      clear hlt
      go_wp2
      go_ret
      exact ⟨_, ix, rfl, ⟨hbt.brec, hbt.blog, hbt.bsame, hbt.row, hbt.idx⟩, hb⟩
end Go.Proofs.Ybulkcufi.Rec
