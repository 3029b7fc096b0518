/-
  LawS4792CQR and LawS4792CStat: the walks. Both texts by one program.
-/
import Derived.Test.YbulkcufiRecF
namespace Go.Proofs.Ybulkcufi.Rec
open Go.RowKit

theorem heap_four (w : World) (a b c d : Obj) : ((((w.alloc a).alloc b).alloc c).alloc d).heap[w.heap.size]? = some a ∧ ((((w.alloc a).alloc b).alloc c).alloc d).heap[w.heap.size + 1]? = some b ∧ ((((w.alloc a).alloc b).alloc c).alloc d).heap[w.heap.size + 2]? = some c ∧ ((((w.alloc a).alloc b).alloc c).alloc d).heap[w.heap.size + 3]? = some d := by
  have h := heap_three w a b c
  refine ⟨?_, ?_, ?_, ?_⟩
  · rw [Below.heap_alloc _ _ _ (by simp; omega)]; exact h.1
  · rw [Below.heap_alloc _ _ _ (by simp)]; exact h.2.1
  · rw [Below.heap_alloc _ _ _ (by simp)]; exact h.2.2
  · have := heap_alloc_new (((w.alloc a).alloc b).alloc c) d
    simpa using this

theorem size_four (w : World) (a b c d : Obj) : ((((w.alloc a).alloc b).alloc c).alloc d).heap.size = w.heap.size + 4 := by simp

/-- What cbuild left is what appendFields is handed. -/
theorem fed_of {mod : Nat} {ks : List Int} {B R L S F n : Nat} {ix : Nat → Nat} {w1 w2 : World} {v : Value} (h : Built mod ks B R L S F n ix w1) (hg : w1.grownBy w2 none) (hL : w1.heap[L]? = some (.cells #[v] 51 (0, 0))) : Fed mod ks w1.heap.size L B R S F n ix w2 := by
  have keep : ∀ j o, w1.heap[j]? = some o → w2.heap[j]? = some o := fun j o ho => (hg.block j (lt_of_block ho) (by simp)).trans ho
  obtain ⟨cur, hcur⟩ : ∃ cur, w1.heap[F]? = some (.cells cur 74 (0, 0)) := by
    rcases h.row.2 with ⟨h', _⟩ | ⟨g, cap, cur, h', _, hc, _⟩
    · cases h'
    · simp at h'; obtain ⟨rfl, _⟩ := h'; exact ⟨cur, hc⟩
  have hFl : F < w1.heap.size := lt_of_block hcur
  refine ⟨hg.size, keep _ _ h.brec, keep _ _ h.blog, ?_, fun i hi => ⟨keep _ _ (h.idx i hi).1, lt_of_block (h.idx i hi).1⟩, lt_of_block hL, lt_of_block h.blog, hFl, ?_, ⟨v, keep _ _ hL⟩⟩
  · intro i hi
    have hc : ∀ o, w2.cell? ⟨F, o, none⟩ = w1.cell? ⟨F, o, none⟩ := fun o => World.cell?_of_block (hg.block F hFl (by simp))
    have hf := flds_get mod ks B ix n i hi
    rw [hc, hc, hc, h.row.cellAt _ (by omega), h.row.cellAt _ (by omega), h.row.cellAt _ (by omega)]
    exact hf
  · rintro rfl
    rw [hL] at hcur; simp at hcur

theorem log_reads {N : Nat} {w : World} {v : Value} {xs : List Value} (h : LogOwn N w v xs) : Reads w v xs := by
  rcases h with ⟨ao, rfl, rfl⟩ | h
  · exact ⟨ao, 0, rfl, fun h => by simp at h⟩
  · exact reads_owns h
theorem Reads.below {w w' : World} {v : Value} {xs : List Value} (h : Reads w v xs) (hb : Below w.heap.size w w') : Reads w' v xs := by
  obtain ⟨ao, c, h1, h2⟩ := h
  refine ⟨ao, c, h1, fun hp => ?_⟩
  obtain ⟨g, h3, h4⟩ := h2 hp
  exact ⟨g, h3, fun j u hj => (hb.cell (p := ⟨g, j, none⟩) (World.block_lt_of_cell? w _ (h4 j u hj))).trans (h4 j u hj)⟩
theorem I64_map (l : List Nat) : I64 l = (l.map fun (i : Nat) => (i : Int)).map (Value.int .i64) := by simp [I64]

set_option maxRecDepth 100000 in
set_option maxHeartbeats 4000000 in
theorem lawQ (pa : Option Addr) (plen pcap : Nat) (ps : List Int) (present : Int) (ka : Option Addr) (klen kcap : Nat) (ks : List Int) (w : World) (hp0 : 0 ≤ present) (hp1 : present < 65536) (hpl : plen ≤ 1024) (hkl : klen ≤ 1024)
    (hP : InRow w pa plen pcap ps) (hK : InRow w ka klen kcap ks) :
    Calls Yba.prog 5 #[.slice pa plen pcap, .int .u16 present, .slice ka klen kcap] w fun e w' => e = .returned (.bool true) ∧ Below w.heap.size w w' := by
  obtain ⟨i0, hi, hz0, hz1, hz2⟩ := info_parts info5
  have hpl' : (plen : Int) ≤ 1024 := by omega
  have hkl' : (klen : Int) ≤ 1024 := by omega
  have HK : Hid (InRow w ka klen kcap ks) := hK
  have HP : Hid (InRow w pa plen pcap ps) := hP
  clear hK hP
  go_enter Yba.func5, Yba.ntmps5
  obtain ⟨W0, hW0⟩ : ∃ W0 : World, W0 = ((((w.alloc (.cells #[.int .i64 0] 50)).alloc (.cells #[] 3)).alloc (.cells #[.slice (some ⟨w.heap.size + 1, 0, none⟩) 0 0] 51)).alloc (.cells #[.bool true] 4)) := ⟨_, rfl⟩
  have hs0 : W0.heap.size = w.heap.size + 4 := by rw [hW0]; exact size_four w _ _ _ _
  have hb0 : Below w.heap.size w W0 := by
    rw [hW0]
    exact ((((Below.refl _ w).alloc (Nat.le_refl _) _).alloc (by simp) _).alloc (by simp; omega) _).alloc (by simp; omega) _
  have h4 := heap_four w (.cells #[.int .i64 0] 50) (.cells #[] 3) (.cells #[.slice (some ⟨w.heap.size + 1, 0, none⟩) 0 0] 51) (.cells #[.bool true] 4)
  rw [← hW0] at h4
  obtain ⟨hR0, _, hL0, hS0⟩ := h4
  have H1 : Hid (Calls Yba.prog 11 #[.slice ka klen kcap, .int .i64 24, .pointer (some ⟨w.heap.size, 0, none⟩), .pointer (some ⟨w.heap.size + 1 + 1, 0, none⟩), .pointer (some ⟨w.heap.size + 1 + 1 + 1, 0, none⟩)] W0 fun e w' => ∃ F ix, e = .returned (.slice (some ⟨F, 0, none⟩) klen klen) ∧
      Built 24 ks W0.heap.size w.heap.size (w.heap.size + 1 + 1) (w.heap.size + 1 + 1 + 1) F klen ix w' ∧ Below W0.heap.size W0 w') := cbuild_any 24 ka klen kcap ks w.heap.size (w.heap.size + 1 + 1) (w.heap.size + 1 + 1 + 1) W0 (by decide) (by decide) hkl (HK.out.later hb0)
  go_wp2_with fail
  rw [← hW0]
  have HW : Hid (W0.heap.size = w.heap.size + 4 ∧ Below w.heap.size w W0 ∧ W0.heap[w.heap.size]? = some (.cells #[.int .i64 0] 50 (0, 0)) ∧ W0.heap[w.heap.size + 2]? = some (.cells #[.slice (some ⟨w.heap.size + 1, 0, none⟩) 0 0] 51 (0, 0)) ∧ W0.heap[w.heap.size + 3]? = some (.cells #[.bool true] 4 (0, 0))) := ⟨hs0, hb0, hR0, hL0, hS0⟩
  clear hW0 hs0 hb0 hR0 hL0 hS0
  refine H1.out.mono ?_
  rintro e w1 ⟨F, ix, rfl, hbt, hb1⟩
  obtain ⟨hs0, hb0, hR0, hL0, hS0⟩ := HW.out
  have hw1 : Below w.heap.size w w1 := hb0.trans (hb1.mono (by omega))
  have hsz1 := hb1.size
  have hR1 := (hb1.block w.heap.size (by omega)).trans hR0
  have hL1 := (hb1.block (w.heap.size + 2) (by omega)).trans hL0
  have hS1 := (hb1.block (w.heap.size + 3) (by omega)).trans hS0
  have HP1 := HP.out.later hw1
  have hlen : (B8 (ps.take plen)).length = plen := by rw [B8_len, List.length_take]; have := HP.out.le; omega
  have H2 : Hid (Built 24 ks W0.heap.size w.heap.size (w.heap.size + 1 + 1) (w.heap.size + 1 + 1 + 1) F klen ix w1 ∧ Below w.heap.size w w1 ∧ w1.heap[w.heap.size]? = some (.cells #[.int .i64 0] 50 (0, 0)) ∧ w1.heap[w.heap.size + 2]? = some (.cells #[.slice (some ⟨w.heap.size + 1, 0, none⟩) 0 0] 51 (0, 0)) ∧ w1.heap[w.heap.size + 3]? = some (.cells #[.bool true] 4 (0, 0))) := ⟨hbt, hw1, hR1, hL1, hS1⟩
  have HPH : Hid (InRow w1 pa plen pcap ps) := HP1
  clear H1 HW hs0 hb0 hR0 hL0 hS0 hR1 hL1 hS1 hbt hb1 hw1 HP1
  go_wp2_with (at_builtin; refine wpList_append_start rfl (.tmp 29) 22 rfl w1.heap.size 5 i0 (.int .u8 0) 1 Yba.underlying22 hi hz0 hz1 hz2 rfl pa plen pcap (B8 (ps.take plen)) rfl hlen HPH.out.nil HPH.out.news (B8_one _) (by unfold maxLen; omega) (by omega) (Nat.le_refl _) ?_)
  intro v11 w2 hv11 hg2
  obtain ⟨hbt, hw1, hR1, hL1, hS1⟩ := H2.out
  have hfd := fed_of hbt hg2 hL1
  have hk2 : ∀ j o, w1.heap[j]? = some o → w2.heap[j]? = some o := fun j o ho => (hg2.block j (lt_of_block ho) (by simp)).trans ho
  have hw2 : Below w.heap.size w w2 := hw1.grown hg2 hw1.size (fun k hk => by cases hk)
  have H3 : Hid (Calls Yba.prog 12 #[v11, .pointer (some ⟨w.heap.size, 0, none⟩), .int .u16 present, .slice (some ⟨F, 0, none⟩) klen klen] w2 fun e w' => ∃ vb' m' vlog', e = .returned vb' ∧
      w'.ownsRow w1.heap.size 5 1 vb' m' (B8 (ps.take plen) ++ (hd (sels 24 16 present ks klen).length ++ B8 (outs 24 ks (sels 24 16 present ks klen)))) ∧ w'.heap[w.heap.size + 2]? = some (.cells #[vlog'] 51 (0, 0)) ∧ LogOwn w1.heap.size w' vlog' (I64 (sels 24 16 present ks klen)) ∧ Kept w1.heap.size (w.heap.size + 2) w2 w') :=
    afQ 24 ks w1.heap.size (w.heap.size + 2) W0.heap.size w.heap.size (w.heap.size + 3) F klen plen ix present (.slice (some ⟨w.heap.size + 1, 0, none⟩) 0 0) v11 (B8 (ps.take plen)) w2 hp0 hp1 (by decide) (by decide) hkl (by omega) HK.out.byte hfd (hk2 _ _ hL1) (.inl ⟨_, rfl, rfl⟩) hv11
  have H4 : Hid (Below w.heap.size w w2 ∧ w2.heap[w.heap.size]? = some (.cells #[.int .i64 0] 50 (0, 0)) ∧ w2.heap[w.heap.size + 3]? = some (.cells #[.bool true] 4 (0, 0)) ∧ w.heap.size + 3 < w1.heap.size) := ⟨hw2, hk2 _ _ hR1, hk2 _ _ hS1, lt_of_block hS1⟩
  clear hbt hw1 hR1 hL1 hS1 hfd hk2 hw2 hv11 hg2 H2 HPH
  go_wp2_with fail
  refine H3.out.mono ?_
  rintro e w3 ⟨vg, mg, vl, rfl, hgot, hL3, hlo3, hkp3⟩
  obtain ⟨hw2, hR2, hS2, hlt1⟩ := H4.out
  have hw3 : Below w.heap.size w w3 := hw2.trans ⟨hkp3.1, hkp3.2.1, hkp3.2.2.1, hkp3.size, fun k hk => hkp3.2.2.2.2 k (by omega) (by omega)⟩
  have hR3 := (hkp3.2.2.2.2 w.heap.size (by omega) (by omega)).trans hR2
  have hS3 := (hkp3.2.2.2.2 (w.heap.size + 3) hlt1 (by omega)).trans hS2
  have H5 : Hid (Calls Yba.prog 13 #[.slice pa plen pcap, .int .u64 present, .slice ka klen kcap, .int .i64 24, .int .i64 16] w3 fun e w' => ∃ v1 v2 n1, e = .returned (.tuple #[v1, v2]) ∧
      w'.ownsRow w3.heap.size 5 1 v1 n1 (B8 (ps.take plen ++ (hdI (sels 24 16 present ks klen).length ++ outs 24 ks (sels 24 16 present ks klen)))) ∧ w'.ownsRow w3.heap.size 3 1 v2 (sels 24 16 present ks klen).length (I64 (sels 24 16 present ks klen)) ∧ Below w3.heap.size w3 w') :=
    cmodel_any 24 16 present pa plen pcap ps ka klen kcap ks w3 hp0 (by omega) (by decide) (by decide) hpl hkl (HP.out.later hw3) (HK.out.later hw3)
  have hsl := sels_le 24 16 present ks klen
  obtain ⟨l, hl⟩ : ∃ l, l = ps.take plen ++ (hdI (sels 24 16 present ks klen).length ++ outs 24 ks (sels 24 16 present ks klen)) := ⟨_, rfl⟩
  have hlp : 0 < l.length := by
    rw [hl, List.length_append, List.length_append]
    have := (hdI_len (sels 24 16 present ks klen).length).1
    omega
  have hgl : Reads w3 vg (l.map (Value.int .u8)) := by
    have e : B8 (ps.take plen) ++ (hd (sels 24 16 present ks klen).length ++ B8 (outs 24 ks (sels 24 16 present ks klen))) = l.map (Value.int .u8) := by
      rw [hl, hd_eq]; simp [B8]
    rw [← e]; exact reads_owns hgot
  rw [← hl] at H5
  have hll : Reads w3 vl (((sels 24 16 present ks klen).map fun (i : Nat) => (i : Int)).map (Value.int .i64)) := by
    rw [← I64_map]; exact log_reads hlo3
  rw [I64_map] at H5
  have hil : ((sels 24 16 present ks klen).map fun (i : Nat) => (i : Int)).length ≤ 1024 := by rw [List.length_map]; omega
  generalize ((sels 24 16 present ks klen).map fun (i : Nat) => (i : Int)) = il at *
  have H6 : Hid (Reads w3 vg (l.map (Value.int .u8)) ∧ Reads w3 vl (il.map (Value.int .i64)) ∧ Below w.heap.size w w3 ∧ w3.heap[w.heap.size]? = some (.cells #[.int .i64 0] 50 (0, 0)) ∧ w3.heap[w.heap.size + 3]? = some (.cells #[.bool true] 4 (0, 0)) ∧ w3.heap[w.heap.size + 2]? = some (.cells #[vl] 51 (0, 0))) := ⟨hgl, hll, hw3, hR3, hS3, hL3⟩
  clear H3 H4 hgot hL3 hlo3 hkp3 hw2 hR2 hS2 hw3 hR3 hS3 hl hgl hll
  go_wp2_with fail
  refine H5.out.mono ?_
  rintro e w4 ⟨v1, v2, n1, rfl, hwant, hsel, hb4⟩
  obtain ⟨hgl, hll, hw3, hR3, hS3, hL3⟩ := H6.out
  have cL := cell_of_one ((hb4.block _ (lt_of_block hL3)).trans hL3)
  have cS := cell_of_one ((hb4.block _ (lt_of_block hS3)).trans hS3)
  have cR := cell_of_one ((hb4.block _ (lt_of_block hR3)).trans hR3)
  have H7 : Hid (Calls Yba.prog 14 #[vg, v1] w4 fun e w' => e = .returned (.bool true) ∧ w' = w4) := beq_any l vg v1 w4 (hgl.below hb4) (reads_owns hwant) hlp
  have H8 : Hid (Calls Yba.prog 15 #[vl, v2] w4 fun e w' => e = .returned (.bool true) ∧ ∃ m, w' = w4.drewN m) := ceqi_any il vl v2 w4 (hll.below hb4) (reads_owns hsel) (by omega)
  have H9 : Hid (Below w.heap.size w w4) := hw3.trans (hb4.mono hw3.size)
  clear H5 H6 hwant hsel hb4 hgl hll hw3 hR3 hS3 hL3
  go_wp2_with (first | (go_at_call 14; refine H7.out.mono ?_; rintro e w5 ⟨rfl, rfl⟩) | (go_at_call 15; refine H8.out.mono ?_; rintro e w5 ⟨rfl, mm, rfl⟩))
  go_ret
  exact ⟨rfl, below_drewN H9.out _⟩

set_option maxRecDepth 100000 in
set_option maxHeartbeats 4000000 in
theorem lawS (pa : Option Addr) (plen pcap : Nat) (ps : List Int) (present : Int) (ka : Option Addr) (klen kcap : Nat) (ks : List Int) (w : World) (hp0 : 0 ≤ present) (hp1 : present < 256) (hpl : plen ≤ 1024) (hkl : klen ≤ 1024)
    (hP : InRow w pa plen pcap ps) (hK : InRow w ka klen kcap ks) :
    Calls Yba.prog 6 #[.slice pa plen pcap, .int .u8 present, .slice ka klen kcap] w fun e w' => e = .returned (.bool true) ∧ Below w.heap.size w w' := by
  obtain ⟨i0, hi, hz0, hz1, hz2⟩ := info_parts info5
  have hpl' : (plen : Int) ≤ 1024 := by omega
  have hkl' : (klen : Int) ≤ 1024 := by omega
  have HK : Hid (InRow w ka klen kcap ks) := hK
  have HP : Hid (InRow w pa plen pcap ps) := hP
  clear hK hP
  go_enter Yba.func6, Yba.ntmps6
  obtain ⟨W0, hW0⟩ : ∃ W0 : World, W0 = ((((w.alloc (.cells #[.int .i64 0] 50)).alloc (.cells #[] 3)).alloc (.cells #[.slice (some ⟨w.heap.size + 1, 0, none⟩) 0 0] 51)).alloc (.cells #[.bool true] 4)) := ⟨_, rfl⟩
  have hs0 : W0.heap.size = w.heap.size + 4 := by rw [hW0]; exact size_four w _ _ _ _
  have hb0 : Below w.heap.size w W0 := by
    rw [hW0]
    exact ((((Below.refl _ w).alloc (Nat.le_refl _) _).alloc (by simp) _).alloc (by simp; omega) _).alloc (by simp; omega) _
  have h4 := heap_four w (.cells #[.int .i64 0] 50) (.cells #[] 3) (.cells #[.slice (some ⟨w.heap.size + 1, 0, none⟩) 0 0] 51) (.cells #[.bool true] 4)
  rw [← hW0] at h4
  obtain ⟨hR0, _, hL0, hS0⟩ := h4
  have H1 : Hid (Calls Yba.prog 11 #[.slice ka klen kcap, .int .i64 12, .pointer (some ⟨w.heap.size, 0, none⟩), .pointer (some ⟨w.heap.size + 1 + 1, 0, none⟩), .pointer (some ⟨w.heap.size + 1 + 1 + 1, 0, none⟩)] W0 fun e w' => ∃ F ix, e = .returned (.slice (some ⟨F, 0, none⟩) klen klen) ∧
      Built 12 ks W0.heap.size w.heap.size (w.heap.size + 1 + 1) (w.heap.size + 1 + 1 + 1) F klen ix w' ∧ Below W0.heap.size W0 w') := cbuild_any 12 ka klen kcap ks w.heap.size (w.heap.size + 1 + 1) (w.heap.size + 1 + 1 + 1) W0 (by decide) (by decide) hkl (HK.out.later hb0)
  go_wp2_with fail
  rw [← hW0]
  have HW : Hid (W0.heap.size = w.heap.size + 4 ∧ Below w.heap.size w W0 ∧ W0.heap[w.heap.size]? = some (.cells #[.int .i64 0] 50 (0, 0)) ∧ W0.heap[w.heap.size + 2]? = some (.cells #[.slice (some ⟨w.heap.size + 1, 0, none⟩) 0 0] 51 (0, 0)) ∧ W0.heap[w.heap.size + 3]? = some (.cells #[.bool true] 4 (0, 0))) := ⟨hs0, hb0, hR0, hL0, hS0⟩
  clear hW0 hs0 hb0 hR0 hL0 hS0
  refine H1.out.mono ?_
  rintro e w1 ⟨F, ix, rfl, hbt, hb1⟩
  obtain ⟨hs0, hb0, hR0, hL0, hS0⟩ := HW.out
  have hw1 : Below w.heap.size w w1 := hb0.trans (hb1.mono (by omega))
  have hsz1 := hb1.size
  have hR1 := (hb1.block w.heap.size (by omega)).trans hR0
  have hL1 := (hb1.block (w.heap.size + 2) (by omega)).trans hL0
  have hS1 := (hb1.block (w.heap.size + 3) (by omega)).trans hS0
  have HP1 := HP.out.later hw1
  have hlen : (B8 (ps.take plen)).length = plen := by rw [B8_len, List.length_take]; have := HP.out.le; omega
  have H2 : Hid (Built 12 ks W0.heap.size w.heap.size (w.heap.size + 1 + 1) (w.heap.size + 1 + 1 + 1) F klen ix w1 ∧ Below w.heap.size w w1 ∧ w1.heap[w.heap.size]? = some (.cells #[.int .i64 0] 50 (0, 0)) ∧ w1.heap[w.heap.size + 2]? = some (.cells #[.slice (some ⟨w.heap.size + 1, 0, none⟩) 0 0] 51 (0, 0)) ∧ w1.heap[w.heap.size + 3]? = some (.cells #[.bool true] 4 (0, 0))) := ⟨hbt, hw1, hR1, hL1, hS1⟩
  have HPH : Hid (InRow w1 pa plen pcap ps) := HP1
  clear H1 HW hs0 hb0 hR0 hL0 hS0 hR1 hL1 hS1 hbt hb1 hw1 HP1
  go_wp2_with (at_builtin; refine wpList_append_start rfl (.tmp 29) 22 rfl w1.heap.size 5 i0 (.int .u8 0) 1 Yba.underlying22 hi hz0 hz1 hz2 rfl pa plen pcap (B8 (ps.take plen)) rfl hlen HPH.out.nil HPH.out.news (B8_one _) (by unfold maxLen; omega) (by omega) (Nat.le_refl _) ?_)
  intro v11 w2 hv11 hg2
  obtain ⟨hbt, hw1, hR1, hL1, hS1⟩ := H2.out
  have hfd := fed_of hbt hg2 hL1
  have hk2 : ∀ j o, w1.heap[j]? = some o → w2.heap[j]? = some o := fun j o ho => (hg2.block j (lt_of_block ho) (by simp)).trans ho
  have hw2 : Below w.heap.size w w2 := hw1.grown hg2 hw1.size (fun k hk => by cases hk)
  have H3 : Hid (Calls Yba.prog 16 #[v11, .pointer (some ⟨w.heap.size, 0, none⟩), .int .u8 present, .slice (some ⟨F, 0, none⟩) klen klen] w2 fun e w' => ∃ vb' m' vlog', e = .returned vb' ∧
      w'.ownsRow w1.heap.size 5 1 vb' m' (B8 (ps.take plen) ++ (hd (sels 12 8 present ks klen).length ++ B8 (outs 12 ks (sels 12 8 present ks klen)))) ∧ w'.heap[w.heap.size + 2]? = some (.cells #[vlog'] 51 (0, 0)) ∧ LogOwn w1.heap.size w' vlog' (I64 (sels 12 8 present ks klen)) ∧ Kept w1.heap.size (w.heap.size + 2) w2 w') :=
    afS 12 ks w1.heap.size (w.heap.size + 2) W0.heap.size w.heap.size (w.heap.size + 3) F klen plen ix present (.slice (some ⟨w.heap.size + 1, 0, none⟩) 0 0) v11 (B8 (ps.take plen)) w2 hp0 hp1 (by decide) (by decide) hkl (by omega) HK.out.byte hfd (hk2 _ _ hL1) (.inl ⟨_, rfl, rfl⟩) hv11
  have H4 : Hid (Below w.heap.size w w2 ∧ w2.heap[w.heap.size]? = some (.cells #[.int .i64 0] 50 (0, 0)) ∧ w2.heap[w.heap.size + 3]? = some (.cells #[.bool true] 4 (0, 0)) ∧ w.heap.size + 3 < w1.heap.size) := ⟨hw2, hk2 _ _ hR1, hk2 _ _ hS1, lt_of_block hS1⟩
  clear hbt hw1 hR1 hL1 hS1 hfd hk2 hw2 hv11 hg2 H2 HPH
  go_wp2_with fail
  refine H3.out.mono ?_
  rintro e w3 ⟨vg, mg, vl, rfl, hgot, hL3, hlo3, hkp3⟩
  obtain ⟨hw2, hR2, hS2, hlt1⟩ := H4.out
  have hw3 : Below w.heap.size w w3 := hw2.trans ⟨hkp3.1, hkp3.2.1, hkp3.2.2.1, hkp3.size, fun k hk => hkp3.2.2.2.2 k (by omega) (by omega)⟩
  have hR3 := (hkp3.2.2.2.2 w.heap.size (by omega) (by omega)).trans hR2
  have hS3 := (hkp3.2.2.2.2 (w.heap.size + 3) hlt1 (by omega)).trans hS2
  have H5 : Hid (Calls Yba.prog 13 #[.slice pa plen pcap, .int .u64 present, .slice ka klen kcap, .int .i64 12, .int .i64 8] w3 fun e w' => ∃ v1 v2 n1, e = .returned (.tuple #[v1, v2]) ∧
      w'.ownsRow w3.heap.size 5 1 v1 n1 (B8 (ps.take plen ++ (hdI (sels 12 8 present ks klen).length ++ outs 12 ks (sels 12 8 present ks klen)))) ∧ w'.ownsRow w3.heap.size 3 1 v2 (sels 12 8 present ks klen).length (I64 (sels 12 8 present ks klen)) ∧ Below w3.heap.size w3 w') :=
    cmodel_any 12 8 present pa plen pcap ps ka klen kcap ks w3 hp0 (by omega) (by decide) (by decide) hpl hkl (HP.out.later hw3) (HK.out.later hw3)
  have hsl := sels_le 12 8 present ks klen
  obtain ⟨l, hl⟩ : ∃ l, l = ps.take plen ++ (hdI (sels 12 8 present ks klen).length ++ outs 12 ks (sels 12 8 present ks klen)) := ⟨_, rfl⟩
  have hlp : 0 < l.length := by
    rw [hl, List.length_append, List.length_append]
    have := (hdI_len (sels 12 8 present ks klen).length).1
    omega
  have hgl : Reads w3 vg (l.map (Value.int .u8)) := by
    have e : B8 (ps.take plen) ++ (hd (sels 12 8 present ks klen).length ++ B8 (outs 12 ks (sels 12 8 present ks klen))) = l.map (Value.int .u8) := by
      rw [hl, hd_eq]; simp [B8]
    rw [← e]; exact reads_owns hgot
  rw [← hl] at H5
  have hll : Reads w3 vl (((sels 12 8 present ks klen).map fun (i : Nat) => (i : Int)).map (Value.int .i64)) := by
    rw [← I64_map]; exact log_reads hlo3
  rw [I64_map] at H5
  have hil : ((sels 12 8 present ks klen).map fun (i : Nat) => (i : Int)).length ≤ 1024 := by rw [List.length_map]; omega
  generalize ((sels 12 8 present ks klen).map fun (i : Nat) => (i : Int)) = il at *
  have H6 : Hid (Reads w3 vg (l.map (Value.int .u8)) ∧ Reads w3 vl (il.map (Value.int .i64)) ∧ Below w.heap.size w w3 ∧ w3.heap[w.heap.size]? = some (.cells #[.int .i64 0] 50 (0, 0)) ∧ w3.heap[w.heap.size + 3]? = some (.cells #[.bool true] 4 (0, 0)) ∧ w3.heap[w.heap.size + 2]? = some (.cells #[vl] 51 (0, 0))) := ⟨hgl, hll, hw3, hR3, hS3, hL3⟩
  clear H3 H4 hgot hL3 hlo3 hkp3 hw2 hR2 hS2 hw3 hR3 hS3 hl hgl hll
  go_wp2_with fail
  refine H5.out.mono ?_
  rintro e w4 ⟨v1, v2, n1, rfl, hwant, hsel, hb4⟩
  obtain ⟨hgl, hll, hw3, hR3, hS3, hL3⟩ := H6.out
  have cL := cell_of_one ((hb4.block _ (lt_of_block hL3)).trans hL3)
  have cS := cell_of_one ((hb4.block _ (lt_of_block hS3)).trans hS3)
  have cR := cell_of_one ((hb4.block _ (lt_of_block hR3)).trans hR3)
  have H7 : Hid (Calls Yba.prog 14 #[vg, v1] w4 fun e w' => e = .returned (.bool true) ∧ w' = w4) := beq_any l vg v1 w4 (hgl.below hb4) (reads_owns hwant) hlp
  have H8 : Hid (Calls Yba.prog 15 #[vl, v2] w4 fun e w' => e = .returned (.bool true) ∧ ∃ m, w' = w4.drewN m) := ceqi_any il vl v2 w4 (hll.below hb4) (reads_owns hsel) (by omega)
  have H9 : Hid (Below w.heap.size w w4) := hw3.trans (hb4.mono hw3.size)
  clear H5 H6 hwant hsel hb4 hgl hll hw3 hR3 hS3 hL3
  go_wp2_with (first | (go_at_call 14; refine H7.out.mono ?_; rintro e w5 ⟨rfl, rfl⟩) | (go_at_call 15; refine H8.out.mono ?_; rintro e w5 ⟨rfl, mm, rfl⟩))
  go_ret
  exact ⟨rfl, below_drewN H9.out _⟩

end Go.Proofs.Ybulkcufi.Rec
