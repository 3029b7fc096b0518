/-
  appendFields at QRFields and at StatFields, by their contracts. Both texts by one program.
-/
import Derived.Test.YbulkcufiRecE
namespace Go.Proofs.Ybulkcufi.Rec
open Go.RowKit

/-- selQ8 as the walk writes the wrap. -/
theorem selQ8w (present kk : Int) (h0 : 0 ≤ present) (h1 : present < 256) (k0 : 0 ≤ kk) (k1 : kk < 24) : (bits .and .u8 present (2 ^ min kk.toNat 8 % 256) != 0) = sel 8 present kk := by
  rw [← selQ8 present kk h0 h1 k0 k1]
  have e : IntKind.u8.wrap (2 ^ min kk.toNat 8) = 2 ^ min kk.toNat 8 % 256 := by simp [IntKind.wrap, IntKind.bits, IntKind.signed]
  rw [e]

/-- Blocks that are there stay there. -/
theorem owns_below {w w' : World} {N B : Nat} {e : TypeId} {size n : Nat} {v : Value} {xs : List Value} (h : w.ownsRow N e size v n xs) (hb : Below B w w') (hB : B = w.heap.size) : w'.ownsRow N e size v n xs := by
  obtain ⟨h1, h2⟩ := h
  refine ⟨h1, ?_⟩
  rcases h2 with h2 | ⟨g, cap, cur, k1, k2, k3, k4⟩
  · exact .inl h2
  · exact .inr ⟨g, cap, cur, k1, k2, (hb.block g (by rw [hB]; exact lt_of_block k3)).trans k3, k4⟩

/-- What appendFields is handed. -/
structure Fed (mod : Nat) (ks : List Int) (N L B R S F n : Nat) (ix : Nat → Nat) (w : World) : Prop where
  nsize : N ≤ w.heap.size
  brec : w.heap[B]? = some (.cells #[.pointer (some ⟨R, 0, none⟩)] 48 (0, 0))
  blog : w.heap[B + 1]? = some (.cells #[.pointer (some ⟨L, 0, none⟩)] 54 (0, 0))
  row : ∀ i, i < n → w.cell? ⟨F, i * 3, none⟩ = some (.int .i64 (ks.getD i 0 % mod)) ∧ w.cell? ⟨F, i * 3 + 1, none⟩ = some (clo B (ix i)) ∧ w.cell? ⟨F, i * 3 + 2, none⟩ = some .nilFunc
  idx : ∀ i, i < n → w.heap[ix i]? = some (.cells #[.int .i64 (i : Int)] 3 (0, 0)) ∧ ix i < N
  lN : L < N
  bN : B + 1 < N
  fN : F < N
  fL : F ≠ L
  ltag : ∃ v, w.heap[L]? = some (.cells #[v] 51 (0, 0))

theorem Fed.later {mod : Nat} {ks : List Int} {N L B R S F n : Nat} {ix : Nat → Nat} {w w' : World} (h : Fed mod ks N L B R S F n ix w) (hk : Kept N L w w') (hl : ∃ v, w'.heap[L]? = some (.cells #[v] 51 (0, 0))) : Fed mod ks N L B R S F n ix w' := by
  obtain ⟨u, hu⟩ := h.ltag
  have keep : ∀ j o, j < N → w.heap[j]? = some o → (∀ c, o ≠ .cells c 51 (0, 0)) → w'.heap[j]? = some o := by
    intro j o hj ho hne
    refine (hk.2.2.2.2 j hj ?_).trans ho
    rintro rfl
    rw [hu] at ho
    exact hne _ (Option.some.inj ho).symm
  have hF : ∀ o, w'.cell? ⟨F, o, none⟩ = w.cell? ⟨F, o, none⟩ := fun o => World.cell?_of_block (hk.2.2.2.2 F h.fN h.fL)
  refine ⟨Nat.le_trans h.nsize hk.size, keep B _ (by have := h.bN; omega) h.brec (by simp), keep (B + 1) _ h.bN h.blog (by simp), ?_, ?_, h.lN, h.bN, h.fN, h.fL, hl⟩
  · intro i hi
    rw [hF, hF, hF]; exact h.row i hi
  · intro i hi
    exact ⟨keep _ _ (h.idx i hi).2 (h.idx i hi).1 (by simp), (h.idx i hi).2⟩

/-- Behind AppendUint, ahead of the closure. -/
theorem after_uint {mod : Nat} {ks : List Int} {N L B R S F n j m1 : Nat} {ix : Nat → Nat} {w w2 : World} {O : Obj} {vl v4 : Value} {xs zs : List Value} (hf : Fed mod ks N L B R S F n ix w) (hlt : j < n) (hL : w.heap[L]? = some (.cells #[vl] 51 (0, 0))) (hlo : LogOwn N w vl xs)
    (hfr : Fr N 5 (w.alloc O).drew w2) (h3 : w2.ownsRow N 5 1 v4 m1 zs) : At N L B R S (ix j) j m1 vl v4 xs zs w2 ∧ LogOwn N w2 vl xs ∧ Kept N L w w2 := by
  have hfr' : Fr N 5 (w.alloc O) w2 := hfr
  have hk : Kept N L w w2 := ((Kept.refl N L w).alloc hf.nsize O).fr hfr' (by have := hf.nsize; simp; omega)
  have hL2 : w2.heap[L]? = some (.cells #[vl] 51 (0, 0)) := (hfr'.2.2.2.2 L (by have := hf.lN; have := hf.nsize; simp; omega) (.inl hf.lN)).trans ((Below.heap_alloc _ _ _ (by have := hf.lN; have := hf.nsize; omega)).trans hL)
  have hf2 := hf.later hk ⟨_, hL2⟩
  exact ⟨⟨hf2.nsize, hf2.brec, hf2.blog, (hf2.idx j hlt).1, hL2, hf2.lN, hf2.bN, (hf2.idx j hlt).2, h3⟩, (hlo.alloc O).fr hfr', hk⟩

/-- The field's own variable is as it was. -/
theorem fcell {N : Nat} {w w2 : World} {x y z : Value} {t : TypeId} (hfr : Fr N 5 (w.alloc (.cells #[x, y, z] t)).drew w2) (ht : t ≠ 5) : w2.cell? ⟨w.heap.size, 1, none⟩ = some y := by
  have h : w2.heap[w.heap.size]? = some (.cells #[x, y, z] t (0, 0)) := by
    have h0 := heap_alloc_new w (.cells #[x, y, z] t)
    refine (hfr.2.2.2.2 w.heap.size (by show w.heap.size < (w.alloc _).heap.size; simp) (.inr ?_)).trans h0
    intro cur m he
    have : (w.alloc (.cells #[x, y, z] t)).heap[w.heap.size]? = some (.cells cur 5 m) := he
    rw [h0] at this
    simp at this
    exact ht this.2.1
  rw [cell_of_row w2 w.heap.size 1 _ t (0, 0) h]
  rfl

set_option maxRecDepth 100000 in
set_option maxHeartbeats 4000000 in
theorem afQ (mod : Nat) (ks : List Int) (N L B R S F n m : Nat) (ix : Nat → Nat) (present : Int) (vlog vb : Value) (ys : List Value) (w : World) (hp0 : 0 ≤ present) (hp1 : present < 65536) (hm0 : 0 < mod) (hm1 : mod ≤ 24) (hn : n ≤ 1024) (hm : m ≤ 5000)
    (hkb : ∀ j, 0 ≤ ks.getD j 0 ∧ ks.getD j 0 < 256) (hF : Fed mod ks N L B R S F n ix w) (hlog : w.heap[L]? = some (.cells #[vlog] 51 (0, 0))) (hlo : LogOwn N w vlog []) (hb : w.ownsRow N 5 1 vb m ys) :
    Calls Yba.prog 12 #[vb, .pointer (some ⟨R, 0, none⟩), .int .u16 present, .slice (some ⟨F, 0, none⟩) n n] w fun e w' => ∃ vb' m' vlog', e = .returned vb' ∧
      w'.ownsRow N 5 1 vb' m' (ys ++ (hd (sels mod 16 present ks n).length ++ B8 (outs mod ks (sels mod 16 present ks n)))) ∧ w'.heap[L]? = some (.cells #[vlog'] 51 (0, 0)) ∧ LogOwn N w' vlog' (I64 (sels mod 16 present ks n)) ∧ Kept N L w w' := by
  have hm0' : (0 : Int) < (mod : Int) := by omega
  have hmn : ¬ (mod : Int) = 0 := by omega
  have hFs : F < w.heap.size := by have := hF.fN; have := hF.nsize; omega
  have HF : Hid (Fed mod ks N L B R S F n ix w) := hF
  have HL : Hid (w.heap[L]? = some (.cells #[vlog] 51 (0, 0)) ∧ LogOwn N w vlog []) := ⟨hlog, hlo⟩
  have HO : Hid (w.ownsRow N 5 1 vb m ys) := hb
  have HKB : Hid (∀ j, 0 ≤ ks.getD j 0 ∧ ks.getD j 0 < 256) := hkb
  clear hF hlog hlo hb hkb
  go_enter Yba.func12, Yba.ntmps12
  go_wp2
  go_loopw [9, 11, 16] (fun c _ i wx => ∃ k : Nat, k ≤ n ∧ i = .int .i64 k ∧ c = .int .i64 ((sels mod 16 present ks k).length : Int) ∧ Below w.heap.size w wx) (fun _ _ i _ => n - (intOf i).toNat)
  case atStart => exact ⟨0, by omega, rfl, rfl, Below.refl _ _⟩
  case round =>
    obtain ⟨k, hk, rfl, rfl, hbw⟩ := hrel
    have hsl := sels_le mod 16 present ks k
    by_cases hlt : k < n
    · obtain ⟨r0, r1, r2⟩ := HF.out.row k hlt
      have c0 := (hbw.cell (p := ⟨F, k * 3, none⟩) hFs).trans r0
      have c1 := (hbw.cell (p := ⟨F, k * 3 + 1, none⟩) hFs).trans r1
      have c2 := (hbw.cell (p := ⟨F, k * 3 + 2, none⟩) hFs).trans r2
      unfold clo at c1
      clear r0 r1 r2
      have hzb := HKB.out k
      have hsy := @sels_yes mod 16 present ks k
      have hsn := @sels_no mod 16 present ks k
      generalize ks.getD k 0 = z at c0 hzb hsy hsn
      obtain ⟨q1, q2⟩ := hzb
      have m0 : 0 ≤ z % (mod : Int) := Int.emod_nonneg _ hmn
      have m1 : z % (mod : Int) < mod := Int.emod_lt_of_pos _ hm0'
      generalize z % (mod : Int) = kk at *
      have hQ := selQ16 present kk hp0 hp1 m0 (by omega)
      have HSY : Hid (sel 16 present kk = true → sels mod 16 present ks (k + 1) = sels mod 16 present ks k ++ [k]) := hsy
      have HSN : Hid (sel 16 present kk = false → sels mod 16 present ks (k + 1) = sels mod 16 present ks k) := hsn
      have HB : Hid (Below w.heap.size w wr) := hbw
      clear hsy hsn hbw q1 q2
      cases hs : sel 16 present kk
      · rw [hs] at hQ
        have HS' : Hid (sels mod 16 present ks (k + 1) = sels mod 16 present ks k) := HSN.out hs
        clear hs
        go_wp2
        go_roundw
        case rel => first | exact ⟨k + 1, by omega, by go_num, by rw [HS'.out], HB.out.alloc HB.out.size _⟩ | ((repeat apply Exists.intro); exact ⟨⟨k + 1, by omega, by go_num, by rw [HS'.out], HB.out.alloc HB.out.size _⟩, rfl⟩)
        case measure => simp [intOf]; omega
      · rw [hs] at hQ
        have HS' : Hid (sels mod 16 present ks (k + 1) = sels mod 16 present ks k ++ [k]) := HSY.out hs
        clear hs
        go_wp2
        go_roundw
        case rel => first | exact ⟨k + 1, by omega, by go_num, by rw [HS'.out, List.length_append]; go_num, HB.out.alloc HB.out.size _⟩ | ((repeat apply Exists.intro); exact ⟨⟨k + 1, by omega, by go_num, by rw [HS'.out, List.length_append]; go_num, HB.out.alloc HB.out.size _⟩, rfl⟩)
        case measure => simp [intOf]; omega
    · obtain rfl : n = k := by omega
      clear hlt
      have hN := HF.out.nsize
      have ho1 := owns_below HO.out hbw rfl
      have hNw : N ≤ wr.heap.size := by have := hbw.size; omega
      have HM : Hid (Calls Yba.prog 20 #[vb, .int .i64 ((sels mod 16 present ks n).length : Int)] wr fun e w' => ∃ sv', e = .returned sv' ∧ w'.ownsRow N 5 1 sv' (m + (hd (sels mod 16 present ks n).length).length) (ys ++ hd (sels mod 16 present ks n).length) ∧ Fr N 5 wr w') :=
        appmap N m _ vb ys wr ho1 hNw (by omega) (by omega) (by omega)
      have HB : Hid (Below w.heap.size w wr) := hbw
      clear ho1 hbw
      go_wp2_with (go_at_call 20; refine HM.out.mono ?_; rintro e w2 ⟨v2, rfl, h3, hfr⟩)
      have hkp : Kept N L w w2 := Kept.fr (w := wr) ⟨HB.out.os, HB.out.tape, HB.out.output, HB.out.size, fun j hj _ => HB.out.block j (by omega)⟩ hfr hNw
      have hlo2 : LogOwn N w2 vlog [] := by
        rcases HL.out.2 with h | h
        · exact .inl h
        · exact .inr (hfr.owns (by decide) (owns_below h HB.out rfl))
      have hL2 : w2.heap[L]? = some (.cells #[vlog] 51 (0, 0)) := (hfr.2.2.2.2 L (by have := HF.out.lN; omega) (.inl HF.out.lN)).trans ((HB.out.block L (by have := HF.out.lN; omega)).trans HL.out.1)
      have hs0 : sels mod 16 present ks 0 = [] := rfl
      have HI : Hid (∃ m1 vl, w2.ownsRow N 5 1 v2 m1 (ys ++ (hd (sels mod 16 present ks n).length ++ B8 (outs mod ks (sels mod 16 present ks 0)))) ∧ w2.heap[L]? = some (.cells #[vl] 51 (0, 0)) ∧ LogOwn N w2 vl (I64 (sels mod 16 present ks 0)) ∧ Kept N L w w2) :=
        ⟨_, vlog, by rw [hs0]; simpa [outs, B8] using h3, hL2, by rw [hs0]; exact hlo2, hkp⟩
      clear h3 hfr hkp hlo2 hL2 hs0 HM
      generalize hHD : hd (sels mod 16 present ks n).length = HD at HI
      have hHl : HD.length ≤ 3 := by rw [← hHD, hd_eq, List.length_map]; exact (hdI_len _).2
      have HHD : Hid (hd (sels mod 16 present ks n).length = HD) := hHD
      clear hHD
      go_loopw [0, 13, 34] (fun v _ i wx => ∃ j : Nat, j ≤ n ∧ i = .int .i64 j ∧ ∃ m1 vl, wx.ownsRow N 5 1 v m1 (ys ++ (HD ++ B8 (outs mod ks (sels mod 16 present ks j)))) ∧ wx.heap[L]? = some (.cells #[vl] 51 (0, 0)) ∧ LogOwn N wx vl (I64 (sels mod 16 present ks j)) ∧ Kept N L w wx) (fun _ _ i _ => n - (intOf i).toNat)
      case atStart => exact ⟨0, by omega, rfl, HI.out⟩
      case round =>
        clear HI HB hNw
        obtain ⟨j, hj, rfl, m1, vl, how, hLw, hlow, hkp⟩ := hrel
        have hsj := sels_le mod 16 present ks j
        have hm1 : m1 ≤ 10000 := by
          have e1 := how.1
          have e2 := HO.out.1
          rw [List.length_append, List.length_append, B8_len, outs_len] at e1
          omega
        have hfd := HF.out.later hkp ⟨_, hLw⟩
        have hNw := hfd.nsize
        by_cases hlt : j < n
        · obtain ⟨c0, c1, c2⟩ := hfd.row j hlt
          unfold clo at c1
          have hFw : F < wr.heap.size := by have := hfd.fN; omega
          have hzb := HKB.out j
          have hsy := @sels_yes mod 16 present ks j
          have hsn := @sels_no mod 16 present ks j
          have hos := outs_snoc mod ks (sels mod 16 present ks j) j
          generalize ks.getD j 0 = z at c0 hzb hsy hsn hos
          obtain ⟨q1, q2⟩ := hzb
          have m0 : 0 ≤ z % (mod : Int) := Int.emod_nonneg _ hmn
          have m2 : z % (mod : Int) < mod := Int.emod_lt_of_pos _ hm0'
          generalize z % (mod : Int) = kk at *
          have hQ := selQ16 present kk hp0 hp1 m0 (by omega)
          have hk24 : kk < 24 := by omega
          have hw64 : IntKind.u64.wrap kk = kk := wraps_u64 kk m0 (by omega)
          have HSY : Hid (sel 16 present kk = true → sels mod 16 present ks (j + 1) = sels mod 16 present ks j ++ [j]) := hsy
          have HSN : Hid (sel 16 present kk = false → sels mod 16 present ks (j + 1) = sels mod 16 present ks j) := hsn
          have HOS : Hid (outs mod ks (sels mod 16 present ks j ++ [j]) = outs mod ks (sels mod 16 present ks j) ++ [kk, (j : Int) % 256]) := hos
          have HW : Hid (wr.ownsRow N 5 1 u0 m1 (ys ++ (HD ++ B8 (outs mod ks (sels mod 16 present ks j)))) ∧ wr.heap[L]? = some (.cells #[vl] 51 (0, 0)) ∧ LogOwn N wr vl (I64 (sels mod 16 present ks j)) ∧ Kept N L w wr) := ⟨how, hLw, hlow, hkp⟩
          have HFD : Hid (Fed mod ks N L B R S F n ix wr) := hfd
          clear hsy hsn hos q1 q2 how hLw hlow hkp hfd
          cases hs : sel 16 present kk
          · rw [hs] at hQ
            have HS' : Hid (sels mod 16 present ks (j + 1) = sels mod 16 present ks j) := HSN.out hs
            clear hs
            go_wp2
            have HR : Hid (∃ m1 vl, (wr.alloc (.cells #[.int .i64 kk, .func (.func 19) #[] #[.pointer (some ⟨B + 1, 0, none⟩), .pointer (some ⟨ix j, 0, none⟩), .pointer (some ⟨B, 0, none⟩), .pointer (some ⟨B + 2, 0, none⟩)], .nilFunc] 74)).ownsRow N 5 1 u0 m1 (ys ++ (HD ++ B8 (outs mod ks (sels mod 16 present ks (j + 1))))) ∧ (wr.alloc (.cells #[.int .i64 kk, .func (.func 19) #[] #[.pointer (some ⟨B + 1, 0, none⟩), .pointer (some ⟨ix j, 0, none⟩), .pointer (some ⟨B, 0, none⟩), .pointer (some ⟨B + 2, 0, none⟩)], .nilFunc] 74)).heap[L]? = some (.cells #[vl] 51 (0, 0)) ∧ LogOwn N (wr.alloc (.cells #[.int .i64 kk, .func (.func 19) #[] #[.pointer (some ⟨B + 1, 0, none⟩), .pointer (some ⟨ix j, 0, none⟩), .pointer (some ⟨B, 0, none⟩), .pointer (some ⟨B + 2, 0, none⟩)], .nilFunc] 74)) vl (I64 (sels mod 16 present ks (j + 1))) ∧ Kept N L w (wr.alloc (.cells #[.int .i64 kk, .func (.func 19) #[] #[.pointer (some ⟨B + 1, 0, none⟩), .pointer (some ⟨ix j, 0, none⟩), .pointer (some ⟨B, 0, none⟩), .pointer (some ⟨B + 2, 0, none⟩)], .nilFunc] 74))) := by
              rw [HS'.out]
              exact ⟨m1, vl, HW.out.1.alloc _, (Below.heap_alloc _ _ _ (by have := HFD.out.lN; omega)).trans HW.out.2.1, HW.out.2.2.1.alloc _, HW.out.2.2.2.alloc hNw _⟩
            go_roundw
            case rel => first | exact ⟨j + 1, by omega, by go_num, HR.out⟩ | ((repeat apply Exists.intro); exact ⟨⟨j + 1, by omega, by go_num, HR.out⟩, rfl⟩)
            case measure => simp [intOf]; omega
          · rw [hs] at hQ
            have HS' : Hid (sels mod 16 present ks (j + 1) = sels mod 16 present ks j ++ [j]) := HSY.out hs
            clear hs
            go_upto_region 13 with fail
            go_region_with (first
              | (go_at_call 21; refine (appuint N m1 kk u0 _ _ (HW.out.1.alloc _).drew (by simp; omega) (by omega) m0 hk24).mono ?_; rintro e w2 ⟨v4, rfl, h3, hfr⟩; have hau := after_uint HFD.out hlt HW.out.2.1 HW.out.2.2.1 hfr h3; have hf1 := fcell hfr (by decide); clear hfr)
              | (go_at_call 19; refine (clo_any N L B R S (ix j) j (m1 + 1) vl v4 (I64 (sels mod 16 present ks j)) _ _ hau.1 hau.2.1 (by omega) (by rw [I64_len]; omega) (by omega)).mono ?_; rintro e w3 ⟨v5, vl5, rfl, h5, h6, h7, h8⟩))
            all_goals
              have HR : Hid (∃ m1 vl, w3.ownsRow N 5 1 v5 m1 (ys ++ (HD ++ B8 (outs mod ks (sels mod 16 present ks (j + 1))))) ∧ w3.heap[L]? = some (.cells #[vl] 51 (0, 0)) ∧ LogOwn N w3 vl (I64 (sels mod 16 present ks (j + 1))) ∧ Kept N L w w3) :=
                ⟨_, vl5, by rw [HS'.out, HOS.out]; simpa [B8] using h5, h6, by rw [HS'.out, I64_snoc]; exact h7, HW.out.2.2.2.trans (hau.2.2.trans h8)⟩
              clear h5 h6 h7 h8 hau h3
              go_wp2
              go_roundw
              case rel => first | exact ⟨j + 1, by omega, by go_num, HR.out⟩ | ((repeat apply Exists.intro); exact ⟨⟨j + 1, by omega, by go_num, HR.out⟩, rfl⟩)
              case measure => simp [intOf]; omega
        · obtain rfl : n = j := by omega
          clear hlt
          go_wp2
          go_ret
          rw [HHD.out]
          exact ⟨_, _, vl, rfl, how, hLw, hlow, hkp⟩

set_option maxRecDepth 100000 in
set_option maxHeartbeats 4000000 in
theorem afS (mod : Nat) (ks : List Int) (N L B R S F n m : Nat) (ix : Nat → Nat) (present : Int) (vlog vb : Value) (ys : List Value) (w : World) (hp0 : 0 ≤ present) (hp1 : present < 256) (hm0 : 0 < mod) (hm1 : mod ≤ 24) (hn : n ≤ 1024) (hm : m ≤ 5000)
    (hkb : ∀ j, 0 ≤ ks.getD j 0 ∧ ks.getD j 0 < 256) (hF : Fed mod ks N L B R S F n ix w) (hlog : w.heap[L]? = some (.cells #[vlog] 51 (0, 0))) (hlo : LogOwn N w vlog []) (hb : w.ownsRow N 5 1 vb m ys) :
    Calls Yba.prog 16 #[vb, .pointer (some ⟨R, 0, none⟩), .int .u8 present, .slice (some ⟨F, 0, none⟩) n n] w fun e w' => ∃ vb' m' vlog', e = .returned vb' ∧
      w'.ownsRow N 5 1 vb' m' (ys ++ (hd (sels mod 8 present ks n).length ++ B8 (outs mod ks (sels mod 8 present ks n)))) ∧ w'.heap[L]? = some (.cells #[vlog'] 51 (0, 0)) ∧ LogOwn N w' vlog' (I64 (sels mod 8 present ks n)) ∧ Kept N L w w' := by
  have hm0' : (0 : Int) < (mod : Int) := by omega
  have hmn : ¬ (mod : Int) = 0 := by omega
  have hFs : F < w.heap.size := by have := hF.fN; have := hF.nsize; omega
  have HF : Hid (Fed mod ks N L B R S F n ix w) := hF
  have HL : Hid (w.heap[L]? = some (.cells #[vlog] 51 (0, 0)) ∧ LogOwn N w vlog []) := ⟨hlog, hlo⟩
  have HO : Hid (w.ownsRow N 5 1 vb m ys) := hb
  have HKB : Hid (∀ j, 0 ≤ ks.getD j 0 ∧ ks.getD j 0 < 256) := hkb
  clear hF hlog hlo hb hkb
  go_enter Yba.func16, Yba.ntmps16
  go_wp2
  go_loopw [9, 11, 16] (fun c _ i wx => ∃ k : Nat, k ≤ n ∧ i = .int .i64 k ∧ c = .int .i64 ((sels mod 8 present ks k).length : Int) ∧ Below w.heap.size w wx) (fun _ _ i _ => n - (intOf i).toNat)
  case atStart => exact ⟨0, by omega, rfl, rfl, Below.refl _ _⟩
  case round =>
    obtain ⟨k, hk, rfl, rfl, hbw⟩ := hrel
    have hsl := sels_le mod 8 present ks k
    by_cases hlt : k < n
    · obtain ⟨r0, r1, r2⟩ := HF.out.row k hlt
      have c0 := (hbw.cell (p := ⟨F, k * 3, none⟩) hFs).trans r0
      have c1 := (hbw.cell (p := ⟨F, k * 3 + 1, none⟩) hFs).trans r1
      have c2 := (hbw.cell (p := ⟨F, k * 3 + 2, none⟩) hFs).trans r2
      unfold clo at c1
      clear r0 r1 r2
      have hzb := HKB.out k
      have hsy := @sels_yes mod 8 present ks k
      have hsn := @sels_no mod 8 present ks k
      generalize ks.getD k 0 = z at c0 hzb hsy hsn
      obtain ⟨q1, q2⟩ := hzb
      have m0 : 0 ≤ z % (mod : Int) := Int.emod_nonneg _ hmn
      have m1 : z % (mod : Int) < mod := Int.emod_lt_of_pos _ hm0'
      generalize z % (mod : Int) = kk at *
      have hQ := selQ8w present kk hp0 hp1 m0 (by omega)
      have HSY : Hid (sel 8 present kk = true → sels mod 8 present ks (k + 1) = sels mod 8 present ks k ++ [k]) := hsy
      have HSN : Hid (sel 8 present kk = false → sels mod 8 present ks (k + 1) = sels mod 8 present ks k) := hsn
      have HB : Hid (Below w.heap.size w wr) := hbw
      clear hsy hsn hbw q1 q2
      cases hs : sel 8 present kk
      · rw [hs] at hQ
        have HS' : Hid (sels mod 8 present ks (k + 1) = sels mod 8 present ks k) := HSN.out hs
        clear hs
        go_wp2
        go_roundw
        case rel => first | exact ⟨k + 1, by omega, by go_num, by rw [HS'.out], HB.out.alloc HB.out.size _⟩ | ((repeat apply Exists.intro); exact ⟨⟨k + 1, by omega, by go_num, by rw [HS'.out], HB.out.alloc HB.out.size _⟩, rfl⟩)
        case measure => simp [intOf]; omega
      · rw [hs] at hQ
        have HS' : Hid (sels mod 8 present ks (k + 1) = sels mod 8 present ks k ++ [k]) := HSY.out hs
        clear hs
        go_wp2
        go_roundw
        case rel => first | exact ⟨k + 1, by omega, by go_num, by rw [HS'.out, List.length_append]; go_num, HB.out.alloc HB.out.size _⟩ | ((repeat apply Exists.intro); exact ⟨⟨k + 1, by omega, by go_num, by rw [HS'.out, List.length_append]; go_num, HB.out.alloc HB.out.size _⟩, rfl⟩)
        case measure => simp [intOf]; omega
    · obtain rfl : n = k := by omega
      clear hlt
      have hN := HF.out.nsize
      have ho1 := owns_below HO.out hbw rfl
      have hNw : N ≤ wr.heap.size := by have := hbw.size; omega
      have HM : Hid (Calls Yba.prog 20 #[vb, .int .i64 ((sels mod 8 present ks n).length : Int)] wr fun e w' => ∃ sv', e = .returned sv' ∧ w'.ownsRow N 5 1 sv' (m + (hd (sels mod 8 present ks n).length).length) (ys ++ hd (sels mod 8 present ks n).length) ∧ Fr N 5 wr w') :=
        appmap N m _ vb ys wr ho1 hNw (by omega) (by omega) (by omega)
      have HB : Hid (Below w.heap.size w wr) := hbw
      clear ho1 hbw
      go_wp2_with (go_at_call 20; refine HM.out.mono ?_; rintro e w2 ⟨v2, rfl, h3, hfr⟩)
      have hkp : Kept N L w w2 := Kept.fr (w := wr) ⟨HB.out.os, HB.out.tape, HB.out.output, HB.out.size, fun j hj _ => HB.out.block j (by omega)⟩ hfr hNw
      have hlo2 : LogOwn N w2 vlog [] := by
        rcases HL.out.2 with h | h
        · exact .inl h
        · exact .inr (hfr.owns (by decide) (owns_below h HB.out rfl))
      have hL2 : w2.heap[L]? = some (.cells #[vlog] 51 (0, 0)) := (hfr.2.2.2.2 L (by have := HF.out.lN; omega) (.inl HF.out.lN)).trans ((HB.out.block L (by have := HF.out.lN; omega)).trans HL.out.1)
      have hs0 : sels mod 8 present ks 0 = [] := rfl
      have HI : Hid (∃ m1 vl, w2.ownsRow N 5 1 v2 m1 (ys ++ (hd (sels mod 8 present ks n).length ++ B8 (outs mod ks (sels mod 8 present ks 0)))) ∧ w2.heap[L]? = some (.cells #[vl] 51 (0, 0)) ∧ LogOwn N w2 vl (I64 (sels mod 8 present ks 0)) ∧ Kept N L w w2) :=
        ⟨_, vlog, by rw [hs0]; simpa [outs, B8] using h3, hL2, by rw [hs0]; exact hlo2, hkp⟩
      clear h3 hfr hkp hlo2 hL2 hs0 HM
      generalize hHD : hd (sels mod 8 present ks n).length = HD at HI
      have hHl : HD.length ≤ 3 := by rw [← hHD, hd_eq, List.length_map]; exact (hdI_len _).2
      have HHD : Hid (hd (sels mod 8 present ks n).length = HD) := hHD
      clear hHD
      go_loopw [0, 13, 34] (fun v _ i wx => ∃ j : Nat, j ≤ n ∧ i = .int .i64 j ∧ ∃ m1 vl, wx.ownsRow N 5 1 v m1 (ys ++ (HD ++ B8 (outs mod ks (sels mod 8 present ks j)))) ∧ wx.heap[L]? = some (.cells #[vl] 51 (0, 0)) ∧ LogOwn N wx vl (I64 (sels mod 8 present ks j)) ∧ Kept N L w wx) (fun _ _ i _ => n - (intOf i).toNat)
      case atStart => exact ⟨0, by omega, rfl, HI.out⟩
      case round =>
        clear HI HB hNw
        obtain ⟨j, hj, rfl, m1, vl, how, hLw, hlow, hkp⟩ := hrel
        have hsj := sels_le mod 8 present ks j
        have hm1 : m1 ≤ 10000 := by
          have e1 := how.1
          have e2 := HO.out.1
          rw [List.length_append, List.length_append, B8_len, outs_len] at e1
          omega
        have hfd := HF.out.later hkp ⟨_, hLw⟩
        have hNw := hfd.nsize
        by_cases hlt : j < n
        · obtain ⟨c0, c1, c2⟩ := hfd.row j hlt
          unfold clo at c1
          have hFw : F < wr.heap.size := by have := hfd.fN; omega
          have hzb := HKB.out j
          have hsy := @sels_yes mod 8 present ks j
          have hsn := @sels_no mod 8 present ks j
          have hos := outs_snoc mod ks (sels mod 8 present ks j) j
          generalize ks.getD j 0 = z at c0 hzb hsy hsn hos
          obtain ⟨q1, q2⟩ := hzb
          have m0 : 0 ≤ z % (mod : Int) := Int.emod_nonneg _ hmn
          have m2 : z % (mod : Int) < mod := Int.emod_lt_of_pos _ hm0'
          generalize z % (mod : Int) = kk at *
          have hQ := selQ8w present kk hp0 hp1 m0 (by omega)
          have hk24 : kk < 24 := by omega
          have hw64 : IntKind.u64.wrap kk = kk := wraps_u64 kk m0 (by omega)
          have HSY : Hid (sel 8 present kk = true → sels mod 8 present ks (j + 1) = sels mod 8 present ks j ++ [j]) := hsy
          have HSN : Hid (sel 8 present kk = false → sels mod 8 present ks (j + 1) = sels mod 8 present ks j) := hsn
          have HOS : Hid (outs mod ks (sels mod 8 present ks j ++ [j]) = outs mod ks (sels mod 8 present ks j) ++ [kk, (j : Int) % 256]) := hos
          have HW : Hid (wr.ownsRow N 5 1 u0 m1 (ys ++ (HD ++ B8 (outs mod ks (sels mod 8 present ks j)))) ∧ wr.heap[L]? = some (.cells #[vl] 51 (0, 0)) ∧ LogOwn N wr vl (I64 (sels mod 8 present ks j)) ∧ Kept N L w wr) := ⟨how, hLw, hlow, hkp⟩
          have HFD : Hid (Fed mod ks N L B R S F n ix wr) := hfd
          clear hsy hsn hos q1 q2 how hLw hlow hkp hfd
          cases hs : sel 8 present kk
          · rw [hs] at hQ
            have HS' : Hid (sels mod 8 present ks (j + 1) = sels mod 8 present ks j) := HSN.out hs
            clear hs
            go_wp2
            have HR : Hid (∃ m1 vl, (wr.alloc (.cells #[.int .i64 kk, .func (.func 19) #[] #[.pointer (some ⟨B + 1, 0, none⟩), .pointer (some ⟨ix j, 0, none⟩), .pointer (some ⟨B, 0, none⟩), .pointer (some ⟨B + 2, 0, none⟩)], .nilFunc] 74)).ownsRow N 5 1 u0 m1 (ys ++ (HD ++ B8 (outs mod ks (sels mod 8 present ks (j + 1))))) ∧ (wr.alloc (.cells #[.int .i64 kk, .func (.func 19) #[] #[.pointer (some ⟨B + 1, 0, none⟩), .pointer (some ⟨ix j, 0, none⟩), .pointer (some ⟨B, 0, none⟩), .pointer (some ⟨B + 2, 0, none⟩)], .nilFunc] 74)).heap[L]? = some (.cells #[vl] 51 (0, 0)) ∧ LogOwn N (wr.alloc (.cells #[.int .i64 kk, .func (.func 19) #[] #[.pointer (some ⟨B + 1, 0, none⟩), .pointer (some ⟨ix j, 0, none⟩), .pointer (some ⟨B, 0, none⟩), .pointer (some ⟨B + 2, 0, none⟩)], .nilFunc] 74)) vl (I64 (sels mod 8 present ks (j + 1))) ∧ Kept N L w (wr.alloc (.cells #[.int .i64 kk, .func (.func 19) #[] #[.pointer (some ⟨B + 1, 0, none⟩), .pointer (some ⟨ix j, 0, none⟩), .pointer (some ⟨B, 0, none⟩), .pointer (some ⟨B + 2, 0, none⟩)], .nilFunc] 74))) := by
              rw [HS'.out]
              exact ⟨m1, vl, HW.out.1.alloc _, (Below.heap_alloc _ _ _ (by have := HFD.out.lN; omega)).trans HW.out.2.1, HW.out.2.2.1.alloc _, HW.out.2.2.2.alloc hNw _⟩
            go_roundw
            case rel => first | exact ⟨j + 1, by omega, by go_num, HR.out⟩ | ((repeat apply Exists.intro); exact ⟨⟨j + 1, by omega, by go_num, HR.out⟩, rfl⟩)
            case measure => simp [intOf]; omega
          · rw [hs] at hQ
            have HS' : Hid (sels mod 8 present ks (j + 1) = sels mod 8 present ks j ++ [j]) := HSY.out hs
            clear hs
            go_upto_region 13 with fail
            go_region_with (first
              | (go_at_call 21; refine (appuint N m1 kk u0 _ _ (HW.out.1.alloc _).drew (by simp; omega) (by omega) m0 hk24).mono ?_; rintro e w2 ⟨v4, rfl, h3, hfr⟩; have hau := after_uint HFD.out hlt HW.out.2.1 HW.out.2.2.1 hfr h3; have hf1 := fcell hfr (by decide); clear hfr)
              | (go_at_call 19; refine (clo_any N L B R S (ix j) j (m1 + 1) vl v4 (I64 (sels mod 8 present ks j)) _ _ hau.1 hau.2.1 (by omega) (by rw [I64_len]; omega) (by omega)).mono ?_; rintro e w3 ⟨v5, vl5, rfl, h5, h6, h7, h8⟩))
            all_goals
              have HR : Hid (∃ m1 vl, w3.ownsRow N 5 1 v5 m1 (ys ++ (HD ++ B8 (outs mod ks (sels mod 8 present ks (j + 1))))) ∧ w3.heap[L]? = some (.cells #[vl] 51 (0, 0)) ∧ LogOwn N w3 vl (I64 (sels mod 8 present ks (j + 1))) ∧ Kept N L w w3) :=
                ⟨_, vl5, by rw [HS'.out, HOS.out]; simpa [B8] using h5, h6, by rw [HS'.out, I64_snoc]; exact h7, HW.out.2.2.2.trans (hau.2.2.trans h8)⟩
              clear h5 h6 h7 h8 hau h3
              go_wp2
              go_roundw
              case rel => first | exact ⟨j + 1, by omega, by go_num, HR.out⟩ | ((repeat apply Exists.intro); exact ⟨⟨j + 1, by omega, by go_num, HR.out⟩, rfl⟩)
              case measure => simp [intOf]; omega
        · obtain rfl : n = j := by omega
          clear hlt
          go_wp2
          go_ret
          rw [HHD.out]
          exact ⟨_, _, vl, rfl, how, hLw, hlow, hkp⟩

end Go.Proofs.Ybulkcufi.Rec
