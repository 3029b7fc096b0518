/-
  PLAIN: which keys are selected; the lists that both texts write. No walk.
-/
import Derived.Test.YbulkcufiRecB
namespace Go.Proofs.Ybulkcufi.Rec

/-- Is the bit of the key in the set (of 'width' bits)? -/
def sel (width : Nat) (present kk : Int) : Bool := decide (kk < width) && (present / 2 ^ kk.toNat % 2 == 1)

theorem land_pow (p k : Nat) : (p &&& 2 ^ k != 0) = (p / 2 ^ k % 2 == 1) := by
  have h2 : p.testBit k = decide (p / 2 ^ k % 2 = 1) := Nat.testBit_eq_decide_div_mod_eq
  by_cases h : p / 2 ^ k % 2 = 1
  · have hb : (p &&& 2 ^ k).testBit k = true := by
      rw [Nat.testBit_and, h2, Nat.testBit_two_pow]; simp [h]
    have hne : p &&& 2 ^ k ≠ 0 := by
      intro h0; rw [h0] at hb; simp at hb
    rw [h]; simpa using hne
  · have hz : p &&& 2 ^ k = 0 := by
      apply Nat.eq_of_testBit_eq
      intro i
      rw [Nat.testBit_and, Nat.testBit_two_pow, Nat.zero_testBit]
      by_cases hi : k = i
      · subst hi; rw [h2]; simp [h]
      · simp [hi]
    have h0 : p / 2 ^ k % 2 = 0 := by omega
    rw [hz, h0]; rfl

theorem cast_div (p k : Nat) : (p : Int) / 2 ^ k = ((p / 2 ^ k : Nat) : Int) := by
  rw [Int.natCast_ediv, Int.natCast_pow]; rfl
theorem cast_sel (p k : Nat) : ((p : Int) / 2 ^ k % 2 == 1) = (p / 2 ^ k % 2 == 1) := by
  rw [cast_div]
  by_cases h : p / 2 ^ k % 2 = 1
  · have : ((p / 2 ^ k : Nat) : Int) % 2 = 1 := by omega
    rw [h, this]; rfl
  · have h0 : p / 2 ^ k % 2 = 0 := by omega
    have : ((p / 2 ^ k : Nat) : Int) % 2 = 0 := by omega
    rw [h0, this]; rfl
theorem nat_neq (q : Nat) : ((q : Int) != 0) = (q != 0) := by
  by_cases h : q = 0
  · subst h; rfl
  · have h' : ((q : Int) != 0) = true := by rw [bne_iff_ne]; omega
    have h2 : (q != 0) = true := by rw [bne_iff_ne]; exact h
    rw [h', h2]

theorem selQ16 (present kk : Int) (h0 : 0 ≤ present) (h1 : present < 65536) (k0 : 0 ≤ kk) (k1 : kk < 24) :
    (bits .and .u16 present (IntKind.u16.wrap (2 ^ min kk.toNat 16)) != 0) = sel 16 present kk := by
  obtain ⟨p, rfl⟩ := Int.eq_ofNat_of_zero_le h0
  obtain ⟨k, rfl⟩ := Int.eq_ofNat_of_zero_le k0
  unfold sel
  rw [Int.toNat_natCast]
  by_cases hk : k < 16
  · have e : ((2 : Int) ^ min k 16) = ((2 ^ k : Nat) : Int) := by rw [Nat.min_eq_left (by omega)]; simp
    have hlt : 2 ^ k < 65536 := by
      have : 2 ^ k ≤ 2 ^ 15 := Nat.pow_le_pow_right (by decide) (by omega)
      omega
    rw [e, wraps_u16 _ (Int.natCast_nonneg _) (by exact_mod_cast hlt), (bits_nat .u16 16 (by decide) wraps_u16 p (2 ^ k) (by omega) (by omega)).1, cast_sel, ← land_pow]
    have hd : decide ((k : Int) < ((16 : Nat) : Int)) = true := by simp; omega
    rw [hd, Bool.true_and, nat_neq]
  · have e : IntKind.u16.wrap ((2 : Int) ^ min k 16) = ((0 : Nat) : Int) := by rw [Nat.min_eq_right (by omega)]; decide
    rw [e, (bits_nat .u16 16 (by decide) wraps_u16 p 0 (by omega) (by decide)).1]
    have hd : decide ((k : Int) < ((16 : Nat) : Int)) = false := by simp; omega
    rw [hd]; simp

theorem wraps_u8' (n : Int) (h₀ : 0 ≤ n) (h₁ : n < 2 ^ 8) : IntKind.u8.wrap n = n := by simp [IntKind.wrap, IntKind.bits, IntKind.signed]; omega

theorem selQ8 (present kk : Int) (h0 : 0 ≤ present) (h1 : present < 256) (k0 : 0 ≤ kk) (k1 : kk < 24) :
    (bits .and .u8 present (IntKind.u8.wrap (2 ^ min kk.toNat 8)) != 0) = sel 8 present kk := by
  obtain ⟨p, rfl⟩ := Int.eq_ofNat_of_zero_le h0
  obtain ⟨k, rfl⟩ := Int.eq_ofNat_of_zero_le k0
  unfold sel
  rw [Int.toNat_natCast]
  by_cases hk : k < 8
  · have e : ((2 : Int) ^ min k 8) = ((2 ^ k : Nat) : Int) := by rw [Nat.min_eq_left (by omega)]; simp
    have hlt : 2 ^ k < 256 := by
      have : 2 ^ k ≤ 2 ^ 7 := Nat.pow_le_pow_right (by decide) (by omega)
      omega
    rw [e, wraps_u8' _ (Int.natCast_nonneg _) (by exact_mod_cast hlt), (bits_nat .u8 8 (by decide) wraps_u8' p (2 ^ k) (by omega) (by omega)).1, cast_sel, ← land_pow]
    have hd : decide ((k : Int) < ((8 : Nat) : Int)) = true := by simp; omega
    rw [hd, Bool.true_and, nat_neq]
  · have e : IntKind.u8.wrap ((2 : Int) ^ min k 8) = ((0 : Nat) : Int) := by rw [Nat.min_eq_right (by omega)]; decide
    rw [e, (bits_nat .u8 8 (by decide) wraps_u8' p 0 (by omega) (by decide)).1]
    have hd : decide ((k : Int) < ((8 : Nat) : Int)) = false := by simp; omega
    rw [hd]; simp

theorem selM (width : Nat) (present kk : Int) (h0 : 0 ≤ present) (h1 : present < 65536) (k0 : 0 ≤ kk) (k1 : kk < width) :
    (bits .and .u64 (present / 2 ^ kk.toNat) 1 == 1) = sel width present kk := by
  obtain ⟨p, rfl⟩ := Int.eq_ofNat_of_zero_le h0
  obtain ⟨k, rfl⟩ := Int.eq_ofNat_of_zero_le k0
  unfold sel
  have hd : decide ((k : Int) < (width : Int)) = true := by simp; omega
  rw [hd, Bool.true_and, Int.toNat_natCast, cast_sel]
  have hq : p / 2 ^ k ≤ p := Nat.div_le_self _ _
  have e := cast_div p k
  have e1 : (1 : Int) = ((1 : Nat) : Int) := rfl
  rw [e, e1, (bits_nat .u64 64 (by decide) wraps_u64 (p / 2 ^ k) 1 (by omega) (by omega)).1, Nat.and_one_is_mod]
  by_cases h : p / 2 ^ k % 2 = 1
  · rw [h]; rfl
  · have h0 : p / 2 ^ k % 2 = 0 := by omega
    rw [h0]; rfl

theorem selM_no (width : Nat) (present kk : Int) (k1 : ¬ kk < width) : sel width present kk = false := by
  unfold sel; simp [k1]

/-- The indices that are selected among the first n keys. -/
def sels (mod width : Nat) (present : Int) (ks : List Int) : Nat → List Nat
  | 0 => []
  | n + 1 => sels mod width present ks n ++ (if sel width present (ks.getD n 0 % mod) then [n] else [])

/-- The bytes that the fields come to. -/
def outs (mod : Nat) (ks : List Int) (is : List Nat) : List Int := is.flatMap fun i => [ks.getD i 0 % mod, (i : Int) % 256]

theorem sels_le (mod width : Nat) (present : Int) (ks : List Int) : ∀ n, (sels mod width present ks n).length ≤ n
  | 0 => by simp [sels]
  | n + 1 => by
    have := sels_le mod width present ks n
    simp only [sels, List.length_append]
    split <;> simp <;> omega
theorem sels_yes {mod width : Nat} {present : Int} {ks : List Int} {n : Nat} (h : sel width present (ks.getD n 0 % mod) = true) : sels mod width present ks (n + 1) = sels mod width present ks n ++ [n] := by
  rw [sels, if_pos h]
theorem sels_no {mod width : Nat} {present : Int} {ks : List Int} {n : Nat} (h : sel width present (ks.getD n 0 % mod) = false) : sels mod width present ks (n + 1) = sels mod width present ks n := by
  rw [sels, if_neg (by rw [h]; decide), List.append_nil]
theorem sels_lt (mod width : Nat) (present : Int) (ks : List Int) : ∀ n i, i ∈ sels mod width present ks n → i < n
  | 0, i, h => by simp [sels] at h
  | n + 1, i, h => by
    simp only [sels, List.mem_append] at h
    rcases h with h | h
    · have := sels_lt mod width present ks n i h; omega
    · split at h
      · simp at h; omega
      · simp at h
theorem outs_snoc (mod : Nat) (ks : List Int) (is : List Nat) (i : Nat) : outs mod ks (is ++ [i]) = outs mod ks is ++ [ks.getD i 0 % mod, (i : Int) % 256] := by
  simp [outs]
theorem outs_len (mod : Nat) (ks : List Int) (is : List Nat) : (outs mod ks is).length = 2 * is.length := by
  induction is with
  | nil => rfl
  | cons a l ih => simp only [outs, List.flatMap_cons, List.length_append, List.length_cons] at *; simp only [List.length_nil]; omega

end Go.Proofs.Ybulkcufi.Rec
