/- What RoundUpSize computes, as a plain function of a number, and its laws: it is the least class, or whole pages. No program in sight. -/
import Derived.Test.YtpebmkbfpeialaaDoorTabs
namespace Go.Proofs.YtpebmkbfpeialaaDoor.Tabs

/-- The size of the class that the two tables tell of r bytes, r from 0 to 32768. -/
def up (r : Int) : Int := if r ≤ 1016 then sizes.getD (c8.getD ((r + 7) / 8).toNat 0).toNat 0 else sizes.getD (c128.getD ((r - 897) / 128).toNat 0).toNat 0

theorem sizes_mono (i j : Nat) (hij : i ≤ j) (hj : j < 68) : sizes.getD i 0 ≤ sizes.getD j 0 := by
  induction j with
  | zero =>
    obtain rfl : i = 0 := by omega
    exact Int.le_refl _
  | succ j ih =>
    by_cases e : i = j + 1
    · subst e; exact Int.le_refl _
    · have := ih (by omega) (by omega)
      have := sizes_asc j (by omega)
      omega
theorem sizes_gt (i j : Nat) (hi : i < 68) (h : sizes.getD i 0 < sizes.getD j 0) : i < j := by
  by_cases e : i < j
  · exact e
  · have := sizes_mono j i (by omega) hi
    omega

/-- up r is the size of a class c that holds r; the class below c does not. -/
theorem up_class (r : Int) (h0 : 0 ≤ r) (h1 : r ≤ 32768) : ∃ c : Nat, c < 68 ∧ up r = sizes.getD c 0 ∧ r ≤ sizes.getD c 0 ∧ (1 ≤ c → sizes.getD (c - 1) 0 < r) := by
  unfold up
  split
  · rename_i h
    obtain ⟨i, hi⟩ := Int.eq_ofNat_of_zero_le (show 0 ≤ (r + 7) / 8 by omega)
    have hi' : ((r + 7) / 8).toNat = i := by omega
    rw [hi']
    have b := c8_bd i (by omega)
    have f := c8_holds i (by omega)
    refine ⟨(c8.getD i 0).toNat, by omega, rfl, by omega, fun hc => ?_⟩
    have := f.2.2 (by omega)
    omega
  · rename_i h
    obtain ⟨j, hj⟩ := Int.eq_ofNat_of_zero_le (show 0 ≤ (r - 897) / 128 by omega)
    have hj' : ((r - 897) / 128).toNat = j := by omega
    rw [hj']
    have b := c128_bd j (by omega)
    have f := c128_holds j (by omega)
    refine ⟨(c128.getD j 0).toNat, by omega, rfl, by omega, fun hc => ?_⟩
    have := f.2.2
    omega

theorem up_ge (r : Int) (h0 : 0 ≤ r) (h1 : r ≤ 32768) : r ≤ up r ∧ up r ≤ 32768 ∧ up r % 8 = 0 := by
  obtain ⟨c, hc, e, h, _⟩ := up_class r h0 h1
  have b := sizes_bd c hc
  have a := sizes_aligned c hc
  omega
theorem up_least (r : Int) (h0 : 0 ≤ r) (h1 : r ≤ 32768) (k : Nat) (hk : k < 68) (h : r ≤ sizes.getD k 0) : up r ≤ sizes.getD k 0 := by
  obtain ⟨c, hc, e, _, hb⟩ := up_class r h0 h1
  rw [e]
  by_cases hz : c = 0
  · subst hz; exact sizes_mono 0 k (by omega) hk
  · have := hb (by omega)
    have := sizes_gt (c - 1) k (by omega) (by omega)
    exact sizes_mono c k (by omega) hk
theorem up_mono (a b : Int) (h0 : 0 ≤ a) (hab : a ≤ b) (h1 : b ≤ 32768) : up a ≤ up b := by
  obtain ⟨c, hc, e, h, _⟩ := up_class b (by omega) h1
  rw [e]
  exact up_least a h0 (by omega) c hc (by omega)
theorem up_twice (r : Int) (h0 : 0 ≤ r) (h1 : r ≤ 32768) : up (up r) = up r := by
  obtain ⟨c, hc, e, h, _⟩ := up_class r h0 h1
  have g := up_ge r h0 h1
  have g2 := up_ge (up r) (by omega) (by omega)
  have l := up_least (up r) (by omega) (by omega) c hc (by omega)
  omega
theorem up_512 (r : Int) (h0 : 0 ≤ r) (h1 : r ≤ 512) : up r ≤ 512 := up_least r h0 (by omega) 26 (by omega) (by rw [show sizes.getD 26 0 = 512 by decide +kernel]; exact h1)

/-- What the search over the classes ends at: the least that holds w. -/
theorem search_end (w : Int) (h0 : 0 ≤ w) (h1 : w ≤ 32768) (k : Nat) (hk : k ≤ 67) (hbelow : ∀ j : Nat, j < k → sizes.getD j 0 < w) (hend : k = 67 ∨ w ≤ sizes.getD k 0) : up w = sizes.getD k 0 := by
  have hw : w ≤ sizes.getD k 0 := by
    rcases hend with rfl | h
    · rw [show sizes.getD 67 0 = 32768 by decide +kernel]; exact h1
    · exact h
  have l := up_least w h0 h1 k (by omega) hw
  obtain ⟨c, hc, e, h, _⟩ := up_class w h0 h1
  by_cases hck : c < k
  · have := hbelow c hck
    omega
  · have := sizes_mono k c (by omega) hc
    omega

/-- RoundUpSize: a class, one less eight bytes, or pages. -/
def roundB (size : Int) (noscan : Bool) : Int :=
  if size ≤ 32760 then (if noscan = true ∨ size ≤ 512 then up size else up (size + 8) - 8)
  else if 18446744073709543425 ≤ size then size else (size + 8191) / 8192 * 8192

theorem roundB_plain (size : Int) (ns : Bool) (h : size ≤ 32760) (hn : ns = true ∨ size ≤ 512) : roundB size ns = up size := by
  unfold roundB; rw [if_pos h, if_pos hn]
theorem roundB_header (size : Int) (h : size ≤ 32760) (hn : 512 < size) : roundB size false = up (size + 8) - 8 := by
  unfold roundB; rw [if_pos h, if_neg (by simp; omega)]
theorem roundB_large (size : Int) (ns : Bool) (h : 32760 < size) (hl : size < 18446744073709543425) : roundB size ns = (size + 8191) / 8192 * 8192 := by
  unfold roundB; rw [if_neg (by omega), if_neg (by omega)]
theorem roundB_over (size : Int) (ns : Bool) (hl : 18446744073709543425 ≤ size) : roundB size ns = size := by
  unfold roundB; rw [if_neg (by omega), if_pos hl]
theorem roundB_nine (ns : Bool) : roundB 9 ns = 16 := by cases ns <;> decide +kernel

theorem roundB_grow (size : Int) (ns : Bool) (h0 : 0 ≤ size) : size ≤ roundB size ns := by
  by_cases h : size ≤ 32760
  · by_cases hn : ns = true ∨ size ≤ 512
    · rw [roundB_plain size ns h hn]; exact (up_ge size h0 (by omega)).1
    · obtain rfl : ns = false := by cases ns <;> simp_all
      have : ¬ size ≤ 512 := fun e => hn (Or.inr e)
      rw [roundB_header size h (by omega)]
      have := (up_ge (size + 8) (by omega) (by omega)).1
      omega
  · by_cases hl : 18446744073709543425 ≤ size
    · rw [roundB_over size ns hl]; exact Int.le_refl _
    · rw [roundB_large size ns (by omega) (by omega)]; omega
theorem roundB_small_le (size : Int) (ns : Bool) (h0 : 0 ≤ size) (h : size ≤ 32760) : roundB size ns ≤ 32768 := by
  by_cases hn : ns = true ∨ size ≤ 512
  · rw [roundB_plain size ns h hn]; exact (up_ge size h0 (by omega)).2.1
  · obtain rfl : ns = false := by cases ns <;> simp_all
    have : ¬ size ≤ 512 := fun e => hn (Or.inr e)
    rw [roundB_header size h (by omega)]
    have := (up_ge (size + 8) (by omega) (by omega)).2.1
    omega
theorem roundB_bd (size : Int) (ns : Bool) (h0 : 0 ≤ size) (h1 : size ≤ 18446744073709551615) : 0 ≤ roundB size ns ∧ roundB size ns ≤ 18446744073709551615 := by
  have g := roundB_grow size ns h0
  refine ⟨by omega, ?_⟩
  by_cases h : size ≤ 32760
  · have := roundB_small_le size ns h0 h
    omega
  · by_cases hl : 18446744073709543425 ≤ size
    · rw [roundB_over size ns hl]; exact h1
    · rw [roundB_large size ns (by omega) (by omega)]; omega

theorem roundB_twice (size : Int) (ns : Bool) (h0 : 0 ≤ size) (h1 : size ≤ 9223372036854775808) : roundB (roundB size ns) ns = roundB size ns := by
  by_cases h : size ≤ 32760
  · by_cases hn : ns = true ∨ size ≤ 512
    · rw [roundB_plain size ns h hn]
      have g := up_ge size h0 (by omega)
      by_cases hu : up size ≤ 32760
      · rw [roundB_plain (up size) ns hu (by
          rcases hn with hn | hn
          · exact Or.inl hn
          · exact Or.inr (up_512 size h0 hn))]
        exact up_twice size h0 (by omega)
      · have e : up size = 32768 := by omega
        rw [roundB_large (up size) ns (by omega) (by omega), e]
        decide
    · obtain rfl : ns = false := by cases ns <;> simp_all
      have hs : ¬ size ≤ 512 := fun e => hn (Or.inr e)
      rw [roundB_header size h (by omega)]
      have g := up_ge (size + 8) (by omega) (by omega)
      rw [roundB_header (up (size + 8) - 8) (by omega) (by omega)]
      rw [show up (size + 8) - 8 + 8 = up (size + 8) by omega, up_twice (size + 8) (by omega) (by omega)]
  · rw [roundB_large size ns (by omega) (by omega)]
    rw [roundB_large ((size + 8191) / 8192 * 8192) ns (by omega) (by omega)]
    omega

theorem roundB_order (a b : Int) (ns : Bool) (h0 : 0 ≤ a) (hab : a ≤ b) (h1 : b ≤ 9223372036854775808) : roundB a ns ≤ roundB b ns := by
  by_cases hb : b ≤ 32760
  · by_cases hn : ns = true ∨ b ≤ 512
    · rw [roundB_plain b ns hb hn, roundB_plain a ns (by omega) (by
        rcases hn with hn | hn
        · exact Or.inl hn
        · exact Or.inr (by omega))]
      exact up_mono a b h0 hab (by omega)
    · obtain rfl : ns = false := by cases ns <;> simp_all
      have hs : ¬ b ≤ 512 := fun e => hn (Or.inr e)
      by_cases ha : a ≤ 512
      · rw [roundB_plain a false (by omega) (Or.inr ha)]
        have := up_512 a h0 ha
        have := roundB_grow b false (by omega)
        omega
      · rw [roundB_header a (by omega) (by omega), roundB_header b hb (by omega)]
        have := up_mono (a + 8) (b + 8) (by omega) (by omega) (by omega)
        omega
  · rw [roundB_large b ns (by omega) (by omega)]
    by_cases ha : a ≤ 32760
    · have := roundB_small_le a ns h0 ha
      omega
    · rw [roundB_large a ns (by omega) (by omega)]
      omega

/-- The reference's pages. -/
theorem roundB_pages (size : Int) (ns : Bool) (h : 32760 < size) (h1 : size ≤ 9223372036854775808) : roundB size ns = if size / 8192 * 8192 < size then size / 8192 * 8192 + 8192 else size / 8192 * 8192 := by
  rw [roundB_large size ns h (by omega)]
  split <;> omega
end Go.Proofs.YtpebmkbfpeialaaDoor.Tabs
