/- What RoundUpSize returns, for every size and either mark: the size of the least class that holds it, one less eight bytes, or whole pages; and that each law on rounding answers true. The condition: the tables hold the listed numbers. -/
import Derived.Test.YtpebmkbfpeialaaDoorProg
import Derived.Test.YtpebmkbfpeialaaDoorUp
import Derived.WalkKit
import Derived.ProofKit
import Derived.LoopTactic
import Derived.Laws.BitsAllLaws
import Derived.Lib.Hide
namespace Go.Proofs.YtpebmkbfpeialaaDoor
open Go.ChangeShapes Go.WideShapes Go.ChangeAt Go.RowKit
set_option linter.unusedVariables false

/-- The cells of a table. -/
def Holds (w : World) (g : Nat) (k : IntKind) (zs : List Int) : Prop := ∀ i : Nat, i < zs.length → w.cell? ⟨g, i, none⟩ = some (.int k (zs.getD i 0))
theorem ret_bool {a b : Bool} (h : a = b) : Ending.returned (.bool a) = .returned (.bool b) := by rw [h]
theorem ret_int {k : IntKind} {a b : Int} (h : a = b) : Ending.returned (.int k a) = .returned (.int k b) := by rw [h]

theorem and_pages (x : Nat) (hx : x < 2 ^ 64) : x &&& (2 ^ 64 - 2 ^ 13) = x / 2 ^ 13 * 2 ^ 13 := by
  apply Nat.eq_of_testBit_eq
  intro i
  have hm : (2 ^ 64 - 2 ^ 13 : Nat) = (2 ^ 51 - 1) * 2 ^ 13 := by decide
  rw [Nat.testBit_and, hm, Nat.testBit_mul_two_pow, Nat.testBit_mul_two_pow, Nat.testBit_two_pow_sub_one, Nat.testBit_div_two_pow]
  by_cases h : 13 ≤ i
  · rw [show i - 13 + 13 = i by omega]
    by_cases h2 : i < 64
    · simp [h, show i - 13 < 51 by omega]
    · have : x.testBit i = false := Nat.testBit_lt_two_pow (Nat.lt_of_lt_of_le hx (Nat.pow_le_pow_right (by omega) (by omega)))
      simp [this]
  · simp [h]
theorem andNot_pages (a : Int) (h0 : 0 ≤ a) (h1 : a ≤ 18446744073709551615) : bits .andNot .u64 a 8191 = a / 8192 * 8192 := by
  rw [u64_andNot a 8191 h0 (by omega) (by omega) (by omega)]
  have h := and_pages a.toNat (by omega)
  have e1 : (18446744073709551615 - (8191 : Int).toNat) = 2 ^ 64 - 2 ^ 13 := by decide
  rw [e1, h]
  omega

theorem size_cell (n : Int) (i : Nat) (w : World) (hi : i < 68) (hc : w.cell? ⟨0, i, none⟩ = some (.int .u16 n)) (h0 : 0 ≤ n) (h1 : n ≤ 32768) :
    Calls Tryd.prog 12 #[.int .i64 i] w fun e w' => e = .returned (.int .i64 n) ∧ w = w' := by
  go_enter Tryd.func12, Tryd.ntmps12
  go_wp2
  go_ret
  exact ⟨rfl, rfl⟩
theorem ClassSize (w : World) (hT : Holds w 0 .u16 Tabs.sizes) (k : Int) (h0 : 0 ≤ k) (h1 : k ≤ 67) :
    Calls Tryd.prog 12 #[.int .i64 k] w fun e w' => e = .returned (.int .i64 (Tabs.sz k)) ∧ w = w' := by
  have b := Tabs.sz_bd k h0 h1
  obtain ⟨i, rfl⟩ := Int.eq_ofNat_of_zero_le h0
  exact size_cell _ i w (by omega) (hT i (by rw [Tabs.sizes_len]; omega)) b.1 b.2
theorem sized (w : World) (hT : Holds w 0 .u16 Tabs.sizes) : Calls Tryd.prog 11 #[] w fun e w' => e = .returned (.bool true) ∧ w = w' := by
  have e := Tabs.sz_last
  go_enter Tryd.func11, Tryd.ntmps11
  go_wp2_with fail
  refine (ClassSize _ hT (67) (by omega) (by omega)).mono ?_
  rintro e w' ⟨rfl, rfl⟩
  go_wp2_with fail
  go_ret
  exact ⟨rfl, rfl⟩

theorem div8 (w : World) (n : Int) (h0 : 0 ≤ n) (h1 : n ≤ 1016) (i : Nat) (hi : (n + 7) / 8 = i) : Calls Tryd.prog 15 #[.int .u64 n, .int .u64 8] w fun e w' => e = .returned (.int .u64 i) ∧ w = w' := by
  have HI := Lib.hid hi
  clear hi
  go_enter Tryd.func15, Tryd.ntmps15
  go_wp2
  go_ret
  exact ⟨ret_int (by rw [← HI.out]; omega), rfl⟩
theorem div128 (w : World) (m r : Int) (m0 : 0 ≤ m) (m1 : m ≤ 18446744073709551615) (hm : (m - (r - 1024)) % 18446744073709551616 = 0) (h0 : 1017 ≤ r) (h1 : r ≤ 32768) (j : Nat) (hj : (r - 897) / 128 = j) :
    Calls Tryd.prog 15 #[.int .u64 m, .int .u64 128] w fun e w' => e = .returned (.int .u64 j) ∧ w = w' := by
  have HM := Lib.hid hm
  have HJ := Lib.hid hj
  clear hm hj
  go_enter Tryd.func15, Tryd.ntmps15
  go_wp2
  go_ret
  refine ⟨ret_int ?_, rfl⟩
  have hm := HM.out
  rw [← HJ.out]
  simp only [IntKind.wrap_u64]
  rw [Int.tdiv_eq_ediv_of_nonneg (Int.emod_nonneg _ (by omega))]
  omega


theorem up8 (w : World) (ns : Bool) (size : Int) (h0 : 0 ≤ size) (h1 : size ≤ 1016) (hn : ns = true ∨ size ≤ 512) (i c : Nat) (n : Int) (hi : (size + 7) / 8 = i) (ca : w.cell? ⟨1, i, none⟩ = some (.int .u8 c)) (hb : i < 129) (hc : c < 68) (cb : w.cell? ⟨0, c, none⟩ = some (.int .u16 n)) (n0 : 8 ≤ n ∨ n = 0) (n1 : n ≤ 32768) :
    Calls Tryd.prog 14 #[.int .u64 size, .bool ns] w fun e w' => e = .returned (.int .u64 n) ∧ w = w' := by
  have HI := Lib.hid hi
  clear hi
  have n2 : 0 ≤ n := by omega
  have h2 : ns = true ∨ ns = false ∧ size ≤ 512 := by cases ns <;> simp_all
  clear hn
  rcases h2 with rfl | ⟨rfl, h2⟩
  all_goals
    clear n0
    go_enter Tryd.func14, Tryd.ntmps14
    go_wp2_with fail
    refine (div8 _ size h0 h1 i HI.out).mono ?_
    rintro e w' ⟨rfl, rfl⟩
    go_wp2_with fail
    go_ret
    exact ⟨ret_int (by omega), rfl⟩


theorem up128 (w : World) (ns : Bool) (size : Int) (h0 : 0 ≤ size) (h1 : 1017 ≤ size) (h2 : size ≤ 32760) (hn : ns = true) (i c : Nat) (n : Int) (hi : (size - 897) / 128 = i) (ca : w.cell? ⟨2, i, none⟩ = some (.int .u8 c)) (hb : i < 249) (hc : c < 68) (cb : w.cell? ⟨0, c, none⟩ = some (.int .u16 n)) (n0 : 8 ≤ n ∨ n = 0) (n1 : n ≤ 32768) :
    Calls Tryd.prog 14 #[.int .u64 size, .bool ns] w fun e w' => e = .returned (.int .u64 n) ∧ w = w' := by
  have HI := Lib.hid hi
  clear hi
  have n2 : 0 ≤ n := by omega
  subst hn
  by_cases hs : size < 1024
  all_goals
    clear n0
    go_enter Tryd.func14, Tryd.ntmps14
    go_wp2_with fail
    refine (div128 _ _ size (by first | omega | (simp only [IntKind.wrap_u64]; omega)) (by first | omega | (simp only [IntKind.wrap_u64]; omega)) (by first | omega | (simp only [IntKind.wrap_u64]; omega)) (by omega) (by omega) i HI.out).mono ?_
    rintro e w' ⟨rfl, rfl⟩
    go_wp2_with fail
    go_ret
    exact ⟨ret_int (by omega), rfl⟩


theorem hd8 (w : World) (ns : Bool) (size : Int) (h0 : 0 ≤ size) (h1 : size + 8 ≤ 1016) (hn : ns = false) (h2 : 512 < size) (i c : Nat) (n : Int) (hi : (size + 8 + 7) / 8 = i) (ca : w.cell? ⟨1, i, none⟩ = some (.int .u8 c)) (hb : i < 129) (hc : c < 68) (cb : w.cell? ⟨0, c, none⟩ = some (.int .u16 n)) (n0 : 8 ≤ n ∨ n = 0) (n1 : n ≤ 32768) (n4 : 8 ≤ n) :
    Calls Tryd.prog 14 #[.int .u64 size, .bool ns] w fun e w' => e = .returned (.int .u64 (n - 8)) ∧ w = w' := by
  have HI := Lib.hid hi
  clear hi
  have n2 : 0 ≤ n := by omega
  subst hn
  have n3 : 8 ≤ n := by omega
  clear n0
  all_goals
    go_enter Tryd.func14, Tryd.ntmps14
    go_wp2_with fail
    refine (div8 _ (size + 8) (by omega) h1 i HI.out).mono ?_
    rintro e w' ⟨rfl, rfl⟩
    go_wp2_with fail
    go_ret
    exact ⟨ret_int (by omega), rfl⟩


theorem hd128 (w : World) (ns : Bool) (size : Int) (h0 : 0 ≤ size) (h1 : 1017 ≤ size + 8) (h2 : size ≤ 32760) (hn : ns = false) (i c : Nat) (n : Int) (hi : (size + 8 - 897) / 128 = i) (ca : w.cell? ⟨2, i, none⟩ = some (.int .u8 c)) (hb : i < 249) (hc : c < 68) (cb : w.cell? ⟨0, c, none⟩ = some (.int .u16 n)) (n0 : 8 ≤ n ∨ n = 0) (n1 : n ≤ 32768) (n4 : 8 ≤ n) :
    Calls Tryd.prog 14 #[.int .u64 size, .bool ns] w fun e w' => e = .returned (.int .u64 (n - 8)) ∧ w = w' := by
  have HI := Lib.hid hi
  clear hi
  have n2 : 0 ≤ n := by omega
  subst hn
  have n3 : 8 ≤ n := by omega
  clear n0
  by_cases hs : size + 8 < 1024
  all_goals
    go_enter Tryd.func14, Tryd.ntmps14
    go_wp2_with fail
    refine (div128 _ _ (size + 8) (by first | omega | (simp only [IntKind.wrap_u64]; omega)) (by first | omega | (simp only [IntKind.wrap_u64]; omega)) (by first | omega | (simp only [IntKind.wrap_u64]; omega)) (by omega) (by omega) i HI.out).mono ?_
    rintro e w' ⟨rfl, rfl⟩
    go_wp2_with fail
    go_ret
    exact ⟨ret_int (by omega), rfl⟩


theorem pages_up (w : World) (ns : Bool) (size : Int) (h0 : 32760 < size) (h1 : size ≤ 18446744073709543424) : Calls Tryd.prog 14 #[.int .u64 size, .bool ns] w fun e w' => e = .returned (.int .u64 ((size + 8191) / 8192 * 8192)) ∧ w = w' := by
  have ha := Lib.hid (andNot_pages (size + 8191) (by omega) (by omega))
  go_enter Tryd.func14, Tryd.ntmps14
  go_wp2
  go_ret
  exact ⟨ret_int ha.out, rfl⟩
theorem pages_over (w : World) (ns : Bool) (size : Int) (h0 : 18446744073709543425 ≤ size) (h1 : size ≤ 18446744073709551615) : Calls Tryd.prog 14 #[.int .u64 size, .bool ns] w fun e w' => e = .returned (.int .u64 size) ∧ w = w' := by
  have hw : IntKind.u64.wrap (size + 8191) = size - 18446744073709543425 := by simp only [IntKind.wrap_u64]; omega
  have h2 : IntKind.u64.wrap (size + 8191) < size := by omega
  clear hw
  go_enter Tryd.func14, Tryd.ntmps14
  go_wp2
  go_ret
  exact ⟨rfl, rfl⟩

/-- roundupsize: what it computes, for every size. -/
theorem roundupsize (w : World) (hT : Holds w 0 .u16 Tabs.sizes) (h8 : Holds w 1 .u8 Tabs.c8) (h128 : Holds w 2 .u8 Tabs.c128) (ns : Bool) (size : Int) (h0 : 0 ≤ size) (h1 : size ≤ 18446744073709551615) :
    Calls Tryd.prog 14 #[.int .u64 size, .bool ns] w fun e w' => e = .returned (.int .u64 (Tabs.roundB size ns)) ∧ w = w' := by
  have road8 : ∀ r : Int, 0 ≤ r → r ≤ 1016 → ∃ i c : Nat, (r + 7) / 8 = i ∧ w.cell? ⟨1, i, none⟩ = some (.int .u8 c) ∧ i < 129 ∧ c < 68 ∧ w.cell? ⟨0, c, none⟩ = some (.int .u16 (Tabs.up r)) := by
    intro r r0 r1
    have b := Tabs.c8_bd ((r + 7) / 8).toNat (by omega)
    refine ⟨((r + 7) / 8).toNat, (Tabs.c8.getD ((r + 7) / 8).toNat 0).toNat, by omega, ?_, by omega, by omega, ?_⟩
    · rw [h8 ((r + 7) / 8).toNat (by rw [Tabs.c8_len]; omega), Int.toNat_of_nonneg b.1]
    · rw [hT (Tabs.c8.getD ((r + 7) / 8).toNat 0).toNat (by rw [Tabs.sizes_len]; omega)]
      unfold Tabs.up
      rw [if_pos r1]
  have road128 : ∀ r : Int, 1017 ≤ r → r ≤ 32768 → ∃ i c : Nat, (r - 897) / 128 = i ∧ w.cell? ⟨2, i, none⟩ = some (.int .u8 c) ∧ i < 249 ∧ c < 68 ∧ w.cell? ⟨0, c, none⟩ = some (.int .u16 (Tabs.up r)) := by
    intro r r0 r1
    have b := Tabs.c128_bd ((r - 897) / 128).toNat (by omega)
    refine ⟨((r - 897) / 128).toNat, (Tabs.c128.getD ((r - 897) / 128).toNat 0).toNat, by omega, ?_, by omega, by omega, ?_⟩
    · rw [h128 ((r - 897) / 128).toNat (by rw [Tabs.c128_len]; omega), Int.toNat_of_nonneg b.1]
    · rw [hT (Tabs.c128.getD ((r - 897) / 128).toNat 0).toNat (by rw [Tabs.sizes_len]; omega)]
      unfold Tabs.up
      rw [if_neg (by omega)]
  by_cases hs : size ≤ 32760
  · by_cases hn : ns = true ∨ size ≤ 512
    · rw [Tabs.roundB_plain size ns hs hn]
      have g := Tabs.up_ge size h0 (by omega)
      by_cases h8' : size ≤ 1016
      · obtain ⟨i, c, hi, ca, hb, hc, cb⟩ := road8 size h0 h8'
        exact up8 w ns size h0 h8' hn i c _ hi ca hb hc cb (by omega) g.2.1
      · obtain ⟨i, c, hi, ca, hb, hc, cb⟩ := road128 size (by omega) (by omega)
        exact up128 w ns size h0 (by omega) hs (by rcases hn with hn | hn; exact hn; omega) i c _ hi ca hb hc cb (by omega) g.2.1
    · have hf : ns = false := by cases ns <;> simp_all
      have h5 : 512 < size := by
        rcases Int.lt_or_le 512 size with h | h
        · exact h
        · exact absurd (Or.inr h) hn
      rw [show Tabs.roundB size ns = Tabs.up (size + 8) - 8 by rw [hf]; exact Tabs.roundB_header size hs h5]
      have g := Tabs.up_ge (size + 8) (by omega) (by omega)
      by_cases h8' : size + 8 ≤ 1016
      · obtain ⟨i, c, hi, ca, hb, hc, cb⟩ := road8 (size + 8) (by omega) h8'
        exact hd8 w ns size h0 h8' hf h5 i c _ hi ca hb hc cb (by omega) g.2.1 (by omega)
      · obtain ⟨i, c, hi, ca, hb, hc, cb⟩ := road128 (size + 8) (by omega) (by omega)
        exact hd128 w ns size h0 (by omega) hs hf i c _ hi ca hb hc cb (by omega) g.2.1 (by omega)
  · by_cases hl : 18446744073709543425 ≤ size
    · rw [Tabs.roundB_over size ns hl]
      exact pages_over w ns size hl h1
    · rw [Tabs.roundB_large size ns (by omega) (by omega)]
      exact pages_up w ns size (by omega) (by omega)

theorem RoundUp (w : World) (hT : Holds w 0 .u16 Tabs.sizes) (h8 : Holds w 1 .u8 Tabs.c8) (h128 : Holds w 2 .u8 Tabs.c128) (ns : Bool) (size : Int) (h0 : 0 ≤ size) (h1 : size ≤ 18446744073709551615) :
    Calls Tryd.prog 10 #[.int .u64 size, .bool ns] w fun e w' => e = .returned (.int .u64 (Tabs.roundB size ns)) ∧ w = w' := by
  have b := Tabs.roundB_bd size ns h0 h1
  have h13 : ∀ w0 : World, Holds w0 0 .u16 Tabs.sizes → Holds w0 1 .u8 Tabs.c8 → Holds w0 2 .u8 Tabs.c128 → Calls Tryd.prog 13 #[.int .u64 size, .bool ns] w0 fun e w' => e = .returned (.int .u64 (Tabs.roundB size ns)) ∧ w0 = w' := by
    intro w0 a1 a2 a3
    go_enter Tryd.func13, Tryd.ntmps13
    go_wp2_with fail
    refine (roundupsize _ a1 a2 a3 ns size h0 h1).mono ?_
    rintro e w' ⟨rfl, rfl⟩
    go_wp2_with fail
    go_ret
    exact ⟨rfl, rfl⟩
  have H13 := Lib.hid h13
  clear h13
  go_enter Tryd.func10, Tryd.ntmps10
  go_wp2_with fail
  refine (H13.out _ hT h8 h128).mono ?_
  rintro e w' ⟨rfl, rfl⟩
  go_wp2_with fail
  go_ret
  exact ⟨rfl, rfl⟩


theorem nine (w : World) (hT : Holds w 0 .u16 Tabs.sizes) (h8 : Holds w 1 .u8 Tabs.c8) (h128 : Holds w 2 .u8 Tabs.c128) (ns : Bool) :
    Calls Tryd.prog 10 #[.int .u64 9, .bool ns] w fun e w' => e = .returned (.int .u64 16) ∧ w = w' := by
  have h := RoundUp w hT h8 h128 ns 9 (by omega) (by omega)
  rw [Tabs.roundB_nine] at h
  exact h

/-- The block is at least as large as what is asked for. -/
theorem grow (w : World) (hT : Holds w 0 .u16 Tabs.sizes) (h8 : Holds w 1 .u8 Tabs.c8) (h128 : Holds w 2 .u8 Tabs.c128) (size : Int) (ns : Bool) (h0 : 0 ≤ size) (h1 : size ≤ 18446744073709551615) :
    Calls Tryd.prog 3 #[.int .u64 size, .bool ns] w fun e w' => e = .returned (.bool true) ∧ w = w' := by
  have g := Tabs.roundB_grow size ns h0
  have b := Tabs.roundB_bd size ns h0 h1
  go_enter Tryd.func3, Tryd.ntmps3
  go_wp2_with fail
  refine (RoundUp _ hT h8 h128 ns size h0 h1).mono ?_
  rintro e w' ⟨rfl, rfl⟩
  go_wp2_with fail
  refine (nine _ hT h8 h128 ns).mono ?_
  rintro e w' ⟨rfl, rfl⟩
  go_wp2_with fail
  go_ret
  exact ⟨rfl, rfl⟩

/-- Who asks for more gets no less. -/
theorem order (w : World) (hT : Holds w 0 .u16 Tabs.sizes) (h8 : Holds w 1 .u8 Tabs.c8) (h128 : Holds w 2 .u8 Tabs.c128) (a b : Int) (ns : Bool) (h0 : 0 ≤ a) (h1 : a ≤ 18446744073709551615) (k0 : 0 ≤ b) (k1 : b ≤ 18446744073709551615) :
    Calls Tryd.prog 4 #[.int .u64 a, .int .u64 b, .bool ns] w fun e w' => e = .returned (.bool true) ∧ w = w' := by
  by_cases c : b < a
  · go_enter Tryd.func4, Tryd.ntmps4
    go_wp2_with fail
    refine (nine _ hT h8 h128 ns).mono ?_
    rintro e w' ⟨rfl, rfl⟩
    go_wp2_with fail
    go_ret
    exact ⟨rfl, rfl⟩
  · by_cases d : 9223372036854775808 < b
    · go_enter Tryd.func4, Tryd.ntmps4
      go_wp2_with fail
      refine (nine _ hT h8 h128 ns).mono ?_
      rintro e w' ⟨rfl, rfl⟩
      go_wp2_with fail
      go_ret
      exact ⟨rfl, rfl⟩
    · have g := Tabs.roundB_order a b ns h0 (by omega) (by omega)
      go_enter Tryd.func4, Tryd.ntmps4
      go_wp2_with fail
      refine (RoundUp _ hT h8 h128 ns a h0 h1).mono ?_
      rintro e w' ⟨rfl, rfl⟩
      go_wp2_with fail
      refine (RoundUp _ hT h8 h128 ns b k0 k1).mono ?_
      rintro e w' ⟨rfl, rfl⟩
      go_wp2_with fail
      refine (nine _ hT h8 h128 ns).mono ?_
      rintro e w' ⟨rfl, rfl⟩
      go_wp2_with fail
      go_ret
      exact ⟨rfl, rfl⟩

/-- The size of a block is that of the block for it. -/
theorem twice (w : World) (hT : Holds w 0 .u16 Tabs.sizes) (h8 : Holds w 1 .u8 Tabs.c8) (h128 : Holds w 2 .u8 Tabs.c128) (size : Int) (ns : Bool) (h0 : 0 ≤ size) (h1 : size ≤ 18446744073709551615) :
    Calls Tryd.prog 5 #[.int .u64 size, .bool ns] w fun e w' => e = .returned (.bool true) ∧ w = w' := by
  by_cases d : 9223372036854775808 < size
  · go_enter Tryd.func5, Tryd.ntmps5
    go_wp2_with fail
    refine (nine _ hT h8 h128 ns).mono ?_
    rintro e w' ⟨rfl, rfl⟩
    go_wp2_with fail
    go_ret
    exact ⟨rfl, rfl⟩
  · have g := Tabs.roundB_twice size ns h0 (by omega)
    have b := Tabs.roundB_bd size ns h0 h1
    have again := RoundUp w hT h8 h128 ns (Tabs.roundB size ns) b.1 b.2
    rw [g] at again
    have HA := Lib.hid again
    clear again g
    go_enter Tryd.func5, Tryd.ntmps5
    go_wp2_with fail
    refine (RoundUp _ hT h8 h128 ns size h0 h1).mono ?_
    rintro e w' ⟨rfl, rfl⟩
    go_wp2_with fail
    refine HA.out.mono ?_
    rintro e w' ⟨rfl, rfl⟩
    go_wp2_with fail
    refine (nine _ hT h8 h128 ns).mono ?_
    rintro e w' ⟨rfl, rfl⟩
    go_wp2_with fail
    go_ret
    exact ⟨rfl, rfl⟩

/-- What has more than 32760 bytes is rounded up to pages. -/
theorem large (w : World) (hT : Holds w 0 .u16 Tabs.sizes) (h8 : Holds w 1 .u8 Tabs.c8) (h128 : Holds w 2 .u8 Tabs.c128) (size : Int) (ns : Bool) (h0 : 0 ≤ size) (h1 : size ≤ 18446744073709551615) :
    Calls Tryd.prog 7 #[.int .u64 size, .bool ns] w fun e w' => e = .returned (.bool true) ∧ w = w' := by
  by_cases c : size ≤ 32760
  · go_enter Tryd.func7, Tryd.ntmps7
    go_wp2_with fail
    refine (sized _ hT).mono ?_
    rintro e w' ⟨rfl, rfl⟩
    go_wp2_with fail
    go_ret
    exact ⟨rfl, rfl⟩
  · by_cases d : 9223372036854775808 < size
    · go_enter Tryd.func7, Tryd.ntmps7
      go_wp2_with fail
      refine (sized _ hT).mono ?_
      rintro e w' ⟨rfl, rfl⟩
      go_wp2_with fail
      go_ret
      exact ⟨rfl, rfl⟩
    · have g := Tabs.roundB_pages size ns (by omega) (by omega)
      have G := Lib.hid g
      clear g
      by_cases p : size / 8192 * 8192 < size
      all_goals
        go_enter Tryd.func7, Tryd.ntmps7
        go_wp2_with fail
        refine (RoundUp _ hT h8 h128 ns size h0 h1).mono ?_
        rintro e w' ⟨rfl, rfl⟩
        rw [G.out]
        go_wp2_with fail
        go_ret
        exact ⟨ret_bool (by simp), rfl⟩

/-- What holds no pointers, of at most 32760 bytes, is rounded up to the least class. -/
theorem plainR (w : World) (hT : Holds w 0 .u16 Tabs.sizes) (h8 : Holds w 1 .u8 Tabs.c8) (h128 : Holds w 2 .u8 Tabs.c128) (size : Int) (h0 : 0 ≤ size) (h1 : size ≤ 18446744073709551615) :
    Calls Tryd.prog 8 #[.int .u64 size] w fun e w' => e = .returned (.bool true) ∧ w = w' := by
  by_cases c : size ≤ 32760
  · have bk := fun k : Int => Tabs.sz_bd k
    have HB := Lib.hid bk
    clear bk
    go_enter Tryd.func8, Tryd.ntmps8
    go_wp2_with fail
    go_loop [4] (fun i => ∃ k : Nat, k ≤ 67 ∧ i = .int .i64 k ∧ Hid (∀ j : Nat, j < k → Tabs.sizes.getD j 0 < size)) (fun i => (67 - (intOf i).toNat))
    case atStart => exact ⟨0, by omega, rfl, fun j hj => absurd hj (Nat.not_lt_zero j)⟩
    case round =>
      obtain ⟨k, hk, rfl, hj⟩ := hrel
      by_cases hlt : k < 67
      · have b := HB.out k (by omega) (by omega)
        by_cases hs : Tabs.sz k < size
        · go_wp2_with fail
          refine (ClassSize _ hT k (by omega) (by omega)).mono ?_
          rintro e w' ⟨rfl, rfl⟩
          go_wp2_with fail
          go_round
          case rel =>
            refine ⟨k + 1, by omega, by go_num, fun j h => ?_⟩
            by_cases e : j = k
            · subst e; exact hs
            · exact hj.out j (by omega)
          case measure => simp [intOf]; omega
        · have fe := Lib.hid (Tabs.search_end (size) (by omega) (by omega) k hk hj.out (Or.inr (by have := hs; unfold Tabs.sz at this; rw [Int.toNat_natCast] at this; omega)))
          go_wp2_with fail
          refine (ClassSize _ hT k (by omega) (by omega)).mono ?_
          rintro e w' ⟨rfl, rfl⟩
          go_wp2_with fail
          refine (RoundUp _ hT h8 h128 true size h0 h1).mono ?_
          rintro e w' ⟨rfl, rfl⟩
          go_wp2_with fail
          refine (ClassSize _ hT k (by omega) (by omega)).mono ?_
          rintro e w' ⟨rfl, rfl⟩
          have ez : Tabs.roundB size true = Tabs.sz k  := by
            rw [Tabs.roundB_plain size true c (Or.inl rfl), fe.out]
            rfl
          rw [ez]
          clear ez
          go_wp2_with fail
          refine (sized _ hT).mono ?_
          rintro e w' ⟨rfl, rfl⟩
          go_wp2_with fail
          go_ret
          exact ⟨rfl, rfl⟩
      · obtain rfl : k = 67 := by omega
        have b := HB.out 67 (by omega) (by omega)
        have b2 : 8 ≤ Tabs.sz 67 := by rw [Tabs.sz_last]; omega
        have fe := Lib.hid (Tabs.search_end (size) (by omega) (by omega) 67 hk hj.out (Or.inl rfl))
        go_wp2_with fail
        refine (RoundUp _ hT h8 h128 true size h0 h1).mono ?_
        rintro e w' ⟨rfl, rfl⟩
        go_wp2_with fail
        refine (ClassSize _ hT 67 (by omega) (by omega)).mono ?_
        rintro e w' ⟨rfl, rfl⟩
        have ez : Tabs.roundB size true = Tabs.sz 67  := by
          rw [Tabs.roundB_plain size true c (Or.inl rfl), fe.out]
          rfl
        rw [ez]
        clear ez
        go_wp2_with fail
        refine (sized _ hT).mono ?_
        rintro e w' ⟨rfl, rfl⟩
        go_wp2_with fail
        go_ret
        exact ⟨rfl, rfl⟩
  · all_goals
      go_enter Tryd.func8, Tryd.ntmps8
      go_wp2_with fail
      refine (sized _ hT).mono ?_
      rintro e w' ⟨rfl, rfl⟩
      go_wp2_with fail
      go_ret
      exact ⟨rfl, rfl⟩

/-- What holds pointers, of at most 512 bytes, is rounded up to the least class. -/
theorem smallR (w : World) (hT : Holds w 0 .u16 Tabs.sizes) (h8 : Holds w 1 .u8 Tabs.c8) (h128 : Holds w 2 .u8 Tabs.c128) (size : Int) (h0 : 0 ≤ size) (h1 : size ≤ 18446744073709551615) :
    Calls Tryd.prog 9 #[.int .u64 size] w fun e w' => e = .returned (.bool true) ∧ w = w' := by
  by_cases c : size ≤ 512
  · have bk := fun k : Int => Tabs.sz_bd k
    have HB := Lib.hid bk
    clear bk
    go_enter Tryd.func9, Tryd.ntmps9
    go_wp2_with fail
    go_loop [4] (fun i => ∃ k : Nat, k ≤ 67 ∧ i = .int .i64 k ∧ Hid (∀ j : Nat, j < k → Tabs.sizes.getD j 0 < size)) (fun i => (67 - (intOf i).toNat))
    case atStart => exact ⟨0, by omega, rfl, fun j hj => absurd hj (Nat.not_lt_zero j)⟩
    case round =>
      obtain ⟨k, hk, rfl, hj⟩ := hrel
      by_cases hlt : k < 67
      · have b := HB.out k (by omega) (by omega)
        by_cases hs : Tabs.sz k < size
        · go_wp2_with fail
          refine (ClassSize _ hT k (by omega) (by omega)).mono ?_
          rintro e w' ⟨rfl, rfl⟩
          go_wp2_with fail
          go_round
          case rel =>
            refine ⟨k + 1, by omega, by go_num, fun j h => ?_⟩
            by_cases e : j = k
            · subst e; exact hs
            · exact hj.out j (by omega)
          case measure => simp [intOf]; omega
        · have fe := Lib.hid (Tabs.search_end (size) (by omega) (by omega) k hk hj.out (Or.inr (by have := hs; unfold Tabs.sz at this; rw [Int.toNat_natCast] at this; omega)))
          go_wp2_with fail
          refine (ClassSize _ hT k (by omega) (by omega)).mono ?_
          rintro e w' ⟨rfl, rfl⟩
          go_wp2_with fail
          refine (RoundUp _ hT h8 h128 false size h0 h1).mono ?_
          rintro e w' ⟨rfl, rfl⟩
          go_wp2_with fail
          refine (ClassSize _ hT k (by omega) (by omega)).mono ?_
          rintro e w' ⟨rfl, rfl⟩
          have ez : Tabs.roundB size false = Tabs.sz k  := by
            rw [Tabs.roundB_plain size false (by omega) (Or.inr c), fe.out]
            rfl
          rw [ez]
          clear ez
          go_wp2_with fail
          refine (sized _ hT).mono ?_
          rintro e w' ⟨rfl, rfl⟩
          go_wp2_with fail
          go_ret
          exact ⟨rfl, rfl⟩
      · obtain rfl : k = 67 := by omega
        have b := HB.out 67 (by omega) (by omega)
        have b2 : 8 ≤ Tabs.sz 67 := by rw [Tabs.sz_last]; omega
        have fe := Lib.hid (Tabs.search_end (size) (by omega) (by omega) 67 hk hj.out (Or.inl rfl))
        go_wp2_with fail
        refine (RoundUp _ hT h8 h128 false size h0 h1).mono ?_
        rintro e w' ⟨rfl, rfl⟩
        go_wp2_with fail
        refine (ClassSize _ hT 67 (by omega) (by omega)).mono ?_
        rintro e w' ⟨rfl, rfl⟩
        have ez : Tabs.roundB size false = Tabs.sz 67  := by
          rw [Tabs.roundB_plain size false (by omega) (Or.inr c), fe.out]
          rfl
        rw [ez]
        clear ez
        go_wp2_with fail
        refine (sized _ hT).mono ?_
        rintro e w' ⟨rfl, rfl⟩
        go_wp2_with fail
        go_ret
        exact ⟨rfl, rfl⟩
  · all_goals
      go_enter Tryd.func9, Tryd.ntmps9
      go_wp2_with fail
      refine (sized _ hT).mono ?_
      rintro e w' ⟨rfl, rfl⟩
      go_wp2_with fail
      go_ret
      exact ⟨rfl, rfl⟩

/-- What holds pointers, of 513 to 32760 bytes, is rounded up to the least class for it and eight bytes, less these. -/
theorem headerR (w : World) (hT : Holds w 0 .u16 Tabs.sizes) (h8 : Holds w 1 .u8 Tabs.c8) (h128 : Holds w 2 .u8 Tabs.c128) (size : Int) (h0 : 0 ≤ size) (h1 : size ≤ 18446744073709551615) :
    Calls Tryd.prog 6 #[.int .u64 size] w fun e w' => e = .returned (.bool true) ∧ w = w' := by
  by_cases c : 512 < size ∧ size ≤ 32760
  · have bk := fun k : Int => Tabs.sz_bd k
    have HB := Lib.hid bk
    clear bk
    go_enter Tryd.func6, Tryd.ntmps6
    go_wp2_with fail
    go_loop [4] (fun i => ∃ k : Nat, k ≤ 67 ∧ i = .int .i64 k ∧ Hid (∀ j : Nat, j < k → Tabs.sizes.getD j 0 < size + 8)) (fun i => (67 - (intOf i).toNat))
    case atStart => exact ⟨0, by omega, rfl, fun j hj => absurd hj (Nat.not_lt_zero j)⟩
    case round =>
      obtain ⟨k, hk, rfl, hj⟩ := hrel
      by_cases hlt : k < 67
      · have b := HB.out k (by omega) (by omega)
        by_cases hs : Tabs.sz k < size + 8
        · go_wp2_with fail
          refine (ClassSize _ hT k (by omega) (by omega)).mono ?_
          rintro e w' ⟨rfl, rfl⟩
          go_wp2_with fail
          go_round
          case rel =>
            refine ⟨k + 1, by omega, by go_num, fun j h => ?_⟩
            by_cases e : j = k
            · subst e; exact hs
            · exact hj.out j (by omega)
          case measure => simp [intOf]; omega
        · have fe := Lib.hid (Tabs.search_end (size + 8) (by omega) (by omega) k hk hj.out (Or.inr (by have := hs; unfold Tabs.sz at this; rw [Int.toNat_natCast] at this; omega)))
          go_wp2_with fail
          refine (ClassSize _ hT k (by omega) (by omega)).mono ?_
          rintro e w' ⟨rfl, rfl⟩
          go_wp2_with fail
          refine (RoundUp _ hT h8 h128 false size h0 h1).mono ?_
          rintro e w' ⟨rfl, rfl⟩
          go_wp2_with fail
          refine (ClassSize _ hT k (by omega) (by omega)).mono ?_
          rintro e w' ⟨rfl, rfl⟩
          have ez : Tabs.roundB size false = Tabs.sz k - 8 := by
            rw [Tabs.roundB_header size c.2 c.1, fe.out]
            rfl
          rw [ez]
          clear ez
          go_wp2_with fail
          refine (sized _ hT).mono ?_
          rintro e w' ⟨rfl, rfl⟩
          go_wp2_with fail
          go_ret
          exact ⟨rfl, rfl⟩
      · obtain rfl : k = 67 := by omega
        have b := HB.out 67 (by omega) (by omega)
        have b2 : 8 ≤ Tabs.sz 67 := by rw [Tabs.sz_last]; omega
        have fe := Lib.hid (Tabs.search_end (size + 8) (by omega) (by omega) 67 hk hj.out (Or.inl rfl))
        go_wp2_with fail
        refine (RoundUp _ hT h8 h128 false size h0 h1).mono ?_
        rintro e w' ⟨rfl, rfl⟩
        go_wp2_with fail
        refine (ClassSize _ hT 67 (by omega) (by omega)).mono ?_
        rintro e w' ⟨rfl, rfl⟩
        have ez : Tabs.roundB size false = Tabs.sz 67 - 8 := by
          rw [Tabs.roundB_header size c.2 c.1, fe.out]
          rfl
        rw [ez]
        clear ez
        go_wp2_with fail
        refine (sized _ hT).mono ?_
        rintro e w' ⟨rfl, rfl⟩
        go_wp2_with fail
        go_ret
        exact ⟨rfl, rfl⟩
  · by_cases d : size ≤ 512
    all_goals
      go_enter Tryd.func6, Tryd.ntmps6
      go_wp2_with fail
      refine (sized _ hT).mono ?_
      rintro e w' ⟨rfl, rfl⟩
      go_wp2_with fail
      go_ret
      exact ⟨rfl, rfl⟩

end Go.Proofs.YtpebmkbfpeialaaDoor
