/- What the functions that read the tables of size classes return: each entry read, for every place that the table has; and that each law over the tables answers true. The condition: the tables hold the listed numbers. -/
import Derived.Test.YtndcokbkocifpaaDoorProg
import Derived.Test.YtndcokbkocifpaaDoorTabs
import Derived.WalkKit
import Derived.ProofKit
import Derived.Lib.Hide
namespace Go.Proofs.YtndcokbkocifpaaDoor
open Go.ChangeShapes Go.WideShapes Go.ChangeAt Go.RowKit
set_option linter.unusedVariables false

/-- The cells of a table. -/
def Holds (w : World) (g : Nat) (k : IntKind) (zs : List Int) : Prop := ∀ i : Nat, i < zs.length → w.cell? ⟨g, i, none⟩ = some (.int k (zs.getD i 0))
theorem ret_bool {a b : Bool} (h : a = b) : Ending.returned (.bool a) = .returned (.bool b) := by rw [h]


theorem size_cell (n : Int) (i : Nat) (w : World) (hi : i < 68) (hc : w.cell? ⟨0, i, none⟩ = some (.int .u16 n)) (h0 : 0 ≤ n) (h1 : n ≤ 32768) :
    Calls Tryd.prog 12 #[.int .i64 i] w fun e w' => e = .returned (.int .i64 n) ∧ w = w' := by
  go_enter Tryd.func12, Tryd.ntmps12
  go_wp2
  go_ret
  exact ⟨rfl, rfl⟩
theorem ClassSize (w : World) (hT : Holds w 0 .u16 Tabs.sizes) (k : Int) (h0 : 0 ≤ k) (h1 : k ≤ 67) :
    Calls Tryd.prog 12 #[.int .i64 k] w fun e w' => e = .returned (.int .i64 (Tabs.sz k)) ∧ w = w' := by
  have b := Tabs.sz_bd k h0 h1
  obtain ⟨i, rfl⟩ := Int.eq_ofNat_of_zero_le h0
  exact size_cell _ i w (by omega) (hT i (by rw [Tabs.sizes_len]; omega)) b.1 b.2


theorem c128_cell (n : Int) (i : Nat) (w : World) (hi : i < 249) (hc : w.cell? ⟨1, i, none⟩ = some (.int .u8 n)) (h0 : 0 ≤ n) (h1 : n ≤ 67) :
    Calls Tryd.prog 13 #[.int .i64 i] w fun e w' => e = .returned (.int .i64 n) ∧ w = w' := by
  go_enter Tryd.func13, Tryd.ntmps13
  go_wp2
  go_ret
  exact ⟨rfl, rfl⟩
theorem Class128 (w : World) (hT : Holds w 1 .u8 Tabs.c128) (k : Int) (h0 : 0 ≤ k) (h1 : k ≤ 248) :
    Calls Tryd.prog 13 #[.int .i64 k] w fun e w' => e = .returned (.int .i64 (Tabs.cl128 k)) ∧ w = w' := by
  have b := Tabs.cl128_bd k h0 h1
  obtain ⟨i, rfl⟩ := Int.eq_ofNat_of_zero_le h0
  exact c128_cell _ i w (by omega) (hT i (by rw [Tabs.c128_len]; omega)) b.1 b.2


theorem c8_cell (n : Int) (i : Nat) (w : World) (hi : i < 129) (hc : w.cell? ⟨2, i, none⟩ = some (.int .u8 n)) (h0 : 0 ≤ n) (h1 : n ≤ 67) :
    Calls Tryd.prog 14 #[.int .i64 i] w fun e w' => e = .returned (.int .i64 n) ∧ w = w' := by
  go_enter Tryd.func14, Tryd.ntmps14
  go_wp2
  go_ret
  exact ⟨rfl, rfl⟩
theorem Class8 (w : World) (hT : Holds w 2 .u8 Tabs.c8) (k : Int) (h0 : 0 ≤ k) (h1 : k ≤ 128) :
    Calls Tryd.prog 14 #[.int .i64 k] w fun e w' => e = .returned (.int .i64 (Tabs.cl8 k)) ∧ w = w' := by
  have b := Tabs.cl8_bd k h0 h1
  obtain ⟨i, rfl⟩ := Int.eq_ofNat_of_zero_le h0
  exact c8_cell _ i w (by omega) (hT i (by rw [Tabs.c8_len]; omega)) b.1 b.2


theorem pages_cell (n : Int) (i : Nat) (w : World) (hi : i < 68) (hc : w.cell? ⟨3, i, none⟩ = some (.int .u8 n)) (h0 : 0 ≤ n) (h1 : n ≤ 10) :
    Calls Tryd.prog 15 #[.int .i64 i] w fun e w' => e = .returned (.int .i64 n) ∧ w = w' := by
  go_enter Tryd.func15, Tryd.ntmps15
  go_wp2
  go_ret
  exact ⟨rfl, rfl⟩
theorem ClassPages (w : World) (hT : Holds w 3 .u8 Tabs.pages) (k : Int) (h0 : 0 ≤ k) (h1 : k ≤ 67) :
    Calls Tryd.prog 15 #[.int .i64 k] w fun e w' => e = .returned (.int .i64 (Tabs.pg k)) ∧ w = w' := by
  have b := Tabs.pg_bd k h0 h1
  obtain ⟨i, rfl⟩ := Int.eq_ofNat_of_zero_le h0
  exact pages_cell _ i w (by omega) (hT i (by rw [Tabs.pages_len]; omega)) b.1 b.2


theorem magic_cell (n : Int) (i : Nat) (w : World) (hi : i < 68) (hc : w.cell? ⟨4, i, none⟩ = some (.int .u32 n)) (h0 : 0 ≤ n) (h1 : n ≤ 536870912) :
    Calls Tryd.prog 16 #[.int .i64 i] w fun e w' => e = .returned (.int .u32 n) ∧ w = w' := by
  go_enter Tryd.func16, Tryd.ntmps16
  go_wp2
  go_ret
  exact ⟨rfl, rfl⟩
theorem ClassMagic (w : World) (hT : Holds w 4 .u32 Tabs.magic) (k : Int) (h0 : 0 ≤ k) (h1 : k ≤ 67) :
    Calls Tryd.prog 16 #[.int .i64 k] w fun e w' => e = .returned (.int .u32 (Tabs.mg k)) ∧ w = w' := by
  have b := Tabs.mg_bd k h0 h1
  obtain ⟨i, rfl⟩ := Int.eq_ofNat_of_zero_le h0
  exact magic_cell _ i w (by omega) (hT i (by rw [Tabs.magic_len]; omega)) b.1 b.2


theorem sized (w : World) (hT : Holds w 0 .u16 Tabs.sizes) : Calls Tryd.prog 11 #[] w fun e w' => e = .returned (.bool true) ∧ w = w' := by
  have e := Tabs.sz_last
  go_enter Tryd.func11, Tryd.ntmps11
  go_wp2_with fail
  refine (ClassSize _ hT (67) (by omega) (by omega)).mono ?_
  rintro e w' ⟨rfl, rfl⟩
  go_wp2_with fail
  go_ret
  exact ⟨rfl, rfl⟩


/-- Sizes are multiples of 8, above 32 of 16. -/
theorem aligned (w : World) (hT : Holds w 0 .u16 Tabs.sizes) (k : Int) : Calls Tryd.prog 3 #[.int .i64 k] w fun e w' => e = .returned (.bool true) ∧ w = w' := by
  by_cases hk : 0 ≤ k ∧ k ≤ 67
  · obtain ⟨h0, h1⟩ := hk
    have b := Tabs.sz_bd k h0 h1
    have a := Tabs.sz_aligned k h0 h1
    by_cases c : Tabs.sz k ≤ 32
    all_goals
      go_enter Tryd.func3, Tryd.ntmps3
      go_wp2_with fail
      refine (ClassSize _ hT (k) (by omega) (by omega)).mono ?_
      rintro e w' ⟨rfl, rfl⟩
      go_wp2_with fail
      refine (sized _ hT).mono ?_
      rintro e w' ⟨rfl, rfl⟩
      go_wp2_with fail
      go_ret
      exact ⟨ret_bool (by first | (simp; done) | (simp; omega)), rfl⟩
  · by_cases c : k < 0
    all_goals
      go_enter Tryd.func3, Tryd.ntmps3
      go_wp2_with fail
      refine (sized _ hT).mono ?_
      rintro e w' ⟨rfl, rfl⟩
      go_wp2_with fail
      go_ret
      exact ⟨rfl, rfl⟩


/-- Each class has greater objects than the one before. -/
theorem ascend (w : World) (hT : Holds w 0 .u16 Tabs.sizes) (k : Int) : Calls Tryd.prog 4 #[.int .i64 k] w fun e w' => e = .returned (.bool true) ∧ w = w' := by
  by_cases hk : 0 ≤ k ∧ k ≤ 66
  · obtain ⟨h0, h1⟩ := hk
    have b := Tabs.sz_bd k h0 (by omega)
    have b1 := Tabs.sz_bd (k + 1) (by omega) (by omega)
    have a := Tabs.sz_asc k h0 h1
    have z := Tabs.sz_zero
    go_enter Tryd.func4, Tryd.ntmps4
    go_wp2_with fail
    refine (ClassSize _ hT (k) (by omega) (by omega)).mono ?_
    rintro e w' ⟨rfl, rfl⟩
    go_wp2_with fail
    refine (ClassSize _ hT (k + 1) (by omega) (by omega)).mono ?_
    rintro e w' ⟨rfl, rfl⟩
    go_wp2_with fail
    refine (ClassSize _ hT (0) (by omega) (by omega)).mono ?_
    rintro e w' ⟨rfl, rfl⟩
    go_wp2_with fail
    refine (sized _ hT).mono ?_
    rintro e w' ⟨rfl, rfl⟩
    go_wp2_with fail
    go_ret
    exact ⟨rfl, rfl⟩
  · by_cases c : k < 0
    all_goals
      go_enter Tryd.func4, Tryd.ntmps4
      go_wp2_with fail
      refine (sized _ hT).mono ?_
      rintro e w' ⟨rfl, rfl⟩
      go_wp2_with fail
      go_ret
      exact ⟨rfl, rfl⟩


/-- The class of a multiple of 128 bytes above 1024 is the least one that holds it. -/
theorem class128 (w : World) (hT : Holds w 0 .u16 Tabs.sizes) (h8 : Holds w 1 .u8 Tabs.c128) (n : Int) : Calls Tryd.prog 5 #[.int .i64 n] w fun e w' => e = .returned (.bool true) ∧ w = w' := by
  by_cases hk : 0 ≤ n ∧ n ≤ 248
  · obtain ⟨h0, h1⟩ := hk
    have c := Tabs.cl128_bd n h0 h1
    have a := Tabs.cl128_holds n h0 h1
    have b := Tabs.sz_bd (Tabs.cl128 n) (by omega) (by omega)
    have b1 := Tabs.sz_bd (Tabs.cl128 n - 1) (by omega) (by omega)
    go_enter Tryd.func5, Tryd.ntmps5
    go_wp2_with fail
    refine (Class128 _ h8 n (by omega) (by omega)).mono ?_
    rintro e w' ⟨rfl, rfl⟩
    go_wp2_with fail
    refine (ClassSize _ hT (Tabs.cl128 n) (by omega) (by omega)).mono ?_
    rintro e w' ⟨rfl, rfl⟩
    go_wp2_with fail
    refine (ClassSize _ hT (Tabs.cl128 n - 1) (by omega) (by omega)).mono ?_
    rintro e w' ⟨rfl, rfl⟩
    go_wp2_with fail
    refine (sized _ hT).mono ?_
    rintro e w' ⟨rfl, rfl⟩
    go_wp2_with fail
    go_ret
    exact ⟨rfl, rfl⟩
  · by_cases c : n < 0
    all_goals
      go_enter Tryd.func5, Tryd.ntmps5
      go_wp2_with fail
      refine (sized _ hT).mono ?_
      rintro e w' ⟨rfl, rfl⟩
      go_wp2_with fail
      go_ret
      exact ⟨rfl, rfl⟩


/-- The class of a multiple of 8 bytes is the least one that holds it. -/
theorem class8 (w : World) (hT : Holds w 0 .u16 Tabs.sizes) (h8 : Holds w 2 .u8 Tabs.c8) (n : Int) : Calls Tryd.prog 6 #[.int .i64 n] w fun e w' => e = .returned (.bool true) ∧ w = w' := by
  by_cases hk : 0 ≤ n ∧ n ≤ 128
  · obtain ⟨h0, h1⟩ := hk
    have c := Tabs.cl8_bd n h0 h1
    have a := Tabs.cl8_holds n h0 h1
    have b := Tabs.sz_bd (Tabs.cl8 n) (by omega) (by omega)
    by_cases z : Tabs.cl8 n = 0
    · have z' : (Tabs.cl8 n == 0) = true := by simpa using z
      have Z := Lib.hid z
      clear z
      go_enter Tryd.func6, Tryd.ntmps6
      go_wp2_with fail
      refine (Class8 _ h8 n (by omega) (by omega)).mono ?_
      rintro e w' ⟨rfl, rfl⟩
      go_wp2_with fail
      refine (ClassSize _ hT (Tabs.cl8 n) (by omega) (by omega)).mono ?_
      rintro e w' ⟨rfl, rfl⟩
      go_wp2_with fail
      refine (sized _ hT).mono ?_
      rintro e w' ⟨rfl, rfl⟩
      go_wp2_with fail
      go_ret
      exact ⟨rfl, rfl⟩
    · have z' : (Tabs.cl8 n == 0) = false := by simpa using z
      have b1 := Tabs.sz_bd (Tabs.cl8 n - 1) (by omega) (by omega)
      go_enter Tryd.func6, Tryd.ntmps6
      go_wp2_with fail
      refine (Class8 _ h8 n (by omega) (by omega)).mono ?_
      rintro e w' ⟨rfl, rfl⟩
      go_wp2_with fail
      refine (ClassSize _ hT (Tabs.cl8 n) (by omega) (by omega)).mono ?_
      rintro e w' ⟨rfl, rfl⟩
      go_wp2_with fail
      refine (ClassSize _ hT (Tabs.cl8 n - 1) (by omega) (by omega)).mono ?_
      rintro e w' ⟨rfl, rfl⟩
      go_wp2_with fail
      refine (sized _ hT).mono ?_
      rintro e w' ⟨rfl, rfl⟩
      go_wp2_with fail
      go_ret
      exact ⟨rfl, rfl⟩
  · by_cases c : n < 0
    all_goals
      go_enter Tryd.func6, Tryd.ntmps6
      go_wp2_with fail
      refine (sized _ hT).mono ?_
      rintro e w' ⟨rfl, rfl⟩
      go_wp2_with fail
      go_ret
      exact ⟨rfl, rfl⟩


/-- A span has room for one object at least, and for 1024 at most, in at most ten pages. -/
theorem pages (w : World) (hT : Holds w 0 .u16 Tabs.sizes) (hP : Holds w 3 .u8 Tabs.pages) (k : Int) : Calls Tryd.prog 7 #[.int .i64 k] w fun e w' => e = .returned (.bool true) ∧ w = w' := by
  by_cases hk : 1 ≤ k ∧ k ≤ 67
  · obtain ⟨h0, h1⟩ := hk
    have b := Tabs.sz_pos k h0 h1
    have b' := Tabs.sz_bd k (by omega) h1
    have p := Tabs.pg_bd k (by omega) h1
    have a := Tabs.pg_hold k h0 h1
    go_enter Tryd.func7, Tryd.ntmps7
    go_wp2_with fail
    refine (ClassPages _ hP k (by omega) (by omega)).mono ?_
    rintro e w' ⟨rfl, rfl⟩
    go_wp2_with fail
    refine (ClassSize _ hT (k) (by omega) (by omega)).mono ?_
    rintro e w' ⟨rfl, rfl⟩
    go_wp2_with fail
    refine (ClassPages _ hP k (by omega) (by omega)).mono ?_
    rintro e w' ⟨rfl, rfl⟩
    go_wp2_with fail
    refine (sized _ hT).mono ?_
    rintro e w' ⟨rfl, rfl⟩
    go_wp2_with fail
    go_ret
    exact ⟨rfl, rfl⟩
  · by_cases c : k < 1
    all_goals
      go_enter Tryd.func7, Tryd.ntmps7
      go_wp2_with fail
      refine (sized _ hT).mono ?_
      rintro e w' ⟨rfl, rfl⟩
      go_wp2_with fail
      go_ret
      exact ⟨rfl, rfl⟩


/-- At most an eighth of a span is left behind its last object. -/
theorem waste (w : World) (hT : Holds w 0 .u16 Tabs.sizes) (hP : Holds w 3 .u8 Tabs.pages) (k : Int) : Calls Tryd.prog 8 #[.int .i64 k] w fun e w' => e = .returned (.bool true) ∧ w = w' := by
  by_cases hk : 1 ≤ k ∧ k ≤ 67
  · obtain ⟨h0, h1⟩ := hk
    have b := Tabs.sz_pos k h0 h1
    have b' := Tabs.sz_bd k (by omega) h1
    have p := Tabs.pg_bd k (by omega) h1
    have a := Tabs.pg_waste k h0 h1
    have r0 : 0 ≤ Tabs.pg k * 8192 % Tabs.sz k := Int.emod_nonneg _ (by omega)
    have r1 : Tabs.pg k * 8192 % Tabs.sz k < Tabs.sz k := Int.emod_lt_of_pos _ (by omega)
    go_enter Tryd.func8, Tryd.ntmps8
    go_wp2_with fail
    refine (ClassPages _ hP k (by omega) (by omega)).mono ?_
    rintro e w' ⟨rfl, rfl⟩
    go_wp2_with fail
    refine (ClassSize _ hT (k) (by omega) (by omega)).mono ?_
    rintro e w' ⟨rfl, rfl⟩
    go_wp2_with fail
    refine (sized _ hT).mono ?_
    rintro e w' ⟨rfl, rfl⟩
    go_wp2_with fail
    go_ret
    exact ⟨rfl, rfl⟩
  · by_cases c : k < 1
    all_goals
      go_enter Tryd.func8, Tryd.ntmps8
      go_wp2_with fail
      refine (sized _ hT).mono ?_
      rintro e w' ⟨rfl, rfl⟩
      go_wp2_with fail
      go_ret
      exact ⟨rfl, rfl⟩


/-- The class that both tables tell for any size is the least one that holds it. -/
theorem least (w : World) (hT : Holds w 0 .u16 Tabs.sizes) (h8 : Holds w 2 .u8 Tabs.c8) (h128 : Holds w 1 .u8 Tabs.c128) (n : Int) (m0 : -9223372036854775808 ≤ n) (m1 : n ≤ 9223372036854775807) : Calls Tryd.prog 9 #[.int .i64 n] w fun e w' => e = .returned (.bool true) ∧ w = w' := by
  by_cases hk : 1 ≤ n ∧ n ≤ 32768
  · obtain ⟨h0, h1⟩ := hk
    by_cases hs : n ≤ 1016
    · have a := Tabs.cl8_holds ((n + 7) / 8) (by omega) (by omega)
      have c := Tabs.cl8_bd ((n + 7) / 8) (by omega) (by omega)
      generalize hx : Tabs.cl8 ((n + 7) / 8) = x at *
      have HX := Lib.hid hx
      clear hx
      have b := Tabs.sz_bd x (by omega) (by omega)
      have b1 := Tabs.sz_bd (x - 1) (by omega) (by omega)
      go_enter Tryd.func9, Tryd.ntmps9
      go_wp2_with fail
      refine (Class8 _ h8 ((n + 7) / 8) (by omega) (by omega)).mono ?_
      rintro e w' ⟨rfl, rfl⟩
      rw [HX.out]
      go_wp2_with fail
      refine (ClassSize _ hT (x) (by omega) (by omega)).mono ?_
      rintro e w' ⟨rfl, rfl⟩
      go_wp2_with fail
      refine (ClassSize _ hT (x - 1) (by omega) (by omega)).mono ?_
      rintro e w' ⟨rfl, rfl⟩
      go_wp2_with fail
      refine (sized _ hT).mono ?_
      rintro e w' ⟨rfl, rfl⟩
      go_wp2_with fail
      go_ret
      exact ⟨rfl, rfl⟩
    · have a := Tabs.cl128_holds ((n - 1024 + 127) / 128) (by omega) (by omega)
      have c := Tabs.cl128_bd ((n - 1024 + 127) / 128) (by omega) (by omega)
      generalize hx : Tabs.cl128 ((n - 1024 + 127) / 128) = x at *
      have HX := Lib.hid hx
      clear hx
      have b := Tabs.sz_bd x (by omega) (by omega)
      have b1 := Tabs.sz_bd (x - 1) (by omega) (by omega)
      go_enter Tryd.func9, Tryd.ntmps9
      go_wp2_with fail
      refine (Class128 _ h128 ((n - 1024 + 127) / 128) (by omega) (by omega)).mono ?_
      rintro e w' ⟨rfl, rfl⟩
      rw [HX.out]
      go_wp2_with fail
      refine (ClassSize _ hT (x) (by omega) (by omega)).mono ?_
      rintro e w' ⟨rfl, rfl⟩
      go_wp2_with fail
      refine (ClassSize _ hT (x - 1) (by omega) (by omega)).mono ?_
      rintro e w' ⟨rfl, rfl⟩
      go_wp2_with fail
      refine (sized _ hT).mono ?_
      rintro e w' ⟨rfl, rfl⟩
      go_wp2_with fail
      go_ret
      exact ⟨rfl, rfl⟩
  · by_cases c : n < 1
    all_goals
      go_enter Tryd.func9, Tryd.ntmps9
      go_wp2_with fail
      refine (sized _ hT).mono ?_
      rintro e w' ⟨rfl, rfl⟩
      go_wp2_with fail
      go_ret
      exact ⟨rfl, rfl⟩


/-- An offset in a span is divided by the size of its objects by a product and a shift. -/
theorem magic (w : World) (hT : Holds w 0 .u16 Tabs.sizes) (hP : Holds w 3 .u8 Tabs.pages) (hM : Holds w 4 .u32 Tabs.magic) (k n : Int) : Calls Tryd.prog 10 #[.int .i64 k, .int .i64 n] w fun e w' => e = .returned (.bool true) ∧ w = w' := by
  by_cases hk : 1 ≤ k ∧ k ≤ 67
  · obtain ⟨h0, h1⟩ := hk
    have p := Tabs.pg_bd k (by omega) h1
    by_cases c0 : n < 0
    · go_enter Tryd.func10, Tryd.ntmps10
      go_wp2_with fail
      refine (sized _ hT).mono ?_
      rintro e w' ⟨rfl, rfl⟩
      go_wp2_with fail
      go_ret
      exact ⟨rfl, rfl⟩
    · by_cases c1 : Tabs.pg k * 8192 ≤ n
      · go_enter Tryd.func10, Tryd.ntmps10
        go_wp2_with fail
        refine (ClassPages _ hP k (by omega) (by omega)).mono ?_
        rintro e w' ⟨rfl, rfl⟩
        go_wp2_with fail
        refine (sized _ hT).mono ?_
        rintro e w' ⟨rfl, rfl⟩
        go_wp2_with fail
        go_ret
        exact ⟨rfl, rfl⟩
      · have b := Tabs.sz_pos k h0 h1
        have b' := Tabs.sz_bd k (by omega) h1
        have m := Tabs.mg_bd k (by omega) h1
        have m1 := Tabs.mg_bd 1 (by omega) (by omega)
        have a := Tabs.mg_div k n h0 h1 (by omega) (by omega)
        have z := Tabs.mg_one
        have q0 : 0 ≤ n * Tabs.mg k := Int.mul_nonneg (by omega) (by omega)
        have q1 : n * Tabs.mg k ≤ 81920 * 536870912 := Int.mul_le_mul (by omega) (by omega) (by omega) (by omega)
        have d0 : 0 ≤ n / Tabs.sz k := Int.ediv_nonneg (by omega) (by omega)
        have d1 : n / Tabs.sz k ≤ n := Int.ediv_le_self _ (by omega)
        go_enter Tryd.func10, Tryd.ntmps10
        go_wp2_with fail
        refine (ClassPages _ hP k (by omega) (by omega)).mono ?_
        rintro e w' ⟨rfl, rfl⟩
        go_wp2_with fail
        refine (ClassMagic _ hM k (by omega) (by omega)).mono ?_
        rintro e w' ⟨rfl, rfl⟩
        go_wp2_with fail
        refine (ClassSize _ hT (k) (by omega) (by omega)).mono ?_
        rintro e w' ⟨rfl, rfl⟩
        go_wp2_with fail
        refine (ClassMagic _ hM 1 (by omega) (by omega)).mono ?_
        rintro e w' ⟨rfl, rfl⟩
        go_wp2_with fail
        go_ret
        exact ⟨rfl, rfl⟩
  · by_cases c : k < 1
    all_goals
      go_enter Tryd.func10, Tryd.ntmps10
      go_wp2_with fail
      refine (sized _ hT).mono ?_
      rintro e w' ⟨rfl, rfl⟩
      go_wp2_with fail
      go_ret
      exact ⟨rfl, rfl⟩

end Go.Proofs.YtndcokbkocifpaaDoor
