/- The tables of size classes, as lists of numbers taken out of what the rows list, and what can be decided of them: plain, with no run of the program in sight. -/
import Derived.Test.YtpebmkbfpeialaaDoorRows
namespace Go.Proofs.YtpebmkbfpeialaaDoor.Tabs
/-- The numbers of a datum that is an array of integers. -/
def ints : DataW Unit → List Int
  | .agg ps => ps.map fun
    | .lit (.int _ z) => z
    | _ => 0
  | _ => []
def sizes : List Int := ints Rows.laid_loop_example_pub_runtimeparts_pub_sizeclasses_SizeClassToSize
theorem sizes_len : sizes.length = 68 := by kernel_rfl
def c8 : List Int := ints Rows.laid_loop_example_pub_runtimeparts_pub_sizeclasses_SizeToSizeClass8
theorem c8_len : c8.length = 129 := by kernel_rfl
def c128 : List Int := ints Rows.laid_loop_example_pub_runtimeparts_pub_sizeclasses_SizeToSizeClass128
theorem c128_len : c128.length = 249 := by kernel_rfl

theorem sizes_bd : ∀ i : Nat, i < 68 → 0 ≤ sizes.getD i 0 ∧ sizes.getD i 0 ≤ 32768 := by decide +kernel
theorem sizes_pos : ∀ i : Nat, i < 68 → 1 ≤ i → 8 ≤ sizes.getD i 0 := by decide +kernel
theorem c8_bd : ∀ i : Nat, i < 129 → 0 ≤ c8.getD i 0 ∧ c8.getD i 0 ≤ 67 := by decide +kernel
theorem c128_bd : ∀ i : Nat, i < 249 → 0 ≤ c128.getD i 0 ∧ c128.getD i 0 ≤ 67 := by decide +kernel
theorem sizes_asc : ∀ i : Nat, i < 67 → sizes.getD i 0 < sizes.getD (i + 1) 0 := by decide +kernel
theorem sizes_aligned : ∀ i : Nat, i < 68 → sizes.getD i 0 % 8 = 0 ∧ (sizes.getD i 0 ≤ 32 ∨ sizes.getD i 0 % 16 = 0) := by decide +kernel
/-- The class that the first table tells of 8 i bytes holds them; the class below it holds 8 i - 8 at most. -/
theorem c8_holds : ∀ i : Nat, i < 129 → 8 * (i : Int) ≤ sizes.getD (c8.getD i 0).toNat 0 ∧ (1 ≤ i → 1 ≤ c8.getD i 0) ∧ (1 ≤ c8.getD i 0 → sizes.getD ((c8.getD i 0).toNat - 1) 0 ≤ 8 * (i : Int) - 8) := by decide +kernel
/-- The class that the second table tells of 1024 + 128 j bytes holds them; the class below it holds 896 + 128 j at most. -/
theorem c128_holds : ∀ j : Nat, j < 249 → 1024 + 128 * (j : Int) ≤ sizes.getD (c128.getD j 0).toNat 0 ∧ 1 ≤ c128.getD j 0 ∧ sizes.getD ((c128.getD j 0).toNat - 1) 0 ≤ 896 + 128 * (j : Int) := by decide +kernel
/-- The entries at a place that is an Int. -/
def sz (k : Int) : Int := sizes.getD k.toNat 0
def cl8 (k : Int) : Int := c8.getD k.toNat 0
def cl128 (k : Int) : Int := c128.getD k.toNat 0
theorem sz_bd (k : Int) (h0 : 0 ≤ k) (h1 : k ≤ 67) : 0 ≤ sz k ∧ sz k ≤ 32768 := sizes_bd k.toNat (by omega)
theorem sz_pos (k : Int) (h0 : 1 ≤ k) (h1 : k ≤ 67) : 8 ≤ sz k := sizes_pos k.toNat (by omega) (by omega)
theorem sz_zero : sz 0 = 0 := by kernel_rfl
theorem sz_last : sz 67 = 32768 := by kernel_rfl
theorem cl8_bd (k : Int) (h0 : 0 ≤ k) (h1 : k ≤ 128) : 0 ≤ cl8 k ∧ cl8 k ≤ 67 := c8_bd k.toNat (by omega)
theorem cl128_bd (k : Int) (h0 : 0 ≤ k) (h1 : k ≤ 248) : 0 ≤ cl128 k ∧ cl128 k ≤ 67 := c128_bd k.toNat (by omega)
theorem sz_asc (k : Int) (h0 : 0 ≤ k) (h1 : k ≤ 66) : sz k < sz (k + 1) := by
  have := sizes_asc k.toNat (by omega)
  unfold sz
  rw [show (k + 1).toNat = k.toNat + 1 by omega]
  exact this
theorem sz_aligned (k : Int) (h0 : 0 ≤ k) (h1 : k ≤ 67) : sz k % 8 = 0 ∧ (sz k ≤ 32 ∨ sz k % 16 = 0) := sizes_aligned k.toNat (by omega)
theorem cl8_holds (n : Int) (h0 : 0 ≤ n) (h1 : n ≤ 128) : 8 * n ≤ sz (cl8 n) ∧ (1 ≤ n → 1 ≤ cl8 n) ∧ (1 ≤ cl8 n → sz (cl8 n - 1) ≤ 8 * n - 8) := by
  obtain ⟨i, rfl⟩ := Int.eq_ofNat_of_zero_le h0
  have h := c8_holds i (by omega)
  unfold sz cl8
  rw [Int.toNat_natCast]
  refine ⟨h.1, fun e => h.2.1 (by omega), fun e => ?_⟩
  rw [show (c8.getD i 0 - 1).toNat = (c8.getD i 0).toNat - 1 by omega]
  exact h.2.2 e
theorem cl128_holds (n : Int) (h0 : 0 ≤ n) (h1 : n ≤ 248) : 1024 + 128 * n ≤ sz (cl128 n) ∧ 1 ≤ cl128 n ∧ sz (cl128 n - 1) ≤ 896 + 128 * n := by
  obtain ⟨i, rfl⟩ := Int.eq_ofNat_of_zero_le h0
  have h := c128_holds i (by omega)
  unfold sz cl128
  rw [Int.toNat_natCast]
  refine ⟨h.1, h.2.1, ?_⟩
  rw [show (c128.getD i 0 - 1).toNat = (c128.getD i 0).toNat - 1 by omega]
  exact h.2.2
end Go.Proofs.YtpebmkbfpeialaaDoor.Tabs
