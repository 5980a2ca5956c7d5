/- What the reference's Decimal returns, for every number from 0 to 2^22: its digits; and that the law on units answers true, for every number. The condition: the two error variables of strconv hold an interface value each. -/
import Derived.Test.YtbmihohogoblnaaDoorLaws
import Derived.OwnWalk
import Derived.Laws.BytesString
import Derived.Laws.NewBlocks
namespace Go.Proofs.YtbmihohogoblnaaDoor
open Go.ChangeShapes Go.WideShapes Go.ChangeAt Go.RowKit
set_option linter.unusedVariables false
theorem conv1 (w : World) (d : Int) : (convert 29 9 (.slice (some ⟨w.heap.size, 0, none⟩) 1 1)).run Tryd.prog (w.alloc (.cells #[.int .u8 d] 5)) = .ok (.string ⟨#[UInt8.ofNat d.toNat]⟩) (w.alloc (.cells #[.int .u8 d] 5)) := by
  rw [run_convert_bytes_string _ 29 9 5 _ 1 1 Tryd.underlying29 Tryd.underlying5 Tryd.underlying9, run_bytesToString _ _ 1 1 [d]]
  · rfl
  · simp [go_sem, loadCells]

theorem valFrom_acc (l : List UInt8) : ∀ a, valFrom a l = a * 10 ^ l.length + valFrom 0 l := by
  induction l with
  | nil => intro a; show a = a * 1 + 0; omega
  | cons c r ih =>
    intro a
    show valFrom (a * 10 + (c.toNat - 48)) r = a * 10 ^ (r.length + 1) + valFrom (0 * 10 + (c.toNat - 48)) r
    rw [Nat.zero_mul, Nat.zero_add, ih, ih (c.toNat - 48), Nat.add_mul, Nat.pow_succ, Nat.mul_assoc a 10, Nat.mul_comm 10 (10 ^ r.length)]
    omega
/-- The text t is digits, and they are what is behind q in n. -/
def Dec (n q : Nat) (t : ByteArray) : Prop := t.data.toList ≠ [] ∧ (∀ c ∈ t.data.toList, dig c) ∧ n = q * 10 ^ t.data.toList.length + valFrom 0 t.data.toList
theorem digit_toNat (q : Nat) : (UInt8.ofNat (48 + q % 10)).toNat = 48 + q % 10 := by
  rw [UInt8.toNat_ofNat']
  omega
theorem Dec_start (n : Nat) : Dec n (n / 10) ⟨#[UInt8.ofNat (48 + n % 10)]⟩ := by
  have e := digit_toNat n
  refine ⟨by simp, fun c hc => ?_, ?_⟩
  · have : c = UInt8.ofNat (48 + n % 10) := by simpa using hc
    subst this
    exact ⟨by omega, by omega⟩
  · show n = n / 10 * 10 ^ 1 + (0 * 10 + ((UInt8.ofNat (48 + n % 10)).toNat - 48))
    rw [e]
    omega
theorem Dec_step {n q : Nat} {t : ByteArray} (h : Dec n q t) : Dec n (q / 10) (⟨#[UInt8.ofNat (48 + q % 10)]⟩ ++ t) := by
  obtain ⟨h1, h2, h3⟩ := h
  have e := digit_toNat q
  have hl : (⟨#[UInt8.ofNat (48 + q % 10)]⟩ ++ t : ByteArray).data.toList = UInt8.ofNat (48 + q % 10) :: t.data.toList := by simp
  unfold Dec
  rw [hl]
  refine ⟨by simp, fun c hc => ?_, ?_⟩
  · rcases List.mem_cons.1 hc with rfl | hc
    · exact ⟨by omega, by omega⟩
    · exact h2 c hc
  · show n = q / 10 * 10 ^ (t.data.toList.length + 1) + valFrom (0 * 10 + ((UInt8.ofNat (48 + q % 10)).toNat - 48)) t.data.toList
    rw [valFrom_acc, e, show 0 * 10 + (48 + q % 10 - 48) = q % 10 by omega, Nat.pow_succ, h3]
    have hq : q = q / 10 * 10 + q % 10 := by omega
    have : q * 10 ^ t.data.toList.length = (q / 10 * 10 + q % 10) * 10 ^ t.data.toList.length := by rw [← hq]
    rw [this, Nat.add_mul, Nat.mul_assoc, Nat.mul_comm 10]
    omega

def DecPost (n : Nat) (w : World) (e : Ending) (w' : World) : Prop := ∃ t : ByteArray, e = .returned (.string t) ∧ Dec n 0 t ∧ t.size ≤ 4194304 ∧ Below w.heap.size w w'
theorem Decimal_any (n : Nat) (w : World) (h1 : n ≤ 4194304) : Calls Tryd.prog 8 #[.int .i64 n] w (DecPost n w) := by
  have kc := fun (w : World) (d : Int) => conv1 w d
  have ds := Lib.hid (Dec_start n)
  go_enter Tryd.func8, Tryd.ntmps8
  go_wp2_with fail
  go_loopw [0, 3] (fun m out w' => ∃ (q : Nat) (t : ByteArray), m = .int .i64 q ∧ out = .string t ∧ Hid (Dec n q t) ∧ q + t.size ≤ 4194304 ∧ Below w.heap.size w w') (fun m _ _ => (intOf m).toNat)
  case atStart =>
    refine ⟨n / 10, ⟨#[UInt8.ofNat (48 + n % 10)]⟩, by go_num, ?_, ds.out, ?_, (Below.refl _ _).alloc (Nat.le_refl _) _⟩
    · rfl
    · show n / 10 + 1 ≤ 4194304
      omega
  case round =>
    obtain ⟨q, t, rfl, rfl, hd, hq, hb⟩ := hrel
    by_cases c : 0 < q
    · go_wp2_with fail
      go_roundw
      case rel =>
        refine ⟨q / 10, ⟨#[UInt8.ofNat (48 + q % 10)]⟩ ++ t, by go_num, ?_, Lib.hid (Dec_step hd.out), ?_, hb.alloc hb.size _⟩
        · rw [UInt8.ofNat_add]
          rfl
        · rw [ByteArray.size_append]
          show q / 10 + (1 + t.size) ≤ 4194304
          omega
      case measure => simp [intOf]; omega
    · go_wp2_with fail
      go_ret
      obtain rfl : q = 0 := by omega
      exact ⟨t, rfl, hd.out, by omega, hb⟩

theorem unit_of (t : ByteArray) (n : Nat) (hd : Dec n 0 t) (h1 : n ≤ 4194304) (u : UInt8) (f : Int) (hu : factor u.toNat = some f) (hf : 1 ≤ f) (hf2 : f ≤ 1099511627776) : pbc (t ++ ⟨#[u, 105, 66]⟩) = some (n * f) := by
  obtain ⟨d1, d2, d3⟩ := hd
  have hx : (n : Int) * f ≤ 4194304 * 1099511627776 := Int.mul_le_mul (by omega) hf2 (by omega) (by omega)
  exact pbc_of_unit _ t.data.toList n u f hu (by simp) d1 d2 (by omega) (by omega) hf
theorem none_of (t : ByteArray) (n : Nat) (hd : Dec n 0 t) (h1 : n ≤ 4194304) : pbc t = some (n : Int) := by
  obtain ⟨d1, d2, d3⟩ := hd
  rw [pbc_digits t _ rfl d1 d2, num_digits d1 d2, if_pos (by omega)]
  have : valFrom 0 t.data.toList = n := by omega
  rw [this]

/-- A unit is 1024 times the one before it. -/
theorem units (n : Int) (w : World) (hE : Errs w) : Calls Tryd.prog 4 #[.int .i64 n] w fun e w' => e = .returned (.bool true) ∧ Below w.heap.size w w' := by
  by_cases c : n < 0
  · go_enter Tryd.func4, Tryd.ntmps4
    go_wp2_with fail
    refine (counts _ hE).mono ?_
    rintro e w2 ⟨rfl, hb2⟩
    go_wp2_with fail
    go_ret
    exact ⟨rfl, hb2⟩
  by_cases d : 4194304 < n
  · go_enter Tryd.func4, Tryd.ntmps4
    go_wp2_with fail
    refine (counts _ hE).mono ?_
    rintro e w2 ⟨rfl, hb2⟩
    go_wp2_with fail
    go_ret
    exact ⟨rfl, hb2⟩
  obtain ⟨k, rfl⟩ := Int.eq_ofNat_of_zero_le (show 0 ≤ n by omega)
  have H := Lib.hid hE
  clear hE
  go_enter Tryd.func4, Tryd.ntmps4
  go_wp2_with fail
  refine (Decimal_any k _ (by omega)).mono ?_
  rintro e w1 ⟨t, rfl, hd, hz, hb1⟩
  have HD := Lib.hid hd
  clear hd
  go_wp2_with fail
  refine (Parse_same t _ (H.out.below hb1) (by omega) _ (none_of t k HD.out (by omega))).mono ?_
  rintro e w2 ⟨rfl, hb2⟩
  try rw [res_yes]
  go_wp2_with fail
  generalize hW : w2.alloc (Obj.cells #[Value.string { data := #[75, 105, 66] }, Value.string { data := #[77, 105, 66] }, Value.string { data := #[71, 105, 66] }, Value.string { data := #[84, 105, 66] }] 9) = W
  have g0 : W.cell? ⟨w2.heap.size, 0, none⟩ = some (.string ⟨#[75, 105, 66]⟩) := by rw [← hW]; simp [go_sem]
  have g1 : W.cell? ⟨w2.heap.size, 1, none⟩ = some (.string ⟨#[77, 105, 66]⟩) := by rw [← hW]; simp [go_sem]
  have g2 : W.cell? ⟨w2.heap.size, 2, none⟩ = some (.string ⟨#[71, 105, 66]⟩) := by rw [← hW]; simp [go_sem]
  have g3 : W.cell? ⟨w2.heap.size, 3, none⟩ = some (.string ⟨#[84, 105, 66]⟩) := by rw [← hW]; simp [go_sem]
  have hbW : Below w.heap.size w W := by rw [← hW]; exact (chain hb1 hb2).alloc (chain hb1 hb2).size _
  have eW := Lib.hid (H.out.below hbW)
  have KW := Lib.hid hbW
  clear hW hbW hb1 hb2
  generalize w2.heap.size = B at *
  refine wp_loop_rounds 5 ?_
  rw [rounds_succ]
  go_wp2_with fail
  refine (Parse_same _ _ eW.out (by rw [ByteArray.size_append]; show t.size + 3 ≤ _; omega) _ (unit_of t k HD.out (by omega) 75 1024 rfl (by omega) (by omega))).mono ?_
  rintro e x0 ⟨rfl, hx0⟩
  try rw [res_yes]
  have e0 := Lib.hid (eW.out.below hx0)
  have h1 := cell_below g1 hx0
  have h2 := cell_below g2 hx0
  have h3 := cell_below g3 hx0
  have K0 := Lib.hid (chain KW.out hx0)
  clear hx0 g0 g1 g2 g3
  go_wp2_with fail
  rw [rounds_succ]
  go_wp2_with fail
  refine (Parse_same _ _ e0.out (by rw [ByteArray.size_append]; show t.size + 3 ≤ _; omega) _ (unit_of t k HD.out (by omega) 77 1048576 rfl (by omega) (by omega))).mono ?_
  rintro e x1 ⟨rfl, hx1⟩
  try rw [res_yes]
  have e1 := Lib.hid (e0.out.below hx1)
  have i2 := cell_below h2 hx1
  have i3 := cell_below h3 hx1
  have K1 := Lib.hid (chain K0.out hx1)
  clear hx1 h1 h2 h3
  go_wp2_with fail
  rw [rounds_succ]
  go_wp2_with fail
  refine (Parse_same _ _ e1.out (by rw [ByteArray.size_append]; show t.size + 3 ≤ _; omega) _ (unit_of t k HD.out (by omega) 71 1073741824 rfl (by omega) (by omega))).mono ?_
  rintro e x2 ⟨rfl, hx2⟩
  try rw [res_yes]
  have e2 := Lib.hid (e1.out.below hx2)
  have j3 := cell_below i3 hx2
  have K2 := Lib.hid (chain K1.out hx2)
  clear hx2 i2 i3
  go_wp2_with fail
  rw [rounds_succ]
  go_wp2_with fail
  refine (Parse_same _ _ e2.out (by rw [ByteArray.size_append]; show t.size + 3 ≤ _; omega) _ (unit_of t k HD.out (by omega) 84 1099511627776 rfl (by omega) (by omega))).mono ?_
  rintro e x3 ⟨rfl, hx3⟩
  try rw [res_yes]
  have e3 := Lib.hid (e2.out.below hx3)
  have K3 := Lib.hid (chain K2.out hx3)
  clear hx3 j3
  go_wp2_with fail
  rw [rounds_succ]
  go_wp2_with fail
  refine (counts _ e3.out).mono ?_
  rintro e x4 ⟨rfl, hx4⟩
  go_wp2_with fail
  go_ret
  exact ⟨rfl, chain K3.out hx4⟩

end Go.Proofs.YtbmihohogoblnaaDoor
