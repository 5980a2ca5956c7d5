/- What ParseByteCount returns, for every text of at most 2^48 bytes: what the plain function pbc computes. The condition: the two error variables of strconv hold an interface value each. -/
import Derived.Test.YtbmihohogoblnaaDoorParse
import Derived.WalkKit
import Derived.ProofKit
import Derived.LoopTactic
import Derived.Lib.Walk
import Derived.Lib.Hide
import Derived.WalkSpells
import Derived.Laws.Closers25

import Derived.Outline
namespace Go.Proofs.YtbmihohogoblnaaDoor
open Go.ChangeShapes Go.WideShapes Go.ChangeAt Go.RowKit
set_option linter.unusedVariables false
theorem ret_bool {a b : Bool} (h : a = b) : Ending.returned (.bool a) = .returned (.bool b) := by rw [h]
theorem ret_int {k : IntKind} {a b : Int} (h : a = b) : Ending.returned (.int k a) = .returned (.int k b) := by rw [h]
theorem get!_eq (s : ByteArray) (i : Nat) (h : i < s.size) : s.get! i = s[i]'h := get_at s i h
theorem index_at (s : ByteArray) (i : Nat) (h : i < s.size) (w : World) : (Instr.index 9 (.string s) (.int .i64 i)).run Tryd.prog w = .ok (.int .u8 (Bt s i)) w := by
  unfold Bt
  rw [get!_eq s i h, run_index_string (t := 9) (s := s) (k := .i64) (i := i) (h := Tryd.underlying9), dif_pos ⟨by omega, by omega⟩]
  rfl

set_option maxRecDepth 100000 in
theorem p_empty (w : World) : Calls Tryd.prog 11 #[.string ⟨#[]⟩] w fun e w' => e = .returned (.tuple #[.int .i64 0, .bool false]) ∧ w = w' := by
  go_enter Tryd.func11, Tryd.ntmps11
  go_wp2_with fail
  go_ret2
  exact ⟨rfl, rfl⟩
theorem not_empty (s : ByteArray) (h : 0 < s.size) : s.toList.isEmpty = false := by
  rw [← decide_eq_emptyBytes, decide_eq_false_iff_not]
  intro e
  rw [e] at h
  exact absurd h (by decide)
theorem p_num (s : ByteArray) (w : World) (he : s.toList.isEmpty = false) (hs : 0 < s.size) (hm : s.size ≤ 281474976710656) (c1 : Int)
    (i1 : ∀ w, (Instr.index 9 (.string s) (.int .i64 ((s.size : Int) - 1))).run Tryd.prog w = .ok (.int .u8 c1) w) (l1 : 48 ≤ c1) (u1 : c1 ≤ 57) (v : Int) (v0 : 0 ≤ v) (hv : Read s.data.toList = some v) :
    Calls Tryd.prog 11 #[.string s] w fun e w' => e = .returned (.tuple #[.int .i64 v, .bool true]) ∧ Below w.heap.size w w' := by
  have HV := Lib.hid hv
  clear hv
  go_enter Tryd.func11, Tryd.ntmps11
  go_wp2_with fail
  refine (ParseInt_some s hm v HV.out _).mono ?_
  rintro e w' ⟨rfl, hb⟩
  go_wp2_with fail
  go_ret2
  exact ⟨rfl, hb⟩
theorem p_num_neg (s : ByteArray) (w : World) (he : s.toList.isEmpty = false) (hs : 0 < s.size) (hm : s.size ≤ 281474976710656) (c1 : Int)
    (i1 : ∀ w, (Instr.index 9 (.string s) (.int .i64 ((s.size : Int) - 1))).run Tryd.prog w = .ok (.int .u8 c1) w) (l1 : 48 ≤ c1) (u1 : c1 ≤ 57) (v : Int) (v0 : v < 0) (hv : Read s.data.toList = some v) :
    Calls Tryd.prog 11 #[.string s] w fun e w' => e = .returned (.tuple #[.int .i64 0, .bool false]) ∧ Below w.heap.size w w' := by
  have HV := Lib.hid hv
  clear hv
  go_enter Tryd.func11, Tryd.ntmps11
  go_wp2_with fail
  refine (ParseInt_some s hm v HV.out _).mono ?_
  rintro e w' ⟨rfl, hb⟩
  go_wp2_with fail
  go_ret2
  exact ⟨rfl, hb⟩
theorem p_num_none (s : ByteArray) (w : World) (hE : Errs w) (he : s.toList.isEmpty = false) (hs : 0 < s.size) (hm : s.size ≤ 281474976710656) (c1 : Int)
    (i1 : ∀ w, (Instr.index 9 (.string s) (.int .i64 ((s.size : Int) - 1))).run Tryd.prog w = .ok (.int .u8 c1) w) (l1 : 48 ≤ c1) (u1 : c1 ≤ 57) (hv : Read s.data.toList = none) :
    Calls Tryd.prog 11 #[.string s] w fun e w' => e = .returned (.tuple #[.int .i64 0, .bool false]) ∧ Below w.heap.size w w' := by
  have HV := Lib.hid hv
  clear hv
  go_enter Tryd.func11, Tryd.ntmps11
  go_wp2_with fail
  refine (ParseInt_none s hm HV.out _ hE).mono ?_
  rintro e w' ⟨v, n, rfl, hb⟩
  go_wp2_with fail
  go_ret2
  exact ⟨rfl, hb⟩

-- GENERATED
theorem p_last_lo (s : ByteArray) (w : World) (he : s.toList.isEmpty = false) (hs : 0 < s.size) (hm : s.size ≤ 281474976710656) (c1 : Int)
    (i1 : ∀ w, (Instr.index 9 (.string s) (.int .i64 ((s.size : Int) - 1))).run Tryd.prog w = .ok (.int .u8 c1) w) (l1 : 0 ≤ c1) (u1 : c1 < 48) (hn : (c1 != 66) = true) :
    Calls Tryd.prog 11 #[.string s] w fun e w' => e = .returned (.tuple #[.int .i64 0, .bool false]) ∧ Below w.heap.size w w' := by
  go_enter Tryd.func11, Tryd.ntmps11
  go_wp2_with fail
  go_ret2
  exact ⟨rfl, Below.refl _ _⟩


theorem p_last_hi (s : ByteArray) (w : World) (he : s.toList.isEmpty = false) (hs : 0 < s.size) (hm : s.size ≤ 281474976710656) (c1 : Int)
    (i1 : ∀ w, (Instr.index 9 (.string s) (.int .i64 ((s.size : Int) - 1))).run Tryd.prog w = .ok (.int .u8 c1) w) (l1 : 57 < c1) (u1 : c1 ≤ 255) (hn : (c1 != 66) = true) :
    Calls Tryd.prog 11 #[.string s] w fun e w' => e = .returned (.tuple #[.int .i64 0, .bool false]) ∧ Below w.heap.size w w' := by
  go_enter Tryd.func11, Tryd.ntmps11
  go_wp2_with fail
  go_ret2
  exact ⟨rfl, Below.refl _ _⟩


theorem p_short (s : ByteArray) (w : World) (he : s.toList.isEmpty = false) (hs : 0 < s.size) (hm : s.size ≤ 281474976710656)
    (i1 : ∀ w, (Instr.index 9 (.string s) (.int .i64 ((s.size : Int) - 1))).run Tryd.prog w = .ok (.int .u8 66) w) (hl : (s.size : Int) < 2) :
    Calls Tryd.prog 11 #[.string s] w fun e w' => e = .returned (.tuple #[.int .i64 0, .bool false]) ∧ Below w.heap.size w w' := by
  go_enter Tryd.func11, Tryd.ntmps11
  go_wp2_with fail
  go_ret2
  exact ⟨rfl, Below.refl _ _⟩


theorem p_B (s : ByteArray) (w : World) (he : s.toList.isEmpty = false) (hs : 0 < s.size) (hm : s.size ≤ 281474976710656) (c2 : Int)
    (i1 : ∀ w, (Instr.index 9 (.string s) (.int .i64 ((s.size : Int) - 1))).run Tryd.prog w = .ok (.int .u8 66) w) (i2 : ∀ w, (Instr.index 9 (.string s) (.int .i64 ((s.size : Int) - 2))).run Tryd.prog w = .ok (.int .u8 c2) w) (hl : 2 ≤ (s.size : Int)) (l2 : 48 ≤ c2) (u2 : c2 ≤ 57) (v : Int) (v0 : 0 ≤ v) (hv : Read (s.extract 0 (s.size - 1)).data.toList = some v) :
    Calls Tryd.prog 11 #[.string s] w fun e w' => e = .returned (.tuple #[.int .i64 v, .bool true]) ∧ Below w.heap.size w w' := by
  have HV := Lib.hid hv
  clear hv
  go_enter Tryd.func11, Tryd.ntmps11
  go_wp2_with fail
  refine (ParseInt_some _ (by simp; omega) v HV.out _).mono ?_
  rintro e w' ⟨rfl, hb⟩
  go_wp2_with fail
  go_ret2
  exact ⟨rfl, hb⟩


theorem p_B_neg (s : ByteArray) (w : World) (he : s.toList.isEmpty = false) (hs : 0 < s.size) (hm : s.size ≤ 281474976710656) (c2 : Int)
    (i1 : ∀ w, (Instr.index 9 (.string s) (.int .i64 ((s.size : Int) - 1))).run Tryd.prog w = .ok (.int .u8 66) w) (i2 : ∀ w, (Instr.index 9 (.string s) (.int .i64 ((s.size : Int) - 2))).run Tryd.prog w = .ok (.int .u8 c2) w) (hl : 2 ≤ (s.size : Int)) (l2 : 48 ≤ c2) (u2 : c2 ≤ 57) (v : Int) (v0 : v < 0) (hv : Read (s.extract 0 (s.size - 1)).data.toList = some v) :
    Calls Tryd.prog 11 #[.string s] w fun e w' => e = .returned (.tuple #[.int .i64 0, .bool false]) ∧ Below w.heap.size w w' := by
  have HV := Lib.hid hv
  clear hv
  go_enter Tryd.func11, Tryd.ntmps11
  go_wp2_with fail
  refine (ParseInt_some _ (by simp; omega) v HV.out _).mono ?_
  rintro e w' ⟨rfl, hb⟩
  go_wp2_with fail
  go_ret2
  exact ⟨rfl, hb⟩


theorem p_B_none (s : ByteArray) (w : World) (hE : Errs w) (he : s.toList.isEmpty = false) (hs : 0 < s.size) (hm : s.size ≤ 281474976710656) (c2 : Int)
    (i1 : ∀ w, (Instr.index 9 (.string s) (.int .i64 ((s.size : Int) - 1))).run Tryd.prog w = .ok (.int .u8 66) w) (i2 : ∀ w, (Instr.index 9 (.string s) (.int .i64 ((s.size : Int) - 2))).run Tryd.prog w = .ok (.int .u8 c2) w) (hl : 2 ≤ (s.size : Int)) (l2 : 48 ≤ c2) (u2 : c2 ≤ 57) (hv : Read (s.extract 0 (s.size - 1)).data.toList = none) :
    Calls Tryd.prog 11 #[.string s] w fun e w' => e = .returned (.tuple #[.int .i64 0, .bool false]) ∧ Below w.heap.size w w' := by
  have HV := Lib.hid hv
  clear hv
  go_enter Tryd.func11, Tryd.ntmps11
  go_wp2_with fail
  refine (ParseInt_none _ (by simp; omega) HV.out _ hE).mono ?_
  rintro e w' ⟨v, n, rfl, hb⟩
  go_wp2_with fail
  go_ret2
  exact ⟨rfl, hb⟩


theorem p_second_lo (s : ByteArray) (w : World) (he : s.toList.isEmpty = false) (hs : 0 < s.size) (hm : s.size ≤ 281474976710656) (c2 : Int)
    (i1 : ∀ w, (Instr.index 9 (.string s) (.int .i64 ((s.size : Int) - 1))).run Tryd.prog w = .ok (.int .u8 66) w) (i2 : ∀ w, (Instr.index 9 (.string s) (.int .i64 ((s.size : Int) - 2))).run Tryd.prog w = .ok (.int .u8 c2) w) (hl : 2 ≤ (s.size : Int)) (l2 : 0 ≤ c2) (u2 : c2 < 48) (hn : (c2 != 105) = true) :
    Calls Tryd.prog 11 #[.string s] w fun e w' => e = .returned (.tuple #[.int .i64 0, .bool false]) ∧ Below w.heap.size w w' := by
  go_enter Tryd.func11, Tryd.ntmps11
  go_wp2_with fail
  go_ret2
  exact ⟨rfl, Below.refl _ _⟩


theorem p_second_hi (s : ByteArray) (w : World) (he : s.toList.isEmpty = false) (hs : 0 < s.size) (hm : s.size ≤ 281474976710656) (c2 : Int)
    (i1 : ∀ w, (Instr.index 9 (.string s) (.int .i64 ((s.size : Int) - 1))).run Tryd.prog w = .ok (.int .u8 66) w) (i2 : ∀ w, (Instr.index 9 (.string s) (.int .i64 ((s.size : Int) - 2))).run Tryd.prog w = .ok (.int .u8 c2) w) (hl : 2 ≤ (s.size : Int)) (l2 : 57 < c2) (u2 : c2 ≤ 255) (hn : (c2 != 105) = true) :
    Calls Tryd.prog 11 #[.string s] w fun e w' => e = .returned (.tuple #[.int .i64 0, .bool false]) ∧ Below w.heap.size w w' := by
  go_enter Tryd.func11, Tryd.ntmps11
  go_wp2_with fail
  go_ret2
  exact ⟨rfl, Below.refl _ _⟩


theorem p_less4 (s : ByteArray) (w : World) (he : s.toList.isEmpty = false) (hs : 0 < s.size) (hm : s.size ≤ 281474976710656)
    (i1 : ∀ w, (Instr.index 9 (.string s) (.int .i64 ((s.size : Int) - 1))).run Tryd.prog w = .ok (.int .u8 66) w) (i2 : ∀ w, (Instr.index 9 (.string s) (.int .i64 ((s.size : Int) - 2))).run Tryd.prog w = .ok (.int .u8 105) w) (hl : 2 ≤ (s.size : Int)) (h4 : (s.size : Int) < 4) :
    Calls Tryd.prog 11 #[.string s] w fun e w' => e = .returned (.tuple #[.int .i64 0, .bool false]) ∧ Below w.heap.size w w' := by
  go_enter Tryd.func11, Tryd.ntmps11
  go_wp2_with fail
  go_ret2
  exact ⟨rfl, Below.refl _ _⟩


theorem p_nounit (s : ByteArray) (w : World) (he : s.toList.isEmpty = false) (hs : 0 < s.size) (hm : s.size ≤ 281474976710656) (c3 : Int)
    (i1 : ∀ w, (Instr.index 9 (.string s) (.int .i64 ((s.size : Int) - 1))).run Tryd.prog w = .ok (.int .u8 66) w) (i2 : ∀ w, (Instr.index 9 (.string s) (.int .i64 ((s.size : Int) - 2))).run Tryd.prog w = .ok (.int .u8 105) w) (i3 : ∀ w, (Instr.index 9 (.string s) (.int .i64 ((s.size : Int) - 3))).run Tryd.prog w = .ok (.int .u8 c3) w) (hl : 4 ≤ (s.size : Int)) (l3 : 0 ≤ c3) (u3 : c3 ≤ 255) (n1 : (c3 == 75) = false) (n2 : (c3 == 77) = false) (n3 : (c3 == 71) = false) (n4 : (c3 == 84) = false) :
    Calls Tryd.prog 11 #[.string s] w fun e w' => e = .returned (.tuple #[.int .i64 0, .bool false]) ∧ Below w.heap.size w w' := by
  go_enter Tryd.func11, Tryd.ntmps11
  go_wp2_with fail
  go_ret2
  exact ⟨rfl, Below.refl _ _⟩


theorem p_K (s : ByteArray) (w : World) (he : s.toList.isEmpty = false) (hs : 0 < s.size) (hm : s.size ≤ 281474976710656)
    (i1 : ∀ w, (Instr.index 9 (.string s) (.int .i64 ((s.size : Int) - 1))).run Tryd.prog w = .ok (.int .u8 66) w) (i2 : ∀ w, (Instr.index 9 (.string s) (.int .i64 ((s.size : Int) - 2))).run Tryd.prog w = .ok (.int .u8 105) w) (i3 : ∀ w, (Instr.index 9 (.string s) (.int .i64 ((s.size : Int) - 3))).run Tryd.prog w = .ok (.int .u8 75) w) (hl : 4 ≤ (s.size : Int)) (v : Int) (v0 : 0 ≤ v) (hf : v * 1024 ≤ 9223372036854775807) (hv : Read (s.extract 0 (s.size - 3)).data.toList = some v) :
    Calls Tryd.prog 11 #[.string s] w fun e w' => e = .returned (.tuple #[.int .i64 (v * 1024), .bool true]) ∧ Below w.heap.size w w' := by
  have HV := Lib.hid hv
  clear hv
  go_enter Tryd.func11, Tryd.ntmps11
  go_wp2_with fail
  refine wp_loop_rounds 2 ?_
  rw [rounds_succ]
  go_wp2_with fail
  rw [rounds_succ]
  go_wp2_with fail
  refine (ParseInt_some _ (by simp; omega) v HV.out _).mono ?_
  rintro e w' ⟨rfl, hb⟩
  go_wp2_with fail
  go_ret2
  exact ⟨rfl, hb⟩


theorem p_K_big (s : ByteArray) (w : World) (he : s.toList.isEmpty = false) (hs : 0 < s.size) (hm : s.size ≤ 281474976710656)
    (i1 : ∀ w, (Instr.index 9 (.string s) (.int .i64 ((s.size : Int) - 1))).run Tryd.prog w = .ok (.int .u8 66) w) (i2 : ∀ w, (Instr.index 9 (.string s) (.int .i64 ((s.size : Int) - 2))).run Tryd.prog w = .ok (.int .u8 105) w) (i3 : ∀ w, (Instr.index 9 (.string s) (.int .i64 ((s.size : Int) - 3))).run Tryd.prog w = .ok (.int .u8 75) w) (hl : 4 ≤ (s.size : Int)) (v : Int) (v0 : v ≤ 18014398509481983) (hf : 9223372036854775807 < v * 1024) (hv : Read (s.extract 0 (s.size - 3)).data.toList = some v) :
    Calls Tryd.prog 11 #[.string s] w fun e w' => e = .returned (.tuple #[.int .i64 0, .bool false]) ∧ Below w.heap.size w w' := by
  have HV := Lib.hid hv
  clear hv
  go_enter Tryd.func11, Tryd.ntmps11
  go_wp2_with fail
  refine wp_loop_rounds 2 ?_
  rw [rounds_succ]
  go_wp2_with fail
  rw [rounds_succ]
  go_wp2_with fail
  refine (ParseInt_some _ (by simp; omega) v HV.out _).mono ?_
  rintro e w' ⟨rfl, hb⟩
  go_wp2_with fail
  go_ret2
  exact ⟨rfl, hb⟩


theorem p_K_over (s : ByteArray) (w : World) (he : s.toList.isEmpty = false) (hs : 0 < s.size) (hm : s.size ≤ 281474976710656)
    (i1 : ∀ w, (Instr.index 9 (.string s) (.int .i64 ((s.size : Int) - 1))).run Tryd.prog w = .ok (.int .u8 66) w) (i2 : ∀ w, (Instr.index 9 (.string s) (.int .i64 ((s.size : Int) - 2))).run Tryd.prog w = .ok (.int .u8 105) w) (i3 : ∀ w, (Instr.index 9 (.string s) (.int .i64 ((s.size : Int) - 3))).run Tryd.prog w = .ok (.int .u8 75) w) (hl : 4 ≤ (s.size : Int)) (v : Int) (v0 : 18014398509481983 < v) (v1 : v ≤ 9223372036854775807) (hv : Read (s.extract 0 (s.size - 3)).data.toList = some v) :
    Calls Tryd.prog 11 #[.string s] w fun e w' => e = .returned (.tuple #[.int .i64 0, .bool false]) ∧ Below w.heap.size w w' := by
  have HV := Lib.hid hv
  clear hv
  go_enter Tryd.func11, Tryd.ntmps11
  go_wp2_with fail
  refine wp_loop_rounds 2 ?_
  rw [rounds_succ]
  go_wp2_with fail
  rw [rounds_succ]
  go_wp2_with fail
  refine (ParseInt_some _ (by simp; omega) v HV.out _).mono ?_
  rintro e w' ⟨rfl, hb⟩
  go_wp2_with fail
  go_ret2
  exact ⟨rfl, hb⟩


theorem p_K_neg (s : ByteArray) (w : World) (he : s.toList.isEmpty = false) (hs : 0 < s.size) (hm : s.size ≤ 281474976710656)
    (i1 : ∀ w, (Instr.index 9 (.string s) (.int .i64 ((s.size : Int) - 1))).run Tryd.prog w = .ok (.int .u8 66) w) (i2 : ∀ w, (Instr.index 9 (.string s) (.int .i64 ((s.size : Int) - 2))).run Tryd.prog w = .ok (.int .u8 105) w) (i3 : ∀ w, (Instr.index 9 (.string s) (.int .i64 ((s.size : Int) - 3))).run Tryd.prog w = .ok (.int .u8 75) w) (hl : 4 ≤ (s.size : Int)) (v : Int) (v0 : v < 0) (hv : Read (s.extract 0 (s.size - 3)).data.toList = some v) :
    Calls Tryd.prog 11 #[.string s] w fun e w' => e = .returned (.tuple #[.int .i64 0, .bool false]) ∧ Below w.heap.size w w' := by
  have HV := Lib.hid hv
  clear hv
  go_enter Tryd.func11, Tryd.ntmps11
  go_wp2_with fail
  refine wp_loop_rounds 2 ?_
  rw [rounds_succ]
  go_wp2_with fail
  rw [rounds_succ]
  go_wp2_with fail
  refine (ParseInt_some _ (by simp; omega) v HV.out _).mono ?_
  rintro e w' ⟨rfl, hb⟩
  go_wp2_with fail
  go_ret2
  exact ⟨rfl, hb⟩


theorem p_K_none (s : ByteArray) (w : World) (hE : Errs w) (he : s.toList.isEmpty = false) (hs : 0 < s.size) (hm : s.size ≤ 281474976710656)
    (i1 : ∀ w, (Instr.index 9 (.string s) (.int .i64 ((s.size : Int) - 1))).run Tryd.prog w = .ok (.int .u8 66) w) (i2 : ∀ w, (Instr.index 9 (.string s) (.int .i64 ((s.size : Int) - 2))).run Tryd.prog w = .ok (.int .u8 105) w) (i3 : ∀ w, (Instr.index 9 (.string s) (.int .i64 ((s.size : Int) - 3))).run Tryd.prog w = .ok (.int .u8 75) w) (hl : 4 ≤ (s.size : Int)) (hv : Read (s.extract 0 (s.size - 3)).data.toList = none) :
    Calls Tryd.prog 11 #[.string s] w fun e w' => e = .returned (.tuple #[.int .i64 0, .bool false]) ∧ Below w.heap.size w w' := by
  have HV := Lib.hid hv
  clear hv
  go_enter Tryd.func11, Tryd.ntmps11
  go_wp2_with fail
  refine wp_loop_rounds 2 ?_
  rw [rounds_succ]
  go_wp2_with fail
  rw [rounds_succ]
  go_wp2_with fail
  refine (ParseInt_none _ (by simp; omega) HV.out _ hE).mono ?_
  rintro e w' ⟨v, n, rfl, hb⟩
  go_wp2_with fail
  go_ret2
  exact ⟨rfl, hb⟩


theorem p_M (s : ByteArray) (w : World) (he : s.toList.isEmpty = false) (hs : 0 < s.size) (hm : s.size ≤ 281474976710656)
    (i1 : ∀ w, (Instr.index 9 (.string s) (.int .i64 ((s.size : Int) - 1))).run Tryd.prog w = .ok (.int .u8 66) w) (i2 : ∀ w, (Instr.index 9 (.string s) (.int .i64 ((s.size : Int) - 2))).run Tryd.prog w = .ok (.int .u8 105) w) (i3 : ∀ w, (Instr.index 9 (.string s) (.int .i64 ((s.size : Int) - 3))).run Tryd.prog w = .ok (.int .u8 77) w) (hl : 4 ≤ (s.size : Int)) (v : Int) (v0 : 0 ≤ v) (hf : v * 1048576 ≤ 9223372036854775807) (hv : Read (s.extract 0 (s.size - 3)).data.toList = some v) :
    Calls Tryd.prog 11 #[.string s] w fun e w' => e = .returned (.tuple #[.int .i64 (v * 1048576), .bool true]) ∧ Below w.heap.size w w' := by
  have HV := Lib.hid hv
  clear hv
  go_enter Tryd.func11, Tryd.ntmps11
  go_wp2_with fail
  refine wp_loop_rounds 3 ?_
  rw [rounds_succ]
  go_wp2_with fail
  rw [rounds_succ]
  go_wp2_with fail
  rw [rounds_succ]
  go_wp2_with fail
  refine (ParseInt_some _ (by simp; omega) v HV.out _).mono ?_
  rintro e w' ⟨rfl, hb⟩
  go_wp2_with fail
  go_ret2
  exact ⟨rfl, hb⟩


theorem p_M_big (s : ByteArray) (w : World) (he : s.toList.isEmpty = false) (hs : 0 < s.size) (hm : s.size ≤ 281474976710656)
    (i1 : ∀ w, (Instr.index 9 (.string s) (.int .i64 ((s.size : Int) - 1))).run Tryd.prog w = .ok (.int .u8 66) w) (i2 : ∀ w, (Instr.index 9 (.string s) (.int .i64 ((s.size : Int) - 2))).run Tryd.prog w = .ok (.int .u8 105) w) (i3 : ∀ w, (Instr.index 9 (.string s) (.int .i64 ((s.size : Int) - 3))).run Tryd.prog w = .ok (.int .u8 77) w) (hl : 4 ≤ (s.size : Int)) (v : Int) (v0 : v ≤ 17592186044415) (hf : 9223372036854775807 < v * 1048576) (hv : Read (s.extract 0 (s.size - 3)).data.toList = some v) :
    Calls Tryd.prog 11 #[.string s] w fun e w' => e = .returned (.tuple #[.int .i64 0, .bool false]) ∧ Below w.heap.size w w' := by
  have HV := Lib.hid hv
  clear hv
  go_enter Tryd.func11, Tryd.ntmps11
  go_wp2_with fail
  refine wp_loop_rounds 3 ?_
  rw [rounds_succ]
  go_wp2_with fail
  rw [rounds_succ]
  go_wp2_with fail
  rw [rounds_succ]
  go_wp2_with fail
  refine (ParseInt_some _ (by simp; omega) v HV.out _).mono ?_
  rintro e w' ⟨rfl, hb⟩
  go_wp2_with fail
  go_ret2
  exact ⟨rfl, hb⟩


theorem p_M_over (s : ByteArray) (w : World) (he : s.toList.isEmpty = false) (hs : 0 < s.size) (hm : s.size ≤ 281474976710656)
    (i1 : ∀ w, (Instr.index 9 (.string s) (.int .i64 ((s.size : Int) - 1))).run Tryd.prog w = .ok (.int .u8 66) w) (i2 : ∀ w, (Instr.index 9 (.string s) (.int .i64 ((s.size : Int) - 2))).run Tryd.prog w = .ok (.int .u8 105) w) (i3 : ∀ w, (Instr.index 9 (.string s) (.int .i64 ((s.size : Int) - 3))).run Tryd.prog w = .ok (.int .u8 77) w) (hl : 4 ≤ (s.size : Int)) (v : Int) (v0 : 17592186044415 < v) (v1 : v ≤ 9223372036854775807) (hv : Read (s.extract 0 (s.size - 3)).data.toList = some v) :
    Calls Tryd.prog 11 #[.string s] w fun e w' => e = .returned (.tuple #[.int .i64 0, .bool false]) ∧ Below w.heap.size w w' := by
  have HV := Lib.hid hv
  clear hv
  go_enter Tryd.func11, Tryd.ntmps11
  go_wp2_with fail
  refine wp_loop_rounds 3 ?_
  rw [rounds_succ]
  go_wp2_with fail
  rw [rounds_succ]
  go_wp2_with fail
  rw [rounds_succ]
  go_wp2_with fail
  refine (ParseInt_some _ (by simp; omega) v HV.out _).mono ?_
  rintro e w' ⟨rfl, hb⟩
  go_wp2_with fail
  go_ret2
  exact ⟨rfl, hb⟩


theorem p_M_neg (s : ByteArray) (w : World) (he : s.toList.isEmpty = false) (hs : 0 < s.size) (hm : s.size ≤ 281474976710656)
    (i1 : ∀ w, (Instr.index 9 (.string s) (.int .i64 ((s.size : Int) - 1))).run Tryd.prog w = .ok (.int .u8 66) w) (i2 : ∀ w, (Instr.index 9 (.string s) (.int .i64 ((s.size : Int) - 2))).run Tryd.prog w = .ok (.int .u8 105) w) (i3 : ∀ w, (Instr.index 9 (.string s) (.int .i64 ((s.size : Int) - 3))).run Tryd.prog w = .ok (.int .u8 77) w) (hl : 4 ≤ (s.size : Int)) (v : Int) (v0 : v < 0) (hv : Read (s.extract 0 (s.size - 3)).data.toList = some v) :
    Calls Tryd.prog 11 #[.string s] w fun e w' => e = .returned (.tuple #[.int .i64 0, .bool false]) ∧ Below w.heap.size w w' := by
  have HV := Lib.hid hv
  clear hv
  go_enter Tryd.func11, Tryd.ntmps11
  go_wp2_with fail
  refine wp_loop_rounds 3 ?_
  rw [rounds_succ]
  go_wp2_with fail
  rw [rounds_succ]
  go_wp2_with fail
  rw [rounds_succ]
  go_wp2_with fail
  refine (ParseInt_some _ (by simp; omega) v HV.out _).mono ?_
  rintro e w' ⟨rfl, hb⟩
  go_wp2_with fail
  go_ret2
  exact ⟨rfl, hb⟩


theorem p_M_none (s : ByteArray) (w : World) (hE : Errs w) (he : s.toList.isEmpty = false) (hs : 0 < s.size) (hm : s.size ≤ 281474976710656)
    (i1 : ∀ w, (Instr.index 9 (.string s) (.int .i64 ((s.size : Int) - 1))).run Tryd.prog w = .ok (.int .u8 66) w) (i2 : ∀ w, (Instr.index 9 (.string s) (.int .i64 ((s.size : Int) - 2))).run Tryd.prog w = .ok (.int .u8 105) w) (i3 : ∀ w, (Instr.index 9 (.string s) (.int .i64 ((s.size : Int) - 3))).run Tryd.prog w = .ok (.int .u8 77) w) (hl : 4 ≤ (s.size : Int)) (hv : Read (s.extract 0 (s.size - 3)).data.toList = none) :
    Calls Tryd.prog 11 #[.string s] w fun e w' => e = .returned (.tuple #[.int .i64 0, .bool false]) ∧ Below w.heap.size w w' := by
  have HV := Lib.hid hv
  clear hv
  go_enter Tryd.func11, Tryd.ntmps11
  go_wp2_with fail
  refine wp_loop_rounds 3 ?_
  rw [rounds_succ]
  go_wp2_with fail
  rw [rounds_succ]
  go_wp2_with fail
  rw [rounds_succ]
  go_wp2_with fail
  refine (ParseInt_none _ (by simp; omega) HV.out _ hE).mono ?_
  rintro e w' ⟨v, n, rfl, hb⟩
  go_wp2_with fail
  go_ret2
  exact ⟨rfl, hb⟩


theorem p_G (s : ByteArray) (w : World) (he : s.toList.isEmpty = false) (hs : 0 < s.size) (hm : s.size ≤ 281474976710656)
    (i1 : ∀ w, (Instr.index 9 (.string s) (.int .i64 ((s.size : Int) - 1))).run Tryd.prog w = .ok (.int .u8 66) w) (i2 : ∀ w, (Instr.index 9 (.string s) (.int .i64 ((s.size : Int) - 2))).run Tryd.prog w = .ok (.int .u8 105) w) (i3 : ∀ w, (Instr.index 9 (.string s) (.int .i64 ((s.size : Int) - 3))).run Tryd.prog w = .ok (.int .u8 71) w) (hl : 4 ≤ (s.size : Int)) (v : Int) (v0 : 0 ≤ v) (hf : v * 1073741824 ≤ 9223372036854775807) (hv : Read (s.extract 0 (s.size - 3)).data.toList = some v) :
    Calls Tryd.prog 11 #[.string s] w fun e w' => e = .returned (.tuple #[.int .i64 (v * 1073741824), .bool true]) ∧ Below w.heap.size w w' := by
  have HV := Lib.hid hv
  clear hv
  go_enter Tryd.func11, Tryd.ntmps11
  go_wp2_with fail
  refine wp_loop_rounds 4 ?_
  rw [rounds_succ]
  go_wp2_with fail
  rw [rounds_succ]
  go_wp2_with fail
  rw [rounds_succ]
  go_wp2_with fail
  rw [rounds_succ]
  go_wp2_with fail
  refine (ParseInt_some _ (by simp; omega) v HV.out _).mono ?_
  rintro e w' ⟨rfl, hb⟩
  go_wp2_with fail
  go_ret2
  exact ⟨rfl, hb⟩


theorem p_G_big (s : ByteArray) (w : World) (he : s.toList.isEmpty = false) (hs : 0 < s.size) (hm : s.size ≤ 281474976710656)
    (i1 : ∀ w, (Instr.index 9 (.string s) (.int .i64 ((s.size : Int) - 1))).run Tryd.prog w = .ok (.int .u8 66) w) (i2 : ∀ w, (Instr.index 9 (.string s) (.int .i64 ((s.size : Int) - 2))).run Tryd.prog w = .ok (.int .u8 105) w) (i3 : ∀ w, (Instr.index 9 (.string s) (.int .i64 ((s.size : Int) - 3))).run Tryd.prog w = .ok (.int .u8 71) w) (hl : 4 ≤ (s.size : Int)) (v : Int) (v0 : v ≤ 17179869183) (hf : 9223372036854775807 < v * 1073741824) (hv : Read (s.extract 0 (s.size - 3)).data.toList = some v) :
    Calls Tryd.prog 11 #[.string s] w fun e w' => e = .returned (.tuple #[.int .i64 0, .bool false]) ∧ Below w.heap.size w w' := by
  have HV := Lib.hid hv
  clear hv
  go_enter Tryd.func11, Tryd.ntmps11
  go_wp2_with fail
  refine wp_loop_rounds 4 ?_
  rw [rounds_succ]
  go_wp2_with fail
  rw [rounds_succ]
  go_wp2_with fail
  rw [rounds_succ]
  go_wp2_with fail
  rw [rounds_succ]
  go_wp2_with fail
  refine (ParseInt_some _ (by simp; omega) v HV.out _).mono ?_
  rintro e w' ⟨rfl, hb⟩
  go_wp2_with fail
  go_ret2
  exact ⟨rfl, hb⟩


theorem p_G_over (s : ByteArray) (w : World) (he : s.toList.isEmpty = false) (hs : 0 < s.size) (hm : s.size ≤ 281474976710656)
    (i1 : ∀ w, (Instr.index 9 (.string s) (.int .i64 ((s.size : Int) - 1))).run Tryd.prog w = .ok (.int .u8 66) w) (i2 : ∀ w, (Instr.index 9 (.string s) (.int .i64 ((s.size : Int) - 2))).run Tryd.prog w = .ok (.int .u8 105) w) (i3 : ∀ w, (Instr.index 9 (.string s) (.int .i64 ((s.size : Int) - 3))).run Tryd.prog w = .ok (.int .u8 71) w) (hl : 4 ≤ (s.size : Int)) (v : Int) (v0 : 17179869183 < v) (v1 : v ≤ 9223372036854775807) (hv : Read (s.extract 0 (s.size - 3)).data.toList = some v) :
    Calls Tryd.prog 11 #[.string s] w fun e w' => e = .returned (.tuple #[.int .i64 0, .bool false]) ∧ Below w.heap.size w w' := by
  have HV := Lib.hid hv
  clear hv
  go_enter Tryd.func11, Tryd.ntmps11
  go_wp2_with fail
  refine wp_loop_rounds 4 ?_
  rw [rounds_succ]
  go_wp2_with fail
  rw [rounds_succ]
  go_wp2_with fail
  rw [rounds_succ]
  go_wp2_with fail
  rw [rounds_succ]
  go_wp2_with fail
  refine (ParseInt_some _ (by simp; omega) v HV.out _).mono ?_
  rintro e w' ⟨rfl, hb⟩
  go_wp2_with fail
  go_ret2
  exact ⟨rfl, hb⟩


theorem p_G_neg (s : ByteArray) (w : World) (he : s.toList.isEmpty = false) (hs : 0 < s.size) (hm : s.size ≤ 281474976710656)
    (i1 : ∀ w, (Instr.index 9 (.string s) (.int .i64 ((s.size : Int) - 1))).run Tryd.prog w = .ok (.int .u8 66) w) (i2 : ∀ w, (Instr.index 9 (.string s) (.int .i64 ((s.size : Int) - 2))).run Tryd.prog w = .ok (.int .u8 105) w) (i3 : ∀ w, (Instr.index 9 (.string s) (.int .i64 ((s.size : Int) - 3))).run Tryd.prog w = .ok (.int .u8 71) w) (hl : 4 ≤ (s.size : Int)) (v : Int) (v0 : v < 0) (hv : Read (s.extract 0 (s.size - 3)).data.toList = some v) :
    Calls Tryd.prog 11 #[.string s] w fun e w' => e = .returned (.tuple #[.int .i64 0, .bool false]) ∧ Below w.heap.size w w' := by
  have HV := Lib.hid hv
  clear hv
  go_enter Tryd.func11, Tryd.ntmps11
  go_wp2_with fail
  refine wp_loop_rounds 4 ?_
  rw [rounds_succ]
  go_wp2_with fail
  rw [rounds_succ]
  go_wp2_with fail
  rw [rounds_succ]
  go_wp2_with fail
  rw [rounds_succ]
  go_wp2_with fail
  refine (ParseInt_some _ (by simp; omega) v HV.out _).mono ?_
  rintro e w' ⟨rfl, hb⟩
  go_wp2_with fail
  go_ret2
  exact ⟨rfl, hb⟩


theorem p_G_none (s : ByteArray) (w : World) (hE : Errs w) (he : s.toList.isEmpty = false) (hs : 0 < s.size) (hm : s.size ≤ 281474976710656)
    (i1 : ∀ w, (Instr.index 9 (.string s) (.int .i64 ((s.size : Int) - 1))).run Tryd.prog w = .ok (.int .u8 66) w) (i2 : ∀ w, (Instr.index 9 (.string s) (.int .i64 ((s.size : Int) - 2))).run Tryd.prog w = .ok (.int .u8 105) w) (i3 : ∀ w, (Instr.index 9 (.string s) (.int .i64 ((s.size : Int) - 3))).run Tryd.prog w = .ok (.int .u8 71) w) (hl : 4 ≤ (s.size : Int)) (hv : Read (s.extract 0 (s.size - 3)).data.toList = none) :
    Calls Tryd.prog 11 #[.string s] w fun e w' => e = .returned (.tuple #[.int .i64 0, .bool false]) ∧ Below w.heap.size w w' := by
  have HV := Lib.hid hv
  clear hv
  go_enter Tryd.func11, Tryd.ntmps11
  go_wp2_with fail
  refine wp_loop_rounds 4 ?_
  rw [rounds_succ]
  go_wp2_with fail
  rw [rounds_succ]
  go_wp2_with fail
  rw [rounds_succ]
  go_wp2_with fail
  rw [rounds_succ]
  go_wp2_with fail
  refine (ParseInt_none _ (by simp; omega) HV.out _ hE).mono ?_
  rintro e w' ⟨v, n, rfl, hb⟩
  go_wp2_with fail
  go_ret2
  exact ⟨rfl, hb⟩


theorem p_T (s : ByteArray) (w : World) (he : s.toList.isEmpty = false) (hs : 0 < s.size) (hm : s.size ≤ 281474976710656)
    (i1 : ∀ w, (Instr.index 9 (.string s) (.int .i64 ((s.size : Int) - 1))).run Tryd.prog w = .ok (.int .u8 66) w) (i2 : ∀ w, (Instr.index 9 (.string s) (.int .i64 ((s.size : Int) - 2))).run Tryd.prog w = .ok (.int .u8 105) w) (i3 : ∀ w, (Instr.index 9 (.string s) (.int .i64 ((s.size : Int) - 3))).run Tryd.prog w = .ok (.int .u8 84) w) (hl : 4 ≤ (s.size : Int)) (v : Int) (v0 : 0 ≤ v) (hf : v * 1099511627776 ≤ 9223372036854775807) (hv : Read (s.extract 0 (s.size - 3)).data.toList = some v) :
    Calls Tryd.prog 11 #[.string s] w fun e w' => e = .returned (.tuple #[.int .i64 (v * 1099511627776), .bool true]) ∧ Below w.heap.size w w' := by
  have HV := Lib.hid hv
  clear hv
  go_enter Tryd.func11, Tryd.ntmps11
  go_wp2_with fail
  refine wp_loop_rounds 5 ?_
  rw [rounds_succ]
  go_wp2_with fail
  rw [rounds_succ]
  go_wp2_with fail
  rw [rounds_succ]
  go_wp2_with fail
  rw [rounds_succ]
  go_wp2_with fail
  rw [rounds_succ]
  go_wp2_with fail
  refine (ParseInt_some _ (by simp; omega) v HV.out _).mono ?_
  rintro e w' ⟨rfl, hb⟩
  go_wp2_with fail
  go_ret2
  exact ⟨rfl, hb⟩


theorem p_T_big (s : ByteArray) (w : World) (he : s.toList.isEmpty = false) (hs : 0 < s.size) (hm : s.size ≤ 281474976710656)
    (i1 : ∀ w, (Instr.index 9 (.string s) (.int .i64 ((s.size : Int) - 1))).run Tryd.prog w = .ok (.int .u8 66) w) (i2 : ∀ w, (Instr.index 9 (.string s) (.int .i64 ((s.size : Int) - 2))).run Tryd.prog w = .ok (.int .u8 105) w) (i3 : ∀ w, (Instr.index 9 (.string s) (.int .i64 ((s.size : Int) - 3))).run Tryd.prog w = .ok (.int .u8 84) w) (hl : 4 ≤ (s.size : Int)) (v : Int) (v0 : v ≤ 16777215) (hf : 9223372036854775807 < v * 1099511627776) (hv : Read (s.extract 0 (s.size - 3)).data.toList = some v) :
    Calls Tryd.prog 11 #[.string s] w fun e w' => e = .returned (.tuple #[.int .i64 0, .bool false]) ∧ Below w.heap.size w w' := by
  have HV := Lib.hid hv
  clear hv
  go_enter Tryd.func11, Tryd.ntmps11
  go_wp2_with fail
  refine wp_loop_rounds 5 ?_
  rw [rounds_succ]
  go_wp2_with fail
  rw [rounds_succ]
  go_wp2_with fail
  rw [rounds_succ]
  go_wp2_with fail
  rw [rounds_succ]
  go_wp2_with fail
  rw [rounds_succ]
  go_wp2_with fail
  refine (ParseInt_some _ (by simp; omega) v HV.out _).mono ?_
  rintro e w' ⟨rfl, hb⟩
  go_wp2_with fail
  go_ret2
  exact ⟨rfl, hb⟩


theorem p_T_over (s : ByteArray) (w : World) (he : s.toList.isEmpty = false) (hs : 0 < s.size) (hm : s.size ≤ 281474976710656)
    (i1 : ∀ w, (Instr.index 9 (.string s) (.int .i64 ((s.size : Int) - 1))).run Tryd.prog w = .ok (.int .u8 66) w) (i2 : ∀ w, (Instr.index 9 (.string s) (.int .i64 ((s.size : Int) - 2))).run Tryd.prog w = .ok (.int .u8 105) w) (i3 : ∀ w, (Instr.index 9 (.string s) (.int .i64 ((s.size : Int) - 3))).run Tryd.prog w = .ok (.int .u8 84) w) (hl : 4 ≤ (s.size : Int)) (v : Int) (v0 : 16777215 < v) (v1 : v ≤ 9223372036854775807) (hv : Read (s.extract 0 (s.size - 3)).data.toList = some v) :
    Calls Tryd.prog 11 #[.string s] w fun e w' => e = .returned (.tuple #[.int .i64 0, .bool false]) ∧ Below w.heap.size w w' := by
  have HV := Lib.hid hv
  clear hv
  go_enter Tryd.func11, Tryd.ntmps11
  go_wp2_with fail
  refine wp_loop_rounds 5 ?_
  rw [rounds_succ]
  go_wp2_with fail
  rw [rounds_succ]
  go_wp2_with fail
  rw [rounds_succ]
  go_wp2_with fail
  rw [rounds_succ]
  go_wp2_with fail
  rw [rounds_succ]
  go_wp2_with fail
  refine (ParseInt_some _ (by simp; omega) v HV.out _).mono ?_
  rintro e w' ⟨rfl, hb⟩
  go_wp2_with fail
  go_ret2
  exact ⟨rfl, hb⟩


theorem p_T_neg (s : ByteArray) (w : World) (he : s.toList.isEmpty = false) (hs : 0 < s.size) (hm : s.size ≤ 281474976710656)
    (i1 : ∀ w, (Instr.index 9 (.string s) (.int .i64 ((s.size : Int) - 1))).run Tryd.prog w = .ok (.int .u8 66) w) (i2 : ∀ w, (Instr.index 9 (.string s) (.int .i64 ((s.size : Int) - 2))).run Tryd.prog w = .ok (.int .u8 105) w) (i3 : ∀ w, (Instr.index 9 (.string s) (.int .i64 ((s.size : Int) - 3))).run Tryd.prog w = .ok (.int .u8 84) w) (hl : 4 ≤ (s.size : Int)) (v : Int) (v0 : v < 0) (hv : Read (s.extract 0 (s.size - 3)).data.toList = some v) :
    Calls Tryd.prog 11 #[.string s] w fun e w' => e = .returned (.tuple #[.int .i64 0, .bool false]) ∧ Below w.heap.size w w' := by
  have HV := Lib.hid hv
  clear hv
  go_enter Tryd.func11, Tryd.ntmps11
  go_wp2_with fail
  refine wp_loop_rounds 5 ?_
  rw [rounds_succ]
  go_wp2_with fail
  rw [rounds_succ]
  go_wp2_with fail
  rw [rounds_succ]
  go_wp2_with fail
  rw [rounds_succ]
  go_wp2_with fail
  rw [rounds_succ]
  go_wp2_with fail
  refine (ParseInt_some _ (by simp; omega) v HV.out _).mono ?_
  rintro e w' ⟨rfl, hb⟩
  go_wp2_with fail
  go_ret2
  exact ⟨rfl, hb⟩


theorem p_T_none (s : ByteArray) (w : World) (hE : Errs w) (he : s.toList.isEmpty = false) (hs : 0 < s.size) (hm : s.size ≤ 281474976710656)
    (i1 : ∀ w, (Instr.index 9 (.string s) (.int .i64 ((s.size : Int) - 1))).run Tryd.prog w = .ok (.int .u8 66) w) (i2 : ∀ w, (Instr.index 9 (.string s) (.int .i64 ((s.size : Int) - 2))).run Tryd.prog w = .ok (.int .u8 105) w) (i3 : ∀ w, (Instr.index 9 (.string s) (.int .i64 ((s.size : Int) - 3))).run Tryd.prog w = .ok (.int .u8 84) w) (hl : 4 ≤ (s.size : Int)) (hv : Read (s.extract 0 (s.size - 3)).data.toList = none) :
    Calls Tryd.prog 11 #[.string s] w fun e w' => e = .returned (.tuple #[.int .i64 0, .bool false]) ∧ Below w.heap.size w w' := by
  have HV := Lib.hid hv
  clear hv
  go_enter Tryd.func11, Tryd.ntmps11
  go_wp2_with fail
  refine wp_loop_rounds 5 ?_
  rw [rounds_succ]
  go_wp2_with fail
  rw [rounds_succ]
  go_wp2_with fail
  rw [rounds_succ]
  go_wp2_with fail
  rw [rounds_succ]
  go_wp2_with fail
  rw [rounds_succ]
  go_wp2_with fail
  refine (ParseInt_none _ (by simp; omega) HV.out _ hE).mono ?_
  rintro e w' ⟨v, n, rfl, hb⟩
  go_wp2_with fail
  go_ret2
  exact ⟨rfl, hb⟩


end Go.Proofs.YtbmihohogoblnaaDoor
