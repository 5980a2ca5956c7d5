/- What the functions over runes return, for every text: CountRunes and the reference's Count the number of runes, the reference's Decode the first rune, its Valid whether all are runes; and that the three laws on counting answer true. -/
import Derived.Test.YtgjbenglpifdkaaProg
import Derived.Test.YtgjbenglpifdkaaRunes
import Derived.WalkKit
import Derived.ProofKit
import Derived.LoopTactic
import Derived.Lib.Walk
import Derived.Laws.RangeString
import Derived.Laws.RangeAny
import Derived.Lib.Hide
import Derived.WalkSpells
import Derived.Outline
namespace Go.Proofs.Ytgjbenglpifdkaa
open Go.ChangeShapes Go.WideShapes Go.ChangeAt Go.RowKit
set_option linter.unusedVariables false
theorem ret_bool {a b : Bool} (h : a = b) : Ending.returned (.bool a) = .returned (.bool b) := by rw [h]
theorem ret_int {k : IntKind} {a b : Int} (h : a = b) : Ending.returned (.int k a) = .returned (.int k b) := by rw [h]

/-- The world has at most iterators more; nothing that was there has turned. -/
def Quiet (w w' : World) : Prop := Below w.heap.size w w' ∧ ∀ a, w'.frozen? a = w.frozen? a
theorem Quiet.refl (w : World) : Quiet w w := ⟨Below.refl _ _, fun _ => rfl⟩
theorem Quiet.trans {a b c : World} (h : Quiet a b) (k : Quiet b c) : Quiet a c := ⟨h.1.trans (k.1.mono h.1.size), fun x => (k.2 x).trans (h.2 x)⟩
theorem frozen?_iter (w : World) (s : ByteArray) (p : Nat) (a : Addr) : (w.iter s p).frozen? a = w.frozen? a := by
  by_cases h : a.block = w.heap.size
  · have e1 : (w.iter s p).heap[a.block]? = some (.stringIter s p) := by rw [h]; exact World.iter_heap w s p
    have e2 : w.heap[a.block]? = none := by rw [h]; simp
    simp [World.frozen?, e1, e2]
  · exact World.frozen?_alloc_old _ _ _ h
theorem Quiet.iter (w : World) (s : ByteArray) (p : Nat) : Quiet w (w.iter s p) := ⟨(Below.refl _ _).alloc (Nat.le_refl _) _, frozen?_iter w s p⟩

theorem countrunes_any (s : ByteArray) (w : World) (hs : s.size < 9223372036854775807) :
    Calls Try.prog 13 #[.string s] w fun e w' => e = .returned (.int .i64 (Lib.runeCount s)) ∧ Quiet w w' := by
  go_enter Try.func13, Try.ntmps13
  go_wp2
  go_loopw [3] (fun n w' => ∃ (pos b acc : Nat), w' = w.iter s pos ∧ n = .int .i64 acc ∧ acc + Lib.runeCountFrom s b pos = Lib.runeCount s ∧ s.size ≤ pos + b ∧ acc ≤ pos) (fun _ w' => s.size - w'.iterPos w.heap.size)
  case atStart => exact ⟨0, s.size, 0, rfl, rfl, by simp [Lib.runeCount], by omega, Nat.le_refl _⟩
  case round =>
    obtain ⟨pos, b, acc, rfl, rfl, hc, hb, ha⟩ := hrel
    by_cases hp : pos < s.size
    · have hnx : ∀ ty, (Instr.next (.pointer (some ⟨w.heap.size, 0, none⟩)) true ty).run Try.prog (w.iter s pos) = _ := fun ty => run_next_any w s pos ty hp
      have hwd := Lib.decode_width_pos s pos hp
      go_wp2
      go_roundw
      case rel =>
        cases b with
        | zero => omega
        | succ b =>
          refine ⟨pos + (Utf8.decode s pos).2, b, acc + 1, rfl, by go_num, ?_, by omega, by omega⟩
          rw [← hc]
          simp [Lib.runeCountFrom, hp]
          omega
      case measure =>
        simp
        omega
    · have hnx : ∀ ty, (Instr.next (.pointer (some ⟨w.heap.size, 0, none⟩)) true ty).run Try.prog (w.iter s pos) = _ := fun ty => run_next_end w s pos ty hp
      go_wp2
      go_ret
      rw [Lib.runeCountFrom_end s b pos hp, Nat.add_zero] at hc
      subst hc
      exact ⟨rfl, Quiet.iter _ _ _⟩

theorem CountRunes_any (s : ByteArray) (w : World) (hs : s.size < 9223372036854775807) :
    Calls Try.prog 7 #[.string s] w fun e w' => e = .returned (.int .i64 (Lib.runeCount s)) ∧ Quiet w w' := by
  have h10 : ∀ w0 : World, Calls Try.prog 10 #[.string s] w0 fun e w' => e = .returned (.int .i64 (Lib.runeCount s)) ∧ Quiet w0 w' := by
    intro w0
    go_enter Try.func10, Try.ntmps10
    go_wp2_with fail
    refine (countrunes_any s _ hs).mono ?_
    rintro e w' ⟨rfl, hq⟩
    go_wp2_with fail
    go_ret
    exact ⟨rfl, hq⟩
  have H10 := Lib.hid h10
  clear h10
  go_enter Try.func7, Try.ntmps7
  go_wp2_with fail
  refine (H10.out _).mono ?_
  rintro e w' ⟨rfl, hq⟩
  go_wp2_with fail
  go_ret
  exact ⟨rfl, hq⟩

theorem Within_yes (n lo hi : Int) (w : World) (h1 : lo ≤ n) (h2 : n ≤ hi) : Calls Try.prog 11 #[.int .i64 n, .int .i64 lo, .int .i64 hi] w fun e w' => e = .returned (.bool true) ∧ w = w' := by
  go_enter Try.func11, Try.ntmps11
  go_wp2
  go_ret
  exact ⟨ret_bool (by first | (simp; done) | (simp; omega)), rfl⟩
theorem Within_no (n lo hi : Int) (w : World) (h : n < lo ∨ hi < n) : Calls Try.prog 11 #[.int .i64 n, .int .i64 lo, .int .i64 hi] w fun e w' => e = .returned (.bool false) ∧ w = w' := by
  by_cases c : n < lo
  · go_enter Try.func11, Try.ntmps11
    go_wp2
    go_ret
    exact ⟨ret_bool (by first | (simp; done) | (simp; omega)), rfl⟩
  · have d : hi < n := by omega
    clear h
    go_enter Try.func11, Try.ntmps11
    go_wp2
    go_ret
    exact ⟨ret_bool (by first | (simp; done) | (simp; omega)), rfl⟩
theorem Scalar_yes (n : Int) (w : World) (h0 : 0 ≤ n) (h1 : n ≤ 1114111) (h : n < 55296 ∨ 57343 < n) : Calls Try.prog 12 #[.int .i64 n] w fun e w' => e = .returned (.bool true) ∧ w = w' := by
  have H := Lib.hid h
  clear h
  go_enter Try.func12, Try.ntmps12
  go_wp2_with fail
  refine (Within_yes n 0 1114111 _ h0 h1).mono ?_
  rintro e w' ⟨rfl, rfl⟩
  go_wp2_with fail
  refine (Within_no n 55296 57343 _ H.out).mono ?_
  rintro e w' ⟨rfl, rfl⟩
  go_wp2_with fail
  go_ret
  exact ⟨rfl, rfl⟩
theorem Scalar_no (n : Int) (w : World) (h0 : 0 ≤ n) (h : 1114111 < n ∨ 55296 ≤ n ∧ n ≤ 57343) : Calls Try.prog 12 #[.int .i64 n] w fun e w' => e = .returned (.bool false) ∧ w = w' := by
  by_cases c : 1114111 < n
  · clear h
    go_enter Try.func12, Try.ntmps12
    go_wp2_with fail
    refine (Within_no n 0 1114111 _ (Or.inr c)).mono ?_
    rintro e w' ⟨rfl, rfl⟩
    go_wp2_with fail
    go_ret
    exact ⟨rfl, rfl⟩
  · obtain ⟨d1, d2⟩ : 55296 ≤ n ∧ n ≤ 57343 := by omega
    clear h
    go_enter Try.func12, Try.ntmps12
    go_wp2_with fail
    refine (Within_yes n 0 1114111 _ (by omega) (by omega)).mono ?_
    rintro e w' ⟨rfl, rfl⟩
    go_wp2_with fail
    refine (Within_yes n 55296 57343 _ d1 d2).mono ?_
    rintro e w' ⟨rfl, rfl⟩
    go_wp2_with fail
    go_ret
    exact ⟨rfl, rfl⟩

/-- The reference's Decode at a text that is not empty: the first rune, as the model reads it. -/
def DecPost (s : ByteArray) (w : World) (e : Ending) (w' : World) : Prop := e = .returned (.tuple #[.int .i64 (Utf8.decode s 0).1, .int .i64 (Utf8.decode s 0).2]) ∧ w = w'
theorem dec_err {s : ByteArray} {w : World} (h : Utf8.decode s 0 = (0xFFFD, 1)) : DecPost s w (.returned (.tuple #[.int .i64 65533, .int .i64 1])) w := by
  unfold DecPost; rw [h]; exact ⟨rfl, rfl⟩

theorem index_at (s : ByteArray) (i : Nat) (h : i < s.size) (w : World) : (Instr.index 9 (.string s) (.int .i64 i)).run Try.prog w = .ok (.int .u8 (Runes.B s i)) w := by
  rw [Runes.B_eq s i h]
  simp [go_sem, h]
theorem dec_ascii (s : ByteArray) (w : World) (b0 : Int) (i0 : ∀ w, (Instr.index 9 (.string s) (.int .i64 0)).run Try.prog w = .ok (.int .u8 b0) w) (l0 : 0 ≤ b0) (hb : b0 < 128) :
    Calls Try.prog 9 #[.string s] w fun e w' => e = .returned (.tuple #[.int .i64 b0, .int .i64 1]) ∧ w = w' := by
  go_enter Try.func9, Try.ntmps9
  go_wp2_with fail
  go_ret2
  exact ⟨rfl, rfl⟩
theorem dec_lead (s : ByteArray) (w : World) (b0 : Int) (i0 : ∀ w, (Instr.index 9 (.string s) (.int .i64 0)).run Try.prog w = .ok (.int .u8 b0) w)
    (he : 128 ≤ b0 ∧ b0 < 192 ∨ 247 < b0 ∧ b0 ≤ 255) :
    Calls Try.prog 9 #[.string s] w fun e w' => e = .returned (.tuple #[.int .i64 65533, .int .i64 1]) ∧ w = w' := by
  have l0 : 128 ≤ b0 := by omega
  have u0 : b0 ≤ 255 := by omega
  have HE := Lib.hid he
  clear he
  go_enter Try.func9, Try.ntmps9
  go_wp2_with fail
  refine (Within_no _ _ _ _ (by have := HE.out; omega)).mono ?_
  rintro e w' ⟨rfl, rfl⟩
  go_wp2_with fail
  refine (Within_no _ _ _ _ (by have := HE.out; omega)).mono ?_
  rintro e w' ⟨rfl, rfl⟩
  go_wp2_with fail
  refine (Within_no _ _ _ _ (by have := HE.out; omega)).mono ?_
  rintro e w' ⟨rfl, rfl⟩
  go_wp2_with fail
  go_ret2
  exact ⟨rfl, rfl⟩

theorem dec2_short (s : ByteArray) (w : World) (b0 : Int) (i0 : ∀ w, (Instr.index 9 (.string s) (.int .i64 0)).run Try.prog w = .ok (.int .u8 b0) w)
    (l0 : 192 ≤ b0) (u0 : b0 ≤ 223) (hl : (s.size : Int) < 2) :
    Calls Try.prog 9 #[.string s] w fun e w' => e = .returned (.tuple #[.int .i64 65533, .int .i64 1]) ∧ w = w' := by
  go_enter Try.func9, Try.ntmps9
  go_wp2_with fail
  refine (Within_yes _ _ _ _ (by omega) (by omega)).mono ?_
  rintro e w' ⟨rfl, rfl⟩
  go_wp2_with fail
  go_ret2
  exact ⟨rfl, rfl⟩

theorem dec2_bad1 (s : ByteArray) (w : World) (b0 b1 : Int) (i0 : ∀ w, (Instr.index 9 (.string s) (.int .i64 0)).run Try.prog w = .ok (.int .u8 b0) w) (i1 : ∀ w, (Instr.index 9 (.string s) (.int .i64 1)).run Try.prog w = .ok (.int .u8 b1) w)
    (l0 : 192 ≤ b0) (u0 : b0 ≤ 223) (hl : 2 ≤ (s.size : Int)) (hm : s.size ≤ 9223372036854775807) (l1 : 0 ≤ b1) (u1 : b1 ≤ 255) (he : b1 < 128 ∨ 191 < b1) :
    Calls Try.prog 9 #[.string s] w fun e w' => e = .returned (.tuple #[.int .i64 65533, .int .i64 1]) ∧ w = w' := by
  have HE := Lib.hid he
  clear he
  go_enter Try.func9, Try.ntmps9
  go_wp2_with fail
  refine (Within_yes _ _ _ _ (by omega) (by omega)).mono ?_
  rintro e w' ⟨rfl, rfl⟩
  go_wp2_with fail
  refine wp_loop_rounds 1 ?_
  rw [rounds_succ]
  go_wp2_with fail
  refine (Within_no _ _ _ _ HE.out).mono ?_
  rintro e w' ⟨rfl, rfl⟩
  go_wp2_with fail
  go_ret2
  exact ⟨rfl, rfl⟩

theorem dec2_low (s : ByteArray) (w : World) (b0 b1 : Int) (i0 : ∀ w, (Instr.index 9 (.string s) (.int .i64 0)).run Try.prog w = .ok (.int .u8 b0) w) (i1 : ∀ w, (Instr.index 9 (.string s) (.int .i64 1)).run Try.prog w = .ok (.int .u8 b1) w)
    (l0 : 192 ≤ b0) (u0 : b0 ≤ 223) (hl : 2 ≤ (s.size : Int)) (hm : s.size ≤ 9223372036854775807) (l1 : 128 ≤ b1) (u1 : b1 ≤ 191) (he : ((b0 - 192) * 64 + b1 - 128) < 128) :
    Calls Try.prog 9 #[.string s] w fun e w' => e = .returned (.tuple #[.int .i64 65533, .int .i64 1]) ∧ w = w' := by
  go_enter Try.func9, Try.ntmps9
  go_wp2_with fail
  refine (Within_yes _ _ _ _ (by omega) (by omega)).mono ?_
  rintro e w' ⟨rfl, rfl⟩
  go_wp2_with fail
  refine wp_loop_rounds 2 ?_
  rw [rounds_succ]
  go_wp2_with fail
  refine (Within_yes _ _ _ _ (by omega) (by omega)).mono ?_
  rintro e w' ⟨rfl, rfl⟩
  go_wp2_with fail
  rw [rounds_succ]
  go_wp2_with fail
  go_ret2
  exact ⟨rfl, rfl⟩

theorem dec2_ok (s : ByteArray) (w : World) (b0 b1 : Int) (i0 : ∀ w, (Instr.index 9 (.string s) (.int .i64 0)).run Try.prog w = .ok (.int .u8 b0) w) (i1 : ∀ w, (Instr.index 9 (.string s) (.int .i64 1)).run Try.prog w = .ok (.int .u8 b1) w)
    (l0 : 192 ≤ b0) (u0 : b0 ≤ 223) (hl : 2 ≤ (s.size : Int)) (hm : s.size ≤ 9223372036854775807) (l1 : 128 ≤ b1) (u1 : b1 ≤ 191) (he : 128 ≤ ((b0 - 192) * 64 + b1 - 128)) :
    Calls Try.prog 9 #[.string s] w fun e w' => e = .returned (.tuple #[.int .i64 ((b0 - 192) * 64 + b1 - 128), .int .i64 2]) ∧ w = w' := by
  go_enter Try.func9, Try.ntmps9
  go_wp2_with fail
  refine (Within_yes _ _ _ _ (by omega) (by omega)).mono ?_
  rintro e w' ⟨rfl, rfl⟩
  go_wp2_with fail
  refine wp_loop_rounds 2 ?_
  rw [rounds_succ]
  go_wp2_with fail
  refine (Within_yes _ _ _ _ (by omega) (by omega)).mono ?_
  rintro e w' ⟨rfl, rfl⟩
  go_wp2_with fail
  rw [rounds_succ]
  go_wp2_with fail
  refine (Scalar_yes _ _ (by omega) (by omega) (by omega)).mono ?_
  rintro e w' ⟨rfl, rfl⟩
  go_wp2_with fail
  go_ret2
  exact ⟨rfl, rfl⟩

theorem dec3_short (s : ByteArray) (w : World) (b0 : Int) (i0 : ∀ w, (Instr.index 9 (.string s) (.int .i64 0)).run Try.prog w = .ok (.int .u8 b0) w)
    (l0 : 224 ≤ b0) (u0 : b0 ≤ 239) (hl : (s.size : Int) < 3) :
    Calls Try.prog 9 #[.string s] w fun e w' => e = .returned (.tuple #[.int .i64 65533, .int .i64 1]) ∧ w = w' := by
  go_enter Try.func9, Try.ntmps9
  go_wp2_with fail
  refine (Within_no _ _ _ _ (by omega)).mono ?_
  rintro e w' ⟨rfl, rfl⟩
  go_wp2_with fail
  refine (Within_yes _ _ _ _ (by omega) (by omega)).mono ?_
  rintro e w' ⟨rfl, rfl⟩
  go_wp2_with fail
  go_ret2
  exact ⟨rfl, rfl⟩

theorem dec3_bad1 (s : ByteArray) (w : World) (b0 b1 : Int) (i0 : ∀ w, (Instr.index 9 (.string s) (.int .i64 0)).run Try.prog w = .ok (.int .u8 b0) w) (i1 : ∀ w, (Instr.index 9 (.string s) (.int .i64 1)).run Try.prog w = .ok (.int .u8 b1) w)
    (l0 : 224 ≤ b0) (u0 : b0 ≤ 239) (hl : 3 ≤ (s.size : Int)) (hm : s.size ≤ 9223372036854775807) (l1 : 0 ≤ b1) (u1 : b1 ≤ 255) (he : b1 < 128 ∨ 191 < b1) :
    Calls Try.prog 9 #[.string s] w fun e w' => e = .returned (.tuple #[.int .i64 65533, .int .i64 1]) ∧ w = w' := by
  have HE := Lib.hid he
  clear he
  go_enter Try.func9, Try.ntmps9
  go_wp2_with fail
  refine (Within_no _ _ _ _ (by omega)).mono ?_
  rintro e w' ⟨rfl, rfl⟩
  go_wp2_with fail
  refine (Within_yes _ _ _ _ (by omega) (by omega)).mono ?_
  rintro e w' ⟨rfl, rfl⟩
  go_wp2_with fail
  refine wp_loop_rounds 1 ?_
  rw [rounds_succ]
  go_wp2_with fail
  refine (Within_no _ _ _ _ HE.out).mono ?_
  rintro e w' ⟨rfl, rfl⟩
  go_wp2_with fail
  go_ret2
  exact ⟨rfl, rfl⟩

theorem dec3_bad2 (s : ByteArray) (w : World) (b0 b1 b2 : Int) (i0 : ∀ w, (Instr.index 9 (.string s) (.int .i64 0)).run Try.prog w = .ok (.int .u8 b0) w) (i1 : ∀ w, (Instr.index 9 (.string s) (.int .i64 1)).run Try.prog w = .ok (.int .u8 b1) w) (i2 : ∀ w, (Instr.index 9 (.string s) (.int .i64 2)).run Try.prog w = .ok (.int .u8 b2) w)
    (l0 : 224 ≤ b0) (u0 : b0 ≤ 239) (hl : 3 ≤ (s.size : Int)) (hm : s.size ≤ 9223372036854775807) (l1 : 128 ≤ b1) (u1 : b1 ≤ 191) (l2 : 0 ≤ b2) (u2 : b2 ≤ 255) (he : b2 < 128 ∨ 191 < b2) :
    Calls Try.prog 9 #[.string s] w fun e w' => e = .returned (.tuple #[.int .i64 65533, .int .i64 1]) ∧ w = w' := by
  have HE := Lib.hid he
  clear he
  go_enter Try.func9, Try.ntmps9
  go_wp2_with fail
  refine (Within_no _ _ _ _ (by omega)).mono ?_
  rintro e w' ⟨rfl, rfl⟩
  go_wp2_with fail
  refine (Within_yes _ _ _ _ (by omega) (by omega)).mono ?_
  rintro e w' ⟨rfl, rfl⟩
  go_wp2_with fail
  refine wp_loop_rounds 2 ?_
  rw [rounds_succ]
  go_wp2_with fail
  refine (Within_yes _ _ _ _ (by omega) (by omega)).mono ?_
  rintro e w' ⟨rfl, rfl⟩
  go_wp2_with fail
  rw [rounds_succ]
  go_wp2_with fail
  refine (Within_no _ _ _ _ HE.out).mono ?_
  rintro e w' ⟨rfl, rfl⟩
  go_wp2_with fail
  go_ret2
  exact ⟨rfl, rfl⟩

theorem dec3_low (s : ByteArray) (w : World) (b0 b1 b2 : Int) (i0 : ∀ w, (Instr.index 9 (.string s) (.int .i64 0)).run Try.prog w = .ok (.int .u8 b0) w) (i1 : ∀ w, (Instr.index 9 (.string s) (.int .i64 1)).run Try.prog w = .ok (.int .u8 b1) w) (i2 : ∀ w, (Instr.index 9 (.string s) (.int .i64 2)).run Try.prog w = .ok (.int .u8 b2) w)
    (l0 : 224 ≤ b0) (u0 : b0 ≤ 239) (hl : 3 ≤ (s.size : Int)) (hm : s.size ≤ 9223372036854775807) (l1 : 128 ≤ b1) (u1 : b1 ≤ 191) (l2 : 128 ≤ b2) (u2 : b2 ≤ 191) (he : (((b0 - 224) * 64 + b1 - 128) * 64 + b2 - 128) < 2048) :
    Calls Try.prog 9 #[.string s] w fun e w' => e = .returned (.tuple #[.int .i64 65533, .int .i64 1]) ∧ w = w' := by
  go_enter Try.func9, Try.ntmps9
  go_wp2_with fail
  refine (Within_no _ _ _ _ (by omega)).mono ?_
  rintro e w' ⟨rfl, rfl⟩
  go_wp2_with fail
  refine (Within_yes _ _ _ _ (by omega) (by omega)).mono ?_
  rintro e w' ⟨rfl, rfl⟩
  go_wp2_with fail
  refine wp_loop_rounds 3 ?_
  rw [rounds_succ]
  go_wp2_with fail
  refine (Within_yes _ _ _ _ (by omega) (by omega)).mono ?_
  rintro e w' ⟨rfl, rfl⟩
  go_wp2_with fail
  rw [rounds_succ]
  go_wp2_with fail
  refine (Within_yes _ _ _ _ (by omega) (by omega)).mono ?_
  rintro e w' ⟨rfl, rfl⟩
  go_wp2_with fail
  rw [rounds_succ]
  go_wp2_with fail
  go_ret2
  exact ⟨rfl, rfl⟩

theorem dec3_none (s : ByteArray) (w : World) (b0 b1 b2 : Int) (i0 : ∀ w, (Instr.index 9 (.string s) (.int .i64 0)).run Try.prog w = .ok (.int .u8 b0) w) (i1 : ∀ w, (Instr.index 9 (.string s) (.int .i64 1)).run Try.prog w = .ok (.int .u8 b1) w) (i2 : ∀ w, (Instr.index 9 (.string s) (.int .i64 2)).run Try.prog w = .ok (.int .u8 b2) w)
    (l0 : 224 ≤ b0) (u0 : b0 ≤ 239) (hl : 3 ≤ (s.size : Int)) (hm : s.size ≤ 9223372036854775807) (l1 : 128 ≤ b1) (u1 : b1 ≤ 191) (l2 : 128 ≤ b2) (u2 : b2 ≤ 191) (he : 55296 ≤ (((b0 - 224) * 64 + b1 - 128) * 64 + b2 - 128) ∧ (((b0 - 224) * 64 + b1 - 128) * 64 + b2 - 128) ≤ 57343) :
    Calls Try.prog 9 #[.string s] w fun e w' => e = .returned (.tuple #[.int .i64 65533, .int .i64 1]) ∧ w = w' := by
  obtain ⟨he1, he2⟩ := he
  go_enter Try.func9, Try.ntmps9
  go_wp2_with fail
  refine (Within_no _ _ _ _ (by omega)).mono ?_
  rintro e w' ⟨rfl, rfl⟩
  go_wp2_with fail
  refine (Within_yes _ _ _ _ (by omega) (by omega)).mono ?_
  rintro e w' ⟨rfl, rfl⟩
  go_wp2_with fail
  refine wp_loop_rounds 3 ?_
  rw [rounds_succ]
  go_wp2_with fail
  refine (Within_yes _ _ _ _ (by omega) (by omega)).mono ?_
  rintro e w' ⟨rfl, rfl⟩
  go_wp2_with fail
  rw [rounds_succ]
  go_wp2_with fail
  refine (Within_yes _ _ _ _ (by omega) (by omega)).mono ?_
  rintro e w' ⟨rfl, rfl⟩
  go_wp2_with fail
  rw [rounds_succ]
  go_wp2_with fail
  refine (Scalar_no _ _ (by omega) (by omega)).mono ?_
  rintro e w' ⟨rfl, rfl⟩
  go_wp2_with fail
  go_ret2
  exact ⟨rfl, rfl⟩

theorem dec3_ok (s : ByteArray) (w : World) (b0 b1 b2 : Int) (i0 : ∀ w, (Instr.index 9 (.string s) (.int .i64 0)).run Try.prog w = .ok (.int .u8 b0) w) (i1 : ∀ w, (Instr.index 9 (.string s) (.int .i64 1)).run Try.prog w = .ok (.int .u8 b1) w) (i2 : ∀ w, (Instr.index 9 (.string s) (.int .i64 2)).run Try.prog w = .ok (.int .u8 b2) w)
    (l0 : 224 ≤ b0) (u0 : b0 ≤ 239) (hl : 3 ≤ (s.size : Int)) (hm : s.size ≤ 9223372036854775807) (l1 : 128 ≤ b1) (u1 : b1 ≤ 191) (l2 : 128 ≤ b2) (u2 : b2 ≤ 191) (he : 2048 ≤ (((b0 - 224) * 64 + b1 - 128) * 64 + b2 - 128)) (hs : (((b0 - 224) * 64 + b1 - 128) * 64 + b2 - 128) < 55296 ∨ 57343 < (((b0 - 224) * 64 + b1 - 128) * 64 + b2 - 128)) :
    Calls Try.prog 9 #[.string s] w fun e w' => e = .returned (.tuple #[.int .i64 (((b0 - 224) * 64 + b1 - 128) * 64 + b2 - 128), .int .i64 3]) ∧ w = w' := by
  have HS := Lib.hid hs
  clear hs
  go_enter Try.func9, Try.ntmps9
  go_wp2_with fail
  refine (Within_no _ _ _ _ (by omega)).mono ?_
  rintro e w' ⟨rfl, rfl⟩
  go_wp2_with fail
  refine (Within_yes _ _ _ _ (by omega) (by omega)).mono ?_
  rintro e w' ⟨rfl, rfl⟩
  go_wp2_with fail
  refine wp_loop_rounds 3 ?_
  rw [rounds_succ]
  go_wp2_with fail
  refine (Within_yes _ _ _ _ (by omega) (by omega)).mono ?_
  rintro e w' ⟨rfl, rfl⟩
  go_wp2_with fail
  rw [rounds_succ]
  go_wp2_with fail
  refine (Within_yes _ _ _ _ (by omega) (by omega)).mono ?_
  rintro e w' ⟨rfl, rfl⟩
  go_wp2_with fail
  rw [rounds_succ]
  go_wp2_with fail
  refine (Scalar_yes _ _ (by omega) (by omega) (by have := HS.out; omega)).mono ?_
  rintro e w' ⟨rfl, rfl⟩
  go_wp2_with fail
  go_ret2
  exact ⟨rfl, rfl⟩

theorem dec4_short (s : ByteArray) (w : World) (b0 : Int) (i0 : ∀ w, (Instr.index 9 (.string s) (.int .i64 0)).run Try.prog w = .ok (.int .u8 b0) w)
    (l0 : 240 ≤ b0) (u0 : b0 ≤ 247) (hl : (s.size : Int) < 4) :
    Calls Try.prog 9 #[.string s] w fun e w' => e = .returned (.tuple #[.int .i64 65533, .int .i64 1]) ∧ w = w' := by
  go_enter Try.func9, Try.ntmps9
  go_wp2_with fail
  refine (Within_no _ _ _ _ (by omega)).mono ?_
  rintro e w' ⟨rfl, rfl⟩
  go_wp2_with fail
  refine (Within_no _ _ _ _ (by omega)).mono ?_
  rintro e w' ⟨rfl, rfl⟩
  go_wp2_with fail
  refine (Within_yes _ _ _ _ (by omega) (by omega)).mono ?_
  rintro e w' ⟨rfl, rfl⟩
  go_wp2_with fail
  go_ret2
  exact ⟨rfl, rfl⟩

theorem dec4_bad1 (s : ByteArray) (w : World) (b0 b1 : Int) (i0 : ∀ w, (Instr.index 9 (.string s) (.int .i64 0)).run Try.prog w = .ok (.int .u8 b0) w) (i1 : ∀ w, (Instr.index 9 (.string s) (.int .i64 1)).run Try.prog w = .ok (.int .u8 b1) w)
    (l0 : 240 ≤ b0) (u0 : b0 ≤ 247) (hl : 4 ≤ (s.size : Int)) (hm : s.size ≤ 9223372036854775807) (l1 : 0 ≤ b1) (u1 : b1 ≤ 255) (he : b1 < 128 ∨ 191 < b1) :
    Calls Try.prog 9 #[.string s] w fun e w' => e = .returned (.tuple #[.int .i64 65533, .int .i64 1]) ∧ w = w' := by
  have HE := Lib.hid he
  clear he
  go_enter Try.func9, Try.ntmps9
  go_wp2_with fail
  refine (Within_no _ _ _ _ (by omega)).mono ?_
  rintro e w' ⟨rfl, rfl⟩
  go_wp2_with fail
  refine (Within_no _ _ _ _ (by omega)).mono ?_
  rintro e w' ⟨rfl, rfl⟩
  go_wp2_with fail
  refine (Within_yes _ _ _ _ (by omega) (by omega)).mono ?_
  rintro e w' ⟨rfl, rfl⟩
  go_wp2_with fail
  refine wp_loop_rounds 1 ?_
  rw [rounds_succ]
  go_wp2_with fail
  refine (Within_no _ _ _ _ HE.out).mono ?_
  rintro e w' ⟨rfl, rfl⟩
  go_wp2_with fail
  go_ret2
  exact ⟨rfl, rfl⟩

theorem dec4_bad2 (s : ByteArray) (w : World) (b0 b1 b2 : Int) (i0 : ∀ w, (Instr.index 9 (.string s) (.int .i64 0)).run Try.prog w = .ok (.int .u8 b0) w) (i1 : ∀ w, (Instr.index 9 (.string s) (.int .i64 1)).run Try.prog w = .ok (.int .u8 b1) w) (i2 : ∀ w, (Instr.index 9 (.string s) (.int .i64 2)).run Try.prog w = .ok (.int .u8 b2) w)
    (l0 : 240 ≤ b0) (u0 : b0 ≤ 247) (hl : 4 ≤ (s.size : Int)) (hm : s.size ≤ 9223372036854775807) (l1 : 128 ≤ b1) (u1 : b1 ≤ 191) (l2 : 0 ≤ b2) (u2 : b2 ≤ 255) (he : b2 < 128 ∨ 191 < b2) :
    Calls Try.prog 9 #[.string s] w fun e w' => e = .returned (.tuple #[.int .i64 65533, .int .i64 1]) ∧ w = w' := by
  have HE := Lib.hid he
  clear he
  go_enter Try.func9, Try.ntmps9
  go_wp2_with fail
  refine (Within_no _ _ _ _ (by omega)).mono ?_
  rintro e w' ⟨rfl, rfl⟩
  go_wp2_with fail
  refine (Within_no _ _ _ _ (by omega)).mono ?_
  rintro e w' ⟨rfl, rfl⟩
  go_wp2_with fail
  refine (Within_yes _ _ _ _ (by omega) (by omega)).mono ?_
  rintro e w' ⟨rfl, rfl⟩
  go_wp2_with fail
  refine wp_loop_rounds 2 ?_
  rw [rounds_succ]
  go_wp2_with fail
  refine (Within_yes _ _ _ _ (by omega) (by omega)).mono ?_
  rintro e w' ⟨rfl, rfl⟩
  go_wp2_with fail
  rw [rounds_succ]
  go_wp2_with fail
  refine (Within_no _ _ _ _ HE.out).mono ?_
  rintro e w' ⟨rfl, rfl⟩
  go_wp2_with fail
  go_ret2
  exact ⟨rfl, rfl⟩

theorem dec4_bad3 (s : ByteArray) (w : World) (b0 b1 b2 b3 : Int) (i0 : ∀ w, (Instr.index 9 (.string s) (.int .i64 0)).run Try.prog w = .ok (.int .u8 b0) w) (i1 : ∀ w, (Instr.index 9 (.string s) (.int .i64 1)).run Try.prog w = .ok (.int .u8 b1) w) (i2 : ∀ w, (Instr.index 9 (.string s) (.int .i64 2)).run Try.prog w = .ok (.int .u8 b2) w) (i3 : ∀ w, (Instr.index 9 (.string s) (.int .i64 3)).run Try.prog w = .ok (.int .u8 b3) w)
    (l0 : 240 ≤ b0) (u0 : b0 ≤ 247) (hl : 4 ≤ (s.size : Int)) (hm : s.size ≤ 9223372036854775807) (l1 : 128 ≤ b1) (u1 : b1 ≤ 191) (l2 : 128 ≤ b2) (u2 : b2 ≤ 191) (l3 : 0 ≤ b3) (u3 : b3 ≤ 255) (he : b3 < 128 ∨ 191 < b3) :
    Calls Try.prog 9 #[.string s] w fun e w' => e = .returned (.tuple #[.int .i64 65533, .int .i64 1]) ∧ w = w' := by
  have HE := Lib.hid he
  clear he
  go_enter Try.func9, Try.ntmps9
  go_wp2_with fail
  refine (Within_no _ _ _ _ (by omega)).mono ?_
  rintro e w' ⟨rfl, rfl⟩
  go_wp2_with fail
  refine (Within_no _ _ _ _ (by omega)).mono ?_
  rintro e w' ⟨rfl, rfl⟩
  go_wp2_with fail
  refine (Within_yes _ _ _ _ (by omega) (by omega)).mono ?_
  rintro e w' ⟨rfl, rfl⟩
  go_wp2_with fail
  refine wp_loop_rounds 3 ?_
  rw [rounds_succ]
  go_wp2_with fail
  refine (Within_yes _ _ _ _ (by omega) (by omega)).mono ?_
  rintro e w' ⟨rfl, rfl⟩
  go_wp2_with fail
  rw [rounds_succ]
  go_wp2_with fail
  refine (Within_yes _ _ _ _ (by omega) (by omega)).mono ?_
  rintro e w' ⟨rfl, rfl⟩
  go_wp2_with fail
  rw [rounds_succ]
  go_wp2_with fail
  refine (Within_no _ _ _ _ HE.out).mono ?_
  rintro e w' ⟨rfl, rfl⟩
  go_wp2_with fail
  go_ret2
  exact ⟨rfl, rfl⟩

theorem dec4_low (s : ByteArray) (w : World) (b0 b1 b2 b3 : Int) (i0 : ∀ w, (Instr.index 9 (.string s) (.int .i64 0)).run Try.prog w = .ok (.int .u8 b0) w) (i1 : ∀ w, (Instr.index 9 (.string s) (.int .i64 1)).run Try.prog w = .ok (.int .u8 b1) w) (i2 : ∀ w, (Instr.index 9 (.string s) (.int .i64 2)).run Try.prog w = .ok (.int .u8 b2) w) (i3 : ∀ w, (Instr.index 9 (.string s) (.int .i64 3)).run Try.prog w = .ok (.int .u8 b3) w)
    (l0 : 240 ≤ b0) (u0 : b0 ≤ 247) (hl : 4 ≤ (s.size : Int)) (hm : s.size ≤ 9223372036854775807) (l1 : 128 ≤ b1) (u1 : b1 ≤ 191) (l2 : 128 ≤ b2) (u2 : b2 ≤ 191) (l3 : 128 ≤ b3) (u3 : b3 ≤ 191) (he : ((((b0 - 240) * 64 + b1 - 128) * 64 + b2 - 128) * 64 + b3 - 128) < 65536) :
    Calls Try.prog 9 #[.string s] w fun e w' => e = .returned (.tuple #[.int .i64 65533, .int .i64 1]) ∧ w = w' := by
  go_enter Try.func9, Try.ntmps9
  go_wp2_with fail
  refine (Within_no _ _ _ _ (by omega)).mono ?_
  rintro e w' ⟨rfl, rfl⟩
  go_wp2_with fail
  refine (Within_no _ _ _ _ (by omega)).mono ?_
  rintro e w' ⟨rfl, rfl⟩
  go_wp2_with fail
  refine (Within_yes _ _ _ _ (by omega) (by omega)).mono ?_
  rintro e w' ⟨rfl, rfl⟩
  go_wp2_with fail
  refine wp_loop_rounds 4 ?_
  rw [rounds_succ]
  go_wp2_with fail
  refine (Within_yes _ _ _ _ (by omega) (by omega)).mono ?_
  rintro e w' ⟨rfl, rfl⟩
  go_wp2_with fail
  rw [rounds_succ]
  go_wp2_with fail
  refine (Within_yes _ _ _ _ (by omega) (by omega)).mono ?_
  rintro e w' ⟨rfl, rfl⟩
  go_wp2_with fail
  rw [rounds_succ]
  go_wp2_with fail
  refine (Within_yes _ _ _ _ (by omega) (by omega)).mono ?_
  rintro e w' ⟨rfl, rfl⟩
  go_wp2_with fail
  rw [rounds_succ]
  go_wp2_with fail
  go_ret2
  exact ⟨rfl, rfl⟩

theorem dec4_none (s : ByteArray) (w : World) (b0 b1 b2 b3 : Int) (i0 : ∀ w, (Instr.index 9 (.string s) (.int .i64 0)).run Try.prog w = .ok (.int .u8 b0) w) (i1 : ∀ w, (Instr.index 9 (.string s) (.int .i64 1)).run Try.prog w = .ok (.int .u8 b1) w) (i2 : ∀ w, (Instr.index 9 (.string s) (.int .i64 2)).run Try.prog w = .ok (.int .u8 b2) w) (i3 : ∀ w, (Instr.index 9 (.string s) (.int .i64 3)).run Try.prog w = .ok (.int .u8 b3) w)
    (l0 : 240 ≤ b0) (u0 : b0 ≤ 247) (hl : 4 ≤ (s.size : Int)) (hm : s.size ≤ 9223372036854775807) (l1 : 128 ≤ b1) (u1 : b1 ≤ 191) (l2 : 128 ≤ b2) (u2 : b2 ≤ 191) (l3 : 128 ≤ b3) (u3 : b3 ≤ 191) (he : 1114111 < ((((b0 - 240) * 64 + b1 - 128) * 64 + b2 - 128) * 64 + b3 - 128)) :
    Calls Try.prog 9 #[.string s] w fun e w' => e = .returned (.tuple #[.int .i64 65533, .int .i64 1]) ∧ w = w' := by
  go_enter Try.func9, Try.ntmps9
  go_wp2_with fail
  refine (Within_no _ _ _ _ (by omega)).mono ?_
  rintro e w' ⟨rfl, rfl⟩
  go_wp2_with fail
  refine (Within_no _ _ _ _ (by omega)).mono ?_
  rintro e w' ⟨rfl, rfl⟩
  go_wp2_with fail
  refine (Within_yes _ _ _ _ (by omega) (by omega)).mono ?_
  rintro e w' ⟨rfl, rfl⟩
  go_wp2_with fail
  refine wp_loop_rounds 4 ?_
  rw [rounds_succ]
  go_wp2_with fail
  refine (Within_yes _ _ _ _ (by omega) (by omega)).mono ?_
  rintro e w' ⟨rfl, rfl⟩
  go_wp2_with fail
  rw [rounds_succ]
  go_wp2_with fail
  refine (Within_yes _ _ _ _ (by omega) (by omega)).mono ?_
  rintro e w' ⟨rfl, rfl⟩
  go_wp2_with fail
  rw [rounds_succ]
  go_wp2_with fail
  refine (Within_yes _ _ _ _ (by omega) (by omega)).mono ?_
  rintro e w' ⟨rfl, rfl⟩
  go_wp2_with fail
  rw [rounds_succ]
  go_wp2_with fail
  refine (Scalar_no _ _ (by omega) (by omega)).mono ?_
  rintro e w' ⟨rfl, rfl⟩
  go_wp2_with fail
  go_ret2
  exact ⟨rfl, rfl⟩

theorem dec4_ok (s : ByteArray) (w : World) (b0 b1 b2 b3 : Int) (i0 : ∀ w, (Instr.index 9 (.string s) (.int .i64 0)).run Try.prog w = .ok (.int .u8 b0) w) (i1 : ∀ w, (Instr.index 9 (.string s) (.int .i64 1)).run Try.prog w = .ok (.int .u8 b1) w) (i2 : ∀ w, (Instr.index 9 (.string s) (.int .i64 2)).run Try.prog w = .ok (.int .u8 b2) w) (i3 : ∀ w, (Instr.index 9 (.string s) (.int .i64 3)).run Try.prog w = .ok (.int .u8 b3) w)
    (l0 : 240 ≤ b0) (u0 : b0 ≤ 247) (hl : 4 ≤ (s.size : Int)) (hm : s.size ≤ 9223372036854775807) (l1 : 128 ≤ b1) (u1 : b1 ≤ 191) (l2 : 128 ≤ b2) (u2 : b2 ≤ 191) (l3 : 128 ≤ b3) (u3 : b3 ≤ 191) (he : 65536 ≤ ((((b0 - 240) * 64 + b1 - 128) * 64 + b2 - 128) * 64 + b3 - 128)) (hs : ((((b0 - 240) * 64 + b1 - 128) * 64 + b2 - 128) * 64 + b3 - 128) ≤ 1114111) :
    Calls Try.prog 9 #[.string s] w fun e w' => e = .returned (.tuple #[.int .i64 ((((b0 - 240) * 64 + b1 - 128) * 64 + b2 - 128) * 64 + b3 - 128), .int .i64 4]) ∧ w = w' := by
  go_enter Try.func9, Try.ntmps9
  go_wp2_with fail
  refine (Within_no _ _ _ _ (by omega)).mono ?_
  rintro e w' ⟨rfl, rfl⟩
  go_wp2_with fail
  refine (Within_no _ _ _ _ (by omega)).mono ?_
  rintro e w' ⟨rfl, rfl⟩
  go_wp2_with fail
  refine (Within_yes _ _ _ _ (by omega) (by omega)).mono ?_
  rintro e w' ⟨rfl, rfl⟩
  go_wp2_with fail
  refine wp_loop_rounds 4 ?_
  rw [rounds_succ]
  go_wp2_with fail
  refine (Within_yes _ _ _ _ (by omega) (by omega)).mono ?_
  rintro e w' ⟨rfl, rfl⟩
  go_wp2_with fail
  rw [rounds_succ]
  go_wp2_with fail
  refine (Within_yes _ _ _ _ (by omega) (by omega)).mono ?_
  rintro e w' ⟨rfl, rfl⟩
  go_wp2_with fail
  rw [rounds_succ]
  go_wp2_with fail
  refine (Within_yes _ _ _ _ (by omega) (by omega)).mono ?_
  rintro e w' ⟨rfl, rfl⟩
  go_wp2_with fail
  rw [rounds_succ]
  go_wp2_with fail
  refine (Scalar_yes _ _ (by omega) (by omega) (by omega)).mono ?_
  rintro e w' ⟨rfl, rfl⟩
  go_wp2_with fail
  go_ret2
  exact ⟨rfl, rfl⟩

/-- The reference's Decode: the first rune, as the model reads it, at every text that is not empty. -/
theorem Decode_any (s : ByteArray) (w : World) (h : 0 < s.size) (hm : s.size ≤ 9223372036854775807) :
    Calls Try.prog 9 #[.string s] w fun e w' => e = .returned (.tuple #[.int .i64 ((Utf8.decode s 0).1 : Nat), .int .i64 ((Utf8.decode s 0).2 : Nat)]) ∧ w = w' := by
  have i0 : ∀ w, (Instr.index 9 (.string s) (.int .i64 0)).run Try.prog w = .ok (.int .u8 (Runes.B s 0)) w := fun w => by simpa using index_at s 0 h w
  have i1 : 1 < s.size → ∀ w, (Instr.index 9 (.string s) (.int .i64 1)).run Try.prog w = .ok (.int .u8 (Runes.B s 1)) w := fun h w => by simpa using index_at s 1 h w
  have i2 : 2 < s.size → ∀ w, (Instr.index 9 (.string s) (.int .i64 2)).run Try.prog w = .ok (.int .u8 (Runes.B s 2)) w := fun h w => by simpa using index_at s 2 h w
  have i3 : 3 < s.size → ∀ w, (Instr.index 9 (.string s) (.int .i64 3)).run Try.prog w = .ok (.int .u8 (Runes.B s 3)) w := fun h w => by simpa using index_at s 3 h w
  have l0 := Runes.B_lt s 0
  have l1 := Runes.B_lt s 1
  have l2 := Runes.B_lt s 2
  have l3 := Runes.B_lt s 3
  rw [Runes.decode_eq s 0 h]
  simp only [Nat.zero_add, Nat.sub_zero]
  generalize Runes.B s 0 = b0 at *
  generalize Runes.B s 1 = b1 at *
  generalize Runes.B s 2 = b2 at *
  generalize Runes.B s 3 = b3 at *
  have fin : ∀ (x y : Nat) (X Y : Int), Runes.dec b0 b1 b2 b3 s.size = (x, y) → X = x → Y = y → (Calls Try.prog 9 #[.string s] w fun e w' => e = .returned (.tuple #[.int .i64 X, .int .i64 Y]) ∧ w = w') →
      Calls Try.prog 9 #[.string s] w fun e w' => e = .returned (.tuple #[.int .i64 ((Runes.dec b0 b1 b2 b3 s.size).1 : Nat), .int .i64 ((Runes.dec b0 b1 b2 b3 s.size).2 : Nat)]) ∧ w = w' := by
    rintro x y X Y e rfl rfl hc
    rw [e]
    exact hc
  by_cases a0 : b0 < 128
  · exact fin b0 1 _ _ (by unfold Runes.dec; rw [if_pos a0]) rfl rfl (dec_ascii s w b0 i0 (by omega) (by omega))
  by_cases a1 : b0 < 192 ∨ 247 < b0
  · refine fin 0xFFFD 1 65533 1 ?_ rfl rfl (dec_lead s w b0 i0 (by omega))
    unfold Runes.dec
    rw [if_neg a0, if_neg (by omega), if_neg (by omega), if_neg (by omega)]
  by_cases a2 : b0 < 224
  · -- two bytes
    have d : Runes.dec b0 b1 b2 b3 s.size = if 1 < s.size ∧ b1 / 64 = 2 then (if 0x80 ≤ b0 % 32 * 64 + b1 % 64 then (b0 % 32 * 64 + b1 % 64, 2) else (0xFFFD, 1)) else (0xFFFD, 1) := by
      unfold Runes.dec
      rw [if_neg a0]
      by_cases c : 1 < s.size ∧ b1 / 64 = 2
      · rw [if_pos ⟨by omega, c⟩, if_pos c]
      · rw [if_neg (fun e => c e.2), if_neg (by omega), if_neg (by omega), if_neg c]
    by_cases h1 : 1 < s.size
    · by_cases c1 : b1 / 64 = 2
      · rw [if_pos ⟨h1, c1⟩] at d
        by_cases q : 0x80 ≤ b0 % 32 * 64 + b1 % 64
        · rw [if_pos q] at d
          exact fin _ _ _ _ d (by omega) rfl (dec2_ok s w b0 b1 i0 (i1 h1) (by omega) (by omega) (by omega) hm (by omega) (by omega) (by omega))
        · rw [if_neg q] at d
          exact fin _ _ _ _ d rfl rfl (dec2_low s w b0 b1 i0 (i1 h1) (by omega) (by omega) (by omega) hm (by omega) (by omega) (by omega))
      · rw [if_neg (fun e => c1 e.2)] at d
        exact fin _ _ _ _ d rfl rfl (dec2_bad1 s w b0 b1 i0 (i1 h1) (by omega) (by omega) (by omega) hm (by omega) (by omega) (by omega))
    · rw [if_neg (fun e => h1 e.1)] at d
      exact fin _ _ _ _ d rfl rfl (dec2_short s w b0 i0 (by omega) (by omega) (by omega))
  by_cases a3 : b0 < 240
  · -- three bytes
    have d : Runes.dec b0 b1 b2 b3 s.size = if (1 < s.size ∧ b1 / 64 = 2) ∧ (2 < s.size ∧ b2 / 64 = 2) then (if 0x800 ≤ b0 % 16 * 4096 + b1 % 64 * 64 + b2 % 64 ∧ Utf8.valid ((b0 % 16 * 4096 + b1 % 64 * 64 + b2 % 64 : Nat) : Int) = true then (b0 % 16 * 4096 + b1 % 64 * 64 + b2 % 64, 3) else (0xFFFD, 1)) else (0xFFFD, 1) := by
      unfold Runes.dec
      rw [if_neg a0, if_neg (by omega)]
      by_cases c : (1 < s.size ∧ b1 / 64 = 2) ∧ (2 < s.size ∧ b2 / 64 = 2)
      · rw [if_pos ⟨by omega, c⟩, if_pos c]
      · rw [if_neg (fun e => c e.2), if_neg (by omega), if_neg c]
    by_cases h2 : 2 < s.size
    · by_cases c1 : b1 / 64 = 2
      · by_cases c2 : b2 / 64 = 2
        · rw [if_pos ⟨⟨by omega, c1⟩, h2, c2⟩] at d
          by_cases q : 0x800 ≤ b0 % 16 * 4096 + b1 % 64 * 64 + b2 % 64
          · by_cases v : b0 % 16 * 4096 + b1 % 64 * 64 + b2 % 64 < 55296 ∨ 57343 < b0 % 16 * 4096 + b1 % 64 * 64 + b2 % 64
            · rw [if_pos ⟨q, by unfold Utf8.valid; simp only [Bool.or_eq_true, Bool.and_eq_true, decide_eq_true_eq]; omega⟩] at d
              exact fin _ _ _ _ d (by omega) rfl (dec3_ok s w b0 b1 b2 i0 (i1 (by omega)) (i2 h2) (by omega) (by omega) (by omega) hm (by omega) (by omega) (by omega) (by omega) (by omega) (by omega))
            · rw [if_neg (fun e => v (by have := e.2; unfold Utf8.valid at this; simp only [Bool.or_eq_true, Bool.and_eq_true, decide_eq_true_eq] at this; omega))] at d
              exact fin _ _ _ _ d rfl rfl (dec3_none s w b0 b1 b2 i0 (i1 (by omega)) (i2 h2) (by omega) (by omega) (by omega) hm (by omega) (by omega) (by omega) (by omega) (by omega))
          · rw [if_neg (fun e => q e.1)] at d
            exact fin _ _ _ _ d rfl rfl (dec3_low s w b0 b1 b2 i0 (i1 (by omega)) (i2 h2) (by omega) (by omega) (by omega) hm (by omega) (by omega) (by omega) (by omega) (by omega))
        · rw [if_neg (fun e => c2 e.2.2)] at d
          exact fin _ _ _ _ d rfl rfl (dec3_bad2 s w b0 b1 b2 i0 (i1 (by omega)) (i2 h2) (by omega) (by omega) (by omega) hm (by omega) (by omega) (by omega) (by omega) (by omega))
      · rw [if_neg (fun e => c1 e.1.2)] at d
        exact fin _ _ _ _ d rfl rfl (dec3_bad1 s w b0 b1 i0 (i1 (by omega)) (by omega) (by omega) (by omega) hm (by omega) (by omega) (by omega))
    · rw [if_neg (fun e => h2 e.2.1)] at d
      exact fin _ _ _ _ d rfl rfl (dec3_short s w b0 i0 (by omega) (by omega) (by omega))
  · -- four bytes
    have d : Runes.dec b0 b1 b2 b3 s.size = if (1 < s.size ∧ b1 / 64 = 2) ∧ (2 < s.size ∧ b2 / 64 = 2) ∧ (3 < s.size ∧ b3 / 64 = 2) then (if 0x10000 ≤ b0 % 8 * 262144 + b1 % 64 * 4096 + b2 % 64 * 64 + b3 % 64 ∧ Utf8.valid ((b0 % 8 * 262144 + b1 % 64 * 4096 + b2 % 64 * 64 + b3 % 64 : Nat) : Int) = true then (b0 % 8 * 262144 + b1 % 64 * 4096 + b2 % 64 * 64 + b3 % 64, 4) else (0xFFFD, 1)) else (0xFFFD, 1) := by
      unfold Runes.dec
      rw [if_neg a0, if_neg (by omega), if_neg (by omega)]
      by_cases c : (1 < s.size ∧ b1 / 64 = 2) ∧ (2 < s.size ∧ b2 / 64 = 2) ∧ (3 < s.size ∧ b3 / 64 = 2)
      · rw [if_pos ⟨by omega, c⟩, if_pos c]
      · rw [if_neg (fun e => c e.2), if_neg c]
    by_cases h3 : 3 < s.size
    · by_cases c1 : b1 / 64 = 2
      · by_cases c2 : b2 / 64 = 2
        · by_cases c3 : b3 / 64 = 2
          · rw [if_pos ⟨⟨by omega, c1⟩, ⟨by omega, c2⟩, h3, c3⟩] at d
            by_cases q : 0x10000 ≤ b0 % 8 * 262144 + b1 % 64 * 4096 + b2 % 64 * 64 + b3 % 64
            · by_cases v : b0 % 8 * 262144 + b1 % 64 * 4096 + b2 % 64 * 64 + b3 % 64 ≤ 1114111
              · rw [if_pos ⟨q, by unfold Utf8.valid; simp only [Bool.or_eq_true, Bool.and_eq_true, decide_eq_true_eq]; omega⟩] at d
                exact fin _ _ _ _ d (by omega) rfl (dec4_ok s w b0 b1 b2 b3 i0 (i1 (by omega)) (i2 (by omega)) (i3 h3) (by omega) (by omega) (by omega) hm (by omega) (by omega) (by omega) (by omega) (by omega) (by omega) (by omega) (by omega))
              · rw [if_neg (fun e => v (by have := e.2; unfold Utf8.valid at this; simp only [Bool.or_eq_true, Bool.and_eq_true, decide_eq_true_eq] at this; omega))] at d
                exact fin _ _ _ _ d rfl rfl (dec4_none s w b0 b1 b2 b3 i0 (i1 (by omega)) (i2 (by omega)) (i3 h3) (by omega) (by omega) (by omega) hm (by omega) (by omega) (by omega) (by omega) (by omega) (by omega) (by omega))
            · rw [if_neg (fun e => q e.1)] at d
              exact fin _ _ _ _ d rfl rfl (dec4_low s w b0 b1 b2 b3 i0 (i1 (by omega)) (i2 (by omega)) (i3 h3) (by omega) (by omega) (by omega) hm (by omega) (by omega) (by omega) (by omega) (by omega) (by omega) (by omega))
          · rw [if_neg (fun e => c3 e.2.2.2)] at d
            exact fin _ _ _ _ d rfl rfl (dec4_bad3 s w b0 b1 b2 b3 i0 (i1 (by omega)) (i2 (by omega)) (i3 h3) (by omega) (by omega) (by omega) hm (by omega) (by omega) (by omega) (by omega) (by omega) (by omega) (by omega))
        · rw [if_neg (fun e => c2 e.2.1.2)] at d
          exact fin _ _ _ _ d rfl rfl (dec4_bad2 s w b0 b1 b2 i0 (i1 (by omega)) (i2 (by omega)) (by omega) (by omega) (by omega) hm (by omega) (by omega) (by omega) (by omega) (by omega))
      · rw [if_neg (fun e => c1 e.1.2)] at d
        exact fin _ _ _ _ d rfl rfl (dec4_bad1 s w b0 b1 i0 (i1 (by omega)) (by omega) (by omega) (by omega) hm (by omega) (by omega) (by omega))
    · rw [if_neg (fun e => h3 e.2.2.1)] at d
      exact fin _ _ _ _ d rfl rfl (dec4_short s w b0 i0 (by omega) (by omega) (by omega))

end Go.Proofs.Ytgjbenglpifdkaa

