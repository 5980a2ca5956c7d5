/- What the reference's Count and Valid return, for every text; and that the three laws on counting runes answer true, for every text. -/
import Derived.Test.YtgjbenglpifdkaaWalks
namespace Go.Proofs.Ytgjbenglpifdkaa
open Go.ChangeShapes Go.WideShapes Go.ChangeAt Go.RowKit
set_option linter.unusedVariables false

theorem Decode_at (s : ByteArray) (pos : Nat) (hp : pos < s.size) (hm : s.size ≤ 9223372036854775807) (r wd : Nat) (hd : Utf8.decode s pos = (r, wd)) (w : World) :
    Calls Try.prog 9 #[.string (s.extract pos s.size)] w fun e w' => e = .returned (.tuple #[.int .i64 r, .int .i64 wd]) ∧ w = w' := by
  have hz : (s.extract pos s.size).size = s.size - pos := by simp [ByteArray.size_extract]
  have h := Decode_any (s.extract pos s.size) w (by omega) (by omega)
  rw [Runes.decode_extract s pos hp, hd] at h
  exact h

theorem Count_any (s : ByteArray) (w : World) (hm : s.size ≤ 4611686018427387904) : Calls Try.prog 8 #[.string s] w fun e w' => e = .returned (.int .i64 (Lib.runeCount s)) ∧ w = w' := by
  go_enter Try.func8, Try.ntmps8
  go_wp2_with fail
  go_loop [3, 4] (fun n i => ∃ pos b acc : Nat, n = .int .i64 acc ∧ i = .int .i64 pos ∧ Hid (acc + Lib.runeCountFrom s b pos = Lib.runeCount s) ∧ s.size ≤ pos + b ∧ acc ≤ pos ∧ pos ≤ s.size) (fun _ i => s.size - (intOf i).toNat)
  case atStart => exact ⟨0, s.size, 0, rfl, rfl, by show _ = _; simp [Lib.runeCount], by omega, by omega, by omega⟩
  case round =>
    obtain ⟨pos, b, acc, rfl, rfl, hc, hb, ha, hp⟩ := hrel
    by_cases hlt : pos < s.size
    · obtain ⟨r, wd, hd⟩ : ∃ r wd : Nat, Utf8.decode s pos = (r, wd) := ⟨_, _, rfl⟩
      have hw := Runes.width s pos hlt
      rw [hd] at hw
      simp only at hw
      have HD := Lib.hid hd
      clear hd
      go_wp2_with fail
      refine (Decode_at s pos hlt (by omega) r wd HD.out _).mono ?_
      rintro e w' ⟨rfl, rfl⟩
      go_wp2_with fail
      go_round
      case rel =>
        cases b with
        | zero => omega
        | succ b =>
          refine ⟨pos + wd, b, acc + 1, by go_num, by go_num, ?_, by omega, by omega, by omega⟩
          show _ = _
          rw [← hc.out]
          simp only [Lib.runeCountFrom, if_pos hlt, HD.out]
          omega
      case measure => simp [intOf]; omega
    · have e := hc.out
      rw [Lib.runeCountFrom_end s b pos hlt, Nat.add_zero] at e
      subst e
      go_wp2_with fail
      go_ret
      exact ⟨rfl, rfl⟩

theorem Valid_any (s : ByteArray) (w : World) (hm : s.size ≤ 4611686018427387904) : Calls Try.prog 6 #[.string s] w fun e w' => e = .returned (.bool (Runes.valid s)) ∧ w = w' := by
  go_enter Try.func6, Try.ntmps6
  go_wp2_with fail
  go_loop [3] (fun i => ∃ pos b : Nat, i = .int .i64 pos ∧ Hid (Runes.validFrom s b pos = Runes.valid s) ∧ s.size ≤ pos + b ∧ pos ≤ s.size) (fun i => s.size - (intOf i).toNat)
  case atStart => exact ⟨0, s.size, rfl, rfl, by omega, by omega⟩
  case round =>
    obtain ⟨pos, b, rfl, hc, hb, hp⟩ := hrel
    by_cases hlt : pos < s.size
    · obtain ⟨r, wd, hd⟩ : ∃ r wd : Nat, Utf8.decode s pos = (r, wd) := ⟨_, _, rfl⟩
      have hw := Runes.width s pos hlt
      rw [hd] at hw
      simp only at hw
      have hv : Runes.valid s = if r = 65533 ∧ wd = 1 then false else Runes.validFrom s (b - 1) (pos + wd) := by
        rw [← hc.out]
        cases b with
        | zero => omega
        | succ b => simp only [Runes.validFrom, if_pos hlt, hd, Nat.add_sub_cancel]
      have HV := Lib.hid hv
      have HD := Lib.hid hd
      clear hd hv
      by_cases c1 : r = 65533
      · have t1 : ((r : Int) == 65533) = true := by rw [beq_iff_eq]; omega
        by_cases c2 : wd = 1
        · have t2 : ((wd : Int) == 1) = true := by rw [beq_iff_eq]; omega
          have e : Runes.valid s = false := by rw [HV.out, if_pos ⟨c1, c2⟩]
          have HE := Lib.hid e
          have C1 := Lib.hid c1
          have C2 := Lib.hid c2
          clear e c1 c2
          go_wp2_with fail
          refine (Decode_at s pos hlt (by omega) r wd HD.out _).mono ?_
          rintro e w' ⟨rfl, rfl⟩
          go_wp2_with fail
          go_ret
          exact ⟨by rw [HE.out]; rfl, rfl⟩
        · have t2 : ((wd : Int) == 1) = false := by rw [beq_eq_false_iff_ne]; omega
          have C1 := Lib.hid c1
          clear c1
          go_wp2_with fail
          refine (Decode_at s pos hlt (by omega) r wd HD.out _).mono ?_
          rintro e w' ⟨rfl, rfl⟩
          go_wp2_with fail
          go_round
          case rel =>
            refine ⟨pos + wd, b - 1, by go_num, ?_, by omega, by omega⟩
            show _ = _
            rw [HV.out, if_neg (fun e => c2 e.2)]
          case measure => simp [intOf]; omega
      · have t1 : ((r : Int) == 65533) = false := by rw [beq_eq_false_iff_ne]; omega
        go_wp2_with fail
        refine (Decode_at s pos hlt (by omega) r wd HD.out _).mono ?_
        rintro e w' ⟨rfl, rfl⟩
        go_wp2_with fail
        go_round
        case rel =>
          refine ⟨pos + wd, b - 1, by go_num, ?_, by omega, by omega⟩
          show _ = _
          rw [HV.out, if_neg (fun e => c1 e.1)]
        case measure => simp [intOf]; omega
    · have e : Runes.valid s = true := by
        rw [← hc.out]
        cases b with
        | zero => rfl
        | succ b => simp only [Runes.validFrom, if_neg hlt]
      have HE := Lib.hid e
      clear e
      go_wp2_with fail
      go_ret
      exact ⟨by rw [HE.out]; rfl, rfl⟩

theorem two (w : World) : Calls Try.prog 7 #[.string ⟨#[97, 195, 169]⟩] w fun e w' => e = .returned (.int .i64 2) ∧ Quiet w w' := by
  have h := CountRunes_any ⟨#[97, 195, 169]⟩ w (by decide)
  rw [show Lib.runeCount ⟨#[97, 195, 169]⟩ = 2 by decide +kernel] at h
  exact h

/-- A text has as many runes as are read of it by UTF-8. -/
theorem exactCount (s : ByteArray) (w : World) (hm : s.size ≤ 9223372036854775807) : Calls Try.prog 5 #[.string s] w fun e w' => e = .returned (.bool true) ∧ Quiet w w' := by
  by_cases c : 2147483647 < s.size
  · go_enter Try.func5, Try.ntmps5
    go_wp2_with fail
    go_ret
    exact ⟨rfl, Quiet.refl _⟩
  · go_enter Try.func5, Try.ntmps5
    go_wp2_with fail
    refine (CountRunes_any s _ (by omega)).mono ?_
    rintro e w1 ⟨rfl, hq1⟩
    go_wp2_with fail
    refine (Count_any s _ (by omega)).mono ?_
    rintro e w' ⟨rfl, rfl⟩
    go_wp2_with fail
    refine (two _).mono ?_
    rintro e w2 ⟨rfl, hq2⟩
    go_wp2_with fail
    go_ret
    exact ⟨rfl, hq1.trans hq2⟩

/-- There are at most as many runes as bytes, and at least a quarter as many. -/
theorem countRange (s : ByteArray) (w : World) (hm : s.size ≤ 9223372036854775807) : Calls Try.prog 4 #[.string s] w fun e w' => e = .returned (.bool true) ∧ Quiet w w' := by
  by_cases c : 2147483647 < s.size
  · go_enter Try.func4, Try.ntmps4
    go_wp2_with fail
    go_ret
    exact ⟨rfl, Quiet.refl _⟩
  · have a := Lib.runeCount_le s
    have b := Runes.count_quarter s
    go_enter Try.func4, Try.ntmps4
    go_wp2_with fail
    refine (CountRunes_any s _ (by omega)).mono ?_
    rintro e w1 ⟨rfl, hq1⟩
    go_wp2_with fail
    refine (two _).mono ?_
    rintro e w2 ⟨rfl, hq2⟩
    go_wp2_with fail
    go_ret
    exact ⟨rfl, hq1.trans hq2⟩

/-- A valid text with another one behind it has the runes of both. -/
theorem countJoin (a b : ByteArray) (w : World) (hm : a.size ≤ 9223372036854775807) (hn : b.size ≤ 9223372036854775807) : Calls Try.prog 3 #[.string a, .string b] w fun e w' => e = .returned (.bool true) ∧ Quiet w w' := by
  by_cases c : 2147483647 < a.size
  · go_enter Try.func3, Try.ntmps3
    go_wp2_with fail
    go_ret
    exact ⟨rfl, Quiet.refl _⟩
  by_cases d : 2147483647 < b.size
  · go_enter Try.func3, Try.ntmps3
    go_wp2_with fail
    go_ret
    exact ⟨rfl, Quiet.refl _⟩
  by_cases e : 1073741824 < a.size
  · go_enter Try.func3, Try.ntmps3
    go_wp2_with fail
    refine (two _).mono ?_
    rintro e w2 ⟨rfl, hq2⟩
    go_wp2_with fail
    go_ret
    exact ⟨rfl, hq2⟩
  by_cases f : 1073741824 < b.size
  · go_enter Try.func3, Try.ntmps3
    go_wp2_with fail
    refine (two _).mono ?_
    rintro e w2 ⟨rfl, hq2⟩
    go_wp2_with fail
    go_ret
    exact ⟨rfl, hq2⟩
  have va := Valid_any a w (by omega)
  by_cases v : Runes.valid a = true
  · rw [v] at va
    have ca := Lib.runeCount_le a
    have cb := Lib.runeCount_le b
    have hj : ∀ w, Calls Try.prog 7 #[.string (a ++ b)] w fun e w' => e = .returned (.int .i64 ((Lib.runeCount a : Int) + (Lib.runeCount b : Int))) ∧ Quiet w w' := fun w => by
      have h := CountRunes_any (a ++ b) w (by rw [ByteArray.size_append]; omega)
      rw [Runes.count_join a b v, Int.natCast_add] at h
      exact h
    have HJ := Lib.hid hj
    have VA := Lib.hid va
    clear hj va v
    go_enter Try.func3, Try.ntmps3
    go_wp2_with fail
    refine VA.out.mono ?_
    rintro e w' ⟨rfl, rfl⟩
    go_wp2_with fail
    refine (HJ.out _).mono ?_
    rintro e w1 ⟨rfl, hq1⟩
    go_wp2_with fail
    refine (CountRunes_any a _ (by omega)).mono ?_
    rintro e w2 ⟨rfl, hq2⟩
    go_wp2_with fail
    refine (CountRunes_any b _ (by omega)).mono ?_
    rintro e w3 ⟨rfl, hq3⟩
    go_wp2_with fail
    refine (two _).mono ?_
    rintro e w4 ⟨rfl, hq4⟩
    go_wp2_with fail
    go_ret
    exact ⟨rfl, ((hq1.trans hq2).trans hq3).trans hq4⟩
  · have v' : Runes.valid a = false := by simpa using v
    rw [v'] at va
    have VA := Lib.hid va
    clear va v v'
    go_enter Try.func3, Try.ntmps3
    go_wp2_with fail
    refine VA.out.mono ?_
    rintro e w' ⟨rfl, rfl⟩
    go_wp2_with fail
    refine (two _).mono ?_
    rintro e w2 ⟨rfl, hq2⟩
    go_wp2_with fail
    go_ret
    exact ⟨rfl, hq2⟩

end Go.Proofs.Ytgjbenglpifdkaa

