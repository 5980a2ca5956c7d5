/- That the laws on ParseByteCount answer true, for every input. The condition: the two error variables of strconv hold an interface value each. -/
import Derived.Test.YtbmihohogoblnaaDoorSpec
namespace Go.Proofs.YtbmihohogoblnaaDoor
open Go.ChangeShapes Go.WideShapes Go.ChangeAt Go.RowKit
set_option linter.unusedVariables false
theorem chain {a b c : World} (h : Below a.heap.size a b) (k : Below b.heap.size b c) : Below a.heap.size a c := h.trans (k.mono h.size)

theorem Bytes_same (s : ByteArray) (w : World) (hm : s.size ≤ 281474976710656) (hs : Unsigned s.data.toList) (r : Option Int) (hr : pbc s = r) :
    Calls Tryd.prog 9 #[.string s] w fun e w' => e = .returned (res r) ∧ w = w' := by
  refine (Bytes_any s w hm).mono ?_
  rintro e w' ⟨⟨k, hk, rfl⟩, rfl⟩
  rw [← pbc_run s k hs hk, hr]
  exact ⟨rfl, rfl⟩
theorem Parse_same (s : ByteArray) (w : World) (hE : Errs w) (hm : s.size ≤ 281474976710656) (r : Option Int) (hr : pbc s = r) :
    Calls Tryd.prog 7 #[.string s] w fun e w' => e = .returned (res r) ∧ Below w.heap.size w w' := by
  have h := ParseByteCount s w hE hm
  rw [hr] at h
  exact h
theorem res_no : res none = .tuple #[.int .i64 0, .bool false] := rfl
theorem res_yes (v : Int) : res (some v) = .tuple #[.int .i64 v, .bool true] := rfl


/-- A count of bytes is digits, and nothing, B, or a unit behind them, and too great a one is none. -/
theorem exactBytes (s : ByteArray) (w : World) (hE : Errs w) (hm : s.size ≤ 9223372036854775807) : Calls Tryd.prog 5 #[.string s] w fun e w' => e = .returned (.bool true) ∧ Below w.heap.size w w' := by
  by_cases c : 2147483647 < s.size
  · go_enter Tryd.func5, Tryd.ntmps5
    go_wp2_with fail
    go_ret
    exact ⟨rfl, Below.refl _ _⟩
  by_cases z : s.size = 0
  · have es : s = ⟨#[]⟩ := by
      obtain ⟨⟨l⟩⟩ := s
      cases l with
      | nil => rfl
      | cons a l => exact absurd z (by simp [ByteArray.size])
    subst es
    have hb := fun w => Bytes_same ⟨#[]⟩ w (by decide) trivial none rfl
    have hp := fun w hE => Parse_same ⟨#[]⟩ w hE (by decide) none rfl
    rw [res_no] at hb hp
    have HB := Lib.hid hb
    have HP := Lib.hid hp
    have H := Lib.hid hE
    clear hb hp hE c z hm
    go_enter Tryd.func5, Tryd.ntmps5
    go_wp2_with fail
    refine (HB.out _).mono ?_
    rintro e w' ⟨rfl, rfl⟩
    go_wp2_with fail
    refine (HP.out _ H.out).mono ?_
    rintro e w1 ⟨rfl, hb1⟩
    go_wp2_with fail
    refine (counts _ (H.out.below hb1)).mono ?_
    rintro e w2 ⟨rfl, hb2⟩
    go_wp2_with fail
    go_ret
    exact ⟨rfl, chain hb1 hb2⟩
  have he := not_empty s (by omega)
  obtain ⟨b, hbe⟩ : ∃ b : Int, b = Bt s 0 := ⟨_, rfl⟩
  have ik : ∀ w, (Instr.index 9 (.string s) (.int .i64 0)).run Tryd.prog w = .ok (.int .u8 b) w := fun w => by rw [hbe]; simpa using index_at s 0 (by omega) w
  have hlist : s.data.toList ≠ [] := by
    intro e
    have := size_eq s
    rw [e] at this
    exact z this
  have b0 : 0 ≤ b := by omega
  have b1 : b ≤ 255 := by have := Bt_lt s 0; omega
  by_cases p : b = 43
  · have t : ((b : Int) == 43) = true := by rw [beq_iff_eq]; exact p
    clear hbe p hlist
    go_enter Tryd.func5, Tryd.ntmps5
    go_wp2_with fail
    refine (counts _ hE).mono ?_
    rintro e w2 ⟨rfl, hb2⟩
    go_wp2_with fail
    go_ret
    exact ⟨rfl, hb2⟩
  have t1 : ((b : Int) == 43) = false := by rw [beq_eq_false_iff_ne]; exact p
  by_cases q : b = 45
  · have t : ((b : Int) == 45) = true := by rw [beq_iff_eq]; exact q
    clear hbe q p hlist
    go_enter Tryd.func5, Tryd.ntmps5
    go_wp2_with fail
    refine (counts _ hE).mono ?_
    rintro e w2 ⟨rfl, hb2⟩
    go_wp2_with fail
    go_ret
    exact ⟨rfl, hb2⟩
  have t2 : ((b : Int) == 45) = false := by rw [beq_eq_false_iff_ne]; exact q
  have hs : Unsigned s.data.toList := by
    have x := Bt_list s 0 (by omega)
    rw [x] at hbe
    cases hl : s.data.toList with
    | nil => exact absurd hl hlist
    | cons c r =>
      simp only [hl, List.getElem_cons_zero] at hbe
      exact ⟨by omega, by omega⟩
  have hsz : s.size ≤ 281474976710656 := by omega
  obtain ⟨r, hr⟩ : ∃ r, pbc s = r := ⟨_, rfl⟩
  have hb := fun w => Bytes_same s w hsz hs r hr
  have hp := fun w hE => Parse_same s w hE hsz r hr
  have H := Lib.hid hE
  clear hbe p q hlist hs hr hE
  cases r with
  | none =>
    rw [res_no] at hb hp
    have HB := Lib.hid hb
    have HP := Lib.hid hp
    clear hb hp
    go_enter Tryd.func5, Tryd.ntmps5
    go_wp2_with fail
    refine (HB.out _).mono ?_
    rintro e w' ⟨rfl, rfl⟩
    go_wp2_with fail
    refine (HP.out _ H.out).mono ?_
    rintro e w1 ⟨rfl, hb1⟩
    go_wp2_with fail
    refine (counts _ (H.out.below hb1)).mono ?_
    rintro e w2 ⟨rfl, hb2⟩
    go_wp2_with fail
    go_ret
    exact ⟨rfl, chain hb1 hb2⟩
  | some v =>
    rw [res_yes] at hb hp
    have HB := Lib.hid hb
    have HP := Lib.hid hp
    clear hb hp
    go_enter Tryd.func5, Tryd.ntmps5
    go_wp2_with fail
    refine (HB.out _).mono ?_
    rintro e w' ⟨rfl, rfl⟩
    go_wp2_with fail
    refine (HP.out _ H.out).mono ?_
    rintro e w1 ⟨rfl, hb1⟩
    go_wp2_with fail
    refine (counts _ (H.out.below hb1)).mono ?_
    rintro e w2 ⟨rfl, hb2⟩
    go_wp2_with fail
    go_ret
    exact ⟨rfl, chain hb1 hb2⟩

/-- A count without a unit is one with B. -/
theorem countB (s : ByteArray) (w : World) (hE : Errs w) (hm : s.size ≤ 9223372036854775807) : Calls Tryd.prog 3 #[.string s] w fun e w' => e = .returned (.bool true) ∧ Below w.heap.size w w' := by
  by_cases c : 2147483647 < s.size
  · go_enter Tryd.func3, Tryd.ntmps3
    go_wp2_with fail
    go_ret
    exact ⟨rfl, Below.refl _ _⟩
  by_cases d : 1073741824 < s.size
  · go_enter Tryd.func3, Tryd.ntmps3
    go_wp2_with fail
    refine (counts _ hE).mono ?_
    rintro e w2 ⟨rfl, hb2⟩
    go_wp2_with fail
    go_ret
    exact ⟨rfl, hb2⟩
  have H := Lib.hid hE
  have hz := Lib.hid (size_eq s)
  clear hE
  go_enter Tryd.func3, Tryd.ntmps3
  go_wp2_with fail
  go_loop [3] (fun i => ∃ k : Nat, i = .int .i64 k ∧ k ≤ s.size ∧ Hid (∀ c ∈ s.data.toList.take k, dig c)) (fun i => s.size - (intOf i).toNat)
  case atStart => exact ⟨0, rfl, by omega, fun c hc => by simp at hc⟩
  case round =>
    obtain ⟨k, rfl, hk, hdig⟩ := hrel
    by_cases hlt : k < s.size
    · obtain ⟨b, hbe⟩ : ∃ b : Int, b = Bt s k := ⟨_, rfl⟩
      have ik : ∀ w, (Instr.index 9 (.string s) (.int .i64 k)).run Tryd.prog w = .ok (.int .u8 b) w := fun w => by rw [hbe]; exact index_at s k hlt w
      have b1 : b ≤ 255 := by have := Bt_lt s k; omega
      have b0 : 0 ≤ b := by omega
      have HB := Lib.hid hbe
      clear hbe
      by_cases d1 : 48 ≤ b
      · by_cases d2 : b ≤ 57
        · go_wp2_with fail
          go_round
          case rel =>
            refine ⟨k + 1, by go_num, by omega, ?_⟩
            have hl : k < s.data.toList.length := by rw [← hz.out]; exact hlt
            intro c hc
            rw [List.take_succ_eq_append_getElem hl, List.mem_append] at hc
            rcases hc with hc | hc
            · exact hdig.out c hc
            · have e := HB.out
              rw [Bt_list s k hlt] at e
              rw [List.mem_singleton] at hc
              subst hc
              exact ⟨by omega, by omega⟩
          case measure => simp [intOf]; omega
        · go_wp2_with fail
          refine (counts _ H.out).mono ?_
          rintro e w2 ⟨rfl, hb2⟩
          go_wp2_with fail
          go_ret
          exact ⟨rfl, hb2⟩
      · go_wp2_with fail
        refine (counts _ H.out).mono ?_
        rintro e w2 ⟨rfl, hb2⟩
        go_wp2_with fail
        go_ret
        exact ⟨rfl, hb2⟩
    · by_cases z : s.size = 0
      · have he : s.toList.isEmpty = true := by
          have x := hz.out
          rw [ByteArray.toList_eq]
          rw [z] at x
          exact List.isEmpty_iff.2 (List.length_eq_zero_iff.1 x.symm)
        go_wp2_with fail
        refine (counts _ H.out).mono ?_
        rintro e w2 ⟨rfl, hb2⟩
        go_wp2_with fail
        go_ret
        exact ⟨rfl, hb2⟩
      · have he := not_empty s (by omega)
        have hlist : s.data.toList ≠ [] := by
          intro e
          have := size_eq s
          rw [e] at this
          exact z this
        have hall : ∀ c ∈ s.data.toList, dig c := by
          intro c hc
          refine hdig.out c ?_
          rw [List.take_of_length_le (by rw [← hz.out]; omega)]
          exact hc
        have hsB : pbc (s ++ ⟨#[66]⟩) = pbc s := pbc_same_B s _ hlist hall (by simp)
        obtain ⟨r, hr⟩ : ∃ r, pbc s = r := ⟨_, rfl⟩
        have hp := fun w hE => Parse_same s w hE (by omega) r hr
        have hq := fun w hE => Parse_same (s ++ ⟨#[66]⟩) w hE (by rw [ByteArray.size_append]; show s.size + 1 ≤ _; omega) r (by rw [hsB, hr])
        clear hsB hr hlist hall
        cases r with
        | none =>
          rw [res_no] at hp hq
          have HP := Lib.hid hp
          have HQ := Lib.hid hq
          clear hp hq
          go_wp2_with fail
          refine (HP.out _ H.out).mono ?_
          rintro e w1 ⟨rfl, hb1⟩
          go_wp2_with fail
          refine (HQ.out _ (H.out.below hb1)).mono ?_
          rintro e w2 ⟨rfl, hb2⟩
          go_wp2_with fail
          refine (counts _ ((H.out.below hb1).below hb2)).mono ?_
          rintro e w3 ⟨rfl, hb3⟩
          go_wp2_with fail
          go_ret
          exact ⟨rfl, chain (chain hb1 hb2) hb3⟩
        | some v =>
          rw [res_yes] at hp hq
          have HP := Lib.hid hp
          have HQ := Lib.hid hq
          clear hp hq
          go_wp2_with fail
          refine (HP.out _ H.out).mono ?_
          rintro e w1 ⟨rfl, hb1⟩
          go_wp2_with fail
          refine (HQ.out _ (H.out.below hb1)).mono ?_
          rintro e w2 ⟨rfl, hb2⟩
          go_wp2_with fail
          refine (counts _ ((H.out.below hb1).below hb2)).mono ?_
          rintro e w3 ⟨rfl, hb3⟩
          go_wp2_with fail
          go_ret
          exact ⟨rfl, chain (chain hb1 hb2) hb3⟩

end Go.Proofs.YtbmihohogoblnaaDoor
