/- What the reference's Bytes returns, for every text: what the digits in front and the unit behind them tell. No condition but the size. -/
import Derived.Test.YtbmihohogoblnaaDoorCount
import Derived.Test.YtbmihohogoblnaaDoorAgree
namespace Go.Proofs.YtbmihohogoblnaaDoor
open Go.ChangeShapes Go.WideShapes Go.ChangeAt Go.RowKit
set_option linter.unusedVariables false

theorem valFrom_take (l : List UInt8) (k : Nat) (h : k < l.length) : valFrom 0 (l.take (k + 1)) = valFrom 0 (l.take k) * 10 + (l[k].toNat - 48) := by
  rw [List.take_succ_eq_append_getElem h]
  unfold valFrom
  rw [List.foldl_append]
  rfl
/-- What the reference keeps of the digits that it has read: their number, or that it is too great. -/
def St (l : List UInt8) (k : Nat) (a : Int) (fine : Bool) : Prop :=
  (fine = true ∧ a = valFrom 0 (l.take k)) ∨ (fine = false ∧ 9223372036854775807 < (valFrom 0 (l.take k) : Int))
theorem St_step {l : List UInt8} {k : Nat} {a b : Int} {fine : Bool} (h : St l k a fine) (hk : k < l.length) (hb : b = l[k].toNat) (l1 : 48 ≤ b) (q : a * 10 + (b - 48) ≤ 9223372036854775807) : St l (k + 1) (a * 10 + (b - 48)) fine := by
  unfold St at *
  rw [valFrom_take l k hk]
  rcases h with ⟨rfl, ha⟩ | ⟨rfl, ha⟩
  · exact Or.inl ⟨rfl, by omega⟩
  · exact Or.inr ⟨rfl, by omega⟩
theorem St_over {l : List UInt8} {k : Nat} {a b : Int} {fine : Bool} (h : St l k a fine) (hk : k < l.length) (hb : b = l[k].toNat) (l1 : 48 ≤ b) (q : 9223372036854775807 < a * 10 + (b - 48)) : St l (k + 1) a false := by
  unfold St at *
  rw [valFrom_take l k hk]
  rcases h with ⟨rfl, ha⟩ | ⟨rfl, ha⟩
  · exact Or.inr ⟨rfl, by omega⟩
  · exact Or.inr ⟨rfl, by omega⟩
theorem ret_num {x y : Int} (h : x = y) : Ending.returned (.tuple #[.int .i64 x, .bool true]) = .returned (.tuple #[.int .i64 y, .bool true]) := by rw [h]
theorem res_none : res none = .tuple #[.int .i64 0, .bool false] := rfl
theorem res_some (v : Int) : res (some v) = .tuple #[.int .i64 v, .bool true] := rfl
theorem tell_fine {d r : List UInt8} {f a : Int} (hne : d ≠ []) (hu : unitF r = some f) (ha : a = valFrom 0 d) : tell d r = if a * f ≤ 9223372036854775807 then some (a * f) else none := by
  unfold tell
  rw [if_neg hne, hu, ha]
theorem tell_over {d r : List UInt8} {f : Int} (hu : unitF r = some f) (hf : 1 ≤ f) (ha : 9223372036854775807 < (valFrom 0 d : Int)) : tell d r = none := by
  unfold tell
  by_cases hne : d = []
  · rw [if_pos hne]
  · rw [if_neg hne, hu]
    show (if (valFrom 0 d : Int) * f ≤ 9223372036854775807 then some ((valFrom 0 d : Int) * f) else none) = none
    rw [if_neg]
    have : (valFrom 0 d : Int) * 1 ≤ (valFrom 0 d : Int) * f := Int.mul_le_mul_of_nonneg_left hf (by omega)
    omega
theorem tell_bad {d r : List UInt8} (hu : unitF r = none) : tell d r = none := by
  unfold tell
  by_cases hne : d = []
  · rw [if_pos hne]
  · rw [if_neg hne, hu]
theorem tail_list (s : ByteArray) (k : Nat) : (s.extract k s.size).toList = s.data.toList.drop k := by
  rw [ByteArray.toList_eq]
  simp
  exact List.take_of_length_le (by simp)
theorem unit_ways (r : List UInt8) : r = [] ∨ r = [66] ∨ r = [75, 105, 66] ∨ r = [77, 105, 66] ∨ r = [71, 105, 66] ∨ r = [84, 105, 66] ∨
    (unitF r = none ∧ r.isEmpty = false ∧ (r == [66]) = false ∧ (r == [75, 105, 66]) = false ∧ (r == [77, 105, 66]) = false ∧ (r == [71, 105, 66]) = false ∧ (r == [84, 105, 66]) = false) := by
  by_cases a : r = []
  · exact Or.inl a
  by_cases b : r = [66]
  · exact Or.inr (Or.inl b)
  by_cases c : r = [75, 105, 66]
  · exact Or.inr (Or.inr (Or.inl c))
  by_cases d : r = [77, 105, 66]
  · exact Or.inr (Or.inr (Or.inr (Or.inl d)))
  by_cases e : r = [71, 105, 66]
  · exact Or.inr (Or.inr (Or.inr (Or.inr (Or.inl e))))
  by_cases f : r = [84, 105, 66]
  · exact Or.inr (Or.inr (Or.inr (Or.inr (Or.inr (Or.inl f)))))
  refine Or.inr (Or.inr (Or.inr (Or.inr (Or.inr (Or.inr ⟨?_, ?_, ?_, ?_, ?_, ?_, ?_⟩)))))
  · unfold unitF
    rw [if_neg (by simp [a, b]), if_neg c, if_neg d, if_neg e, if_neg f]
  · simpa using a
  all_goals simpa using (by assumption)


set_option maxHeartbeats 8000000 in
theorem Bytes_any (s : ByteArray) (w : World) (hm : s.size ≤ 281474976710656) :
    Calls Tryd.prog 9 #[.string s] w fun e w' => (∃ k, Run s.data.toList k ∧ e = .returned (res (tell (s.data.toList.take k) (s.data.toList.drop k)))) ∧ w = w' := by
  have hz := Lib.hid (size_eq s)
  go_enter Tryd.func9, Tryd.ntmps9
  go_wp2_with fail
  go_loop [4, 5, 6] (fun n f i => ∃ (k : Nat) (a : Int) (fine : Bool), n = .int .u64 a ∧ f = .bool fine ∧ i = .int .i64 k ∧ k ≤ s.size ∧ 0 ≤ a ∧ a ≤ 9223372036854775807 ∧ Hid (St s.data.toList k a fine) ∧ Hid (∀ c ∈ s.data.toList.take k, dig c)) (fun _ _ i => s.size - (intOf i).toNat)
  case atStart => exact ⟨0, 0, true, rfl, rfl, rfl, by omega, by omega, by omega, Or.inl ⟨rfl, rfl⟩, fun c hc => by simp at hc⟩
  case round =>
    obtain ⟨k, a, fine, rfl, rfl, rfl, hk, a0, a1, hst, hdig⟩ := hrel
    by_cases hlt : k < s.size
    · obtain ⟨b, hbe⟩ : ∃ b : Int, b = Bt s k := ⟨_, rfl⟩
      have ik : ∀ w, (Instr.index 9 (.string s) (.int .i64 k)).run Tryd.prog w = .ok (.int .u8 b) w := fun w => by rw [hbe]; exact index_at s k hlt w
      have b1 : b ≤ 255 := by have := Bt_lt s k; omega
      have b0 : 0 ≤ b := by omega
      have HB := Lib.hid hbe
      clear hbe
      by_cases d1 : 48 ≤ b
      · by_cases d2 : b ≤ 57
        · have step : ∀ c ∈ s.data.toList.take (k + 1), dig c := by
            have hl : k < s.data.toList.length := by rw [← hz.out]; exact hlt
            intro c hc
            rw [List.take_succ_eq_append_getElem hl, List.mem_append] at hc
            rcases hc with hc | hc
            · exact hdig.out c hc
            · have e := HB.out
              rw [Bt_list s k hlt] at e
              rw [List.mem_singleton] at hc
              subst hc
              exact ⟨by omega, by omega⟩
          have STEP := Lib.hid step
          clear step
          by_cases q : a * 10 + (b - 48) ≤ 9223372036854775807
          · go_wp2_with fail
            go_round
            case rel =>
              refine ⟨k + 1, a * 10 + (b - 48), fine, rfl, rfl, by go_num, by omega, by omega, by omega, ?_, STEP.out⟩
              exact St_step hst.out (by rw [← hz.out]; exact hlt) (by rw [HB.out, Bt_list s k hlt]) d1 q
            case measure => simp [intOf]; omega
          · go_wp2_with fail
            go_round
            case rel =>
              refine ⟨k + 1, a, false, rfl, rfl, by go_num, by omega, by omega, by omega, ?_, STEP.out⟩
              exact St_over hst.out (by rw [← hz.out]; exact hlt) (by rw [HB.out, Bt_list s k hlt]) d1 (by omega)
            case measure => simp [intOf]; omega
        · have hrun : Run s.data.toList k := ⟨by rw [← hz.out]; exact hk, hdig.out, fun h e => by
            have x := HB.out
            rw [Bt_list s k hlt] at x
            have := e.2
            omega⟩
          by_cases k0 : k = 0
          · have z0 : ((k : Int) == 0) = true := by rw [beq_iff_eq]; omega
            have RN := Lib.hid hrun
            have HT := Lib.hid (show tell (s.data.toList.take k) (s.data.toList.drop k) = none by rw [k0]; rfl)
            clear hrun k0
            go_wp2_with fail
            go_ret2
            exact ⟨⟨k, RN.out, by (rw [HT.out, res_none]) <;> rfl⟩, rfl⟩
          have z0 : ((k : Int) == 0) = false := by rw [beq_eq_false_iff_ne]; omega
          have hne : s.data.toList.take k ≠ [] := by
            intro e
            rcases List.take_eq_nil_iff.1 e with e | e
            · exact k0 e
            · have x := hz.out
              rw [e] at x
              have y : s.size = 0 := x
              omega
          have ht := tail_list s k
          have NE := Lib.hid hne
          have RN := Lib.hid hrun
          clear hne hrun
          rcases unit_ways (s.data.toList.drop k) with hr | hr | hr | hr | hr | hr | ⟨hu, n0, nB, nK, nM, nG, nT⟩
          · have hu : unitF (s.data.toList.drop k) = some 1 := by rw [hr]; rfl
            have e0 : (s.extract k s.size).toList.isEmpty = true := by rw [ht, hr]; rfl
            have HU := Lib.hid hu
            clear hu hr ht
            rcases hst.out with ⟨rfl, ha⟩ | ⟨rfl, ha⟩
            · have HT := Lib.hid (tell_fine NE.out HU.out ha)
              clear ha
              go_wp2_with fail
              refine wp_loop_rounds 1 ?_
              any_goals (rw [rounds_succ]; go_wp2_with fail)
              go_ret2
              exact ⟨⟨k, RN.out, by rw [HT.out, if_pos (by omega), res_some]; exact ret_num (by omega)⟩, rfl⟩
            · have HT := Lib.hid (tell_over (d := s.data.toList.take k) HU.out (by omega) ha)
              clear ha
              go_wp2_with fail
              refine wp_loop_rounds 1 ?_
              any_goals (rw [rounds_succ]; go_wp2_with fail)
              all_goals go_ret2
              all_goals exact ⟨⟨k, RN.out, by (rw [HT.out, res_none]) <;> rfl⟩, rfl⟩
          · have hu : unitF (s.data.toList.drop k) = some 1 := by rw [hr]; rfl
            have e0 : (s.extract k s.size).toList.isEmpty = false := by rw [ht, hr]; rfl
            have eB : ((s.extract k s.size).toList == [66]) = true := by rw [ht, hr]; rfl
            have HU := Lib.hid hu
            clear hu hr ht
            rcases hst.out with ⟨rfl, ha⟩ | ⟨rfl, ha⟩
            · have HT := Lib.hid (tell_fine NE.out HU.out ha)
              clear ha
              go_wp2_with fail
              refine wp_loop_rounds 1 ?_
              any_goals (rw [rounds_succ]; go_wp2_with fail)
              go_ret2
              exact ⟨⟨k, RN.out, by rw [HT.out, if_pos (by omega), res_some]; exact ret_num (by omega)⟩, rfl⟩
            · have HT := Lib.hid (tell_over (d := s.data.toList.take k) HU.out (by omega) ha)
              clear ha
              go_wp2_with fail
              refine wp_loop_rounds 1 ?_
              any_goals (rw [rounds_succ]; go_wp2_with fail)
              all_goals go_ret2
              all_goals exact ⟨⟨k, RN.out, by (rw [HT.out, res_none]) <;> rfl⟩, rfl⟩
          · have hu : unitF (s.data.toList.drop k) = some 1024 := by rw [hr]; rfl
            have e0 : (s.extract k s.size).toList.isEmpty = false := by rw [ht, hr]; rfl
            have eB : ((s.extract k s.size).toList == [66]) = false := by rw [ht, hr]; rfl
            have eK : ((s.extract k s.size).toList == [75, 105, 66]) = true := by rw [ht, hr]; rfl
            have HU := Lib.hid hu
            clear hu hr ht
            rcases hst.out with ⟨rfl, ha⟩ | ⟨rfl, ha⟩
            · have HT := Lib.hid (tell_fine NE.out HU.out ha)
              clear ha
              go_wp2_with fail
              refine wp_loop_rounds 2 ?_
              any_goals (rw [rounds_succ]; go_wp2_with fail)
              any_goals (rw [rounds_succ]; go_wp2_with fail)
              all_goals go_ret2
              all_goals first | exact ⟨⟨k, RN.out, by rw [HT.out, if_pos (by omega), res_some]; exact ret_num (by omega)⟩, rfl⟩ | exact ⟨⟨k, RN.out, by (rw [HT.out, if_neg (by omega), res_none]) <;> rfl⟩, rfl⟩
            · have HT := Lib.hid (tell_over (d := s.data.toList.take k) HU.out (by omega) ha)
              clear ha
              go_wp2_with fail
              refine wp_loop_rounds 2 ?_
              any_goals (rw [rounds_succ]; go_wp2_with fail)
              any_goals (rw [rounds_succ]; go_wp2_with fail)
              all_goals go_ret2
              all_goals exact ⟨⟨k, RN.out, by (rw [HT.out, res_none]) <;> rfl⟩, rfl⟩
          · have hu : unitF (s.data.toList.drop k) = some 1048576 := by rw [hr]; rfl
            have e0 : (s.extract k s.size).toList.isEmpty = false := by rw [ht, hr]; rfl
            have eB : ((s.extract k s.size).toList == [66]) = false := by rw [ht, hr]; rfl
            have eK : ((s.extract k s.size).toList == [75, 105, 66]) = false := by rw [ht, hr]; rfl
            have eM : ((s.extract k s.size).toList == [77, 105, 66]) = true := by rw [ht, hr]; rfl
            have HU := Lib.hid hu
            clear hu hr ht
            rcases hst.out with ⟨rfl, ha⟩ | ⟨rfl, ha⟩
            · have HT := Lib.hid (tell_fine NE.out HU.out ha)
              clear ha
              go_wp2_with fail
              refine wp_loop_rounds 3 ?_
              any_goals (rw [rounds_succ]; go_wp2_with fail)
              any_goals (rw [rounds_succ]; go_wp2_with fail)
              any_goals (rw [rounds_succ]; go_wp2_with fail)
              all_goals go_ret2
              all_goals first | exact ⟨⟨k, RN.out, by rw [HT.out, if_pos (by omega), res_some]; exact ret_num (by omega)⟩, rfl⟩ | exact ⟨⟨k, RN.out, by (rw [HT.out, if_neg (by omega), res_none]) <;> rfl⟩, rfl⟩
            · have HT := Lib.hid (tell_over (d := s.data.toList.take k) HU.out (by omega) ha)
              clear ha
              go_wp2_with fail
              refine wp_loop_rounds 3 ?_
              any_goals (rw [rounds_succ]; go_wp2_with fail)
              any_goals (rw [rounds_succ]; go_wp2_with fail)
              any_goals (rw [rounds_succ]; go_wp2_with fail)
              all_goals go_ret2
              all_goals exact ⟨⟨k, RN.out, by (rw [HT.out, res_none]) <;> rfl⟩, rfl⟩
          · have hu : unitF (s.data.toList.drop k) = some 1073741824 := by rw [hr]; rfl
            have e0 : (s.extract k s.size).toList.isEmpty = false := by rw [ht, hr]; rfl
            have eB : ((s.extract k s.size).toList == [66]) = false := by rw [ht, hr]; rfl
            have eK : ((s.extract k s.size).toList == [75, 105, 66]) = false := by rw [ht, hr]; rfl
            have eM : ((s.extract k s.size).toList == [77, 105, 66]) = false := by rw [ht, hr]; rfl
            have eG : ((s.extract k s.size).toList == [71, 105, 66]) = true := by rw [ht, hr]; rfl
            have HU := Lib.hid hu
            clear hu hr ht
            rcases hst.out with ⟨rfl, ha⟩ | ⟨rfl, ha⟩
            · have HT := Lib.hid (tell_fine NE.out HU.out ha)
              clear ha
              go_wp2_with fail
              refine wp_loop_rounds 4 ?_
              any_goals (rw [rounds_succ]; go_wp2_with fail)
              any_goals (rw [rounds_succ]; go_wp2_with fail)
              any_goals (rw [rounds_succ]; go_wp2_with fail)
              any_goals (rw [rounds_succ]; go_wp2_with fail)
              all_goals go_ret2
              all_goals first | exact ⟨⟨k, RN.out, by rw [HT.out, if_pos (by omega), res_some]; exact ret_num (by omega)⟩, rfl⟩ | exact ⟨⟨k, RN.out, by (rw [HT.out, if_neg (by omega), res_none]) <;> rfl⟩, rfl⟩
            · have HT := Lib.hid (tell_over (d := s.data.toList.take k) HU.out (by omega) ha)
              clear ha
              go_wp2_with fail
              refine wp_loop_rounds 4 ?_
              any_goals (rw [rounds_succ]; go_wp2_with fail)
              any_goals (rw [rounds_succ]; go_wp2_with fail)
              any_goals (rw [rounds_succ]; go_wp2_with fail)
              any_goals (rw [rounds_succ]; go_wp2_with fail)
              all_goals go_ret2
              all_goals exact ⟨⟨k, RN.out, by (rw [HT.out, res_none]) <;> rfl⟩, rfl⟩
          · have hu : unitF (s.data.toList.drop k) = some 1099511627776 := by rw [hr]; rfl
            have e0 : (s.extract k s.size).toList.isEmpty = false := by rw [ht, hr]; rfl
            have eB : ((s.extract k s.size).toList == [66]) = false := by rw [ht, hr]; rfl
            have eK : ((s.extract k s.size).toList == [75, 105, 66]) = false := by rw [ht, hr]; rfl
            have eM : ((s.extract k s.size).toList == [77, 105, 66]) = false := by rw [ht, hr]; rfl
            have eG : ((s.extract k s.size).toList == [71, 105, 66]) = false := by rw [ht, hr]; rfl
            have eT : ((s.extract k s.size).toList == [84, 105, 66]) = true := by rw [ht, hr]; rfl
            have HU := Lib.hid hu
            clear hu hr ht
            rcases hst.out with ⟨rfl, ha⟩ | ⟨rfl, ha⟩
            · have HT := Lib.hid (tell_fine NE.out HU.out ha)
              clear ha
              go_wp2_with fail
              refine wp_loop_rounds 5 ?_
              any_goals (rw [rounds_succ]; go_wp2_with fail)
              any_goals (rw [rounds_succ]; go_wp2_with fail)
              any_goals (rw [rounds_succ]; go_wp2_with fail)
              any_goals (rw [rounds_succ]; go_wp2_with fail)
              any_goals (rw [rounds_succ]; go_wp2_with fail)
              all_goals go_ret2
              all_goals first | exact ⟨⟨k, RN.out, by rw [HT.out, if_pos (by omega), res_some]; exact ret_num (by omega)⟩, rfl⟩ | exact ⟨⟨k, RN.out, by (rw [HT.out, if_neg (by omega), res_none]) <;> rfl⟩, rfl⟩
            · have HT := Lib.hid (tell_over (d := s.data.toList.take k) HU.out (by omega) ha)
              clear ha
              go_wp2_with fail
              refine wp_loop_rounds 5 ?_
              any_goals (rw [rounds_succ]; go_wp2_with fail)
              any_goals (rw [rounds_succ]; go_wp2_with fail)
              any_goals (rw [rounds_succ]; go_wp2_with fail)
              any_goals (rw [rounds_succ]; go_wp2_with fail)
              any_goals (rw [rounds_succ]; go_wp2_with fail)
              all_goals go_ret2
              all_goals exact ⟨⟨k, RN.out, by (rw [HT.out, res_none]) <;> rfl⟩, rfl⟩
          · have HT := Lib.hid (tell_bad (d := s.data.toList.take k) hu)
            rw [← ht] at n0 nB nK nM nG nT
            clear hu ht
            go_wp2_with fail
            go_ret2
            exact ⟨⟨k, RN.out, by (rw [HT.out, res_none]) <;> rfl⟩, rfl⟩
      · have hrun : Run s.data.toList k := ⟨by rw [← hz.out]; exact hk, hdig.out, fun h e => by
          have x := HB.out
          rw [Bt_list s k hlt] at x
          have := e.1
          omega⟩
        by_cases k0 : k = 0
        · have z0 : ((k : Int) == 0) = true := by rw [beq_iff_eq]; omega
          have RN := Lib.hid hrun
          have HT := Lib.hid (show tell (s.data.toList.take k) (s.data.toList.drop k) = none by rw [k0]; rfl)
          clear hrun k0
          go_wp2_with fail
          go_ret2
          exact ⟨⟨k, RN.out, by (rw [HT.out, res_none]) <;> rfl⟩, rfl⟩
        have z0 : ((k : Int) == 0) = false := by rw [beq_eq_false_iff_ne]; omega
        have hne : s.data.toList.take k ≠ [] := by
          intro e
          rcases List.take_eq_nil_iff.1 e with e | e
          · exact k0 e
          · have x := hz.out
            rw [e] at x
            have y : s.size = 0 := x
            omega
        have ht := tail_list s k
        have NE := Lib.hid hne
        have RN := Lib.hid hrun
        clear hne hrun
        rcases unit_ways (s.data.toList.drop k) with hr | hr | hr | hr | hr | hr | ⟨hu, n0, nB, nK, nM, nG, nT⟩
        · have hu : unitF (s.data.toList.drop k) = some 1 := by rw [hr]; rfl
          have e0 : (s.extract k s.size).toList.isEmpty = true := by rw [ht, hr]; rfl
          have HU := Lib.hid hu
          clear hu hr ht
          rcases hst.out with ⟨rfl, ha⟩ | ⟨rfl, ha⟩
          · have HT := Lib.hid (tell_fine NE.out HU.out ha)
            clear ha
            go_wp2_with fail
            refine wp_loop_rounds 1 ?_
            any_goals (rw [rounds_succ]; go_wp2_with fail)
            go_ret2
            exact ⟨⟨k, RN.out, by rw [HT.out, if_pos (by omega), res_some]; exact ret_num (by omega)⟩, rfl⟩
          · have HT := Lib.hid (tell_over (d := s.data.toList.take k) HU.out (by omega) ha)
            clear ha
            go_wp2_with fail
            refine wp_loop_rounds 1 ?_
            any_goals (rw [rounds_succ]; go_wp2_with fail)
            all_goals go_ret2
            all_goals exact ⟨⟨k, RN.out, by (rw [HT.out, res_none]) <;> rfl⟩, rfl⟩
        · have hu : unitF (s.data.toList.drop k) = some 1 := by rw [hr]; rfl
          have e0 : (s.extract k s.size).toList.isEmpty = false := by rw [ht, hr]; rfl
          have eB : ((s.extract k s.size).toList == [66]) = true := by rw [ht, hr]; rfl
          have HU := Lib.hid hu
          clear hu hr ht
          rcases hst.out with ⟨rfl, ha⟩ | ⟨rfl, ha⟩
          · have HT := Lib.hid (tell_fine NE.out HU.out ha)
            clear ha
            go_wp2_with fail
            refine wp_loop_rounds 1 ?_
            any_goals (rw [rounds_succ]; go_wp2_with fail)
            go_ret2
            exact ⟨⟨k, RN.out, by rw [HT.out, if_pos (by omega), res_some]; exact ret_num (by omega)⟩, rfl⟩
          · have HT := Lib.hid (tell_over (d := s.data.toList.take k) HU.out (by omega) ha)
            clear ha
            go_wp2_with fail
            refine wp_loop_rounds 1 ?_
            any_goals (rw [rounds_succ]; go_wp2_with fail)
            all_goals go_ret2
            all_goals exact ⟨⟨k, RN.out, by (rw [HT.out, res_none]) <;> rfl⟩, rfl⟩
        · have hu : unitF (s.data.toList.drop k) = some 1024 := by rw [hr]; rfl
          have e0 : (s.extract k s.size).toList.isEmpty = false := by rw [ht, hr]; rfl
          have eB : ((s.extract k s.size).toList == [66]) = false := by rw [ht, hr]; rfl
          have eK : ((s.extract k s.size).toList == [75, 105, 66]) = true := by rw [ht, hr]; rfl
          have HU := Lib.hid hu
          clear hu hr ht
          rcases hst.out with ⟨rfl, ha⟩ | ⟨rfl, ha⟩
          · have HT := Lib.hid (tell_fine NE.out HU.out ha)
            clear ha
            go_wp2_with fail
            refine wp_loop_rounds 2 ?_
            any_goals (rw [rounds_succ]; go_wp2_with fail)
            any_goals (rw [rounds_succ]; go_wp2_with fail)
            all_goals go_ret2
            all_goals first | exact ⟨⟨k, RN.out, by rw [HT.out, if_pos (by omega), res_some]; exact ret_num (by omega)⟩, rfl⟩ | exact ⟨⟨k, RN.out, by (rw [HT.out, if_neg (by omega), res_none]) <;> rfl⟩, rfl⟩
          · have HT := Lib.hid (tell_over (d := s.data.toList.take k) HU.out (by omega) ha)
            clear ha
            go_wp2_with fail
            refine wp_loop_rounds 2 ?_
            any_goals (rw [rounds_succ]; go_wp2_with fail)
            any_goals (rw [rounds_succ]; go_wp2_with fail)
            all_goals go_ret2
            all_goals exact ⟨⟨k, RN.out, by (rw [HT.out, res_none]) <;> rfl⟩, rfl⟩
        · have hu : unitF (s.data.toList.drop k) = some 1048576 := by rw [hr]; rfl
          have e0 : (s.extract k s.size).toList.isEmpty = false := by rw [ht, hr]; rfl
          have eB : ((s.extract k s.size).toList == [66]) = false := by rw [ht, hr]; rfl
          have eK : ((s.extract k s.size).toList == [75, 105, 66]) = false := by rw [ht, hr]; rfl
          have eM : ((s.extract k s.size).toList == [77, 105, 66]) = true := by rw [ht, hr]; rfl
          have HU := Lib.hid hu
          clear hu hr ht
          rcases hst.out with ⟨rfl, ha⟩ | ⟨rfl, ha⟩
          · have HT := Lib.hid (tell_fine NE.out HU.out ha)
            clear ha
            go_wp2_with fail
            refine wp_loop_rounds 3 ?_
            any_goals (rw [rounds_succ]; go_wp2_with fail)
            any_goals (rw [rounds_succ]; go_wp2_with fail)
            any_goals (rw [rounds_succ]; go_wp2_with fail)
            all_goals go_ret2
            all_goals first | exact ⟨⟨k, RN.out, by rw [HT.out, if_pos (by omega), res_some]; exact ret_num (by omega)⟩, rfl⟩ | exact ⟨⟨k, RN.out, by (rw [HT.out, if_neg (by omega), res_none]) <;> rfl⟩, rfl⟩
          · have HT := Lib.hid (tell_over (d := s.data.toList.take k) HU.out (by omega) ha)
            clear ha
            go_wp2_with fail
            refine wp_loop_rounds 3 ?_
            any_goals (rw [rounds_succ]; go_wp2_with fail)
            any_goals (rw [rounds_succ]; go_wp2_with fail)
            any_goals (rw [rounds_succ]; go_wp2_with fail)
            all_goals go_ret2
            all_goals exact ⟨⟨k, RN.out, by (rw [HT.out, res_none]) <;> rfl⟩, rfl⟩
        · have hu : unitF (s.data.toList.drop k) = some 1073741824 := by rw [hr]; rfl
          have e0 : (s.extract k s.size).toList.isEmpty = false := by rw [ht, hr]; rfl
          have eB : ((s.extract k s.size).toList == [66]) = false := by rw [ht, hr]; rfl
          have eK : ((s.extract k s.size).toList == [75, 105, 66]) = false := by rw [ht, hr]; rfl
          have eM : ((s.extract k s.size).toList == [77, 105, 66]) = false := by rw [ht, hr]; rfl
          have eG : ((s.extract k s.size).toList == [71, 105, 66]) = true := by rw [ht, hr]; rfl
          have HU := Lib.hid hu
          clear hu hr ht
          rcases hst.out with ⟨rfl, ha⟩ | ⟨rfl, ha⟩
          · have HT := Lib.hid (tell_fine NE.out HU.out ha)
            clear ha
            go_wp2_with fail
            refine wp_loop_rounds 4 ?_
            any_goals (rw [rounds_succ]; go_wp2_with fail)
            any_goals (rw [rounds_succ]; go_wp2_with fail)
            any_goals (rw [rounds_succ]; go_wp2_with fail)
            any_goals (rw [rounds_succ]; go_wp2_with fail)
            all_goals go_ret2
            all_goals first | exact ⟨⟨k, RN.out, by rw [HT.out, if_pos (by omega), res_some]; exact ret_num (by omega)⟩, rfl⟩ | exact ⟨⟨k, RN.out, by (rw [HT.out, if_neg (by omega), res_none]) <;> rfl⟩, rfl⟩
          · have HT := Lib.hid (tell_over (d := s.data.toList.take k) HU.out (by omega) ha)
            clear ha
            go_wp2_with fail
            refine wp_loop_rounds 4 ?_
            any_goals (rw [rounds_succ]; go_wp2_with fail)
            any_goals (rw [rounds_succ]; go_wp2_with fail)
            any_goals (rw [rounds_succ]; go_wp2_with fail)
            any_goals (rw [rounds_succ]; go_wp2_with fail)
            all_goals go_ret2
            all_goals exact ⟨⟨k, RN.out, by (rw [HT.out, res_none]) <;> rfl⟩, rfl⟩
        · have hu : unitF (s.data.toList.drop k) = some 1099511627776 := by rw [hr]; rfl
          have e0 : (s.extract k s.size).toList.isEmpty = false := by rw [ht, hr]; rfl
          have eB : ((s.extract k s.size).toList == [66]) = false := by rw [ht, hr]; rfl
          have eK : ((s.extract k s.size).toList == [75, 105, 66]) = false := by rw [ht, hr]; rfl
          have eM : ((s.extract k s.size).toList == [77, 105, 66]) = false := by rw [ht, hr]; rfl
          have eG : ((s.extract k s.size).toList == [71, 105, 66]) = false := by rw [ht, hr]; rfl
          have eT : ((s.extract k s.size).toList == [84, 105, 66]) = true := by rw [ht, hr]; rfl
          have HU := Lib.hid hu
          clear hu hr ht
          rcases hst.out with ⟨rfl, ha⟩ | ⟨rfl, ha⟩
          · have HT := Lib.hid (tell_fine NE.out HU.out ha)
            clear ha
            go_wp2_with fail
            refine wp_loop_rounds 5 ?_
            any_goals (rw [rounds_succ]; go_wp2_with fail)
            any_goals (rw [rounds_succ]; go_wp2_with fail)
            any_goals (rw [rounds_succ]; go_wp2_with fail)
            any_goals (rw [rounds_succ]; go_wp2_with fail)
            any_goals (rw [rounds_succ]; go_wp2_with fail)
            all_goals go_ret2
            all_goals first | exact ⟨⟨k, RN.out, by rw [HT.out, if_pos (by omega), res_some]; exact ret_num (by omega)⟩, rfl⟩ | exact ⟨⟨k, RN.out, by (rw [HT.out, if_neg (by omega), res_none]) <;> rfl⟩, rfl⟩
          · have HT := Lib.hid (tell_over (d := s.data.toList.take k) HU.out (by omega) ha)
            clear ha
            go_wp2_with fail
            refine wp_loop_rounds 5 ?_
            any_goals (rw [rounds_succ]; go_wp2_with fail)
            any_goals (rw [rounds_succ]; go_wp2_with fail)
            any_goals (rw [rounds_succ]; go_wp2_with fail)
            any_goals (rw [rounds_succ]; go_wp2_with fail)
            any_goals (rw [rounds_succ]; go_wp2_with fail)
            all_goals go_ret2
            all_goals exact ⟨⟨k, RN.out, by (rw [HT.out, res_none]) <;> rfl⟩, rfl⟩
        · have HT := Lib.hid (tell_bad (d := s.data.toList.take k) hu)
          rw [← ht] at n0 nB nK nM nG nT
          clear hu ht
          go_wp2_with fail
          go_ret2
          exact ⟨⟨k, RN.out, by (rw [HT.out, res_none]) <;> rfl⟩, rfl⟩
    · have hrun : Run s.data.toList k := ⟨by rw [← hz.out]; exact hk, hdig.out, fun h e => by
        rw [← hz.out] at h
        exact hlt h⟩
      by_cases k0 : k = 0
      · have z0 : ((k : Int) == 0) = true := by rw [beq_iff_eq]; omega
        have RN := Lib.hid hrun
        have HT := Lib.hid (show tell (s.data.toList.take k) (s.data.toList.drop k) = none by rw [k0]; rfl)
        clear hrun k0
        go_wp2_with fail
        go_ret2
        exact ⟨⟨k, RN.out, by (rw [HT.out, res_none]) <;> rfl⟩, rfl⟩
      have z0 : ((k : Int) == 0) = false := by rw [beq_eq_false_iff_ne]; omega
      have hne : s.data.toList.take k ≠ [] := by
        intro e
        rcases List.take_eq_nil_iff.1 e with e | e
        · exact k0 e
        · have x := hz.out
          rw [e] at x
          have y : s.size = 0 := x
          omega
      have ht := tail_list s k
      have NE := Lib.hid hne
      have RN := Lib.hid hrun
      clear hne hrun
      rcases unit_ways (s.data.toList.drop k) with hr | hr | hr | hr | hr | hr | ⟨hu, n0, nB, nK, nM, nG, nT⟩
      · have hu : unitF (s.data.toList.drop k) = some 1 := by rw [hr]; rfl
        have e0 : (s.extract k s.size).toList.isEmpty = true := by rw [ht, hr]; rfl
        have HU := Lib.hid hu
        clear hu hr ht
        rcases hst.out with ⟨rfl, ha⟩ | ⟨rfl, ha⟩
        · have HT := Lib.hid (tell_fine NE.out HU.out ha)
          clear ha
          go_wp2_with fail
          refine wp_loop_rounds 1 ?_
          any_goals (rw [rounds_succ]; go_wp2_with fail)
          go_ret2
          exact ⟨⟨k, RN.out, by rw [HT.out, if_pos (by omega), res_some]; exact ret_num (by omega)⟩, rfl⟩
        · have HT := Lib.hid (tell_over (d := s.data.toList.take k) HU.out (by omega) ha)
          clear ha
          go_wp2_with fail
          refine wp_loop_rounds 1 ?_
          any_goals (rw [rounds_succ]; go_wp2_with fail)
          all_goals go_ret2
          all_goals exact ⟨⟨k, RN.out, by (rw [HT.out, res_none]) <;> rfl⟩, rfl⟩
      · have hu : unitF (s.data.toList.drop k) = some 1 := by rw [hr]; rfl
        have e0 : (s.extract k s.size).toList.isEmpty = false := by rw [ht, hr]; rfl
        have eB : ((s.extract k s.size).toList == [66]) = true := by rw [ht, hr]; rfl
        have HU := Lib.hid hu
        clear hu hr ht
        rcases hst.out with ⟨rfl, ha⟩ | ⟨rfl, ha⟩
        · have HT := Lib.hid (tell_fine NE.out HU.out ha)
          clear ha
          go_wp2_with fail
          refine wp_loop_rounds 1 ?_
          any_goals (rw [rounds_succ]; go_wp2_with fail)
          go_ret2
          exact ⟨⟨k, RN.out, by rw [HT.out, if_pos (by omega), res_some]; exact ret_num (by omega)⟩, rfl⟩
        · have HT := Lib.hid (tell_over (d := s.data.toList.take k) HU.out (by omega) ha)
          clear ha
          go_wp2_with fail
          refine wp_loop_rounds 1 ?_
          any_goals (rw [rounds_succ]; go_wp2_with fail)
          all_goals go_ret2
          all_goals exact ⟨⟨k, RN.out, by (rw [HT.out, res_none]) <;> rfl⟩, rfl⟩
      · have hu : unitF (s.data.toList.drop k) = some 1024 := by rw [hr]; rfl
        have e0 : (s.extract k s.size).toList.isEmpty = false := by rw [ht, hr]; rfl
        have eB : ((s.extract k s.size).toList == [66]) = false := by rw [ht, hr]; rfl
        have eK : ((s.extract k s.size).toList == [75, 105, 66]) = true := by rw [ht, hr]; rfl
        have HU := Lib.hid hu
        clear hu hr ht
        rcases hst.out with ⟨rfl, ha⟩ | ⟨rfl, ha⟩
        · have HT := Lib.hid (tell_fine NE.out HU.out ha)
          clear ha
          go_wp2_with fail
          refine wp_loop_rounds 2 ?_
          any_goals (rw [rounds_succ]; go_wp2_with fail)
          any_goals (rw [rounds_succ]; go_wp2_with fail)
          all_goals go_ret2
          all_goals first | exact ⟨⟨k, RN.out, by rw [HT.out, if_pos (by omega), res_some]; exact ret_num (by omega)⟩, rfl⟩ | exact ⟨⟨k, RN.out, by (rw [HT.out, if_neg (by omega), res_none]) <;> rfl⟩, rfl⟩
        · have HT := Lib.hid (tell_over (d := s.data.toList.take k) HU.out (by omega) ha)
          clear ha
          go_wp2_with fail
          refine wp_loop_rounds 2 ?_
          any_goals (rw [rounds_succ]; go_wp2_with fail)
          any_goals (rw [rounds_succ]; go_wp2_with fail)
          all_goals go_ret2
          all_goals exact ⟨⟨k, RN.out, by (rw [HT.out, res_none]) <;> rfl⟩, rfl⟩
      · have hu : unitF (s.data.toList.drop k) = some 1048576 := by rw [hr]; rfl
        have e0 : (s.extract k s.size).toList.isEmpty = false := by rw [ht, hr]; rfl
        have eB : ((s.extract k s.size).toList == [66]) = false := by rw [ht, hr]; rfl
        have eK : ((s.extract k s.size).toList == [75, 105, 66]) = false := by rw [ht, hr]; rfl
        have eM : ((s.extract k s.size).toList == [77, 105, 66]) = true := by rw [ht, hr]; rfl
        have HU := Lib.hid hu
        clear hu hr ht
        rcases hst.out with ⟨rfl, ha⟩ | ⟨rfl, ha⟩
        · have HT := Lib.hid (tell_fine NE.out HU.out ha)
          clear ha
          go_wp2_with fail
          refine wp_loop_rounds 3 ?_
          any_goals (rw [rounds_succ]; go_wp2_with fail)
          any_goals (rw [rounds_succ]; go_wp2_with fail)
          any_goals (rw [rounds_succ]; go_wp2_with fail)
          all_goals go_ret2
          all_goals first | exact ⟨⟨k, RN.out, by rw [HT.out, if_pos (by omega), res_some]; exact ret_num (by omega)⟩, rfl⟩ | exact ⟨⟨k, RN.out, by (rw [HT.out, if_neg (by omega), res_none]) <;> rfl⟩, rfl⟩
        · have HT := Lib.hid (tell_over (d := s.data.toList.take k) HU.out (by omega) ha)
          clear ha
          go_wp2_with fail
          refine wp_loop_rounds 3 ?_
          any_goals (rw [rounds_succ]; go_wp2_with fail)
          any_goals (rw [rounds_succ]; go_wp2_with fail)
          any_goals (rw [rounds_succ]; go_wp2_with fail)
          all_goals go_ret2
          all_goals exact ⟨⟨k, RN.out, by (rw [HT.out, res_none]) <;> rfl⟩, rfl⟩
      · have hu : unitF (s.data.toList.drop k) = some 1073741824 := by rw [hr]; rfl
        have e0 : (s.extract k s.size).toList.isEmpty = false := by rw [ht, hr]; rfl
        have eB : ((s.extract k s.size).toList == [66]) = false := by rw [ht, hr]; rfl
        have eK : ((s.extract k s.size).toList == [75, 105, 66]) = false := by rw [ht, hr]; rfl
        have eM : ((s.extract k s.size).toList == [77, 105, 66]) = false := by rw [ht, hr]; rfl
        have eG : ((s.extract k s.size).toList == [71, 105, 66]) = true := by rw [ht, hr]; rfl
        have HU := Lib.hid hu
        clear hu hr ht
        rcases hst.out with ⟨rfl, ha⟩ | ⟨rfl, ha⟩
        · have HT := Lib.hid (tell_fine NE.out HU.out ha)
          clear ha
          go_wp2_with fail
          refine wp_loop_rounds 4 ?_
          any_goals (rw [rounds_succ]; go_wp2_with fail)
          any_goals (rw [rounds_succ]; go_wp2_with fail)
          any_goals (rw [rounds_succ]; go_wp2_with fail)
          any_goals (rw [rounds_succ]; go_wp2_with fail)
          all_goals go_ret2
          all_goals first | exact ⟨⟨k, RN.out, by rw [HT.out, if_pos (by omega), res_some]; exact ret_num (by omega)⟩, rfl⟩ | exact ⟨⟨k, RN.out, by (rw [HT.out, if_neg (by omega), res_none]) <;> rfl⟩, rfl⟩
        · have HT := Lib.hid (tell_over (d := s.data.toList.take k) HU.out (by omega) ha)
          clear ha
          go_wp2_with fail
          refine wp_loop_rounds 4 ?_
          any_goals (rw [rounds_succ]; go_wp2_with fail)
          any_goals (rw [rounds_succ]; go_wp2_with fail)
          any_goals (rw [rounds_succ]; go_wp2_with fail)
          any_goals (rw [rounds_succ]; go_wp2_with fail)
          all_goals go_ret2
          all_goals exact ⟨⟨k, RN.out, by (rw [HT.out, res_none]) <;> rfl⟩, rfl⟩
      · have hu : unitF (s.data.toList.drop k) = some 1099511627776 := by rw [hr]; rfl
        have e0 : (s.extract k s.size).toList.isEmpty = false := by rw [ht, hr]; rfl
        have eB : ((s.extract k s.size).toList == [66]) = false := by rw [ht, hr]; rfl
        have eK : ((s.extract k s.size).toList == [75, 105, 66]) = false := by rw [ht, hr]; rfl
        have eM : ((s.extract k s.size).toList == [77, 105, 66]) = false := by rw [ht, hr]; rfl
        have eG : ((s.extract k s.size).toList == [71, 105, 66]) = false := by rw [ht, hr]; rfl
        have eT : ((s.extract k s.size).toList == [84, 105, 66]) = true := by rw [ht, hr]; rfl
        have HU := Lib.hid hu
        clear hu hr ht
        rcases hst.out with ⟨rfl, ha⟩ | ⟨rfl, ha⟩
        · have HT := Lib.hid (tell_fine NE.out HU.out ha)
          clear ha
          go_wp2_with fail
          refine wp_loop_rounds 5 ?_
          any_goals (rw [rounds_succ]; go_wp2_with fail)
          any_goals (rw [rounds_succ]; go_wp2_with fail)
          any_goals (rw [rounds_succ]; go_wp2_with fail)
          any_goals (rw [rounds_succ]; go_wp2_with fail)
          any_goals (rw [rounds_succ]; go_wp2_with fail)
          all_goals go_ret2
          all_goals first | exact ⟨⟨k, RN.out, by rw [HT.out, if_pos (by omega), res_some]; exact ret_num (by omega)⟩, rfl⟩ | exact ⟨⟨k, RN.out, by (rw [HT.out, if_neg (by omega), res_none]) <;> rfl⟩, rfl⟩
        · have HT := Lib.hid (tell_over (d := s.data.toList.take k) HU.out (by omega) ha)
          clear ha
          go_wp2_with fail
          refine wp_loop_rounds 5 ?_
          any_goals (rw [rounds_succ]; go_wp2_with fail)
          any_goals (rw [rounds_succ]; go_wp2_with fail)
          any_goals (rw [rounds_succ]; go_wp2_with fail)
          any_goals (rw [rounds_succ]; go_wp2_with fail)
          any_goals (rw [rounds_succ]; go_wp2_with fail)
          all_goals go_ret2
          all_goals exact ⟨⟨k, RN.out, by (rw [HT.out, res_none]) <;> rfl⟩, rfl⟩
      · have HT := Lib.hid (tell_bad (d := s.data.toList.take k) hu)
        rw [← ht] at n0 nB nK nM nG nT
        clear hu ht
        go_wp2_with fail
        go_ret2
        exact ⟨⟨k, RN.out, by (rw [HT.out, res_none]) <;> rfl⟩, rfl⟩

end Go.Proofs.YtbmihohogoblnaaDoor
