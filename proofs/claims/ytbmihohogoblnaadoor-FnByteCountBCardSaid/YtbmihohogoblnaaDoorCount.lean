/- ParseByteCount returns what the plain function pbc computes, for every text of at most 2^48 bytes; nothing that was there turns. The condition: the two error variables of strconv hold an interface value each. -/
import Derived.Test.YtbmihohogoblnaaDoorWalks
namespace Go.Proofs.YtbmihohogoblnaaDoor
open Go.ChangeShapes Go.WideShapes Go.ChangeAt Go.RowKit
set_option linter.unusedVariables false

/-- The two results that an optional number stands for. -/
def res (r : Option Int) : Value := .tuple #[.int .i64 (r.getD 0), .bool r.isSome]
theorem index_end (s : ByteArray) (k : Nat) (h : k ≤ s.size) (hk : 1 ≤ k) (w : World) : (Instr.index 9 (.string s) (.int .i64 ((s.size : Int) - (k : Int)))).run Tryd.prog w = .ok (.int .u8 (Bt s (s.size - k))) w := by
  have e := index_at s (s.size - k) (by omega) w
  rw [Int.ofNat_sub h] at e
  exact e
theorem of_res {f : Nat} {args : Array Value} {w : World} {v : Int} {b : Bool} {r : Option Int} (hr : res r = .tuple #[.int .i64 v, .bool b]) (h : Calls Tryd.prog f args w fun e w' => e = .returned (.tuple #[.int .i64 v, .bool b]) ∧ Below w.heap.size w w') :
    Calls Tryd.prog f args w fun e w' => e = .returned (res r) ∧ Below w.heap.size w w' := by
  rw [hr]; exact h

theorem parse_any (s : ByteArray) (w : World) (hE : Errs w) (hm : s.size ≤ 281474976710656) :
    Calls Tryd.prog 11 #[.string s] w fun e w' => e = .returned (res (pbc s)) ∧ Below w.heap.size w w' := by
  by_cases h0 : s.size = 0
  · have es : s = ⟨#[]⟩ := by
      obtain ⟨⟨l⟩⟩ := s
      cases l with
      | nil => rfl
      | cons a l => exact absurd h0 (by simp [ByteArray.size])
    subst es
    refine (p_empty w).mono ?_
    rintro e w' ⟨rfl, rfl⟩
    exact ⟨rfl, Below.refl _ _⟩
  have he := not_empty s (by omega)
  have i1 : ∀ w, (Instr.index 9 (.string s) (.int .i64 ((s.size : Int) - 1))).run Tryd.prog w = .ok (.int .u8 (Bt s (s.size - 1))) w := fun w => index_end s 1 (by omega) (by omega) w
  have i2 : 2 ≤ s.size → ∀ w, (Instr.index 9 (.string s) (.int .i64 ((s.size : Int) - 2))).run Tryd.prog w = .ok (.int .u8 (Bt s (s.size - 2))) w := fun h w => index_end s 2 h (by omega) w
  have i3 : 3 ≤ s.size → ∀ w, (Instr.index 9 (.string s) (.int .i64 ((s.size : Int) - 3))).run Tryd.prog w = .ok (.int .u8 (Bt s (s.size - 3))) w := fun h w => index_end s 3 h (by omega) w
  have l1 := Bt_lt s (s.size - 1)
  have l2 := Bt_lt s (s.size - 2)
  have l3 := Bt_lt s (s.size - 3)
  have hd : pbc s = if 48 ≤ Bt s (s.size - 1) ∧ Bt s (s.size - 1) ≤ 57 then num s.data.toList
      else if Bt s (s.size - 1) ≠ 66 ∨ s.size < 2 then none
      else if 48 ≤ Bt s (s.size - 2) ∧ Bt s (s.size - 2) ≤ 57 then num (s.extract 0 (s.size - 1)).data.toList
      else if Bt s (s.size - 2) ≠ 105 then none
      else if s.size < 4 then none
      else match factor (Bt s (s.size - 3)) with
        | none => none
        | some f => scaled f (num (s.extract 0 (s.size - 3)).data.toList) := by
    unfold pbc
    rw [if_neg h0]
    rfl
  rw [hd]
  clear hd
  generalize Bt s (s.size - 1) = c1 at *
  generalize Bt s (s.size - 2) = c2 at *
  generalize Bt s (s.size - 3) = c3 at *
  by_cases a1 : 48 ≤ c1 ∧ c1 ≤ 57
  · rw [if_pos a1]
    cases hn : num s.data.toList with
    | some v =>
      obtain ⟨hr, hv⟩ := num_some hn
      exact of_res rfl (p_num s w he (by omega) hm c1 i1 (by omega) (by omega) v hv hr)
    | none =>
      rcases num_none hn with hr | ⟨v, hr, hv⟩
      · exact of_res rfl (p_num_none s w hE he (by omega) hm c1 i1 (by omega) (by omega) hr)
      · exact of_res rfl (p_num_neg s w he (by omega) hm c1 i1 (by omega) (by omega) v hv hr)
  rw [if_neg a1]
  by_cases a2 : ¬ c1 = 66
  · rw [if_pos (Or.inl a2)]
    have hn : ((c1 : Int) != 66) = true := by rw [bne_iff_ne]; omega
    by_cases d : c1 < 48
    · exact of_res rfl (p_last_lo s w he (by omega) hm c1 i1 (by omega) (by omega) hn)
    · exact of_res rfl (p_last_hi s w he (by omega) hm c1 i1 (by omega) (by omega) hn)
  obtain rfl : c1 = 66 := by omega
  by_cases a3 : s.size < 2
  · rw [if_pos (Or.inr a3)]
    exact of_res rfl (p_short s w he (by omega) hm i1 (by omega))
  rw [if_neg (by omega)]
  have j2 := i2 (by omega)
  by_cases b1 : 48 ≤ c2 ∧ c2 ≤ 57
  · rw [if_pos b1]
    cases hn : num (s.extract 0 (s.size - 1)).data.toList with
    | some v =>
      obtain ⟨hr, hv⟩ := num_some hn
      exact of_res rfl (p_B s w he (by omega) hm c2 i1 j2 (by omega) (by omega) (by omega) v hv hr)
    | none =>
      rcases num_none hn with hr | ⟨v, hr, hv⟩
      · exact of_res rfl (p_B_none s w hE he (by omega) hm c2 i1 j2 (by omega) (by omega) (by omega) hr)
      · exact of_res rfl (p_B_neg s w he (by omega) hm c2 i1 j2 (by omega) (by omega) (by omega) v hv hr)
  rw [if_neg b1]
  by_cases b2 : ¬ c2 = 105
  · rw [if_pos b2]
    have hn : ((c2 : Int) != 105) = true := by rw [bne_iff_ne]; omega
    by_cases d : c2 < 48
    · exact of_res rfl (p_second_lo s w he (by omega) hm c2 i1 j2 (by omega) (by omega) (by omega) hn)
    · exact of_res rfl (p_second_hi s w he (by omega) hm c2 i1 j2 (by omega) (by omega) (by omega) hn)
  obtain rfl : c2 = 105 := by omega
  rw [if_neg (by simp)]
  by_cases b3 : s.size < 4
  · rw [if_pos b3]
    exact of_res rfl (p_less4 s w he (by omega) hm i1 j2 (by omega) (by omega))
  rw [if_neg b3]
  have j3 := i3 (by omega)
  by_cases k75 : c3 = 75
  · subst k75
    rw [show factor 75 = some 1024 from rfl]
    show Calls Tryd.prog 11 #[.string s] w fun e w' => e = .returned (res (scaled 1024 (num (s.extract 0 (s.size - 3)).data.toList))) ∧ Below w.heap.size w w'
    cases hn : num (s.extract 0 (s.size - 3)).data.toList with
    | some v =>
      obtain ⟨hr, hv⟩ := num_some hn
      have hb := Read_bd hr
      unfold scaled
      by_cases q : v * 1024 ≤ 9223372036854775807
      · simp only [if_pos q]
        exact of_res rfl (p_K s w he (by omega) hm i1 j2 j3 (by omega) v hv q hr)
      · simp only [if_neg q]
        by_cases o : 18014398509481983 < v
        · exact of_res rfl (p_K_over s w he (by omega) hm i1 j2 j3 (by omega) v o hb hr)
        · exact of_res rfl (p_K_big s w he (by omega) hm i1 j2 j3 (by omega) v (by omega) (by omega) hr)
    | none =>
      rcases num_none hn with hr | ⟨v, hr, hv⟩
      · exact of_res rfl (p_K_none s w hE he (by omega) hm i1 j2 j3 (by omega) hr)
      · exact of_res rfl (p_K_neg s w he (by omega) hm i1 j2 j3 (by omega) v hv hr)
  by_cases k77 : c3 = 77
  · subst k77
    rw [show factor 77 = some 1048576 from rfl]
    show Calls Tryd.prog 11 #[.string s] w fun e w' => e = .returned (res (scaled 1048576 (num (s.extract 0 (s.size - 3)).data.toList))) ∧ Below w.heap.size w w'
    cases hn : num (s.extract 0 (s.size - 3)).data.toList with
    | some v =>
      obtain ⟨hr, hv⟩ := num_some hn
      have hb := Read_bd hr
      unfold scaled
      by_cases q : v * 1048576 ≤ 9223372036854775807
      · simp only [if_pos q]
        exact of_res rfl (p_M s w he (by omega) hm i1 j2 j3 (by omega) v hv q hr)
      · simp only [if_neg q]
        by_cases o : 17592186044415 < v
        · exact of_res rfl (p_M_over s w he (by omega) hm i1 j2 j3 (by omega) v o hb hr)
        · exact of_res rfl (p_M_big s w he (by omega) hm i1 j2 j3 (by omega) v (by omega) (by omega) hr)
    | none =>
      rcases num_none hn with hr | ⟨v, hr, hv⟩
      · exact of_res rfl (p_M_none s w hE he (by omega) hm i1 j2 j3 (by omega) hr)
      · exact of_res rfl (p_M_neg s w he (by omega) hm i1 j2 j3 (by omega) v hv hr)
  by_cases k71 : c3 = 71
  · subst k71
    rw [show factor 71 = some 1073741824 from rfl]
    show Calls Tryd.prog 11 #[.string s] w fun e w' => e = .returned (res (scaled 1073741824 (num (s.extract 0 (s.size - 3)).data.toList))) ∧ Below w.heap.size w w'
    cases hn : num (s.extract 0 (s.size - 3)).data.toList with
    | some v =>
      obtain ⟨hr, hv⟩ := num_some hn
      have hb := Read_bd hr
      unfold scaled
      by_cases q : v * 1073741824 ≤ 9223372036854775807
      · simp only [if_pos q]
        exact of_res rfl (p_G s w he (by omega) hm i1 j2 j3 (by omega) v hv q hr)
      · simp only [if_neg q]
        by_cases o : 17179869183 < v
        · exact of_res rfl (p_G_over s w he (by omega) hm i1 j2 j3 (by omega) v o hb hr)
        · exact of_res rfl (p_G_big s w he (by omega) hm i1 j2 j3 (by omega) v (by omega) (by omega) hr)
    | none =>
      rcases num_none hn with hr | ⟨v, hr, hv⟩
      · exact of_res rfl (p_G_none s w hE he (by omega) hm i1 j2 j3 (by omega) hr)
      · exact of_res rfl (p_G_neg s w he (by omega) hm i1 j2 j3 (by omega) v hv hr)
  by_cases k84 : c3 = 84
  · subst k84
    rw [show factor 84 = some 1099511627776 from rfl]
    show Calls Tryd.prog 11 #[.string s] w fun e w' => e = .returned (res (scaled 1099511627776 (num (s.extract 0 (s.size - 3)).data.toList))) ∧ Below w.heap.size w w'
    cases hn : num (s.extract 0 (s.size - 3)).data.toList with
    | some v =>
      obtain ⟨hr, hv⟩ := num_some hn
      have hb := Read_bd hr
      unfold scaled
      by_cases q : v * 1099511627776 ≤ 9223372036854775807
      · simp only [if_pos q]
        exact of_res rfl (p_T s w he (by omega) hm i1 j2 j3 (by omega) v hv q hr)
      · simp only [if_neg q]
        by_cases o : 16777215 < v
        · exact of_res rfl (p_T_over s w he (by omega) hm i1 j2 j3 (by omega) v o hb hr)
        · exact of_res rfl (p_T_big s w he (by omega) hm i1 j2 j3 (by omega) v (by omega) (by omega) hr)
    | none =>
      rcases num_none hn with hr | ⟨v, hr, hv⟩
      · exact of_res rfl (p_T_none s w hE he (by omega) hm i1 j2 j3 (by omega) hr)
      · exact of_res rfl (p_T_neg s w he (by omega) hm i1 j2 j3 (by omega) v hv hr)
  · have f0 : factor c3 = none := by unfold factor; rw [if_neg k75, if_neg k77, if_neg k71, if_neg k84]
    rw [f0]
    have n1 : ((c3 : Int) == 75) = false := by rw [beq_eq_false_iff_ne]; omega
    have n2 : ((c3 : Int) == 77) = false := by rw [beq_eq_false_iff_ne]; omega
    have n3 : ((c3 : Int) == 71) = false := by rw [beq_eq_false_iff_ne]; omega
    have n4 : ((c3 : Int) == 84) = false := by rw [beq_eq_false_iff_ne]; omega
    exact of_res rfl (p_nounit s w he (by omega) hm c3 i1 j2 j3 (by omega) (by omega) (by omega) n1 n2 n3 n4)

/-- impl.ParseByteCount. -/
theorem ParseByteCount (s : ByteArray) (w : World) (hE : Errs w) (hm : s.size ≤ 281474976710656) :
    Calls Tryd.prog 7 #[.string s] w fun e w' => e = .returned (res (pbc s)) ∧ Below w.heap.size w w' := by
  have h10 : ∀ w0 : World, Errs w0 → Calls Tryd.prog 10 #[.string s] w0 fun e w' => e = .returned (res (pbc s)) ∧ Below w0.heap.size w0 w' := by
    intro w0 h0
    have hp := parse_any s w0 h0 hm
    unfold res at hp ⊢
    generalize (pbc s).getD 0 = v at *
    generalize (pbc s).isSome = b at *
    have HP := Lib.hid hp
    clear hp
    go_enter Tryd.func10, Tryd.ntmps10
    go_wp2_with fail
    refine HP.out.mono ?_
    rintro e w' ⟨rfl, hb⟩
    go_wp2_with fail
    go_ret2
    exact ⟨rfl, hb⟩
  have hp := h10 w hE
  clear h10
  unfold res at hp ⊢
  generalize (pbc s).getD 0 = v at *
  generalize (pbc s).isSome = b at *
  have HP := Lib.hid hp
  clear hp
  go_enter Tryd.func7, Tryd.ntmps7
  go_wp2_with fail
  refine HP.out.mono ?_
  rintro e w' ⟨rfl, hb⟩
  go_wp2_with fail
  go_ret2
  exact ⟨rfl, hb⟩

theorem counts (w : World) (hE : Errs w) : Calls Tryd.prog 6 #[] w fun e w' => e = .returned (.bool true) ∧ Below w.heap.size w w' := by
  have h := ParseByteCount ⟨#[50, 75, 105, 66]⟩ w hE (by decide)
  rw [show pbc ⟨#[50, 75, 105, 66]⟩ = some 2048 by decide +kernel] at h
  have H := Lib.hid (show Calls Tryd.prog 7 #[.string ⟨#[50, 75, 105, 66]⟩] w fun e w' => e = .returned (.tuple #[.int .i64 2048, .bool true]) ∧ Below w.heap.size w w' from h)
  clear h
  go_enter Tryd.func6, Tryd.ntmps6
  go_wp2_with fail
  refine H.out.mono ?_
  rintro e w' ⟨rfl, hb⟩
  go_wp2_with fail
  go_ret
  exact ⟨rfl, hb⟩
end Go.Proofs.YtbmihohogoblnaaDoor
