/- Of ParseByteCount and the reference, plain: what the digits in front and the unit behind them tell; that the two agree on every text that does not begin with a sign; that B changes nothing; that a unit is 1024 times the one before. No program in sight. -/
import Derived.Test.YtbmihohogoblnaaDoorPlain
namespace Go.Proofs.YtbmihohogoblnaaDoor
abbrev dig (c : UInt8) : Prop := 48 ≤ c.toNat ∧ c.toNat ≤ 57
def valFrom (a : Nat) (l : List UInt8) : Nat := l.foldl (fun a c => a * 10 + (c.toNat - 48)) a
theorem valFrom_ge (l : List UInt8) : ∀ a, a ≤ valFrom a l := by
  induction l with
  | nil => intro a; exact Nat.le_refl _
  | cons c r ih =>
    intro a
    have := ih (a * 10 + (c.toNat - 48))
    show a ≤ valFrom (a * 10 + (c.toNat - 48)) r
    omega
theorem parseM_fits (l : List UInt8) : ∀ a, (∀ c ∈ l, dig c) → valFrom a l ≤ 18446744073709551615 → Lib.parseUintM 18446744073709551615 a l = .ok (valFrom a l) := by
  induction l with
  | nil => intro a _ _; rfl
  | cons c r ih =>
    intro a hd hv
    have hc := hd c (by simp)
    have hg := valFrom_ge r (a * 10 + (c.toNat - 48))
    have hv' : valFrom (a * 10 + (c.toNat - 48)) r ≤ 18446744073709551615 := hv
    unfold Lib.parseUintM
    rw [if_pos hc, if_neg (by omega), if_neg (by omega), ih _ (fun x hx => hd x (by simp [hx])) hv']
    rfl
theorem parseM_ok (l : List UInt8) : ∀ (a u M : Nat), Lib.parseUintM M a l = .ok u → (∀ c ∈ l, dig c) ∧ u = valFrom a l := by
  induction l with
  | nil =>
    intro a u M h
    unfold Lib.parseUintM at h
    simp only [Lib.NumEnd.ok.injEq] at h
    exact ⟨fun c hc => by simp at hc, h.symm⟩
  | cons c r ih =>
    intro a u M h
    unfold Lib.parseUintM at h
    by_cases hc : 48 ≤ c.toNat ∧ c.toNat ≤ 57
    · rw [if_pos hc] at h
      by_cases h1 : 1844674407370955162 ≤ a
      · rw [if_pos h1] at h; cases h
      · rw [if_neg h1] at h
        by_cases h2 : M < a * 10 + (c.toNat - 48)
        · rw [if_pos h2] at h; cases h
        · rw [if_neg h2] at h
          obtain ⟨k1, k2⟩ := ih _ _ _ h
          exact ⟨fun x hx => by
            rcases List.mem_cons.1 hx with rfl | hx
            · exact hc
            · exact k1 x hx, k2⟩
    · rw [if_neg hc] at h; cases h
/-- A text that does not begin with a sign. -/
def Unsigned : List UInt8 → Prop
  | [] => True
  | c :: _ => c.toNat ≠ 43 ∧ c.toNat ≠ 45
theorem Read_nil : Read [] = none := rfl
theorem Read_digits {l : List UInt8} (hne : l ≠ []) (hd : ∀ c ∈ l, dig c) (hv : valFrom 0 l ≤ 9223372036854775807) : Read l = some (valFrom 0 l : Int) := by
  cases l with
  | nil => exact absurd rfl hne
  | cons c r =>
    have hc := hd c (by simp)
    have h : Lib.parseIntB 64 (c :: r) = .ok (valFrom 0 (c :: r) : Nat) := by
      unfold Lib.parseIntB
      simp only [if_neg (show ¬ (c.toNat = 43 ∨ c.toNat = 45) by omega)]
      have hu : Lib.parseUintB 64 (c :: r) = .ok (valFrom 0 (c :: r)) := by
        unfold Lib.parseUintB
        rw [if_neg (by simp)]
        exact parseM_fits (c :: r) 0 hd (by omega)
      rw [hu]
      simp only [if_neg (show ¬ (¬ c.toNat = 45 ∧ 2 ^ (64 - 1) ≤ valFrom 0 (c :: r)) by omega), if_neg (show ¬ (c.toNat = 45 ∧ 2 ^ (64 - 1) < valFrom 0 (c :: r)) by omega), if_neg (show ¬ c.toNat = 45 by omega)]
    unfold Read
    rw [h]
theorem Read_only {l : List UInt8} {v : Int} (hs : Unsigned l) (h : Read l = some v) : l ≠ [] ∧ (∀ c ∈ l, dig c) ∧ v = valFrom 0 l ∧ valFrom 0 l ≤ 9223372036854775807 := by
  have hb := Read_bd h
  unfold Read at h
  cases hp : Lib.parseIntB 64 l
  case ok u =>
    rw [hp] at h
    obtain rfl : u = v := by simpa using h
    cases l with
    | nil => exact absurd hp (by intro e; cases e)
    | cons c r =>
      obtain ⟨h43, h45⟩ := hs
      unfold Lib.parseIntB at hp
      simp only [if_neg (show ¬ (c.toNat = 43 ∨ c.toNat = 45) by omega)] at hp
      cases hu : Lib.parseUintB 64 (c :: r)
      case ok u' =>
        rw [hu] at hp
        simp only [if_neg (show ¬ (c.toNat = 45 ∧ 2 ^ (64 - 1) < u') by omega), if_neg h45] at hp
        have hx : u' < 2 ^ (64 - 1) ∨ ¬ u' < 2 ^ (64 - 1) := by omega
        rcases hx with hx | hx
        · simp only [if_neg (show ¬ (¬ c.toNat = 45 ∧ 2 ^ (64 - 1) ≤ u') by omega), Lib.NumEnd.ok.injEq] at hp
          unfold Lib.parseUintB at hu
          rw [if_neg (by simp)] at hu
          obtain ⟨k1, k2⟩ := parseM_ok _ _ _ _ hu
          exact ⟨by simp, k1, by omega, by omega⟩
        · simp only [if_pos (show ¬ c.toNat = 45 ∧ 2 ^ (64 - 1) ≤ u' by omega)] at hp
          cases hp
      all_goals
        rw [hu] at hp
        cases hp
  all_goals
    rw [hp] at h
    cases h
/-- Of digits, of at least one: their number, unless it is too great. -/
theorem num_digits {l : List UInt8} (hne : l ≠ []) (hd : ∀ c ∈ l, dig c) : num l = if valFrom 0 l ≤ 9223372036854775807 then some (valFrom 0 l : Int) else none := by
  have hs : Unsigned l := by
    cases l with
    | nil => trivial
    | cons c r => have := hd c (by simp); exact ⟨by omega, by omega⟩
  by_cases hv : valFrom 0 l ≤ 9223372036854775807
  · rw [if_pos hv]
    unfold num
    rw [Read_digits hne hd hv]
    simp only
    rw [if_neg (by omega)]
  · rw [if_neg hv]
    cases hn : num l with
    | none => rfl
    | some v =>
      obtain ⟨hr, _⟩ := num_some hn
      exact absurd (Read_only hs hr).2.2.2 hv
theorem num_only {l : List UInt8} {v : Int} (hs : Unsigned l) (h : num l = some v) : l ≠ [] ∧ (∀ c ∈ l, dig c) := by
  obtain ⟨hr, _⟩ := num_some h
  have := Read_only hs hr
  exact ⟨this.1, this.2.1⟩
theorem num_nil : num [] = none := rfl

/-- The bytes of a text, and of its cuts. -/
theorem Bt_list (s : ByteArray) (i : Nat) (h : i < s.size) : Bt s i = (s.data.toList[i]'(by simpa using h)).toNat := by
  unfold Bt
  show (s.data[i]!).toNat = _
  rw [getElem!_pos s.data i (by simpa using h)]
  simp
theorem cut_list (s : ByteArray) (m : Nat) (_h : m ≤ s.size) : (s.extract 0 m).data.toList = s.data.toList.take m := by
  simp

/-- The factor of a unit as it stands behind the digits. -/
def unitF (r : List UInt8) : Option Int :=
  if r = [] ∨ r = [66] then some 1 else if r = [75, 105, 66] then some 1024 else if r = [77, 105, 66] then some 1048576 else if r = [71, 105, 66] then some 1073741824 else if r = [84, 105, 66] then some 1099511627776 else none
/-- What digits d and a unit r behind them tell. -/
def tell (d r : List UInt8) : Option Int :=
  if d = [] then none else match unitF r with
    | none => none
    | some f => if (valFrom 0 d : Int) * f ≤ 9223372036854775807 then some (valFrom 0 d * f) else none
theorem scaled_tell {d r : List UInt8} {f : Int} (hne : d ≠ []) (hd : ∀ c ∈ d, dig c) (hf : 1 ≤ f) (hu : unitF r = some f) : scaled f (num d) = tell d r := by
  unfold tell
  rw [if_neg hne, hu, num_digits hne hd]
  by_cases hv : valFrom 0 d ≤ 9223372036854775807
  · rw [if_pos hv]; rfl
  · rw [if_neg hv]
    show none = if (valFrom 0 d : Int) * f ≤ 9223372036854775807 then some (valFrom 0 d * f) else none
    rw [if_neg]
    have : (valFrom 0 d : Int) * 1 ≤ (valFrom 0 d : Int) * f := Int.mul_le_mul_of_nonneg_left hf (by omega)
    omega
theorem num_tell {d r : List UInt8} (hne : d ≠ []) (hd : ∀ c ∈ d, dig c) (hu : unitF r = some 1) : num d = tell d r := by
  unfold tell
  rw [if_neg hne, hu, num_digits hne hd]
  by_cases hv : valFrom 0 d ≤ 9223372036854775807
  · rw [if_pos hv]
    show _ = if (valFrom 0 d : Int) * 1 ≤ 9223372036854775807 then some ((valFrom 0 d : Int) * 1) else none
    rw [if_pos (by omega), Int.mul_one]
  · rw [if_neg hv]
    show none = if (valFrom 0 d : Int) * 1 ≤ 9223372036854775807 then some ((valFrom 0 d : Int) * 1) else none
    rw [if_neg (by omega)]

theorem size_eq (s : ByteArray) : s.size = s.data.toList.length := by simp
/-- pbc at a text that is digits d and a unit r behind them. -/
theorem pbc_digits (s : ByteArray) (d : List UInt8) (hs : s.data.toList = d) (hne : d ≠ []) (hd : ∀ c ∈ d, dig c) : pbc s = num d := by
  have hz := size_eq s
  rw [hs] at hz
  have hp : 0 < d.length := List.length_pos_iff.2 hne
  have hb := Bt_list s (s.size - 1) (by omega)
  have hm : dig (d[s.size - 1]'(by omega)) := hd _ (List.getElem_mem _)
  simp only [hs] at hb
  unfold pbc
  rw [if_neg (by omega), if_pos (by rw [hb]; exact hm), hs]
theorem pbc_B (s : ByteArray) (d : List UInt8) (hs : s.data.toList = d ++ [66]) (hne : d ≠ []) (hd : ∀ c ∈ d, dig c) : pbc s = num d := by
  have hz := size_eq s
  rw [hs] at hz
  have hp : 0 < d.length := List.length_pos_iff.2 hne
  have hz' : s.size = d.length + 1 := by simpa using hz
  have h1 := Bt_list s (s.size - 1) (by omega)
  have h2 := Bt_list s (s.size - 2) (by omega)
  have e1 : Bt s (s.size - 1) = 66 := by
    rw [h1]
    simp only [hs, hz', Nat.add_sub_cancel]
    rw [List.getElem_append_right (by omega)]
    simp
  have e2 : dig (d[s.size - 2]'(by omega)) := hd _ (List.getElem_mem _)
  have e3 : Bt s (s.size - 2) = (d[s.size - 2]'(by omega)).toNat := by
    rw [h2]
    simp only [hs]
    rw [List.getElem_append_left (by omega)]
  have e4 : (s.extract 0 (s.size - 1)).data.toList = d := by
    rw [cut_list s _ (by omega), hs, hz', Nat.add_sub_cancel]
    simp
  unfold pbc
  rw [if_neg (by omega), if_neg (by omega), if_neg (by omega), if_pos (by rw [e3]; exact e2), e4]
theorem pbc_unit (s : ByteArray) (d : List UInt8) (u : UInt8) (f : Int) (hu : factor u.toNat = some f) (hs : s.data.toList = d ++ [u, 105, 66]) (hne : d ≠ []) : pbc s = scaled f (num d) := by
  have hz := size_eq s
  rw [hs] at hz
  have hp : 0 < d.length := List.length_pos_iff.2 hne
  have hz' : s.size = d.length + 3 := by simpa using hz
  have e1 : Bt s (s.size - 1) = 66 := by
    rw [Bt_list s (s.size - 1) (by omega)]
    simp only [hs, hz', show d.length + 3 - 1 = d.length + 2 by omega]
    rw [List.getElem_append_right (by omega)]
    simp
  have e2 : Bt s (s.size - 2) = 105 := by
    rw [Bt_list s (s.size - 2) (by omega)]
    simp only [hs, hz', show d.length + 3 - 2 = d.length + 1 by omega]
    rw [List.getElem_append_right (by omega)]
    simp
  have e3 : Bt s (s.size - 3) = u.toNat := by
    rw [Bt_list s (s.size - 3) (by omega)]
    simp only [hs, hz', show d.length + 3 - 3 = d.length by omega]
    rw [List.getElem_append_right (by omega)]
    simp
  have e4 : (s.extract 0 (s.size - 3)).data.toList = d := by
    rw [cut_list s _ (by omega), hs, hz', show d.length + 3 - 3 = d.length by omega]
    simp
  unfold pbc
  rw [if_neg (by omega), if_neg (by omega), if_neg (by omega), if_neg (by omega), if_neg (by omega), if_neg (by omega), e3, hu, e4]
theorem Unsigned_take {l : List UInt8} (h : Unsigned l) (m : Nat) : Unsigned (l.take m) := by
  cases l with
  | nil => simp [Unsigned]
  | cons c r =>
    cases m with
    | zero => trivial
    | succ m => exact h
theorem last_one {l : List UInt8} {n : Nat} (hn : l.length = n + 1) : l = l.take n ++ [l[n]'(by omega)] := by
  have e := List.take_succ_eq_append_getElem (l := l) (i := n) (by omega)
  rw [← hn, List.take_length] at e
  exact e
/-- Where pbc tells a number of a text without a sign, the text is digits and nothing, B or a unit behind them. -/
theorem pbc_only (s : ByteArray) (v : Int) (hs : Unsigned s.data.toList) (h : pbc s = some v) :
    ∃ d r f, s.data.toList = d ++ r ∧ d ≠ [] ∧ (∀ c ∈ d, dig c) ∧ unitF r = some f := by
  have hz := size_eq s
  unfold pbc at h
  by_cases h0 : s.size = 0
  · rw [if_pos h0] at h; cases h
  rw [if_neg h0] at h
  by_cases h1 : 48 ≤ Bt s (s.size - 1) ∧ Bt s (s.size - 1) ≤ 57
  · rw [if_pos h1] at h
    obtain ⟨k1, k2⟩ := num_only hs h
    exact ⟨_, [], 1, (List.append_nil _).symm, k1, k2, rfl⟩
  rw [if_neg h1] at h
  by_cases h2 : Bt s (s.size - 1) ≠ 66 ∨ s.size < 2
  · rw [if_pos h2] at h; cases h
  rw [if_neg h2] at h
  have g1 : s.data.toList = s.data.toList.take (s.size - 1) ++ [66] := by
    have e := last_one (l := s.data.toList) (n := s.size - 1) (by omega)
    have b := Bt_list s (s.size - 1) (by omega)
    have b' : s.data.toList[s.size - 1]'(by omega) = 66 := by
      apply UInt8.toNat_inj.1
      rw [← b]
      show Bt s (s.size - 1) = 66
      omega
    rw [b'] at e
    exact e
  by_cases h3 : 48 ≤ Bt s (s.size - 2) ∧ Bt s (s.size - 2) ≤ 57
  · rw [if_pos h3, cut_list s _ (by omega)] at h
    obtain ⟨k1, k2⟩ := num_only (Unsigned_take hs _) h
    exact ⟨_, [66], 1, g1, k1, k2, rfl⟩
  rw [if_neg h3] at h
  by_cases h4 : Bt s (s.size - 2) ≠ 105
  · rw [if_pos h4] at h; cases h
  rw [if_neg h4] at h
  by_cases h5 : s.size < 4
  · rw [if_pos h5] at h; cases h
  rw [if_neg h5] at h
  cases hf : factor (Bt s (s.size - 3)) with
  | none => rw [hf] at h; cases h
  | some f =>
    rw [hf] at h
    simp only [cut_list s _ (show s.size - 3 ≤ s.size by omega)] at h
    cases hn : num (s.data.toList.take (s.size - 3)) with
    | none => rw [hn] at h; cases h
    | some w =>
      obtain ⟨k1, k2⟩ := num_only (Unsigned_take hs _) hn
      have g2 : s.data.toList.take (s.size - 1) = s.data.toList.take (s.size - 2) ++ [105] := by
        have e := last_one (l := s.data.toList.take (s.size - 1)) (n := s.size - 2) (by simp; omega)
        rw [List.take_take, Nat.min_eq_left (by omega)] at e
        have b := Bt_list s (s.size - 2) (by omega)
        have b' : s.data.toList[s.size - 2]'(by omega) = 105 := by
          apply UInt8.toNat_inj.1
          rw [← b]
          show Bt s (s.size - 2) = 105
          omega
        rw [List.getElem_take, b'] at e
        exact e
      have g3 : s.data.toList.take (s.size - 2) = s.data.toList.take (s.size - 3) ++ [s.data.toList[s.size - 3]'(by omega)] := by
        have e := last_one (l := s.data.toList.take (s.size - 2)) (n := s.size - 3) (by simp; omega)
        rw [List.take_take, Nat.min_eq_left (by omega), List.getElem_take] at e
        exact e
      have b3 := Bt_list s (s.size - 3) (by omega)
      rw [b3] at hf
      refine ⟨s.data.toList.take (s.size - 3), [s.data.toList[s.size - 3]'(by omega), 105, 66], f, ?_, k1, k2, ?_⟩
      · have e : s.data.toList = s.data.toList.take (s.size - 3) ++ [s.data.toList[s.size - 3]'(by omega)] ++ [105] ++ [66] := by
          rw [← g3, ← g2]; exact g1
        rw [List.append_assoc, List.append_assoc] at e
        exact e
      · generalize s.data.toList[s.size - 3]'(by omega) = u at hf
        unfold factor at hf
        unfold unitF
        have hu : ∀ n : UInt8, u.toNat = n.toNat → u = n := fun n e => UInt8.toNat_inj.1 e
        by_cases a : u.toNat = 75
        · rw [if_pos a] at hf; obtain rfl := hu 75 a; exact hf
        rw [if_neg a] at hf
        by_cases b : u.toNat = 77
        · rw [if_pos b] at hf; obtain rfl := hu 77 b; exact hf
        rw [if_neg b] at hf
        by_cases c : u.toNat = 71
        · rw [if_pos c] at hf; obtain rfl := hu 71 c; exact hf
        rw [if_neg c] at hf
        by_cases d : u.toNat = 84
        · rw [if_pos d] at hf; obtain rfl := hu 84 d; exact hf
        rw [if_neg d] at hf
        cases hf

/-- How many digits stand in front. -/
def Run (l : List UInt8) (k : Nat) : Prop := k ≤ l.length ∧ (∀ c ∈ l.take k, dig c) ∧ ∀ h : k < l.length, ¬ dig l[k]
theorem Run_split {l d r : List UInt8} {k : Nat} (hk : Run l k) (hl : l = d ++ r) (hd : ∀ c ∈ d, dig c) (hr : ∀ h : 0 < r.length, ¬ dig r[0]) : k = d.length := by
  obtain ⟨h1, h2, h3⟩ := hk
  subst hl
  rcases Nat.lt_trichotomy k d.length with c | c | c
  · have := h3 (by simp; omega)
    rw [List.getElem_append_left c] at this
    exact absurd (hd _ (List.getElem_mem _)) this
  · exact c
  · have hp : 0 < r.length := by simp at h1; omega
    have hm : r[0] ∈ (d ++ r).take k := by
      rw [List.take_append]
      refine List.mem_append_right _ ?_
      rw [List.mem_take_iff_getElem]
      exact ⟨0, by omega, rfl⟩
    exact absurd (h2 _ hm) (hr hp)
theorem unitF_head {r : List UInt8} {f : Int} (h : unitF r = some f) : ∀ h : 0 < r.length, ¬ dig r[0] := by
  intro hp
  unfold unitF at h
  by_cases a : r = [] ∨ r = [66]
  · rcases a with rfl | rfl
    · exact absurd hp (by simp)
    · show ¬ dig 66
      decide
  rw [if_neg a] at h
  by_cases b : r = [75, 105, 66]
  · subst b
    show ¬ dig 75
    decide
  rw [if_neg b] at h
  by_cases c : r = [77, 105, 66]
  · subst c
    show ¬ dig 77
    decide
  rw [if_neg c] at h
  by_cases d : r = [71, 105, 66]
  · subst d
    show ¬ dig 71
    decide
  rw [if_neg d] at h
  by_cases e : r = [84, 105, 66]
  · subst e
    show ¬ dig 84
    decide
  rw [if_neg e] at h
  cases h
theorem pbc_tell (s : ByteArray) (d r : List UInt8) (f : Int) (hs : s.data.toList = d ++ r) (hne : d ≠ []) (hd : ∀ c ∈ d, dig c) (hu : unitF r = some f) : pbc s = tell d r := by
  have hu0 := hu
  unfold unitF at hu
  by_cases a : r = [] ∨ r = [66]
  · rw [if_pos a] at hu
    obtain rfl : (1 : Int) = f := by simpa using hu
    rcases a with rfl | rfl
    · rw [pbc_digits s d (by simpa using hs) hne hd]
      exact num_tell hne hd hu0
    · rw [pbc_B s d hs hne hd]
      exact num_tell hne hd hu0
  rw [if_neg a] at hu
  by_cases b : r = [75, 105, 66]
  · rw [if_pos b] at hu
    obtain rfl : (1024 : Int) = f := by simpa using hu
    subst b
    rw [pbc_unit s d 75 1024 rfl hs hne]
    exact scaled_tell hne hd (by omega) hu0
  rw [if_neg b] at hu
  by_cases c : r = [77, 105, 66]
  · rw [if_pos c] at hu
    obtain rfl : (1048576 : Int) = f := by simpa using hu
    subst c
    rw [pbc_unit s d 77 1048576 rfl hs hne]
    exact scaled_tell hne hd (by omega) hu0
  rw [if_neg c] at hu
  by_cases e : r = [71, 105, 66]
  · rw [if_pos e] at hu
    obtain rfl : (1073741824 : Int) = f := by simpa using hu
    subst e
    rw [pbc_unit s d 71 1073741824 rfl hs hne]
    exact scaled_tell hne hd (by omega) hu0
  rw [if_neg e] at hu
  by_cases g : r = [84, 105, 66]
  · rw [if_pos g] at hu
    obtain rfl : (1099511627776 : Int) = f := by simpa using hu
    subst g
    rw [pbc_unit s d 84 1099511627776 rfl hs hne]
    exact scaled_tell hne hd (by omega) hu0
  rw [if_neg g] at hu
  cases hu
/-- The code and the reference agree on every text that does not begin with a sign. -/
theorem pbc_run (s : ByteArray) (k : Nat) (hs : Unsigned s.data.toList) (hk : Run s.data.toList k) : pbc s = tell (s.data.toList.take k) (s.data.toList.drop k) := by
  have hl : s.data.toList = s.data.toList.take k ++ s.data.toList.drop k := (List.take_append_drop _ _).symm
  cases hp : pbc s with
  | some v =>
    obtain ⟨d, r, f, e, hne, hd, hu⟩ := pbc_only s v hs hp
    have hkd := Run_split hk e hd (unitF_head hu)
    rw [← hp, pbc_tell s d r f e hne hd hu, e, hkd]
    simp
  | none =>
    cases ht : tell (s.data.toList.take k) (s.data.toList.drop k) with
    | none => rfl
    | some v =>
      unfold tell at ht
      by_cases hne : s.data.toList.take k = []
      · rw [if_pos hne] at ht; cases ht
      · rw [if_neg hne] at ht
        cases hu : unitF (s.data.toList.drop k) with
        | none => rw [hu] at ht; cases ht
        | some f =>
          have := pbc_tell s _ _ f hl hne hk.2.1 hu
          rw [hp] at this
          unfold tell at this
          rw [if_neg hne] at this
          rw [this]
          exact ht

/-- A count without a unit is one with B. -/
theorem pbc_same_B (s : ByteArray) (t : ByteArray) (hne : s.data.toList ≠ []) (hd : ∀ c ∈ s.data.toList, dig c) (ht : t.data.toList = s.data.toList ++ [66]) : pbc t = pbc s := by
  rw [pbc_digits s _ rfl hne hd, pbc_B t _ ht hne hd]
/-- A unit is 1024 times the one before it, where the number is no greater than 2^22. -/
theorem pbc_of_unit (s : ByteArray) (d : List UInt8) (n : Nat) (u : UInt8) (f : Int) (hu : factor u.toNat = some f) (hs : s.data.toList = d ++ [u, 105, 66]) (hne : d ≠ []) (hd : ∀ c ∈ d, dig c) (hv : valFrom 0 d = n) (hn : (n : Int) * f ≤ 9223372036854775807) (hf : 1 ≤ f) : pbc s = some (n * f) := by
  have : (n : Int) * 1 ≤ n * f := Int.mul_le_mul_of_nonneg_left hf (by omega)
  rw [pbc_unit s d u f hu hs hne, num_digits hne hd, if_pos (by omega), hv]
  show (if (n : Int) * f ≤ 9223372036854775807 then some ((n : Int) * f) else none) = _
  rw [if_pos hn]
end Go.Proofs.YtbmihohogoblnaaDoor
