/- What ParseByteCount computes, as a plain function of the bytes; what the reference computes; and the laws between the two. No program in sight. -/
import Derived.Lib.ParseIntBTie
namespace Go.Proofs.YtbmihohogoblnaaDoor
/-- The number that a text spells for ParseInt, if it spells one. -/
def Read (l : List UInt8) : Option Int := match Lib.parseIntB 64 l with
  | .ok v => some v
  | _ => none
/-- The same, if it is not below 0. -/
def num (l : List UInt8) : Option Int := match Read l with
  | some v => if v < 0 then none else some v
  | none => none
def Bt (s : ByteArray) (i : Nat) : Nat := (s.get! i).toNat
theorem Bt_lt (s : ByteArray) (i : Nat) : Bt s i < 256 := UInt8.toNat_lt _
/-- What a unit's letter stands for. -/
def factor (b : Nat) : Option Int := if b = 75 then some 1024 else if b = 77 then some 1048576 else if b = 71 then some 1073741824 else if b = 84 then some 1099511627776 else none
def scaled (f : Int) : Option Int → Option Int
  | some v => if v * f ≤ 9223372036854775807 then some (v * f) else none
  | none => none
/-- What ParseByteCount computes. -/
def pbc (s : ByteArray) : Option Int :=
  if s.size = 0 then none
  else if 48 ≤ Bt s (s.size - 1) ∧ Bt s (s.size - 1) ≤ 57 then num s.data.toList
  else if Bt s (s.size - 1) ≠ 66 ∨ s.size < 2 then none
  else if 48 ≤ Bt s (s.size - 2) ∧ Bt s (s.size - 2) ≤ 57 then num (s.extract 0 (s.size - 1)).data.toList
  else if Bt s (s.size - 2) ≠ 105 then none
  else if s.size < 4 then none
  else match factor (Bt s (s.size - 3)) with
    | none => none
    | some f => scaled f (num (s.extract 0 (s.size - 3)).data.toList)
theorem num_some {l : List UInt8} {v : Int} (h : num l = some v) : Read l = some v ∧ 0 ≤ v := by
  unfold num at h
  cases hr : Read l with
  | none => rw [hr] at h; cases h
  | some u =>
    rw [hr] at h
    simp only at h
    split at h
    · cases h
    · obtain rfl : u = v := by simpa using h
      exact ⟨rfl, by omega⟩
theorem num_none {l : List UInt8} (h : num l = none) : Read l = none ∨ ∃ v, Read l = some v ∧ v < 0 := by
  unfold num at h
  cases hr : Read l with
  | none => exact Or.inl rfl
  | some u =>
    rw [hr] at h
    simp only at h
    split at h
    · exact Or.inr ⟨u, rfl, by assumption⟩
    · cases h
theorem Read_bd {l : List UInt8} {v : Int} (h : Read l = some v) : v ≤ 9223372036854775807 := by
  unfold Read at h
  cases hp : Lib.parseIntB 64 l
  case ok u =>
    rw [hp] at h
    obtain rfl : u = v := by simpa using h
    have b := Lib.parseIntB_bounds hp
    omega
  all_goals
    rw [hp] at h
    cases h

end Go.Proofs.YtbmihohogoblnaaDoor
