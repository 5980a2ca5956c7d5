/- What the model reads as the runes of a text, rune by rune: a rune stays that rune when bytes come behind; the number of runes of two texts joined; the bounds of that number. Plain, with no program in sight. -/
import Derived.Lib.RuneCount
namespace Go.Proofs.Ytgjbenglpifdkaa.Runes
open Go

def B (s : ByteArray) (i : Nat) : Nat := (s.get! i).toNat
theorem B_lt (s : ByteArray) (i : Nat) : B s i < 256 := UInt8.toNat_lt _
theorem get!_eq (s : ByteArray) (i : Nat) (h : i < s.size) : s.get! i = s[i]'h := get_at s i h
theorem B_eq (s : ByteArray) (i : Nat) (h : i < s.size) : B s i = (s[i]'h).toNat := by rw [B, get!_eq s i h]
theorem B_extract (s : ByteArray) (a k : Nat) (h : a + k < s.size) : B (s.extract a s.size) k = B s (a + k) := by
  rw [B_eq _ k (by simp [ByteArray.size_extract]; omega), B_eq _ _ h]
  simp [ByteArray.getElem_extract]
theorem B_append_left (a b : ByteArray) (i : Nat) (h : i < a.size) : B (a ++ b) i = B a i := by
  rw [B_eq _ i (by rw [ByteArray.size_append]; omega), B_eq _ _ h]
  rw [ByteArray.getElem_append_left h]
theorem B_append_right (a b : ByteArray) (i : Nat) (h : i < b.size) : B (a ++ b) (a.size + i) = B b i := by
  rw [B_eq _ _ (by rw [ByteArray.size_append]; omega), B_eq _ _ h]
  rw [ByteArray.getElem_append_right (by omega)]
  simp

/-- The rune that 'decode' finds, by the bytes and by how many there are. -/
def dec (b0 b1 b2 b3 : Nat) (n : Nat) : Nat × Nat :=
  if b0 < 0x80 then (b0, 1)
  else if b0 / 32 = 6 ∧ 1 < n ∧ b1 / 64 = 2 then (if 0x80 ≤ b0 % 32 * 64 + b1 % 64 then (b0 % 32 * 64 + b1 % 64, 2) else (0xFFFD, 1))
  else if b0 / 16 = 14 ∧ (1 < n ∧ b1 / 64 = 2) ∧ (2 < n ∧ b2 / 64 = 2) then (if 0x800 ≤ b0 % 16 * 4096 + b1 % 64 * 64 + b2 % 64 ∧ Utf8.valid ((b0 % 16 * 4096 + b1 % 64 * 64 + b2 % 64 : Nat) : Int) = true then (b0 % 16 * 4096 + b1 % 64 * 64 + b2 % 64, 3) else (0xFFFD, 1))
  else if b0 / 8 = 30 ∧ (1 < n ∧ b1 / 64 = 2) ∧ (2 < n ∧ b2 / 64 = 2) ∧ (3 < n ∧ b3 / 64 = 2) then (if 0x10000 ≤ b0 % 8 * 262144 + b1 % 64 * 4096 + b2 % 64 * 64 + b3 % 64 ∧ Utf8.valid ((b0 % 8 * 262144 + b1 % 64 * 4096 + b2 % 64 * 64 + b3 % 64 : Nat) : Int) = true then (b0 % 8 * 262144 + b1 % 64 * 4096 + b2 % 64 * 64 + b3 % 64, 4) else (0xFFFD, 1))
  else (0xFFFD, 1)
theorem decode_eq (s : ByteArray) (i : Nat) (h : i < s.size) : Utf8.decode s i = dec (B s i) (B s (i + 1)) (B s (i + 2)) (B s (i + 3)) (s.size - i) := by
  have e : ∀ k, (i + k < s.size) ↔ (k < s.size - i) := fun k => by omega
  unfold Utf8.decode dec B
  simp only [Nat.add_zero, e, Utf8.runeError, Bool.and_eq_true, decide_eq_true_eq, beq_iff_eq, ge_iff_le, and_assoc]
end Go.Proofs.Ytgjbenglpifdkaa.Runes
namespace Go.Proofs.Ytgjbenglpifdkaa.Runes
open Go

/-- A rune has one to four bytes, and they lie in the text; what is no rune is U+FFFD and one byte. -/
theorem dec_width (b0 b1 b2 b3 n : Nat) (h : 1 ≤ n) : 1 ≤ (dec b0 b1 b2 b3 n).2 ∧ (dec b0 b1 b2 b3 n).2 ≤ 4 ∧ (dec b0 b1 b2 b3 n).2 ≤ n := by
  unfold dec
  split
  · simp; omega
  · split
    · split <;> simp <;> omega
    · split
      · split <;> simp <;> omega
      · split
        · split <;> simp <;> omega
        · simp; omega
/-- What is a rune stays that rune when bytes come behind. -/
theorem dec_more (b0 b1 b2 b3 c1 c2 c3 n m : Nat) (hnm : n ≤ m) (h1 : 1 < n → c1 = b1) (h2 : 2 < n → c2 = b2) (h3 : 3 < n → c3 = b3)
    (hv : ¬ ((dec b0 b1 b2 b3 n).1 = 0xFFFD ∧ (dec b0 b1 b2 b3 n).2 = 1)) : dec b0 c1 c2 c3 m = dec b0 b1 b2 b3 n := by
  unfold dec at hv ⊢
  by_cases a0 : b0 < 0x80
  · rw [if_pos a0, if_pos a0]
  · rw [if_neg a0] at hv ⊢
    rw [if_neg a0]
    by_cases a1 : b0 / 32 = 6 ∧ 1 < n ∧ b1 / 64 = 2
    · rw [if_pos a1, if_pos ⟨a1.1, by omega, by rw [h1 a1.2.1]; exact a1.2.2⟩, h1 a1.2.1]
    · rw [if_neg a1] at hv ⊢
      by_cases a2 : b0 / 16 = 14 ∧ (1 < n ∧ b1 / 64 = 2) ∧ (2 < n ∧ b2 / 64 = 2)
      · rw [if_pos a2, if_neg (by omega), if_pos ⟨a2.1, ⟨by omega, by rw [h1 a2.2.1.1]; exact a2.2.1.2⟩, by omega, by rw [h2 a2.2.2.1]; exact a2.2.2.2⟩, h1 a2.2.1.1, h2 a2.2.2.1]
      · rw [if_neg a2] at hv ⊢
        by_cases a3 : b0 / 8 = 30 ∧ (1 < n ∧ b1 / 64 = 2) ∧ (2 < n ∧ b2 / 64 = 2) ∧ (3 < n ∧ b3 / 64 = 2)
        · rw [if_pos a3, if_neg (by omega), if_neg (by omega), if_pos ⟨a3.1, ⟨by omega, by rw [h1 a3.2.1.1]; exact a3.2.1.2⟩, ⟨by omega, by rw [h2 a3.2.2.1.1]; exact a3.2.2.1.2⟩, by omega, by rw [h3 a3.2.2.2.1]; exact a3.2.2.2.2⟩, h1 a3.2.1.1, h2 a3.2.2.1.1, h3 a3.2.2.2.1]
        · rw [if_neg a3] at hv
          exact absurd ⟨rfl, rfl⟩ hv

theorem width (s : ByteArray) (pos : Nat) (h : pos < s.size) : 1 ≤ (Utf8.decode s pos).2 ∧ (Utf8.decode s pos).2 ≤ 4 ∧ pos + (Utf8.decode s pos).2 ≤ s.size := by
  rw [decode_eq s pos h]
  have := dec_width (B s pos) (B s (pos + 1)) (B s (pos + 2)) (B s (pos + 3)) (s.size - pos) (by omega)
  omega
theorem decode_extract (s : ByteArray) (a : Nat) (h : a < s.size) : Utf8.decode (s.extract a s.size) 0 = Utf8.decode s a := by
  have hz : (s.extract a s.size).size = s.size - a := by simp [ByteArray.size_extract]
  rw [decode_eq s a h, decode_eq _ 0 (by omega), hz]
  have e : ∀ k, k < s.size - a → B (s.extract a s.size) k = B s (a + k) := fun k hk => B_extract s a k (by omega)
  by_cases h1 : 1 < s.size - a
  · by_cases h2 : 2 < s.size - a
    · by_cases h3 : 3 < s.size - a
      · simp [e, h1, h2, h3, show 0 < s.size - a by omega]
      · simp only [Nat.zero_add, Nat.sub_zero, e 0 (by omega), e 1 h1, e 2 h2, Nat.add_zero]
        unfold dec
        simp [h3]
    · simp only [Nat.zero_add, Nat.sub_zero, e 0 (by omega), e 1 h1, Nat.add_zero]
      unfold dec
      simp [h2]
  · simp only [Nat.zero_add, Nat.sub_zero, e 0 (by omega), Nat.add_zero]
    unfold dec
    simp [h1]
theorem decode_right (a b : ByteArray) (p : Nat) (h : p < b.size) : Utf8.decode (a ++ b) (a.size + p) = Utf8.decode b p := by
  have hz : (a ++ b).size = a.size + b.size := ByteArray.size_append
  rw [decode_eq b p h, decode_eq _ _ (by omega), hz, show a.size + b.size - (a.size + p) = b.size - p by omega]
  have e : ∀ k, p + k < b.size → B (a ++ b) (a.size + p + k) = B b (p + k) := fun k hk => by rw [Nat.add_assoc]; exact B_append_right a b (p + k) hk
  have e0 := e 0 h
  simp only [Nat.add_zero] at e0
  rw [e0]
  unfold dec
  by_cases h1 : 1 < b.size - p
  · rw [e 1 (by omega)]
    by_cases h2 : 2 < b.size - p
    · rw [e 2 (by omega)]
      by_cases h3 : 3 < b.size - p
      · rw [e 3 (by omega)]
      · simp [h3]
    · simp [h2]
  · simp [h1]
theorem decode_left (a b : ByteArray) (p : Nat) (h : p < a.size) (hv : ¬ ((Utf8.decode a p).1 = 0xFFFD ∧ (Utf8.decode a p).2 = 1)) : Utf8.decode (a ++ b) p = Utf8.decode a p := by
  have hz : (a ++ b).size = a.size + b.size := ByteArray.size_append
  rw [decode_eq a p h] at hv ⊢
  rw [decode_eq _ p (by omega), B_append_left a b p h]
  exact dec_more _ _ _ _ _ _ _ _ _ (by omega) (fun h1 => B_append_left a b _ (by omega)) (fun h1 => B_append_left a b _ (by omega)) (fun h1 => B_append_left a b _ (by omega)) hv

theorem count_fuel (s : ByteArray) : ∀ (f f' pos : Nat), s.size ≤ pos + f → s.size ≤ pos + f' → Lib.runeCountFrom s f pos = Lib.runeCountFrom s f' pos
  | 0, f', pos, h, _ => by rw [Lib.runeCountFrom_end s 0 pos (by omega), Lib.runeCountFrom_end s f' pos (by omega)]
  | f + 1, 0, pos, _, h' => by rw [Lib.runeCountFrom_end s _ pos (by omega), Lib.runeCountFrom_end s 0 pos (by omega)]
  | f + 1, f' + 1, pos, h, h' => by
    by_cases hp : pos < s.size
    · have w := width s pos hp
      simp only [Lib.runeCountFrom, if_pos hp]
      rw [count_fuel s f f' (pos + (Utf8.decode s pos).2) (by omega) (by omega)]
    · rw [Lib.runeCountFrom_end s _ pos hp, Lib.runeCountFrom_end s _ pos hp]
theorem count_lower (s : ByteArray) : ∀ (f pos : Nat), s.size ≤ pos + f → s.size ≤ pos + 4 * Lib.runeCountFrom s f pos
  | 0, pos, h => by rw [Lib.runeCountFrom_end s 0 pos (by omega)]; omega
  | f + 1, pos, h => by
    by_cases hp : pos < s.size
    · have w := width s pos hp
      have ih := count_lower s f (pos + (Utf8.decode s pos).2) (by omega)
      simp only [Lib.runeCountFrom, if_pos hp]
      omega
    · omega
/-- At least a quarter as many runes as bytes. -/
theorem count_quarter (s : ByteArray) : s.size / 4 ≤ Lib.runeCount s := by
  have := count_lower s s.size 0 (by omega)
  unfold Lib.runeCount
  omega

theorem count_right (a b : ByteArray) : ∀ (f p : Nat), Lib.runeCountFrom (a ++ b) f (a.size + p) = Lib.runeCountFrom b f p
  | 0, _ => rfl
  | f + 1, p => by
    have hz : (a ++ b).size = a.size + b.size := ByteArray.size_append
    by_cases hp : p < b.size
    · simp only [Lib.runeCountFrom, if_pos hp, if_pos (show a.size + p < (a ++ b).size by omega)]
      rw [decode_right a b p hp, Nat.add_assoc, count_right a b f _]
    · rw [Lib.runeCountFrom_end _ _ _ (by omega), Lib.runeCountFrom_end _ _ _ hp]

/-- Is the text UTF-8 from a place on? -/
def validFrom (s : ByteArray) : Nat → Nat → Bool
  | 0, _ => true
  | f + 1, pos => if pos < s.size then (if (Utf8.decode s pos).1 = 0xFFFD ∧ (Utf8.decode s pos).2 = 1 then false else validFrom s f (pos + (Utf8.decode s pos).2)) else true
def valid (s : ByteArray) : Bool := validFrom s s.size 0
theorem count_join_from (a b : ByteArray) : ∀ (f pos : Nat), a.size ≤ pos + f → pos ≤ a.size → validFrom a f pos = true →
    Lib.runeCountFrom (a ++ b) (f + b.size) pos = Lib.runeCountFrom a f pos + Lib.runeCountFrom b b.size 0
  | 0, pos, h, hp, _ => by
    obtain rfl : pos = a.size := by omega
    rw [Lib.runeCountFrom_end a 0 _ (by omega), Nat.zero_add, Nat.zero_add]
    exact count_right a b b.size 0
  | f + 1, pos, h, hp, hv => by
    have hz : (a ++ b).size = a.size + b.size := ByteArray.size_append
    by_cases hlt : pos < a.size
    · have w := width a pos hlt
      simp only [validFrom, if_pos hlt] at hv
      by_cases e : (Utf8.decode a pos).1 = 0xFFFD ∧ (Utf8.decode a pos).2 = 1
      · rw [if_pos e] at hv; cases hv
      · rw [if_neg e] at hv
        have ih := count_join_from a b f (pos + (Utf8.decode a pos).2) (by omega) (by omega) hv
        rw [show f + 1 + b.size = (f + b.size) + 1 by omega]
        simp only [Lib.runeCountFrom, if_pos hlt, if_pos (show pos < (a ++ b).size by omega)]
        rw [decode_left a b pos hlt e, ih]
        omega
    · obtain rfl : pos = a.size := by omega
      rw [Lib.runeCountFrom_end a _ _ (by omega), Nat.zero_add]
      rw [count_fuel (a ++ b) (f + 1 + b.size) b.size a.size (by omega) (by omega)]
      exact count_right a b b.size 0
/-- A valid text with another one behind it has the runes of both. -/
theorem count_join (a b : ByteArray) (hv : valid a = true) : Lib.runeCount (a ++ b) = Lib.runeCount a + Lib.runeCount b := by
  unfold Lib.runeCount
  rw [← count_join_from a b a.size 0 (by omega) (by omega) hv]
  exact count_fuel _ _ _ 0 (by omega) (by rw [ByteArray.size_append]; omega)
end Go.Proofs.Ytgjbenglpifdkaa.Runes
