/- strconv.ParseInt at base 10 and 64 bits, for every string of at most 2^48 bytes: the number and no error, or an error that is not nil; nothing that was there turns. Laid from the library of contracts (Any.strconv_ParseInt_10_at64_..), no walk. The condition: the two error variables hold an interface value each. The laying was printed by the guide's lay-plain.mjs. -/
import Derived.Shelf.LaysC
import Derived.Shelf.Strconv.ParseIntPublic10
import Derived.Test.YtbmihohogoblnaaDoorProg
import Derived.Lib.AtoiErrMem
import Derived.Test.YtbmihohogoblnaaDoorPlain
namespace Go.Proofs
open Go.Shelf
def Tryd.laysC174_ren : Go.Shelf.Ren := ⟨fun | 174 => 12 | 247 => 13 | 245 => 14 | 287 => 15 | 279 => 16 | 280 => 17 | 281 => 18 | 282 => 19 | 321 => 20 | 322 => 21 | 316 => 22 | 171 => 24 | 205 => 23 | 243 => 25 | 246 => 26 | 283 => 27 | 284 => 28 | 285 => 29 | 286 => 30 | 129 => 32 | 317 => 31 | 318 => 33 | 319 => 34 | 320 => 35 | 337 => 36 | 338 => 37 | n => n, fun | 9 => 9 | 3 => 3 | 2 => 2 | 75 => 32 | 85 => 33 | 4 => 4 | 167 => 36 | 5 => 5 | 53 => 30 | 175 => 37 | 46 => 39 | 168 => 40 | 37 => 29 | 0 => 0 | 210 => 46 | 21 => 21 | 127 => 48 | 145 => 51 | 143 => 49 | 171 => 53 | 173 => 56 | 212 => 60 | 51 => 61 | 20 => 20 | 213 => 62 | 232 => 65 | 233 => 66 | 80 => 67 | n => n, fun | 15 => 0 | 16 => 1 | 17 => 2 | 18 => 3 | 19 => 4 | n => n⟩
theorem Tryd.laysC174 : Go.Proofs.LaysC.n174 Tryd.prog Tryd.laysC174_ren := {
  mixed := by kernel_rfl
  f129 := Tryd.func32.trans (congrArg some (by kernel_rfl))
  f171 := Tryd.func24.trans (congrArg some (by kernel_rfl))
  f174 := Tryd.func12.trans (congrArg some (by kernel_rfl))
  f205 := Tryd.func23.trans (congrArg some (by kernel_rfl))
  f243 := Tryd.func25.trans (congrArg some (by kernel_rfl))
  f245 := Tryd.func14.trans (congrArg some (by kernel_rfl))
  f246 := Tryd.func26.trans (congrArg some (by kernel_rfl))
  f247 := Tryd.func13.trans (congrArg some (by kernel_rfl))
  f279 := Tryd.func16.trans (congrArg some (by kernel_rfl))
  f280 := Tryd.func17.trans (congrArg some (by kernel_rfl))
  f281 := Tryd.func18.trans (congrArg some (by kernel_rfl))
  f282 := Tryd.func19.trans (congrArg some (by kernel_rfl))
  f283 := Tryd.func27.trans (congrArg some (by kernel_rfl))
  f284 := Tryd.func28.trans (congrArg some (by kernel_rfl))
  f285 := Tryd.func29.trans (congrArg some (by kernel_rfl))
  f286 := Tryd.func30.trans (congrArg some (by kernel_rfl))
  f287 := Tryd.func15.trans (congrArg some (by kernel_rfl))
  f316 := Tryd.func22.trans (congrArg some (by kernel_rfl))
  f317 := Tryd.func31.trans (congrArg some (by kernel_rfl))
  f318 := Tryd.func33.trans (congrArg some (by kernel_rfl))
  f319 := Tryd.func34.trans (congrArg some (by kernel_rfl))
  f320 := Tryd.func35.trans (congrArg some (by kernel_rfl))
  f321 := Tryd.func20.trans (congrArg some (by kernel_rfl))
  f322 := Tryd.func21.trans (congrArg some (by kernel_rfl))
  f337 := Tryd.func36.trans (congrArg some (by kernel_rfl))
  f338 := Tryd.func37.trans (congrArg some (by kernel_rfl))
  t0 := Tryd.underlying0
  a0 := Tryd.isAgg0
  z0 := Tryd.sizeOf0
  v0 := Tryd.zeroValue0
  t2 := Tryd.underlying2
  a2 := Tryd.isAgg2
  z2 := Tryd.sizeOf2
  v2 := Tryd.zeroValue2
  t3 := Tryd.underlying3
  a3 := Tryd.isAgg3
  z3 := Tryd.sizeOf3
  v3 := Tryd.zeroValue3
  t4 := Tryd.underlying4
  a4 := Tryd.isAgg4
  z4 := Tryd.sizeOf4
  v4 := Tryd.zeroValue4
  t5 := Tryd.underlying5
  a5 := Tryd.isAgg5
  z5 := Tryd.sizeOf5
  v5 := Tryd.zeroValue5
  t9 := Tryd.underlying9
  a9 := Tryd.isAgg9
  z9 := Tryd.sizeOf9
  v9 := Tryd.zeroValue9
  t20 := Tryd.underlying20
  a20 := Tryd.isAgg20
  z20 := Tryd.sizeOf20
  v20 := Tryd.zeroValue20
  t21 := Tryd.underlying21
  a21 := Tryd.isAgg21
  z21 := Tryd.sizeOf21
  v21 := Tryd.zeroValue21
  t37 := Tryd.underlying29
  a37 := Tryd.isAgg29
  z37 := Tryd.sizeOf29
  v37 := Tryd.zeroValue29
  t46 := Tryd.underlying39
  a46 := Tryd.isAgg39
  z46 := Tryd.sizeOf39
  v46 := Tryd.zeroValue39
  t51 := Tryd.underlying61
  a51 := Tryd.isAgg61
  z51 := Tryd.sizeOf61
  v51 := Tryd.zeroValue61
  t53 := Tryd.underlying30
  a53 := Tryd.isAgg30
  z53 := Tryd.sizeOf30
  v53 := Tryd.zeroValue30
  t75 := Tryd.underlying32
  a75 := Tryd.isAgg32
  z75 := Tryd.sizeOf32
  v75 := Tryd.zeroValue32
  t85 := Tryd.underlying33
  a85 := Tryd.isAgg33
  z85 := Tryd.sizeOf33
  v85 := Tryd.zeroValue33
  t127 := Tryd.underlying48
  a127 := Tryd.isAgg48
  z127 := Tryd.sizeOf48
  v127 := Tryd.zeroValue48
  t143 := Tryd.underlying49
  a143 := Tryd.isAgg49
  z143 := Tryd.sizeOf49
  v143 := Tryd.zeroValue49
  t145 := Tryd.underlying51
  a145 := Tryd.isAgg51
  z145 := Tryd.sizeOf51
  v145 := Tryd.zeroValue51
  t167 := Tryd.underlying36
  a167 := Tryd.isAgg36
  z167 := Tryd.sizeOf36
  v167 := Tryd.zeroValue36
  t168 := Tryd.underlying40
  a168 := Tryd.isAgg40
  z168 := Tryd.sizeOf40
  v168 := Tryd.zeroValue40
  t171 := Tryd.underlying53
  a171 := Tryd.isAgg53
  z171 := Tryd.sizeOf53
  v171 := Tryd.zeroValue53
  t173 := Tryd.underlying56
  a173 := Tryd.isAgg56
  z173 := Tryd.sizeOf56
  v173 := Tryd.zeroValue56
  t175 := Tryd.underlying37
  a175 := Tryd.isAgg37
  z175 := Tryd.sizeOf37
  v175 := Tryd.zeroValue37
  t210 := Tryd.underlying46
  a210 := Tryd.isAgg46
  z210 := Tryd.sizeOf46
  v210 := Tryd.zeroValue46
  t212 := Tryd.underlying60
  a212 := Tryd.isAgg60
  z212 := Tryd.sizeOf60
  v212 := Tryd.zeroValue60
  t213 := Tryd.underlying62
  a213 := Tryd.isAgg62
  z213 := Tryd.sizeOf62
  t232 := Tryd.underlying65
  a232 := Tryd.isAgg65
  z232 := Tryd.sizeOf65
  v232 := Tryd.zeroValue65
  t233 := Tryd.underlying66
  a233 := Tryd.isAgg66
  z233 := Tryd.sizeOf66
  v233 := Tryd.zeroValue66
  g15 := by kernel_rfl
  g16 := by kernel_rfl
  g17 := by kernel_rfl
  g18 := by kernel_rfl
  g19 := by kernel_rfl
  t80 := Tryd.underlying67
  a80 := Tryd.isAgg67
  z80 := Tryd.sizeOf67
  v80 := Tryd.zeroValue67
  i0 := by kernel_rfl
  i2 := by kernel_rfl
  i3 := by kernel_rfl
  i4 := by kernel_rfl
  i5 := by kernel_rfl
  i9 := by kernel_rfl
  i20 := by kernel_rfl
  i21 := by kernel_rfl
  i37 := by kernel_rfl
  i46 := by kernel_rfl
  i51 := by kernel_rfl
  i53 := by kernel_rfl
  i75 := by kernel_rfl
  i80 := by kernel_rfl
  i85 := by kernel_rfl
  i127 := by kernel_rfl
  i143 := by kernel_rfl
  i145 := by kernel_rfl
  i167 := by kernel_rfl
  i168 := by kernel_rfl
  i171 := by kernel_rfl
  i173 := by kernel_rfl
  i175 := by kernel_rfl
  i210 := by kernel_rfl
  i212 := by kernel_rfl
  i232 := by kernel_rfl
  i233 := by kernel_rfl
  m15 := by kernel_rfl
  m16 := by kernel_rfl
  m17 := by kernel_rfl
  m18 := by kernel_rfl
  m19 := by kernel_rfl
  c0 := by kernel_rfl
  c2 := by kernel_rfl
  c3 := by kernel_rfl
  c4 := by kernel_rfl
  c5 := by kernel_rfl
  c9 := by kernel_rfl
  c20 := by kernel_rfl
  c21 := by kernel_rfl
  c37 := by kernel_rfl
  c46 := by kernel_rfl
  c51 := by kernel_rfl
  c53 := by kernel_rfl
  c75 := by kernel_rfl
  c80 := by kernel_rfl
  c85 := by kernel_rfl
  c127 := by kernel_rfl
  c143 := by kernel_rfl
  c145 := by kernel_rfl
  c167 := by kernel_rfl
  c168 := by kernel_rfl
  c171 := by kernel_rfl
  c173 := by kernel_rfl
  c175 := by kernel_rfl
  c210 := by kernel_rfl
  c212 := by kernel_rfl
  c213 := by kernel_rfl
  c232 := by kernel_rfl
  c233 := by kernel_rfl }
end Go.Proofs
namespace Go.Proofs.YtbmihohogoblnaaDoor
open Go.RowKit
/-- The two error variables hold an interface value each. -/
def Errs (w : World) : Prop := ∃ e0 e1 : Value, w.cell? ⟨0, 0, none⟩ = some e0 ∧ (e0 = .nilIface ∨ ∃ t p, e0 = .iface t p) ∧ w.cell? ⟨1, 0, none⟩ = some e1 ∧ (e1 = .nilIface ∨ ∃ t p, e1 = .iface t p)
theorem cell_below {w w' : World} {a : Addr} {v : Value} (h : w.cell? a = some v) (hb : Below w.heap.size w w') : w'.cell? a = some v := by
  rw [← h]
  refine hb.cell ?_
  rcases Nat.lt_or_ge a.block w.heap.size with c | c
  · exact c
  · exfalso
    unfold World.cell? at h
    rw [Array.getElem?_eq_none c] at h
    cases h
theorem Errs.below {w w' : World} (h : Errs w) (hb : Below w.heap.size w w') : Errs w' := by
  obtain ⟨e0, e1, h0, k0, h1, k1⟩ := h
  exact ⟨e0, e1, cell_below h0 hb, k0, cell_below h1 hb, k1⟩
theorem ParseInt_some (s : ByteArray) (hmax : s.size ≤ 281474976710656) (v : Int) (h : Read s.data.toList = some v) (w : World) :
    Calls Tryd.prog 12 #[.string s, .int .i64 10, .int .i64 64] w fun e w' => e = .returned (.tuple #[.int .i64 v, .nilIface]) ∧ Below w.heap.size w w' := by
  unfold Read at h
  cases hp : Lib.parseIntB 64 s.data.toList
  case ok u =>
    rw [hp] at h
    obtain rfl : u = v := by simpa using h
    refine (Any.strconv_ParseInt_10_at64_ok Tryd.laysC174 s (by omega) u hp w).mono ?_
    rintro e w' ⟨he, hw⟩
    refine ⟨he, ?_⟩
    rcases hw with rfl | ⟨t, rfl⟩
    · exact Below.refl _ _
    · exact Lib.bytesWorld_below _ _ _
  all_goals
    rw [hp] at h
    cases h
theorem ParseInt_none (s : ByteArray) (hmax : s.size ≤ 281474976710656) (h : Read s.data.toList = none) (w : World) (hE : Errs w) :
    Calls Tryd.prog 12 #[.string s, .int .i64 10, .int .i64 64] w fun e w' => ∃ (v : Int) (n : Nat), e = .returned (.tuple #[.int .i64 v, .iface 40 (.pointer (some ⟨n, 0, none⟩))]) ∧ Below w.heap.size w w' := by
  obtain ⟨e0, e1, h0, k0, h1, k1⟩ := hE
  unfold Read at h
  cases hp : Lib.parseIntB 64 s.data.toList
  case ok u =>
    rw [hp] at h
    cases h
  case range =>
    refine (Any.strconv_ParseInt_10_at64_range Tryd.laysC174 s hmax hp e1 w h1 k1).mono ?_
    rintro e w' ⟨n, he, _, _, hb⟩
    exact ⟨_, n, he, hb⟩
  refine (Any.strconv_ParseInt_10_at64_syntax Tryd.laysC174 s hmax hp e0 w h0 k0).mono ?_
  rintro e w' ⟨n, he, _, _, hb⟩
  exact ⟨_, n, he, hb⟩
end Go.Proofs.YtbmihohogoblnaaDoor
