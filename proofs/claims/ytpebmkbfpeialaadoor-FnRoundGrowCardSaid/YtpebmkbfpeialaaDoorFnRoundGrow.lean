/- The law FnRoundGrow, proved for every input: the call returns true. The condition is the row's own: the listed tables hold what the program's text lays (the card ties them to it). -/
import Derived.Test.YtpebmkbfpeialaaDoorCards
import Derived.Test.YtpebmkbfpeialaaDoorTie
import Derived.Test.YtpebmkbfpeialaaDoorFrame
import Derived.Test.YtpebmkbfpeialaaDoorWalks
namespace Go.Proofs.YtpebmkbfpeialaaDoor.fnRoundGrow
open Go.ChangeShapes Go.WideShapes Go.ChangeAt Go.RowKit
set_option linter.unusedVariables false
/-- What the row's list gives: the tables' cells hold the listed numbers. -/
theorem tables {W : World} (h : laidMetH Tryd.prog Rows.fnRoundGrowRow.laid W) : Holds W 0 .u16 Tabs.sizes ∧ Holds W 1 .u8 Tabs.c8 ∧ Holds W 2 .u8 Tabs.c128 := by
  have t0 := sizes_is (rest := _) h
  have r1 := laidMetH_tail sizes_plain h
  have t1 := c8_is (rest := _) r1
  have r2 := laidMetH_tail c8_plain r1
  have t2 := c128_is (rest := _) r2
  exact ⟨holds_of_tab sizes_var t0, holds_of_tab c8_var t1, holds_of_tab c128_var t2⟩

/-- What the walk gives, for every argument and every world that holds the tables. -/
theorem contract (H : Type) (enc : TypeId × Value → H) (W : World) (base : Nat) (args : Array Value) (ds gs : List (DataW H)) (before : List MemPlace)
    (hval : ∀ (j : Nat) t v, Tryd.f3.params[j]? = some t → args[j]? = some v → Value.okWide Tryd.prog W .any base t v)
    (hW : DataW.Whole enc Tryd.prog Tryd.f3.params.toList Rows.fnRoundGrowSpec.vars false W args.toList ds gs before) (hL : laidMetH Tryd.prog Rows.fnRoundGrowRow.laid W) :
    Calls Tryd.prog 3 args W fun e W' => ∃ v, e = .returned v ∧ Rows.fnRoundGrowSpec.post enc Tryd.prog Tryd.f3 false true false false W args v W' := by
  have hW' := hW
  obtain ⟨p, q, hA0, hV, rfl, hfz, hnd⟩ := hW
  have hA : DataW.TrodAll enc Tryd.prog W 0 (fun _ => true) true Tryd.f3.params.toList args.toList ds p := hA0
  rw [Tryd.params3] at hA hval
  obtain ⟨v0, vs0, d0, ds0, p0, q0, hargs, rfl, rfl, h0, r0⟩ := trodAll_cons hA
  obtain ⟨v1, vs1, d1, ds1, p1, q1, rfl, rfl, rfl, h1, r1⟩ := trodAll_cons r0
  obtain ⟨rfl, rfl, rfl⟩ := trodAll_nil r1
  obtain rfl : args = #[v0, v1] := by cases args; simp_all
  obtain ⟨a0, rfl, rfl, rfl, w0⟩ := open_int Tryd.underlying22 (hval 0 22 v0 rfl rfl) h0
  obtain ⟨a1, rfl, rfl, rfl⟩ := open_bool Tryd.underlying4 (hval 1 4 v1 rfl rfl) h1
  obtain ⟨g0, g1, g2, rfl⟩ := vars3_are hV
  clear hA0
  simp only [List.append_nil, List.nil_append] at hW'
  have b0 := bounds_u64 w0
  obtain ⟨t_sizes, t_c8, t_c128⟩ := tables hL
  refine (grow W t_sizes t_c8 t_c128 a0 a1 b0.1 b0.2).mono fun e W' ⟨he, hw⟩ => ?_
  subst he; subst hw
  exact ⟨_, rfl, post_of_same (pa := []) (pv := q) hW' (fun _ _ _ => trodAll_cons_mk (shut_bool Tryd.underlying4 _) trodAll_mk0) (fun _ _ => trodAll_cons_mk (shut_int Tryd.underlying22 w0) (trodAll_cons_mk (shut_bool Tryd.underlying4 _) trodAll_mk0))
    (fun sp hs => vars_again (Below.refl _ _) (by kernel_rfl) hV (fun x hx => hs x (by simpa using hx))) (by simp) (World.keptBut_refl _ _) (fun _ => rfl) (ok_one (by kernel_rfl) rfl (okWide_bool_mk Tryd.underlying4 _))⟩

theorem laid_met (os : Os) : laidMet Tryd.prog Rows.fnRoundGrowRow.laid ((laidWorld os).forCall (fun _ _ => 0) ⟨#[], #[.int .u64 0, .bool false], []⟩).memory :=
  laidMet_of_run' 8 (by kernel_rfl) (by kernel_rfl)
theorem reads (os : Os) {H : Type} (enc : TypeId × Value → H) : ∃ places, DataW.whole enc Tryd.prog ((laidWorld os).forCall (fun _ _ => 0) ⟨#[], #[.int .u64 0, .bool false], []⟩).memory Tryd.f3.params.toList Rows.fnRoundGrowSpec.vars false (#[.int .u64 0, .bool false] : Array Value).toList 8 = some ([.lit (.int .u64 0), .lit (.bool false)], [Lib.tabData .u8 Tabs.c8, Lib.tabData .u16 Tabs.sizes, Lib.tabData .u8 Tabs.c128], places) :=
  ⟨MemPlace.row ⟨1, 0, none⟩ 129 ++ MemPlace.row ⟨0, 0, none⟩ 68 ++ MemPlace.row ⟨2, 0, none⟩ 249, by kernel_rfl⟩

set_option maxRecDepth 100000 in
theorem lifted (os : Os) (started : os.Started) (H : Type) (enc : TypeId × Value → H) (F : Stop.Interp) :
    ReturnsInHanded {} Tryd.checked os 3 .any ((OpenSpec.ofChange Rows.fnRoundGrowSpec).preRow enc Tryd.prog Tryd.f3 Rows.fnRoundGrowRow.domain false Rows.fnRoundGrowRow.laid) (((OpenSpec.ofChange Rows.fnRoundGrowSpec).at F).post enc Tryd.prog Tryd.f3 false true false false) := by
  obtain ⟨places, hx⟩ := reads os enc
  refine returnsInHanded_of_row (C := Tryd.checked) (s := OpenSpec.ofChange Rows.fnRoundGrowSpec) own started (by kernel_rfl) Tryd.func3
    (witness_row_at (enc := enc) (C := Tryd.checked) false (laidWorld os) #[.int .u64 0, .bool false] rfl (by kernel_rfl) (by kernel_rfl) (by kernel_rfl)
      (OpenSpec.preRow_of_cond 8 hx (by kernel_rfl) (fun k hk => by cases hk) (by kernel_rfl) (laid_met os))) ?_
  intro W base args ds gs before hval hW _ _ _ hL _ _
  exact contract H enc W base args ds gs before hval hW hL

theorem said : Rows.FnRoundGrowSaid :=
  OpenClaim.holds_of_cond 3 Tryd.f3 rfl rfl rfl rfl rfl rfl rfl ⟨rfl, rfl, rfl, rfl, rfl⟩ rfl rfl rfl rfl rfl (by kernel_rfl) Tryd.func3 (by kernel_rfl)
    (of_decide_eq_true (by kernel_rfl)) (by unfold Func.isWrapper; first | (rw [if_pos (by decide +kernel)]; kernel_rfl) | (rw [if_neg (by decide +kernel)]; exact ⟨rfl, rfl⟩))
    (fun os started H enc _ F => by rw [OpenClaim.pre_eq_preRow]; exact lifted os started H enc F)

/-- No parameter wants a stand-in; the program's own looks are off: what the card asks. -/
theorem plain (f : FuncId) (fn : Func) (hf : Tryd.pinned.checked.prog.funcNamed Tryd.f3.name = some f) (hfn : Tryd.pinned.checked.prog.funcs[f]? = some fn) :
    false = Tryd.pinned.checked.prog.looks [] ∧ ∀ (j : Nat) t, fn.params[j]? = some t → Tryd.pinned.checked.prog.wantsStandIn t = false := by
  obtain rfl : f = 3 := Option.some.inj ((show Tryd.prog.funcNamed Tryd.f3.name = some 3 by kernel_rfl).symm.trans hf) |>.symm
  obtain rfl : fn = Tryd.f3 := (Option.some.inj (Tryd.func3.symm.trans hfn)).symm
  refine ⟨by kernel_rfl, fun j t ht => ?_⟩
  rw [Tryd.params3] at ht
  have hm := Array.mem_of_getElem? ht
  have hall : ([22, 4].all fun u => !Tryd.prog.wantsStandIn u) = true := by kernel_rfl
  exact (show Tryd.prog.wantsStandIn t = false by simpa using List.all_eq_true.1 hall t (by simpa using hm))

/-- The card. -/
theorem card : Rows.FnRoundGrowCardSaid :=
  Claim7.holds_tied_plain_at .later [] _ _ _ _ said (fun _ h => by cases h) (by kernel_rfl) (fun _ h => by cases h) fnRoundGrow_row_tie rfl ⟨rfl, rfl⟩ (by kernel_rfl) rfl plain (by kernel_rfl)
end Go.Proofs.YtpebmkbfpeialaaDoor.fnRoundGrow
