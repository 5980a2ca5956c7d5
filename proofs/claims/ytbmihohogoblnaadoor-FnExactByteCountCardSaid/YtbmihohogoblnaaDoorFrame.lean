/- What every law of this seat needs to go from its walk to its row: the error variables read out of the row's condition; a result where nothing that was there has turned; a world that holds what the program's initialisers lay. -/
import Derived.Test.YtbmihohogoblnaaDoorRows
import Derived.Test.YtbmihohogoblnaaDoorUnits
import Derived.OpenShut
import Derived.Deep.DeepWitnessRowRef
import Derived.LaidMore
import Derived.LaidSub
import Derived.Stop.LaidErr
import Derived.SevenTiedAt
namespace Go.Proofs.YtbmihohogoblnaaDoor
open Go.ChangeShapes Go.WideShapes Go.ChangeAt Go.RowKit Go.WideElems

theorem own : ownKnob Tryd.prog.godebug = none := by kernel_rfl

theorem laidMetH_tail {P : Program} {W : World} {n : String} {d : DataW Unit} {rest : List (String × DataW Unit)} (hd : d.handleName?.isSome = false) (h : laidMetH P ((n, d) :: rest) W) : laidMetH P rest W := by
  obtain ⟨h1, h2⟩ := laidMetH_iff.1 h
  refine laidMetH_iff.2 ⟨?_, fun x hx => h2 x (by rw [List.filter_cons_of_neg (by simpa using hd)]; exact hx)⟩
  rw [List.filter_cons_of_pos (by simpa using hd)] at h1
  exact h1.tail
theorem laidMetH_head {P : Program} {W : World} {n : String} {d : DataW Unit} {rest : List (String × DataW Unit)} (hd : d.handleName?.isSome = false) (h : laidMetH P ((n, d) :: rest) W) : laidMet P ((n, d) :: rest.filter fun x => x.2.handleName?.isNone) W := by
  obtain ⟨h1, _⟩ := laidMetH_iff.1 h
  rw [List.filter_cons_of_pos (by simpa using hd)] at h1
  exact h1
/-- A listed variable of an interface type that reads as a value holds one. -/
theorem head_iface {P : Program} {W : World} {n nm : String} {d : DataW Unit} {r : List (String × DataW Unit)} {g ti : Nat} {ms : Array (String × TypeId)} (h : laidMet P ((n, .iface nm d) :: r) W)
    (hg : P.globalNamed n = some g) (ht : (P.globals[g]?).map (·.type) = some ti) (hi : P.underlying ti = some (.interface ms)) : ∃ u v, W.cell? ⟨g, 0, none⟩ = some (.iface u v) := by
  obtain ⟨ps, ⟨g0, t0, cs0, f0, p0, q0, hg0, ht0, hv0, hd0, _, _⟩, _⟩ := h
  obtain rfl := Option.some.inj (hg.symm.trans hg0)
  obtain rfl := Option.some.inj (ht.symm.trans ht0)
  obtain ⟨f1, u, v, hcs, _⟩ := iface_of_trod hi hd0
  have hc := World.var?_cell hg0 hv0 0
  refine ⟨u, v, ?_⟩
  have e : cs0[0]? = some (.iface u v) := by rw [← Array.getElem?_toList, hcs]; rfl
  rw [e] at hc
  simpa using hc

theorem gS : Tryd.prog.globalNamed "strconv.ErrSyntax" = some 0 := by kernel_rfl
theorem gR : Tryd.prog.globalNamed "strconv.ErrRange" = some 1 := by kernel_rfl
theorem tS : (Tryd.prog.globals[0]?).map (·.type) = some 32 := by kernel_rfl
theorem tR : (Tryd.prog.globals[1]?).map (·.type) = some 32 := by kernel_rfl
/-- The list of every row of this seat. -/
def listed : List (String × DataW Unit) := Rows.fnByteCountBRow.laid
theorem errs {W : World} (h : laidMetH Tryd.prog listed W) : Errs W := by
  have r1 := laidMetH_tail (by rfl) h
  have r2 := laidMetH_tail (by rfl) r1
  have r3 := laidMetH_tail (by rfl) r2
  have r4 := laidMetH_tail (by rfl) r3
  obtain ⟨u1, v1, h1⟩ := head_iface (laidMetH_head (by rfl) r3) gR tR Tryd.underlying32
  obtain ⟨u0, v0, h0⟩ := head_iface (laidMetH_head (by rfl) r4) gS tS Tryd.underlying32
  exact ⟨_, _, h0, Or.inr ⟨u0, v0, rfl⟩, h1, Or.inr ⟨u1, v1, rfl⟩⟩

/-- What a row asks behind the call, where nothing that was there has turned. -/
theorem post_of_below {H : Type} {enc : TypeId × Value → H} {P : Program} {f : Func} {s : ChangeSpec} {apart fresh handsOn : Bool} {W W' : World} {args : Array Value} {v : Value} {ds gs : List (DataW H)} {before pa pv : List MemPlace}
    (hW : DataW.Whole enc P f.params.toList s.vars apart W args.toList ds gs before)
    (hres : ∀ (b : Nat) (sp : Nat → Bool) (hd : Bool), DataW.TrodAll enc P W' b sp hd f.resultTypes.toList (v.resultList f.resultTypes.size) (s.fn H (ds ++ gs)).results [])
    (hargs : ∀ sp : Nat → Bool, (∀ p ∈ before, sp p.block = true) → DataW.TrodAll enc P W' 0 sp true f.params.toList args.toList (s.fn H (ds ++ gs)).args pa)
    (hvars : ∀ sp : Nat → Bool, (∀ p ∈ before, sp p.block = true) → DataW.TrodVars enc P W' sp s.vars (s.fn H (ds ++ gs)).vars pv)
    (hps : before = pa ++ pv) (hb : Below W.heap.size W W') : s.post enc P f apart fresh handsOn false W args v W' := by
  have hold : ∀ p ∈ before, (fun b => decide (b < W.heap.size)) p.block = true := fun p hp => by simpa using hW.lt p hp
  refine ⟨ds, gs, before, [], pa, pv, hW, hres _ _ _, hargs _ hold, hvars _ hold, World.keptBut_mono (fun p hp => ⟨hp, ?_⟩) (hb.frame _), fun h => by cases h⟩
  rw [hps, List.mem_append] at hp
  exact Or.inr hp

/-- A world for the witness: the heap that the program's own initialisers leave. -/
noncomputable def laidWorld (os : Os) : World := World.doorLaid Tryd.prog 62 os
end Go.Proofs.YtbmihohogoblnaaDoor
