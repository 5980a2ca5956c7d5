/- What every law of this seat needs to go from its walk to its row: the tables read out of the row's condition, the variables read again behind the call, a world that holds the tables. -/
import Derived.Test.YtpebmkbfpeialaaDoorRows
import Derived.Test.YtpebmkbfpeialaaDoorWalks
import Derived.WalkKit
import Derived.ProofKit
import Derived.OpenShut
import Derived.OpenVars
import Derived.Deep.DeepHandedRow
import Derived.Lib.LaidTab
import Derived.LaidSub
import Derived.Stop.LaidErr
import Derived.SevenTiedAt
namespace Go.Proofs.YtpebmkbfpeialaaDoor
open Go.ChangeShapes Go.WideShapes Go.ChangeAt Go.RowKit Go.WideElems

theorem own : ownKnob Tryd.prog.godebug = none := by kernel_rfl
theorem laidOut : laidOutB Tryd.prog = true := by kernel_rfl

theorem laidMetH_tail {P : Program} {W : World} {n : String} {d : DataW Unit} {rest : List (String × DataW Unit)} (hd : d.handleName?.isSome = false) (h : laidMetH P ((n, d) :: rest) W) : laidMetH P rest W := by
  obtain ⟨h1, h2⟩ := laidMetH_iff.1 h
  refine laidMetH_iff.2 ⟨?_, fun x hx => h2 x (by rw [List.filter_cons_of_neg (by simpa using hd)]; exact hx)⟩
  rw [List.filter_cons_of_pos (by simpa using hd)] at h1
  exact h1.tail
theorem laidMetH_head {P : Program} {W : World} {n : String} {d : DataW Unit} {rest : List (String × DataW Unit)} (hd : d.handleName?.isSome = false) (h : laidMetH P ((n, d) :: rest) W) : laidMet P ((n, d) :: rest.filter fun x => x.2.handleName?.isNone) W := by
  obtain ⟨h1, _⟩ := laidMetH_iff.1 h
  rw [List.filter_cons_of_pos (by simpa using hd)] at h1
  exact h1
theorem holds_of_tab {W : World} {name : String} {k : IntKind} {zs : List Int} {g : Nat} (hg : Tryd.prog.globalNamed name = some g) (h : Lib.TabIs Tryd.prog W name k zs) : Holds W g k zs := fun i hi => h.cell hg i hi

/-- The named variables read behind the call as they did before, whatever is asked of spare places. -/
theorem vars_again {H : Type} {enc : TypeId × Value → H} {W W' : World} {sp : Nat → Bool} (hb : Below W.heap.size W W') :
    ∀ {ns : List String} {gs : List (DataW H)} {ps : List MemPlace}, varsRowed Tryd.prog ns = true → DataW.TrodVars enc Tryd.prog W (fun _ => true) ns gs ps → (∀ p ∈ ps, sp p.block = true) → DataW.TrodVars enc Tryd.prog W' sp ns gs ps
  | [], [], _, _, h, _ => h
  | [], _ :: _, _, _, h, _ => h.elim
  | _ :: _, [], _, _, h, _ => h.elim
  | n :: ns, d :: ds, ps, hv, h, hs => by
    have hlt := h.lt
    obtain ⟨g, t, cs, fuel, p, q, h1, h2, h3, h4, hq, e⟩ := h
    simp only [varsRowed, List.all_cons, Bool.and_eq_true] at hv
    have ht : Tryd.prog.readableRec t = true ∧ t < Tryd.prog.types.size := by
      have := hv.1
      rw [h1] at this
      cases hg : Tryd.prog.globals[g]? with
      | none => rw [hg] at h2; cases h2
      | some gl =>
        rw [hg] at h2
        obtain rfl : gl.type = t := Option.some.inj h2
        simpa [hg] using this
    have hp : ∀ x ∈ p, x.block < W.heap.size := fun x hx => hlt x (by rw [e]; simp [hx])
    have h3' : W'.var? Tryd.prog n = some cs := by
      unfold World.var? at h3 ⊢
      rw [h1] at h3 ⊢
      simp only [Option.bind_some] at h3 ⊢
      have hg : g < W.heap.size := by
        cases hh : W.heap[g]? with
        | none => rw [hh] at h3; cases h3
        | some o => exact (Array.getElem?_eq_some_iff.1 hh).1
      rw [hb.block g hg]; exact h3
    exact ⟨g, t, cs, fuel, p, q, h1, h2, h3', DataW.trod_stays (kids_book laidOut ht.1) (book_sized ht.1) (fun h => by cases h) ⟨ht.2, book_self t⟩ h4 (fun x hx => hb.same (hp x hx)) (fun x hx => hs x (by rw [e]; simp [hx])),
      vars_again hb (by simpa [varsRowed] using hv.2) hq (fun x hx => hs x (by rw [e]; simp [hx])), e⟩

section
variable {H : Type} {enc : TypeId × Value → H} {P : Program} {w : World} {spare : Nat → Bool}
theorem trodVars_length : ∀ {ns : List String} {gs : List (DataW H)} {ps : List MemPlace}, DataW.TrodVars enc P w spare ns gs ps → gs.length = ns.length
  | [], [], _, _ => rfl
  | [], _ :: _, _, h => h.elim
  | _ :: _, [], _, h => h.elim
  | _ :: _, _ :: _, _, h => by
    obtain ⟨_, _, _, _, _, _, _, _, _, _, h5, _⟩ := h
    simpa using trodVars_length h5
theorem vars1_are {a : String} {gs : List (DataW H)} {ps : List MemPlace} (h : DataW.TrodVars enc P w spare [a] gs ps) : ∃ x, gs = [x] := by
  have := trodVars_length h
  match gs, this with | [x], _ => exact ⟨x, rfl⟩
theorem vars2_are {a b : String} {gs : List (DataW H)} {ps : List MemPlace} (h : DataW.TrodVars enc P w spare [a, b] gs ps) : ∃ x y, gs = [x, y] := by
  have := trodVars_length h
  match gs, this with | [x, y], _ => exact ⟨x, y, rfl⟩
theorem vars3_are {a b c : String} {gs : List (DataW H)} {ps : List MemPlace} (h : DataW.TrodVars enc P w spare [a, b, c] gs ps) : ∃ x y z, gs = [x, y, z] := by
  have := trodVars_length h
  match gs, this with | [x, y, z], _ => exact ⟨x, y, z, rfl⟩
end

theorem sizes_var : Tryd.prog.globalNamed "loop.example/pub-runtimeparts/pub/sizeclasses.SizeClassToSize" = some 0 := by kernel_rfl
theorem sizes_type : (Tryd.prog.globals[0]?).map (·.type) = some 30 := by kernel_rfl
theorem sizes_cells : Tryd.prog.cellsOf 30 = 68 := by kernel_rfl
theorem sizes_plain : (Rows.laid_loop_example_pub_runtimeparts_pub_sizeclasses_SizeClassToSize : DataW Unit).handleName?.isSome = false := rfl
theorem sizes_elem : Tryd.prog.cellsOf 29 = 1 := by kernel_rfl
set_option maxRecDepth 100000 in
theorem sizes_data : (Rows.laid_loop_example_pub_runtimeparts_pub_sizeclasses_SizeClassToSize : DataW Unit) = Lib.tabData .u16 Tabs.sizes := by kernel_rfl
theorem sizes_is {W : World} {rest : List (String × DataW Unit)} (h : laidMetH Tryd.prog (("loop.example/pub-runtimeparts/pub/sizeclasses.SizeClassToSize", Rows.laid_loop_example_pub_runtimeparts_pub_sizeclasses_SizeClassToSize) :: rest) W) : Lib.TabIs Tryd.prog W "loop.example/pub-runtimeparts/pub/sizeclasses.SizeClassToSize" .u16 Tabs.sizes := by
  have h' := laidMetH_head sizes_plain h
  rw [sizes_data] at h'
  exact Lib.tabIs_of_head sizes_var sizes_type Tryd.underlying30 Tryd.underlying29 sizes_elem sizes_cells h'

theorem c8_var : Tryd.prog.globalNamed "loop.example/pub-runtimeparts/pub/sizeclasses.SizeToSizeClass8" = some 1 := by kernel_rfl
theorem c8_type : (Tryd.prog.globals[1]?).map (·.type) = some 32 := by kernel_rfl
theorem c8_cells : Tryd.prog.cellsOf 32 = 129 := by kernel_rfl
theorem c8_plain : (Rows.laid_loop_example_pub_runtimeparts_pub_sizeclasses_SizeToSizeClass8 : DataW Unit).handleName?.isSome = false := rfl
theorem c8_elem : Tryd.prog.cellsOf 5 = 1 := by kernel_rfl
set_option maxRecDepth 100000 in
theorem c8_data : (Rows.laid_loop_example_pub_runtimeparts_pub_sizeclasses_SizeToSizeClass8 : DataW Unit) = Lib.tabData .u8 Tabs.c8 := by kernel_rfl
theorem c8_is {W : World} {rest : List (String × DataW Unit)} (h : laidMetH Tryd.prog (("loop.example/pub-runtimeparts/pub/sizeclasses.SizeToSizeClass8", Rows.laid_loop_example_pub_runtimeparts_pub_sizeclasses_SizeToSizeClass8) :: rest) W) : Lib.TabIs Tryd.prog W "loop.example/pub-runtimeparts/pub/sizeclasses.SizeToSizeClass8" .u8 Tabs.c8 := by
  have h' := laidMetH_head c8_plain h
  rw [c8_data] at h'
  exact Lib.tabIs_of_head c8_var c8_type Tryd.underlying32 Tryd.underlying5 c8_elem c8_cells h'

theorem c128_var : Tryd.prog.globalNamed "loop.example/pub-runtimeparts/pub/sizeclasses.SizeToSizeClass128" = some 2 := by kernel_rfl
theorem c128_type : (Tryd.prog.globals[2]?).map (·.type) = some 34 := by kernel_rfl
theorem c128_cells : Tryd.prog.cellsOf 34 = 249 := by kernel_rfl
theorem c128_plain : (Rows.laid_loop_example_pub_runtimeparts_pub_sizeclasses_SizeToSizeClass128 : DataW Unit).handleName?.isSome = false := rfl
theorem c128_elem : Tryd.prog.cellsOf 5 = 1 := by kernel_rfl
set_option maxRecDepth 100000 in
theorem c128_data : (Rows.laid_loop_example_pub_runtimeparts_pub_sizeclasses_SizeToSizeClass128 : DataW Unit) = Lib.tabData .u8 Tabs.c128 := by kernel_rfl
theorem c128_is {W : World} {rest : List (String × DataW Unit)} (h : laidMetH Tryd.prog (("loop.example/pub-runtimeparts/pub/sizeclasses.SizeToSizeClass128", Rows.laid_loop_example_pub_runtimeparts_pub_sizeclasses_SizeToSizeClass128) :: rest) W) : Lib.TabIs Tryd.prog W "loop.example/pub-runtimeparts/pub/sizeclasses.SizeToSizeClass128" .u8 Tabs.c128 := by
  have h' := laidMetH_head c128_plain h
  rw [c128_data] at h'
  exact Lib.tabIs_of_head c128_var c128_type Tryd.underlying34 Tryd.underlying5 c128_elem c128_cells h'

/-- A world for the witness: the settled one, each table holding its numbers. -/
noncomputable def laidWorld (os : Os) : World :=
  { World.holding Tryd.prog os ⟨#[], #[], []⟩ with heap := ((((World.holding Tryd.prog os ⟨#[], #[], []⟩).heap.modify 0 (fun | .cells _ t frozen => .cells (Tabs.sizes.map fun z => Value.int .u16 z).toArray t frozen | o => o)).modify 1 (fun | .cells _ t frozen => .cells (Tabs.c8.map fun z => Value.int .u8 z).toArray t frozen | o => o)).modify 2 (fun | .cells _ t frozen => .cells (Tabs.c128.map fun z => Value.int .u8 z).toArray t frozen | o => o)) }
end Go.Proofs.YtpebmkbfpeialaaDoor
