/-
  What the rows of ReadProof's two laws know of the variables of package io; the witness.
-/
import Derived.Test.Qxb6616481aDoorBlocks
import Derived.Test.Qxb6616481aDoorSplitProof
namespace Go.Proofs.Qxb6616481aDoor
open Go.ChangeShapes Go.WideShapes Go.ChangeAt Go.RowKit

theorem n1 : Tryd.prog.globalNamed "io.ErrShortBuffer" = some 1 := by kernel_rfl
theorem n2 : Tryd.prog.globalNamed "io.EOF" = some 2 := by kernel_rfl
theorem n3 : Tryd.prog.globalNamed "io.ErrUnexpectedEOF" = some 3 := by kernel_rfl
theorem ty1 : (Tryd.prog.globals[1]?).map (·.type) = some 38 := by kernel_rfl
theorem ty2 : (Tryd.prog.globals[2]?).map (·.type) = some 38 := by kernel_rfl
theorem ty3 : (Tryd.prog.globals[3]?).map (·.type) = some 38 := by kernel_rfl
/-- The name of an error's dynamic type. -/
def nmOf (d : DataW Unit) : String :=
  match d with
  | .iface nm _ => nm
  | _ => "none"

/-- Of the types by that name there is the one. -/
theorem rows57 (s : String) (h : s = nmOf Rows.laid_io_EOF) : ((List.range Tryd.prog.types.size).all fun u => Tryd.prog.typeName? 3 u != some s || u == 57) = true := by
  subst h
  kernel_rfl
theorem row57 (u : TypeId) (h : Tryd.prog.typeName? 3 u = some (nmOf Rows.laid_io_EOF)) : u = 57 :=
  typeName_ptr_named (nm := "errors.errorString") (rows57 _ (by decide)) (by kernel_rfl) (by decide) u (h.trans (congrArg some (by decide)))
theorem cells77 : Tryd.prog.cellsOf 77 = 1 := by kernel_rfl
theorem cells9 : Tryd.prog.cellsOf 9 = 1 := by kernel_rfl

/-- What the condition gives the walks. -/
theorem of_laid3 {W : World} (h : laidMetH Tryd.prog Rows.fnReadProofReadsConsecutiveBlocksThenFailsRow.laid W) : ∃ aE TU xU, Sent W aE TU xU := by
  rw [MakeChecks.laidMetH_plain _ _ _ (by kernel_rfl)] at h
  obtain ⟨ps, ⟨g0, t0, cs0, f0, p0, q0, hg0, ht0, hv0, hd0, ⟨g1, t1, cs1, f1, p1, q1, hg1, ht1, hv1, hd1, ⟨g2, t2, cs2, f2, p2, q2, hg2, ht2, hv2, hd2, hq2, e2⟩, e1⟩, e0⟩, _, hrows⟩ := h
  obtain rfl := Option.some.inj (n1.symm.trans hg0)
  obtain rfl := Option.some.inj (n2.symm.trans hg1)
  obtain rfl := Option.some.inj (n3.symm.trans hg2)
  obtain rfl := Option.some.inj (ty1.symm.trans ht0)
  obtain rfl := Option.some.inj (ty2.symm.trans ht1)
  obtain rfl := Option.some.inj (ty3.symm.trans ht2)
  subst e2
  subst e1
  subst e0
  obtain ⟨l1⟩ := cs1
  have ok1 : ∀ u v, l1 = [.iface u v] → Value.okWide Tryd.prog W .any 0 u v := fun u v e => by
    subst e
    exact (hrows 2 0 (by simp [MemPlace.row])).2 u v (by simpa using World.var?_cell hg1 hv1 0)
  obtain ⟨aE, s1, rfl, hc1, hs1, hz1, rfl⟩ := errorString_of_trod Tryd.underlying38 row57 Tryd.underlying57 Tryd.underlying77 rfl rfl Tryd.underlying9 cells77 cells9 hd1 ok1
  obtain ⟨f3, TU, xU, hcs2, _, _⟩ := iface_of_trod Tryd.underlying38 hd2
  refine ⟨aE, TU, xU, by simpa using World.var?_cell hg1 hv1 0, ?_⟩
  have := World.var?_cell hg2 hv2 0
  rw [Array.eq_one_of_toList hcs2] at this
  simpa using this

/-- The door's own heap meets the condition. -/
theorem door_met3 (os : Os) (args : Array Value) : laidMetH Tryd.prog Rows.fnReadProofReadsConsecutiveBlocksThenFailsRow.laid ((World.doorLaid Tryd.prog 85 os).forCall (fun _ _ => 0) ⟨#[], args, []⟩).memory :=
  laidMetH_of_parts3 (fuel := 8) (laidMet_of_run' 8 (by kernel_rfl) (by kernel_rfl)) (by kernel_rfl) (by kernel_rfl)

end Go.Proofs.Qxb6616481aDoor
