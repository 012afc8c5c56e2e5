/-
  Rows.FnInputSourcesBySourceSaid.
-/
import Derived.Test.Qxb6616271aOpen
import Derived.OpenShut
namespace Go.Proofs.Qxb6616271a
open Go.ChangeShapes Go.WideShapes Go.ChangeAt Go.RowKit Go.WideElems

set_option maxRecDepth 100000 in
theorem by_source_lifted (os : Os) (started : os.Started) (H : Type) (enc : TypeId × Value → H) :
    ReturnsInHanded {} Try.checked os 3 .any (Rows.fnInputSourcesBySourceSpec.pre6 enc Try.prog Try.f3 Rows.fnInputSourcesBySourceRow.domain false) (Rows.fnInputSourcesBySourceSpec.post enc Try.prog Try.f3 false true false false) := by
  refine returnsInHanded_of_change_sized (C := Try.checked) Try.own started (by kernel_rfl) Try.func3
    (ChangeSpec.witness6 (enc := enc) (C := Try.checked) false ⟨#[], #[.slice none 0 0, .map none, .map none], []⟩ 8 (by kernel_rfl) (by kernel_rfl) (by kernel_rfl) (by kernel_rfl)) ?_
  intro W base args ds gs before hval0 hW _ hsz0 _
  have hsz : (DataW.weightsEach Try.prog (Try.f3.params.toList ++ Rows.fnInputSourcesBySourceSpec.plain.varTypes Try.prog) (ds ++ gs)).all (· ≤ reachBytes) = true := hsz0
  clear hsz0
  have hval : ∀ (j : Nat) t v, Try.f3.params[j]? = some t → args[j]? = some v → Value.okWide Try.prog W .any base t v := hval0
  have hW' := hW
  obtain ⟨p, q, hA0, hV, rfl, _, _⟩ := hW
  have hA : DataW.TrodAll enc Try.prog W 0 (fun _ => true) true Try.f3.params.toList args.toList ds p := hA0
  rw [Try.params3] at hA hval hsz
  obtain ⟨v0, v1, v2, d0, d1, d2, p0, p1, p2, rfl, rfl, rfl, h0, h1, h2⟩ := trodAll_three hA
  obtain ⟨rfl, rfl⟩ := trodVars_none hV
  clear hA0 hval0
  simp only [List.append_nil] at hW'
  have hlt : ∀ x ∈ p0 ++ p1 ++ p2, x.block < W.heap.size := fun x hx => by simpa using hW'.lt x hx
  have hlt0 : ∀ x ∈ p0, x.block < W.heap.size := fun x hx => hlt x (by simp [hx])
  have hlt1 : ∀ x ∈ p1, x.block < W.heap.size := fun x hx => hlt x (by simp [hx])
  have hlt2 : ∀ x ∈ p2, x.block < W.heap.size := fun x hx => hlt x (by simp [hx])
  obtain ⟨a, len, cap, ss, rfl, hst, hd0⟩ := opened_strs (hval 0 22 v0 rfl rfl) h0 hlt0
  obtain ⟨gm, g, ng, rfl, hlg, hng⟩ := opened_map (hval 1 23 v1 rfl rfl) h1
  obtain ⟨tm, t, nt, rfl, hltm, hnt⟩ := opened_map (hval 2 23 v2 rfl rfl) h2
  have hreach : len ≤ 140737488351232 := by
    rcases hd0 with rfl | ⟨es, sp, rfl, hle⟩
    · omega
    · have := sized_slice hsz (j := 0) (t := 22) (e := 9) rfl rfl Try.underlying22
      rw [Try.bytes9] at this
      simp only [reachBytes] at this
      omega
  refine (by_source_strs (H := H) a len cap ss gm tm g t ng nt W hreach hst hlg hltm hng hnt).mono fun e W' ⟨he, hnx⟩ => ?_
  subst he
  refine ⟨_, rfl, _, _, _, [], p0 ++ (p1 ++ p2), [], hW', ?_, ?_, rfl, hnx.frame _, fun h => by cases h⟩
  · exact trodAll_mk1 (shut_bool Try.underlying4 _)
  · exact trodAll_mk3 (Below.trod Try.laidOut (by kernel_rfl) (of_decide_eq_true (by kernel_rfl)) h0 hnx hlt0) (Below.trod Try.laidOut (by kernel_rfl) (of_decide_eq_true (by kernel_rfl)) h1 hnx hlt1)
      (Below.trod Try.laidOut (by kernel_rfl) (of_decide_eq_true (by kernel_rfl)) h2 hnx hlt2)

/-- THE STATEMENT. -/
theorem bySource_proved : Rows.FnInputSourcesBySourceSaid :=
  OpenClaim.holds_of_wide 3 Try.f3 rfl rfl rfl rfl rfl rfl rfl ⟨rfl, rfl, rfl, rfl, rfl⟩ rfl rfl rfl rfl rfl (by kernel_rfl) Try.func3 (by kernel_rfl)
    (of_decide_eq_true (by kernel_rfl)) (by unfold Func.isWrapper; first | (rw [if_pos (by decide +kernel)]; kernel_rfl) | (rw [if_neg (by decide +kernel)]; exact ⟨rfl, rfl⟩))
    (fun os started H enc _ => by_source_lifted os started H enc)
#print axioms bySource_proved

end Go.Proofs.Qxb6616271a
