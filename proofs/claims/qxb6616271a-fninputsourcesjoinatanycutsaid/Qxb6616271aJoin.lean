/-
  Rows.FnInputSourcesJoinAtAnyCutSaid.
-/
import Derived.Test.Qxb6616271aLaw4b
import Derived.OpenShut
namespace Go.Proofs.Qxb6616271a
open Go.ChangeShapes Go.WideShapes Go.ChangeAt Go.RowKit Go.WideElems

/-- A slice of strings that came in: its length is within its capacity. -/
theorem opened_cap {H : Type} {enc : TypeId × Value → H} {W : World} {a : Option Addr} {len cap : Nat} {d : DataW H} {ps : List MemPlace} (h : DataW.Trod enc Try.prog W 0 (fun _ => true) true 22 (.slice a len cap) d ps) : len ≤ cap := by
  obtain ⟨fuel, hf⟩ := h
  rcases open_strings Try.underlying22 Try.underlying9 Try.cells9 hf with ⟨hcs, _⟩ | ⟨a', len', cap', ss, hcs, _, hl, _⟩
  · simp [Value.cells] at hcs
    omega
  · simp [Value.cells] at hcs
    omega

set_option maxRecDepth 100000 in
theorem join_lifted (os : Os) (started : os.Started) (H : Type) (enc : TypeId × Value → H) :
    ReturnsInHanded {} Try.checked os 4 .any (Rows.fnInputSourcesJoinAtAnyCutSpec.pre6 enc Try.prog Try.f4 Rows.fnInputSourcesJoinAtAnyCutRow.domain false) (Rows.fnInputSourcesJoinAtAnyCutSpec.post enc Try.prog Try.f4 false true false false) := by
  refine returnsInHanded_of_change_sized (C := Try.checked) Try.own started (by kernel_rfl) Try.func4
    (ChangeSpec.witness6 (enc := enc) (C := Try.checked) false ⟨#[], #[.slice none 0 0, .int .i64 0, .map none, .map none], []⟩ 8 (by kernel_rfl) (by kernel_rfl) (by kernel_rfl) (by kernel_rfl)) ?_
  intro W base args ds gs before hval0 hW _ hsz0 _
  have hsz : (DataW.weightsEach Try.prog (Try.f4.params.toList ++ Rows.fnInputSourcesJoinAtAnyCutSpec.plain.varTypes Try.prog) (ds ++ gs)).all (· ≤ reachBytes) = true := hsz0
  clear hsz0
  have hval : ∀ (j : Nat) t v, Try.f4.params[j]? = some t → args[j]? = some v → Value.okWide Try.prog W .any base t v := hval0
  have hW' := hW
  obtain ⟨p, q, hA0, hV, rfl, _, _⟩ := hW
  have hA : DataW.TrodAll enc Try.prog W 0 (fun _ => true) true Try.f4.params.toList args.toList ds p := hA0
  rw [Try.params4] at hA hval hsz
  obtain ⟨v0, v1, v2, v3, d0, d1, d2, d3, p0, p1, p2, p3, rfl, rfl, rfl, h0, h1, h2, h3⟩ := trodAll_four hA
  obtain ⟨rfl, rfl⟩ := trodVars_none hV
  clear hA0 hval0
  simp only [List.append_nil] at hW'
  have hlt : ∀ x ∈ p0 ++ p1 ++ p2 ++ p3, x.block < W.heap.size := fun x hx => by simpa using hW'.lt x hx
  have hlt0 : ∀ x ∈ p0, x.block < W.heap.size := fun x hx => hlt x (by simp [hx])
  have hlt1 : ∀ x ∈ p1, x.block < W.heap.size := fun x hx => hlt x (by simp [hx])
  have hlt2 : ∀ x ∈ p2, x.block < W.heap.size := fun x hx => hlt x (by simp [hx])
  have hlt3 : ∀ x ∈ p3, x.block < W.heap.size := fun x hx => hlt x (by simp [hx])
  have h1k := h1
  obtain ⟨cut, rfl, rfl, rfl, wcut⟩ := open_int Try.underlying3 (hval 1 3 v1 rfl rfl) h1
  obtain ⟨a, len, cap, ss, rfl, hst, hd0⟩ := opened_strs (hval 0 22 v0 rfl rfl) h0 hlt0
  obtain ⟨gm, g, ng, rfl, hlg, hng⟩ := opened_map (hval 2 23 v2 rfl rfl) h2
  obtain ⟨tm, t, nt, rfl, hltm, hnt⟩ := opened_map (hval 3 23 v3 rfl rfl) h3
  have hcap := opened_cap h0
  have hreach : len ≤ 140737488351232 := by
    rcases hd0 with rfl | ⟨es, sp, rfl, hle⟩
    · omega
    · have := sized_slice hsz (j := 0) (t := 22) (e := 9) rfl rfl Try.underlying22
      rw [Try.bytes9] at this
      simp only [reachBytes] at this
      omega
  refine (join_strs (H := H) a len cap cut ss gm tm g t ng nt W hreach hcap hst hlg hltm hng hnt).mono fun e W' ⟨he, hnx⟩ => ?_
  subst he
  refine ⟨_, rfl, _, _, _, [], p0 ++ ([] ++ (p2 ++ p3)), [], hW', ?_, ?_, rfl, hnx.frame _, fun h => by cases h⟩
  · exact trodAll_mk1 (shut_bool Try.underlying4 _)
  · exact trodAll_mk4 (Below.trod Try.laidOut (by kernel_rfl) (of_decide_eq_true (by kernel_rfl)) h0 hnx hlt0) (Below.trod Try.laidOut (by kernel_rfl) (of_decide_eq_true (by kernel_rfl)) h1k hnx hlt1)
      (Below.trod Try.laidOut (by kernel_rfl) (of_decide_eq_true (by kernel_rfl)) h2 hnx hlt2) (Below.trod Try.laidOut (by kernel_rfl) (of_decide_eq_true (by kernel_rfl)) h3 hnx hlt3)

/-- THE STATEMENT. -/
theorem joinAtAnyCut_proved : Rows.FnInputSourcesJoinAtAnyCutSaid :=
  OpenClaim.holds_of_wide 4 Try.f4 rfl rfl rfl rfl rfl rfl rfl ⟨rfl, rfl, rfl, rfl, rfl⟩ rfl rfl rfl rfl rfl (by kernel_rfl) Try.func4 (by kernel_rfl)
    (of_decide_eq_true (by kernel_rfl)) (by unfold Func.isWrapper; first | (rw [if_pos (by decide +kernel)]; kernel_rfl) | (rw [if_neg (by decide +kernel)]; exact ⟨rfl, rfl⟩))
    (fun os started H enc _ => join_lifted os started H enc)
#print axioms joinAtAnyCut_proved

end Go.Proofs.Qxb6616271a
