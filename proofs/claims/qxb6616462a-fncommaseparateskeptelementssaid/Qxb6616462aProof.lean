/-
  Rows.FnCommaSeparatesKeptElementsSaid.
-/
import Derived.Test.Qxb6616462aOpen
import Derived.OpenShut
namespace Go.Proofs.Qxb6616462a
open Go.ChangeShapes Go.WideShapes Go.ChangeAt Go.RowKit

/-- The walks under one head. -/
theorem law_any (a0 : Option Addr) (nk c0 : Nat) (ks : Nat → Bool) (v1 : Value) (a1 : Option Addr) (c1 : Nat) (ds : List Int) (ev : Value) (es : List (List Int)) (K : Nat → Value) (w : World)
    (r0 : nk ≤ 140737488351232) (r1 : ds.length ≤ 140737488351232) (r2 : es.length ≤ 140737488351232) (r3 : ∀ j, j < es.length → (es.getD j []).length ≤ 140737488351232)
    (hk : 0 < nk → ∃ b off, a0 = some ⟨b, off, none⟩ ∧ b < w.heap.size ∧ ∀ j, j < nk → w.cell? ⟨b, off + j, none⟩ = some (.bool (ks j)))
    (hv1 : v1 = .slice a1 ds.length c1) (hD : Bytes w v1 ds) (hE : Elems w ev es K) :
    Calls Try.prog 3 #[.slice a0 nk c0, v1, ev] w fun e w' => e = .returned (.bool true) ∧ Below w.heap.size w w' := by
  subst hv1
  by_cases h0 : nk = 0
  · subst h0
    cases a0 with
    | none => exact law_nil c0 a1 c1 ds ev es K w r1 r2 r3 hE
    | some ad => exact law_empty ad c0 a1 c1 ds ev es K w r1 r2 r3 hE
  · obtain ⟨b, off, rfl, hb, hc⟩ := hk (by omega)
    exact law_some nk (nk - 1) c0 b off ks a1 c1 ds ev es K w (by omega) r0 r1 r2 r3 hb hc hD hE

set_option maxRecDepth 100000 in
theorem comma_lifted (os : Os) (started : os.Started) (H : Type) (enc : TypeId × Value → H) :
    ReturnsInHanded {} Try.checked os 3 .any (Rows.fnCommaSeparatesKeptElementsSpec.pre6 enc Try.prog Try.f3 Rows.fnCommaSeparatesKeptElementsRow.domain false) (Rows.fnCommaSeparatesKeptElementsSpec.post enc Try.prog Try.f3 false true false false) := by
  refine returnsInHanded_of_change_sized (C := Try.checked) Try.own started (by kernel_rfl) Try.func3
    (ChangeSpec.witness6 (enc := enc) (C := Try.checked) false ⟨#[], #[.slice none 0 0, .slice none 0 0, .slice none 0 0], []⟩ 8 (by kernel_rfl) (by kernel_rfl) (by kernel_rfl) (by kernel_rfl)) ?_
  intro W base args ds gs before hval0 hW _ hsz0 _
  have hsz : (DataW.weightsEach Try.prog (Try.f3.params.toList ++ Rows.fnCommaSeparatesKeptElementsSpec.plain.varTypes Try.prog) (ds ++ gs)).all (· ≤ reachBytes) = true := hsz0
  clear hsz0
  have hval : ∀ (j : Nat) t v, Try.f3.params[j]? = some t → args[j]? = some v → Value.okWide Try.prog W .any base t v := hval0
  have hW' := hW
  obtain ⟨p, q, hA0, hV, rfl, _, _⟩ := hW
  have hA : DataW.TrodAll enc Try.prog W 0 (fun _ => true) true Try.f3.params.toList args.toList ds p := hA0
  rw [Try.params3] at hA hval hsz
  obtain ⟨v0, v1, v2, d0, d1, d2, p0, p1, p2, rfl, rfl, rfl, h0, h1, h2⟩ := trodAll_three hA
  obtain ⟨rfl, rfl⟩ := trodVars_none hV
  clear hA0 hval0
  simp only [List.append_nil] at hW'
  have hlt : ∀ x ∈ p0 ++ p1 ++ p2, x.block < W.heap.size := fun x hx => by simpa using hW'.lt x hx
  have hlt0 : ∀ x ∈ p0, x.block < W.heap.size := fun x hx => hlt x (by simp [hx])
  have hlt1 : ∀ x ∈ p1, x.block < W.heap.size := fun x hx => hlt x (by simp [hx])
  have hlt2 : ∀ x ∈ p2, x.block < W.heap.size := fun x hx => hlt x (by simp [hx])
  obtain ⟨a0, nk, c0, ks, rfl, hk, hd0⟩ := opened_flags (hval 0 22 v0 rfl rfl) h0
  obtain ⟨a1, c1, dl, hv1, hD, hd1⟩ := opened_bytes (hval 1 23 v1 rfl rfl) h1
  obtain ⟨es, K, hE, hd2, hin⟩ := opened_elems (hval 2 24 v2 rfl rfl) h2
  have r0 : nk ≤ 140737488351232 := by
    rcases hd0 with rfl | ⟨el, sp, rfl, hle⟩
    · omega
    · have := sized_slice hsz (j := 0) (t := 22) (e := 4) rfl rfl Try.underlying22
      rw [Try.bytes4] at this
      simp only [reachBytes] at this
      omega
  have r1 : dl.length ≤ 140737488351232 := by
    rcases hd1 with h | ⟨el, sp, rfl, hle⟩
    · omega
    · have := sized_slice hsz (j := 1) (t := 23) (e := 5) rfl rfl Try.underlying23
      rw [Try.bytes5] at this
      simp only [reachBytes] at this
      omega
  have r3 : ∀ j, j < es.length → (es.getD j []).length ≤ 140737488351232 := fun j hj => by
    rcases hin j hj with h | ⟨x, hx, hle⟩
    · omega
    · have := List.all_eq_true.1 hsz x (DataW.weights_mem_each (j := 2) (t := 24) rfl rfl x hx)
      have h2 : x ≤ reachBytes := of_decide_eq_true this
      simp only [reachBytes] at h2
      omega
  have r2 : es.length ≤ 140737488351232 := by
    rcases hd2 with h | ⟨el, sp, rfl, hle⟩
    · omega
    · have := sized_slice hsz (j := 2) (t := 24) (e := 23) rfl rfl Try.underlying24
      rw [Try.bytes23] at this
      simp only [reachBytes] at this
      omega
  refine (law_any a0 nk c0 ks v1 a1 c1 dl v2 es K W r0 r1 r2 r3 hk hv1 hD hE).mono fun e W' ⟨he, hnx⟩ => ?_
  subst he
  refine ⟨_, rfl, _, _, _, [], p0 ++ (p1 ++ p2), [], hW', ?_, ?_, rfl, hnx.frame _, fun h => by cases h⟩
  · exact trodAll_mk1 (shut_bool Try.underlying4 _)
  · exact trodAll_mk3 (Below.trod Try.laidOut (by kernel_rfl) (of_decide_eq_true (by kernel_rfl)) h0 hnx hlt0) (Below.trod Try.laidOut (by kernel_rfl) (of_decide_eq_true (by kernel_rfl)) h1 hnx hlt1)
      (Below.trod Try.laidOut (by kernel_rfl) (of_decide_eq_true (by kernel_rfl)) h2 hnx hlt2)

/-- THE STATEMENT. -/
theorem comma_proved : Rows.FnCommaSeparatesKeptElementsSaid :=
  OpenClaim.holds_of_wide 3 Try.f3 rfl rfl rfl rfl rfl rfl rfl ⟨rfl, rfl, rfl, rfl, rfl⟩ rfl rfl rfl rfl rfl (by kernel_rfl) Try.func3 (by kernel_rfl)
    (of_decide_eq_true (by kernel_rfl)) (by unfold Func.isWrapper; first | (rw [if_pos (by decide +kernel)]; kernel_rfl) | (rw [if_neg (by decide +kernel)]; exact ⟨rfl, rfl⟩))
    (fun os started H enc _ => comma_lifted os started H enc)
#print axioms comma_proved

end Go.Proofs.Qxb6616462a
