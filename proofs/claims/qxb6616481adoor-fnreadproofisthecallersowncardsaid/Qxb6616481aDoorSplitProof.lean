/-
  Rows.FnReaderBytesSplitReadAgreesWithWholeReadSaid (the row), and the tied card.
-/
import Derived.Test.Qxb6616481aDoorSplitWalk
import Derived.Test.Qxb6616481aDoorTie
import Derived.Test.Qxb6616481aDoorCards
import Derived.ProofKit
import Derived.SizedLaws
import Derived.LaidMore
import Derived.LaidLaws
import Derived.OpenShut
import Derived.OpenVars
import Derived.MakeChecks
import Derived.Stop.Joined
import Derived.SevenTiedAt
namespace Go.Proofs.Qxb6616481aDoor
open Go.ChangeShapes Go.WideShapes Go.ChangeAt Go.RowKit

theorem Tryd.own : ownKnob Tryd.prog.godebug = none := by kernel_rfl
theorem Tryd.laidOut : laidOutB Tryd.prog = true := by kernel_rfl
theorem Tryd.cells5 : Tryd.prog.cellsOf 5 = 1 := by kernel_rfl
theorem Tryd.bytes5 : Tryd.prog.bytesOf 5 = 1 := by kernel_rfl

theorem plain_addr {W : World} {a : Addr} {v : Value} (h : W.cell? (a.add 0) = some v) : ∃ b off, a = ⟨b, off, none⟩ := by
  obtain ⟨b, off, spot⟩ := a
  have hspot : spot = none := by simpa [Addr.add] using World.cell?_spot h
  subst hspot
  exact ⟨b, off, rfl⟩

/-- Bytes that came in. -/
theorem opened_bytes {H : Type} {enc : TypeId × Value → H} {W : World} {b0 : Nat} {v : Value} {d : DataW H} {ps : List MemPlace} (hv : Value.okWide Tryd.prog W .any b0 22 v) (h : DataW.Trod enc Tryd.prog W 0 (fun _ => true) true 22 v d ps) :
    ∃ (a : Option Addr) (cap : Nat) (ds : List Int), v = .slice a ds.length cap ∧ Bytes W v ds ∧ (∀ y ∈ ds, (Lit.int .u8 y).wf = true) ∧ (ds.length = 0 ∨ ∃ es sp, d = .slice es sp ∧ ds.length ≤ es.length) := by
  obtain ⟨a0, len, cap, rfl⟩ := okWide_slice Tryd.underlying22 hv
  obtain ⟨fuel, hf⟩ := h
  rcases open_ints Tryd.underlying22 Tryd.underlying5 Tryd.cells5 hf with ⟨hcs, _⟩ | ⟨a, len', cap', zs, hcs, _, hl, _, hz, hx, hcell, hwf⟩
  · simp [Value.cells] at hcs
    obtain ⟨rfl, rfl, rfl⟩ := hcs
    exact ⟨none, 0, [], rfl, bytes_nil W none 0, by simp, Or.inl rfl⟩
  · simp [Value.cells] at hcs
    obtain ⟨rfl, rfl, rfl⟩ := hcs
    simp only [Prod.mk.injEq] at hx
    obtain ⟨rfl, rfl⟩ := hx
    simp only [if_true] at hz
    have hlen : (zs.take len).length = len := by simp; omega
    refine ⟨some a, cap, zs.take len, by rw [hlen], ?_, fun y hy => hwf y (List.mem_of_mem_take hy), Or.inr ⟨_, _, rfl, by simp [lits]⟩⟩
    by_cases h0 : len = 0
    · exact ⟨some a, cap, 0, 0, by rw [hlen], fun h => absurd h (by omega), fun j hj => absurd hj (by omega)⟩
    · obtain ⟨b, off, rfl⟩ := plain_addr (hcell 0 (by omega))
      refine ⟨_, cap, b, off, by rw [hlen], fun _ => rfl, fun j hj => ?_⟩
      rw [hlen] at hj
      rw [← add_eq, hcell j (by omega)]
      simp [List.getD, hj]

theorem reach_bytes {H : Type} {ds gs : List (DataW H)} {ts : List TypeId} (hsz : (DataW.weightsEach Tryd.prog ts (ds ++ gs)).all (· ≤ reachBytes) = true) {j : Nat} {d : DataW H} (ht : ts[j]? = some 22) (hd : (ds ++ gs)[j]? = some d) {bs : List Int}
    (h : bs.length = 0 ∨ ∃ es sp, d = .slice es sp ∧ bs.length ≤ es.length) : bs.length ≤ 140737488351232 := by
  rcases h with h | ⟨es, sp, rfl, hle⟩
  · omega
  · have := sized_slice hsz (j := j) (t := 22) (e := 5) ht hd Tryd.underlying22
    rw [Tryd.bytes5] at this
    simp only [reachBytes] at this
    omega

theorem g0 : Tryd.prog.globalNamed (Rows.fnReaderBytesSplitReadAgreesWithWholeReadSpec.vars.headD "x") = some 0 := by kernel_rfl
theorem t0 : (Tryd.prog.globals[0]?).map (·.type) = some 38 := by kernel_rfl

/-- What the condition gives the walk: the variable holds an error. -/
theorem of_laid {W : World} (h : laidMetH Tryd.prog Rows.fnReaderBytesSplitReadAgreesWithWholeReadRow.laid W) : ∃ T x, W.cell? ⟨0, 0, none⟩ = some (.iface T x) := by
  rw [MakeChecks.laidMetH_plain _ _ _ (by kernel_rfl)] at h
  obtain ⟨ps, ⟨gn, tn, cs0, f0, p0, q0, hg0, ht0, hv0, hd0, _, _⟩, _, _⟩ := h
  obtain rfl := Option.some.inj (g0.symm.trans hg0)
  obtain rfl := Option.some.inj (t0.symm.trans ht0)
  obtain ⟨f1, u, v, hcs, _, _⟩ := iface_of_trod Tryd.underlying38 hd0
  refine ⟨u, v, ?_⟩
  have := World.var?_cell hg0 hv0 0
  rw [Array.eq_one_of_toList hcs] at this
  simpa using this

/-- The door's own heap meets the condition. -/
theorem door_met (os : Os) (args : Array Value) : laidMetH Tryd.prog Rows.fnReaderBytesSplitReadAgreesWithWholeReadRow.laid ((World.doorLaid Tryd.prog 85 os).forCall (fun _ _ => 0) ⟨#[], args, []⟩).memory :=
  laidMetH_of_parts3 (fuel := 8) (laidMet_of_run' 8 (by kernel_rfl) (by kernel_rfl)) (by kernel_rfl) (by kernel_rfl)

set_option maxRecDepth 100000 in
theorem split_lifted (os : Os) (started : os.Started) (H : Type) (enc : TypeId × Value → H) :
    ReturnsInHanded {} Tryd.checked os 3 .any (fun w args => (Rows.fnReaderBytesSplitReadAgreesWithWholeReadSpec.pre enc Tryd.prog Tryd.f3 [] false w args ∧ laidMetH Tryd.prog Rows.fnReaderBytesSplitReadAgreesWithWholeReadRow.laid w) ∧ sizedMet enc Tryd.prog Tryd.f3 (OpenSpec.ofChange Rows.fnReaderBytesSplitReadAgreesWithWholeReadSpec) false w args)
      (Rows.fnReaderBytesSplitReadAgreesWithWholeReadSpec.post enc Tryd.prog Tryd.f3 false true false false) := by
  refine returnsInHanded_of_change_and (C := Tryd.checked) (X := fun w _ => laidMetH Tryd.prog Rows.fnReaderBytesSplitReadAgreesWithWholeReadRow.laid w) (fun _ _ _ hh h => h.of_heap hh) Tryd.own started (by kernel_rfl) Tryd.func3
    (ChangeSpec.witness_shaped (enc := enc) (C := Tryd.checked) (os := os) (X := fun w _ => laidMetH Tryd.prog Rows.fnReaderBytesSplitReadAgreesWithWholeReadRow.laid w) false (World.doorLaid Tryd.prog 85 os) #[.slice none 0 0, .slice none 0 0, .int .i64 0, .bool false] 8 rfl (World.shaped_of_RefB (by kernel_rfl) (by kernel_rfl)) (by kernel_rfl) (by kernel_rfl) (by kernel_rfl) (door_met os _)) ?_
  intro W base args ds gs before hval0 hW _ hsz0 hL _
  have hsz : (DataW.weightsEach Tryd.prog (Tryd.f3.params.toList ++ Rows.fnReaderBytesSplitReadAgreesWithWholeReadSpec.plain.varTypes Tryd.prog) (ds ++ gs)).all (· ≤ reachBytes) = true := hsz0
  clear hsz0
  have hval : ∀ (j : Nat) t v, Tryd.f3.params[j]? = some t → args[j]? = some v → Value.okWide Tryd.prog W .any base t v := hval0
  have hW' := hW
  obtain ⟨p, q, hA0, hV, rfl, _, _⟩ := hW
  have hA : DataW.TrodAll enc Tryd.prog W 0 (fun _ => true) true Tryd.f3.params.toList args.toList ds p := hA0
  rw [Tryd.params3] at hA hval hsz
  obtain ⟨v0, v1, v2, v3, d0, d1, d2, d3, p0, p1, p2, p3, rfl, rfl, rfl, h0, h1, h2, h3⟩ := trodAll_four hA
  clear hA0 hval0
  have hlt : ∀ x ∈ p0 ++ p1 ++ p2 ++ p3 ++ q, x.block < W.heap.size := fun x hx => by simpa using hW'.lt x hx
  have hlt0 : ∀ x ∈ p0, x.block < W.heap.size := fun x hx => hlt x (by simp [hx])
  have hlt1 : ∀ x ∈ p1, x.block < W.heap.size := fun x hx => hlt x (by simp [hx])
  have h2k := h2
  have h3k := h3
  obtain ⟨k, rfl, rfl, rfl, wk⟩ := open_int Tryd.underlying3 (hval 2 3 v2 rfl rfl) h2
  obtain ⟨fl, rfl, rfl, rfl⟩ := open_bool Tryd.underlying4 (hval 3 4 v3 rfl rfl) h3
  obtain ⟨a0, c0, B, hv0, hB, _, hd0⟩ := opened_bytes (hval 0 22 v0 rfl rfl) h0
  obtain ⟨a1, c1, D, hv1, hD, _, hd1⟩ := opened_bytes (hval 1 22 v1 rfl rfl) h1
  obtain ⟨T, x, hG⟩ := of_laid hL
  have r0 := reach_bytes hsz (j := 0) rfl rfl hd0
  have r1 := reach_bytes hsz (j := 1) rfl rfl hd1
  have hz : 0 < W.heap.size := World.block_lt_of_cell? _ _ hG
  subst hv0
  subst hv1
  refine (split_walk a0 c0 a1 c1 B D k fl T x W r0 r1 hz hG hB hD).mono fun e W' ⟨he, hnx⟩ => ?_
  subst he
  have hV' := Below.trodVars (enc := enc) Tryd.laidOut hnx (ns := Rows.fnReaderBytesSplitReadAgreesWithWholeReadSpec.vars) (by kernel_rfl) hV
  obtain ⟨gg, rfl⟩ : ∃ gg, gs = [gg] := by
    cases gs with
    | nil => exact absurd hV (by intro h; exact h.elim)
    | cons g r =>
      cases r with
      | nil => exact ⟨g, rfl⟩
      | cons g' r' =>
        obtain ⟨_, _, _, _, _, _, _, _, _, _, h, _⟩ := hV
        exact absurd h (by intro h; exact h.elim)
  refine ⟨_, rfl, _, _, _, [], p0 ++ (p1 ++ ([] ++ [])), q, hW', ?_, ?_, ?_, hnx.frame _, fun h => by cases h⟩
  · exact trodAll_mk1 (shut_bool Tryd.underlying4 _)
  · exact trodAll_mk4 (Below.trod Tryd.laidOut (by kernel_rfl) (of_decide_eq_true (by kernel_rfl)) h0 hnx hlt0) (Below.trod Tryd.laidOut (by kernel_rfl) (of_decide_eq_true (by kernel_rfl)) h1 hnx hlt1)
      (shut_int Tryd.underlying3 wk) (shut_bool Tryd.underlying4 _)
  · exact hV'

/-- The row. -/
theorem split_row : Rows.FnReaderBytesSplitReadAgreesWithWholeReadSaid :=
  OpenClaim.holds_of_wide 3 Tryd.f3 rfl rfl rfl rfl rfl rfl rfl ⟨rfl, rfl, rfl, rfl, rfl⟩ rfl rfl rfl rfl rfl (by kernel_rfl) Tryd.func3 (by kernel_rfl)
    (of_decide_eq_true (by kernel_rfl)) (by unfold Func.isWrapper; first | (rw [if_pos (by decide +kernel)]; kernel_rfl) | (rw [if_neg (by decide +kernel)]; exact ⟨rfl, rfl⟩))
    (fun os started H enc _ => split_lifted os started H enc)

/-- THE STATEMENT: the tied card. -/
theorem split_proved : Rows.FnReaderBytesSplitReadAgreesWithWholeReadCardSaid :=
  Claim7.holds_tied_plain_at .later [] [.sentinel] true Rows.fnReaderBytesSplitReadAgreesWithWholeReadCard.stood.harness true
    split_row (fun _ h => by cases h) (by kernel_rfl) (fun _ h => by cases h) fnReaderBytesSplitReadAgreesWithWholeRead_row_tie rfl ⟨rfl, rfl⟩ (by kernel_rfl) rfl
    (fun f fn hf hfn => by
      obtain rfl : f = 3 := Option.some.inj ((show Tryd.prog.funcNamed Rows.fnReaderBytesSplitReadAgreesWithWholeReadRow.func = some 3 by kernel_rfl).symm.trans hf) |>.symm
      obtain rfl : fn = Tryd.f3 := (Option.some.inj (Tryd.func3.symm.trans hfn)).symm
      exact ⟨by kernel_rfl, fun j t ht => by
        rw [Tryd.params3] at ht
        have h3 : t = 22 ∨ t = 3 ∨ t = 4 := by
          rcases j with _ | _ | _ | _ | j
          · exact Or.inl (by simpa using ht.symm)
          · exact Or.inl (by simpa using ht.symm)
          · exact Or.inr (Or.inl (by simpa using ht.symm))
          · exact Or.inr (Or.inr (by simpa using ht.symm))
          · simp at ht
        rcases h3 with rfl | rfl | rfl
        · exact (show Tryd.prog.wantsStandIn 22 = false by kernel_rfl)
        · exact (show Tryd.prog.wantsStandIn 3 = false by kernel_rfl)
        · exact (show Tryd.prog.wantsStandIn 4 = false by kernel_rfl)⟩)
    (by kernel_rfl)
#print axioms split_proved

end Go.Proofs.Qxb6616481aDoor
