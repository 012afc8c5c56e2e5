/-
  From what the row is handed (values that can be read) to what the walks take.
-/
import Derived.Test.Qxb6616462aLawNone
import Derived.ProofKit
import Derived.SizedLaws
import Derived.Deep.Grids
import Derived.Deep.Matrix
namespace Go.Proofs.Qxb6616462a
open Go.ChangeShapes Go.WideShapes Go.ChangeAt Go.RowKit Go.Deep

theorem Try.own : ownKnob Try.prog.godebug = none := by kernel_rfl
theorem Try.laidOut : laidOutB Try.prog = true := by kernel_rfl
theorem Try.cells4 : Try.prog.cellsOf 4 = 1 := by kernel_rfl
theorem Try.cells5 : Try.prog.cellsOf 5 = 1 := by kernel_rfl
theorem Try.cells23 : Try.prog.cellsOf 23 = 1 := by kernel_rfl
theorem Try.bytes4 : Try.prog.bytesOf 4 = 1 := by kernel_rfl
theorem Try.bytes5 : Try.prog.bytesOf 5 = 1 := by kernel_rfl
theorem Try.bytes23 : Try.prog.bytesOf 23 = 24 := by kernel_rfl

/-- An address under which a cell lies at each index has no spot. -/
theorem plain_addr {W : World} {a : Addr} {v : Value} (h : W.cell? (a.add 0) = some v) : ∃ b off, a = ⟨b, off, none⟩ ∧ b < W.heap.size := by
  obtain ⟨b, off, spot⟩ := a
  have hspot : spot = none := by simpa [Addr.add] using World.cell?_spot h
  subst hspot
  exact ⟨b, off, rfl, by simpa [Addr.add] using World.block_lt_of_cell? _ _ h⟩

theorem add_eq (b off j : Nat) : (⟨b, off, none⟩ : Addr).add j = ⟨b, off + j, none⟩ := by unfold Addr.add; split <;> simp_all

/-- The flags that came in. -/
theorem opened_flags {H : Type} {enc : TypeId × Value → H} {W : World} {b0 : Nat} {v : Value} {d : DataW H} {ps : List MemPlace} (hv : Value.okWide Try.prog W .any b0 22 v) (h : DataW.Trod enc Try.prog W 0 (fun _ => true) true 22 v d ps) :
    ∃ (a : Option Addr) (nk cap : Nat) (ks : Nat → Bool), v = .slice a nk cap ∧ (0 < nk → ∃ b off, a = some ⟨b, off, none⟩ ∧ b < W.heap.size ∧ ∀ j, j < nk → W.cell? ⟨b, off + j, none⟩ = some (.bool (ks j))) ∧
      (nk = 0 ∨ ∃ es sp, d = .slice es sp ∧ nk ≤ es.length) := by
  obtain ⟨a0, len, cap, rfl⟩ := okWide_slice Try.underlying22 hv
  obtain ⟨fuel, hf⟩ := h
  rcases open_bools Try.underlying22 Try.underlying4 Try.cells4 hf with ⟨hcs, _⟩ | ⟨a, len', cap', B, hcs, _, hl, _, hx, hcell⟩
  · simp [Value.cells] at hcs
    obtain ⟨rfl, rfl, rfl⟩ := hcs
    exact ⟨none, 0, 0, fun _ => false, rfl, fun h => absurd h (by omega), Or.inl rfl⟩
  · simp [Value.cells] at hcs
    obtain ⟨rfl, rfl, rfl⟩ := hcs
    simp only [Prod.mk.injEq] at hx
    obtain ⟨rfl, rfl⟩ := hx
    refine ⟨some a, len, cap, B, rfl, fun h0 => ?_, Or.inr ⟨_, _, rfl, by simp⟩⟩
    obtain ⟨b, off, rfl, hb⟩ := plain_addr (hcell 0 (by omega))
    exact ⟨b, off, rfl, hb, fun j hj => by rw [← add_eq]; exact hcell j (by omega)⟩

/-- Bytes that came in. -/
theorem opened_bytes {H : Type} {enc : TypeId × Value → H} {W : World} {b0 : Nat} {v : Value} {d : DataW H} {ps : List MemPlace} (hv : Value.okWide Try.prog W .any b0 23 v) (h : DataW.Trod enc Try.prog W 0 (fun _ => true) true 23 v d ps) :
    ∃ (a : Option Addr) (cap : Nat) (ds : List Int), v = .slice a ds.length cap ∧ Bytes W v ds ∧ (ds.length = 0 ∨ ∃ es sp, d = .slice es sp ∧ ds.length ≤ es.length) := by
  obtain ⟨a0, len, cap, rfl⟩ := okWide_slice Try.underlying23 hv
  obtain ⟨fuel, hf⟩ := h
  rcases open_ints Try.underlying23 Try.underlying5 Try.cells5 hf with ⟨hcs, _⟩ | ⟨a, len', cap', zs, hcs, _, hl, _, hz, hx, hcell, _⟩
  · simp [Value.cells] at hcs
    obtain ⟨rfl, rfl, rfl⟩ := hcs
    exact ⟨none, 0, [], rfl, ⟨none, 0, 0, 0, rfl, fun h => absurd h (by simp), fun h => absurd h (by simp), fun j hj => absurd hj (by simp)⟩, Or.inl rfl⟩
  · simp [Value.cells] at hcs
    obtain ⟨rfl, rfl, rfl⟩ := hcs
    simp only [Prod.mk.injEq] at hx
    obtain ⟨rfl, rfl⟩ := hx
    simp only [if_true] at hz
    have hlen : (zs.take len).length = len := by simp; omega
    refine ⟨some a, cap, zs.take len, by rw [hlen], ?_, Or.inr ⟨_, _, rfl, by simp [lits]⟩⟩
    by_cases h0 : len = 0
    · exact ⟨some a, cap, 0, 0, by rw [hlen], fun h => absurd h (by omega), fun h => absurd h (by omega), fun j hj => absurd hj (by omega)⟩
    · obtain ⟨b, off, rfl, hb⟩ := plain_addr (hcell 0 (by omega))
      refine ⟨_, cap, b, off, by rw [hlen], fun _ => rfl, fun _ => hb, fun j hj => ?_⟩
      rw [hlen] at hj
      rw [← add_eq, hcell j (by omega)]
      simp [List.getD, hj]

theorem weights_all {H : Type} {P : Program} {e : TypeId} {x : Nat} : ∀ {l : List (DataW H)} {d : DataW H}, d ∈ l → x ∈ d.weights P e → x ∈ DataW.weightsAll P e l
  | _ :: _, _, hd, hx => by
    rw [DataW.weightsAll, List.mem_append]
    rcases List.mem_cons.1 hd with rfl | hd
    · exact Or.inl hx
    · exact Or.inr (weights_all hd hx)

/-- Slices of bytes that came in. -/
theorem opened_elems {H : Type} {enc : TypeId × Value → H} {W : World} {b0 : Nat} {v : Value} {d : DataW H} {ps : List MemPlace} (hv : Value.okWide Try.prog W .any b0 24 v) (h : DataW.Trod enc Try.prog W 0 (fun _ => true) true 24 v d ps) :
    ∃ (es : List (List Int)) (K : Nat → Value), Elems W v es K ∧ (es.length = 0 ∨ ∃ el sp, d = .slice el sp ∧ es.length ≤ el.length) ∧ ∀ j, j < es.length → (es.getD j []).length = 0 ∨ ∃ x ∈ d.weights Try.prog 24, (es.getD j []).length ≤ x := by
  obtain ⟨a0, len, cap, rfl⟩ := okWide_slice Try.underlying24 hv
  obtain ⟨fuel, hf⟩ := h
  rcases open_int_rows Try.underlying24 Try.underlying23 Try.underlying5 Try.cells23 Try.cells5 hf with ⟨hcs, _⟩ | ⟨a, len', cap', A, L, C, Z, hcs, _, hl, _, hx, hcell⟩
  · simp [Value.cells] at hcs
    obtain ⟨rfl, rfl, rfl⟩ := hcs
    exact ⟨[], fun _ => .nilIface, ⟨⟨none, 0, 0, 0, rfl, fun h => absurd h (by simp), fun h => absurd h (by simp), fun j hj => absurd hj (by simp)⟩, fun j hj => absurd hj (by simp)⟩, Or.inl rfl, fun j hj => absurd hj (by simp)⟩
  · simp [Value.cells] at hcs
    obtain ⟨rfl, rfl, rfl⟩ := hcs
    simp only [Prod.mk.injEq] at hx
    obtain ⟨rfl, rfl⟩ := hx
    have hlen : ((List.range len).map fun r => (Z r).take (L r)).length = len := by simp
    have hget : ∀ j, j < len → ((List.range len).map fun r => (Z r).take (L r)).getD j [] = (Z j).take (L j) := fun j hj => by simp [List.getD, hj]
    have hzl : ∀ j, j < len → ((Z j).take (L j)).length = L j := fun j hj => by
      obtain ⟨_, h1, _, h3, _⟩ := hcell j (by omega)
      simp; omega
    refine ⟨(List.range len).map fun r => (Z r).take (L r), fun r => .slice (A r) (L r) (C r), ⟨?_, ?_⟩, Or.inr ⟨_, _, rfl, by simp⟩, ?_⟩
    · show Row W _ ((List.range len).map fun r => (Z r).take (L r)).length _
      rw [hlen]
      by_cases h0 : len = 0
      · exact ⟨some a, cap, 0, 0, rfl, fun h => absurd h (by omega), fun h => absurd h (by omega), fun j hj => absurd hj (by omega)⟩
      · obtain ⟨b, off, rfl, hb⟩ := plain_addr (hcell 0 (by omega)).1
        exact ⟨_, cap, b, off, rfl, fun _ => rfl, fun _ => hb, fun j hj => by rw [← add_eq]; exact (hcell j (by omega)).1⟩
    · intro j hj
      rw [hlen] at hj
      rw [hget j hj]
      obtain ⟨_, h1, _, h3, _, h5, h6⟩ := hcell j (by omega)
      show Row W _ ((Z j).take (L j)).length _
      have hz := hzl j hj
      cases hA : A j with
      | none =>
        have := h5 hA
        exact ⟨none, C j, 0, 0, by show Value.slice (A j) _ _ = _; rw [hz, hA], fun h => absurd h (by omega), fun h => absurd h (by omega), fun i hi => absurd hi (by omega)⟩
      | some a' =>
        obtain ⟨_, hc'⟩ := h6 a' hA
        by_cases h0 : L j = 0
        · exact ⟨some a', C j, 0, 0, by show Value.slice (A j) _ _ = _; rw [hz, hA], fun h => absurd h (by omega), fun h => absurd h (by omega), fun i hi => absurd hi (by omega)⟩
        · obtain ⟨b, off, rfl, hb⟩ := plain_addr (hc' 0 (by omega))
          refine ⟨some ⟨b, off, none⟩, C j, b, off, by show Value.slice (A j) _ _ = _; rw [hz, hA], fun _ => rfl, fun _ => hb, fun i hi => ?_⟩
          rw [hz] at hi
          rw [← add_eq, hc' i (by omega)]
          simp [List.getD, hi]
    · intro j hj
      rw [hlen] at hj
      rw [hget j hj, hzl j hj]
      obtain ⟨_, h1, _, h3, _, h5, h6⟩ := hcell j (by omega)
      cases hA : A j with
      | none => have := h5 hA; exact Or.inl (by omega)
      | some a' =>
        refine Or.inr ⟨(Z j).length, ?_, by omega⟩
        have hmem : intRow (H := H) .u8 (A j) (L j) (Z j) ∈ (List.range len).map fun r => intRow (H := H) .u8 (A r) (L r) (Z r) := List.mem_map.2 ⟨j, by simpa using hj, rfl⟩
        rw [DataW.weights]
        simp only [Try.underlying24]
        refine List.mem_cons_of_mem _ (List.mem_append_left _ (weights_all hmem ?_))
        rw [hA]
        simp only [intRow, DataW.weights, Try.underlying23, Try.bytes5, lits, List.length_map, List.length_take, List.length_drop]
        refine List.mem_cons.2 (Or.inl ?_)
        omega

end Go.Proofs.Qxb6616462a
