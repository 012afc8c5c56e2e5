/-
  From what a row is handed (values that can be read) to what the walks take.
-/
import Derived.Test.Qxb6616271aLaw3
import Derived.ProofKit
import Derived.SizedLaws
import Derived.SliceStrings
namespace Go.Proofs.Qxb6616271a
open Go.ChangeShapes Go.WideShapes Go.ChangeAt Go.RowKit Go.WideElems Go.Maps

theorem Try.own : ownKnob Try.prog.godebug = none := by kernel_rfl
theorem Try.laidOut : laidOutB Try.prog = true := by kernel_rfl
theorem Try.cells9 : Try.prog.cellsOf 9 = 1 := by kernel_rfl
theorem Try.bytes9 : Try.prog.bytesOf 9 = 16 := by kernel_rfl

theorem looks_of_own {H : Type} {w : World} {b n : Nat} {D : DataW H} (hown : w.ownsMap Try.prog 9 (plainElem Try.prog 9) b n D) : Looks w.heap.size w (some b) (Maps.has D) := by
  intro w' hb s hs
  have h' := ownsMap_below hown hb hown.lt
  obtain ⟨v, ps, hrun, hv⟩ := h'.look_ok law Try.underlying23 (zero9 w') (plainElem_string Try.underlying9 (by decide)) (key_string hs)
  obtain ⟨sv, rfl, _, _⟩ := plainElem_string_inv Try.underlying9 hv
  exact ⟨sv, hrun⟩

theorem looks_nil (w : World) : Looks w.heap.size w none (fun _ => false) := by
  intro w' _ s hs
  have hrun := look_nil (w := w') true law Try.underlying23 (zero9 w') (key_string hs)
  exact ⟨ByteArray.empty, by simpa using hrun⟩

/-- A map that came in. -/
theorem opened_map {H : Type} {enc : TypeId × Value → H} {W : World} {b0 : Nat} {v : Value} {d : DataW H} {ps : List MemPlace} (hv : Value.okWide Try.prog W .any b0 23 v) (h : DataW.Trod enc Try.prog W 0 (fun _ => true) true 23 v d ps) :
    ∃ (m : Option Nat) (g : Lit → Bool) (n : Nat), v = .map m ∧ Looks W.heap.size W m g ∧ ∀ ty, (Builtin.len_ #[23] ty #[.map m]).run Try.prog W = .ok (.int .i64 n) W := by
  obtain ⟨m, rfl⟩ := okWide_map Try.underlying23 hv
  obtain ⟨fuel, hf⟩ := h
  rcases open_map Try.underlying23 hf with ⟨hcs, _⟩ | ⟨bm, es, clock, q, _, hcs, hb, _, F, _⟩
  · simp [Value.cells] at hcs
    subst hcs
    exact ⟨none, _, 0, rfl, looks_nil W, fun ty => len_nil (w := W) Try.underlying23 ty⟩
  · simp [Value.cells] at hcs
    subst hcs
    have hown := World.ownsMap_of_fit (R := plainElem Try.prog 9) hb F (fun x _ z hz => elemAt_plainElem_string Try.underlying9 hz)
    exact ⟨some bm, _, _, rfl, looks_of_own hown, fun ty => hown.len Try.underlying23 ty⟩

/-- A slice of strings that came in: its value, its elements, and how its length stands in the datum. -/
theorem opened_strs {H : Type} {enc : TypeId × Value → H} {W : World} {b0 : Nat} {v : Value} {d : DataW H} {ps : List MemPlace} (hv : Value.okWide Try.prog W .any b0 22 v) (h : DataW.Trod enc Try.prog W 0 (fun _ => true) true 22 v d ps) (hlt : ∀ x ∈ ps, x.block < W.heap.size) :
    ∃ (a : Option Addr) (len cap : Nat) (ss : List ByteArray), v = .slice a len cap ∧ Strs W a len ss ∧ (len = 0 ∨ ∃ es sp, d = .slice es sp ∧ len ≤ es.length) := by
  obtain ⟨a0, len, cap, rfl⟩ := okWide_slice Try.underlying22 hv
  obtain ⟨fuel, hf⟩ := h
  rcases open_strings Try.underlying22 Try.underlying9 Try.cells9 hf with ⟨hcs, _⟩ | ⟨a, len', cap', ss, hcs, _, hl, _, hz, hx, hcell, hws⟩
  · simp [Value.cells] at hcs
    obtain ⟨rfl, rfl, rfl⟩ := hcs
    exact ⟨none, 0, 0, [], rfl, ⟨rfl, by simp, fun h => absurd h (by omega)⟩, Or.inl rfl⟩
  · simp [Value.cells] at hcs
    obtain ⟨rfl, rfl, rfl⟩ := hcs
    simp only [Prod.mk.injEq] at hx
    obtain ⟨rfl, rfl⟩ := hx
    simp only [if_true] at hz
    refine ⟨some a, len, cap, ss.take len, rfl, ⟨by simp; omega, fun s hs => hws s (List.mem_of_mem_take hs), fun h0 => ?_⟩, Or.inr ⟨_, _, rfl, by simp [strs]; omega⟩⟩
    obtain ⟨b, off, spot⟩ := a
    have hspot : spot = none := by simpa [Addr.add] using World.cell?_spot (hcell 0 (by omega))
    subst hspot
    have hbW : b < W.heap.size := hlt (.cell b off) (MemPlace.mem_row.2 ⟨0, by omega, by simp⟩)
    refine ⟨b, off, rfl, hbW, fun j hj => ?_⟩
    have := hcell j (by omega)
    rw [add_plain] at this
    rw [this]
    simp [List.getD, hj]

end Go.Proofs.Qxb6616271a
