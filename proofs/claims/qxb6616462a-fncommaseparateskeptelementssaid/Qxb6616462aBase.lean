/-
  The seat's own words: a slice of one-cell elements that is read; two worlds that part at two blocks alone.
-/
import Derived.Test.Qxb6616462aRows
import Derived.WalkKit
import Derived.WalkSpells
import Derived.WalkSmall
import Derived.Maps.AppendAt
import Derived.Laws.CopyOwn
import Derived.Deep.QuietTactic
import Derived.BigQuiet
namespace Go.Proofs.Qxb6616462a
open Go.RowKit

theorem hide {p : Prop} (h : p) : Hid p := h
theorem unhide {p : Prop} (h : Hid p) : p := h

theorem size_of {e : TypeId} {z : Value} {size bytes : Nat} (h : (Try.prog.info? e).map (fun i => (i.zero, i.size, i.bytes)) = some (some z, size, bytes)) (w : World) : (sizeOf e).run Try.prog w = .ok size w := by
  obtain ⟨i, hi, _, rfl, _⟩ := info_parts h
  simp [sizeOf, typeInfo, hi]

theorem info4 : (Try.prog.info? 4).map (fun i => (i.zero, i.size, i.bytes)) = some (some (.bool false), 1, 1) := by kernel_rfl
theorem info5 : (Try.prog.info? 5).map (fun i => (i.zero, i.size, i.bytes)) = some (some (.int .u8 0), 1, 1) := by kernel_rfl
theorem info23 : (Try.prog.info? 23).map (fun i => (i.zero, i.size, i.bytes)) = some (some (.slice none 0 0), 1, 24) := by kernel_rfl
theorem info63 : (Try.prog.info? 63).map (fun i => (i.zero, i.size, i.bytes)) = some (some (.agg #[.int .u32 0, .int .u32 0, .bool false]), 3, 12) := by kernel_rfl

/-- An index inside a slice of one-cell elements. -/
theorem index_run {t e : TypeId} {z : Value} {bytes : Nat} (ht : Try.prog.underlying t = some (.slice e)) (hi : (Try.prog.info? e).map (fun i => (i.zero, i.size, i.bytes)) = some (some z, 1, bytes))
    {a : Option Addr} {n b off : Nat} (cap : Nat) (ha : 0 < n → a = some ⟨b, off, none⟩) {k : Nat} (hk : k < n) (w : World) :
    (Instr.indexAt t (.slice a n cap) (.int .i64 k)).run Try.prog w = .ok (.pointer (some ⟨b, off + k, none⟩)) w := by
  obtain rfl := ha (by omega)
  have hs := size_of hi w
  simp [Instr.indexAt, asIntOf, run_underlying ht, hs, Result.andThen, hk, Addr.add]

/-- A slice of one-cell elements, as it is read: n of them, the j-th K j. -/
def Row (w : World) (v : Value) (n : Nat) (K : Nat → Value) : Prop :=
  ∃ a cap b off, v = .slice a n cap ∧ (0 < n → a = some ⟨b, off, none⟩) ∧ (0 < n → b < w.heap.size) ∧ ∀ j, j < n → w.cell? ⟨b, off + j, none⟩ = some (K j)

theorem Row.later {w w' : World} {v : Value} {n : Nat} {K : Nat → Value} (h : Row w v n K) (hb : Below w.heap.size w w') : Row w' v n K := by
  obtain ⟨a, cap, b, off, e, ha, hlt, hc⟩ := h
  exact ⟨a, cap, b, off, e, ha, fun h0 => Nat.lt_of_lt_of_le (hlt h0) hb.size, fun j hj => (hb.cell (by exact hlt (by omega))).trans (hc j hj)⟩

/-- A slice of bytes. -/
def Bytes (w : World) (v : Value) (bs : List Int) : Prop := Row w v bs.length (fun j => .int .u8 (bs.getD j 0))

theorem Bytes.later {w w' : World} {v : Value} {bs : List Int} (h : Bytes w v bs) (hb : Below w.heap.size w w') : Bytes w' v bs := Row.later h hb

/-- Bytes as cells. -/
def u8s (bs : List Int) : List Value := bs.map (Value.int .u8)

theorem u8s_append (a b : List Int) : u8s (a ++ b) = u8s a ++ u8s b := List.map_append
theorem length_u8s (a : List Int) : (u8s a).length = a.length := List.length_map _
theorem u8s_getElem? (bs : List Int) {j : Nat} (h : j < bs.length) : (u8s bs)[j]? = some (.int .u8 (bs.getD j 0)) := by
  simp [u8s, List.getElem?_map, List.getElem?_eq_getElem h, List.getD]

theorem grown_of_below {w w' : World} (h : Below w.heap.size w w') : w.grownBy w' none := ⟨h.os, h.tape, h.output, h.size, fun k hk _ => h.block k hk⟩
theorem below_of_grown {w w' : World} (h : w.grownBy w' none) : Below w.heap.size w w' := ⟨h.os, h.tape, h.output, h.size, fun k hk => h.block k hk (by simp)⟩

theorem own_below {w w' : World} {base : Nat} {e : TypeId} {size : Nat} {v : Value} {n : Nat} {xs : List Value} (h : w.ownsRow base e size v n xs) (hb : Below w.heap.size w w') : w'.ownsRow base e size v n xs :=
  h.kept (grown_of_below hb) (by cases hv : v.ownBlock <;> simp)

/-- What is owned can be read. -/
theorem bytes_of_own {w : World} {base : Nat} {v : Value} {bs : List Int} (h : w.ownsRow base 5 1 v bs.length (u8s bs)) : Bytes w v bs := by
  have h2 := h.2
  rcases h2 with ⟨rfl, hn⟩ | ⟨g, cap, cur, rfl, hb, hg, _⟩
  · exact ⟨none, 0, 0, 0, by rw [hn], by omega, by omega, by omega⟩
  · refine ⟨_, cap, g, 0, rfl, fun _ => rfl, fun _ => (Array.getElem?_eq_some_iff.1 hg).1, fun j hj => ?_⟩
    have := h.cellAt j (by omega)
    rw [Nat.zero_add, this, u8s_getElem? bs hj]

/-- w' is w with new blocks, and with writes to the blocks r and b alone. -/
structure Grown2 (w w' : World) (r : Option Nat) (b : Nat) : Prop where
  os : w'.os = w.os
  tape : w'.tape = w.tape
  output : w'.output = w.output
  size : w.heap.size ≤ w'.heap.size
  block : ∀ k, k < w.heap.size → some k ≠ r → k ≠ b → w'.heap[k]? = w.heap[k]?

theorem Grown2.of {w w' : World} {r : Option Nat} (h : w.grownBy w' r) (b : Nat) : Grown2 w w' r b := ⟨h.os, h.tape, h.output, h.size, fun k hk h1 _ => h.block k hk h1⟩

/-- v has moved: it lies where it lay, or in a block that is new. -/
def Moved (w : World) (v v' : Value) : Prop := v'.ownBlock = v.ownBlock ∨ ∃ g, v'.ownBlock = some g ∧ w.heap.size ≤ g

theorem grown_then {w w1 w2 : World} {v v1 : Value} (h : w.grownBy w1 v.ownBlock) (hm : Moved w v v1) (k : w1.grownBy w2 v1.ownBlock) : w.grownBy w2 v.ownBlock := by
  refine ⟨k.os.trans h.os, k.tape.trans h.tape, k.output.trans h.output, Nat.le_trans h.size k.size, fun i hi hne => (k.block i (Nat.lt_of_lt_of_le hi h.size) ?_).trans (h.block i hi hne)⟩
  rcases hm with e | ⟨g, e, hg⟩
  · rw [e]; exact hne
  · rw [e]; intro h'; have := Option.some.inj h'; omega

theorem moved_then {w w1 : World} {v v1 v2 : Value} (h : Moved w v v1) (hs : w.heap.size ≤ w1.heap.size) (k : Moved w1 v1 v2) : Moved w v v2 := by
  rcases k with e | ⟨g, e, hg⟩
  · rcases h with e' | ⟨g, e', hg⟩
    · exact Or.inl (e.trans e')
    · exact Or.inr ⟨g, e.trans e', hg⟩
  · exact Or.inr ⟨g, e, Nat.le_trans hs hg⟩

end Go.Proofs.Qxb6616462a
