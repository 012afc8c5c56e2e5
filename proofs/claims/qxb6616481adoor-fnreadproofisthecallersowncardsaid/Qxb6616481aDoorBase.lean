/-
  The seat's own words: a row of bytes as it lies in memory; slices cut out of it; the run of a copy.
-/
import Derived.Test.Qxb6616481aDoorRows
import Derived.WalkKit
import Derived.WalkSpells
import Derived.WalkSmall
import Derived.Laws.CopyOwn
import Derived.Deep.QuietTactic
import Derived.BigQuiet
namespace Go.Proofs.Qxb6616481aDoor
open Go.RowKit

theorem hide {p : Prop} (h : p) : Hid p := h
theorem unhide {p : Prop} (h : Hid p) : p := h

theorem info5 : (Tryd.prog.info? 5).map (fun i => (i.zero, i.size, i.bytes)) = some (some (.int .u8 0), 1, 1) := by kernel_rfl
theorem sz5 : (Tryd.prog.info? 5).map (·.size) = some 1 := by kernel_rfl

theorem size5 (w : World) : (sizeOf 5).run Tryd.prog w = .ok 1 w := by
  obtain ⟨i, hi, _, h1, _⟩ := info_parts info5
  simp [sizeOf, typeInfo, hi, h1]

theorem add_eq (b off j : Nat) : (⟨b, off, none⟩ : Addr).add j = ⟨b, off + j, none⟩ := by unfold Addr.add; split <;> simp_all

/-- An index inside a slice of bytes. -/
theorem index_run {a : Option Addr} {n b off : Nat} (cap : Nat) (ha : 0 < n → a = some ⟨b, off, none⟩) {k : Nat} (hk : k < n) (w : World) :
    (Instr.indexAt 22 (.slice a n cap) (.int .i64 k)).run Tryd.prog w = .ok (.pointer (some ⟨b, off + k, none⟩)) w := by
  obtain rfl := ha (by omega)
  have hs := size5 w
  simp [Instr.indexAt, asIntOf, run_underlying Tryd.underlying22, hs, Result.andThen, hk, Addr.add]

/-- Where 's[k:]' begins. -/
def hiAddr (a : Option Addr) (c k : Nat) : Option Addr := if c = k then a else a.map (·.add k)

theorem hiAddr_pos {a : Option Addr} {c k b off : Nat} (ha : a = some ⟨b, off, none⟩) (hk : k < c) : hiAddr a c k = some ⟨b, off + k, none⟩ := by
  subst ha
  simp [hiAddr, show ¬ c = k by omega, add_eq]

theorem add_zero (a : Option Addr) : (a.map fun x => x.add 0) = a := by
  cases a with
  | none => rfl
  | some x => simp [Addr.add]

/-- 's[:k]'. -/
theorem slice_lo (a : Option Addr) (n c k : Nat) (hk : k ≤ c) (w : World) : (Instr.slice 22 (.slice a n c) none (some (.int .i64 k)) none).run Tryd.prog w = .ok (.slice a k c) w := by
  simp [Instr.slice, Instr.sliceBounds, Instr.sliceBound, run_underlying Tryd.underlying22, asIntOf, Result.andThen, add_zero, hk]

/-- 's[k:]'. -/
theorem slice_hi (a : Option Addr) (n c k : Nat) (hk : k ≤ n) (w : World) : (Instr.slice 22 (.slice a n c) (some (.int .i64 k)) none none).run Tryd.prog w = .ok (.slice (hiAddr a c k) (n - k) (c - k)) w := by
  simp [Instr.slice, Instr.sliceBounds, Instr.sliceBound, run_underlying Tryd.underlying22, asIntOf, Result.andThen, hk, hiAddr]

/-- 's[l:h]'. -/
theorem slice_mid (a : Option Addr) (n c l h : Nat) (hl : l ≤ h) (hh : h ≤ c) (w : World) : (Instr.slice 22 (.slice a n c) (some (.int .i64 l)) (some (.int .i64 h)) none).run Tryd.prog w = .ok (.slice (hiAddr a c l) (h - l) (c - l)) w := by
  simp [Instr.slice, Instr.sliceBounds, Instr.sliceBound, run_underlying Tryd.underlying22, asIntOf, Result.andThen, hl, hh, hiAddr]

/-- Bytes as cells. -/
def u8s (bs : List Int) : List Value := bs.map (Value.int .u8)
theorem length_u8s (a : List Int) : (u8s a).length = a.length := List.length_map _
theorem u8s_get (bs : List Int) {j : Nat} (h : j < bs.length) : (u8s bs)[j]? = some (.int .u8 (bs.getD j 0)) := by
  simp [u8s, List.getElem?_map, List.getElem?_eq_getElem h, List.getD]
theorem u8s_get' {bs : List Int} {j : Nat} {v : Value} (h : (u8s bs)[j]? = some v) : j < bs.length ∧ v = .int .u8 (bs.getD j 0) := by
  have hj : j < bs.length := by
    rcases Nat.lt_or_ge j bs.length with h' | h'
    · exact h'
    · rw [List.getElem?_eq_none (by rw [length_u8s]; exact h')] at h; cases h
  rw [u8s_get bs hj] at h
  exact ⟨hj, (Option.some.inj h).symm⟩

/-- A slice of bytes as it is read. -/
def Bytes (w : World) (v : Value) (bs : List Int) : Prop :=
  ∃ a cap b off, v = .slice a bs.length cap ∧ (0 < bs.length → a = some ⟨b, off, none⟩) ∧ ∀ j, j < bs.length → w.cell? ⟨b, off + j, none⟩ = some (.int .u8 (bs.getD j 0))

theorem Bytes.lt {w : World} {b off : Nat} {bs : List Int} (hc : ∀ j, j < bs.length → w.cell? ⟨b, off + j, none⟩ = some (.int .u8 (bs.getD j 0))) (h : 0 < bs.length) : b < w.heap.size :=
  World.block_lt_of_cell? _ _ (hc 0 h)

theorem Bytes.later {w w' : World} {v : Value} {bs : List Int} (h : Bytes w v bs) (hb : Below w.heap.size w w') : Bytes w' v bs := by
  obtain ⟨a, cap, b, off, e, ha, hc⟩ := h
  exact ⟨a, cap, b, off, e, ha, fun j hj => (hb.cell (by exact Bytes.lt hc (by omega))).trans (hc j hj)⟩

/-- The block g holds just the bytes L. -/
def Blk (w : World) (g : Nat) (L : List Int) : Prop := w.heap[g]? = some (.cells (u8s L).toArray 5 (0, 0))

theorem Blk.cell {w : World} {g : Nat} {L : List Int} (h : Blk w g L) {j : Nat} (hj : j < L.length) : w.cell? ⟨g, j, none⟩ = some (.int .u8 (L.getD j 0)) := by
  rw [cell_of_row w g j _ 5 (0, 0) h]
  simpa using u8s_get L hj

theorem Blk.lt {w : World} {g : Nat} {L : List Int} (h : Blk w g L) : g < w.heap.size := (Array.getElem?_eq_some_iff.1 h).1

/-- The slice of a block's bytes from o on, n of them. -/
theorem Blk.bytes {w : World} {g : Nat} {L : List Int} (h : Blk w g L) (o n cap : Nat) (hn : o + n ≤ L.length) (a : Option Addr) (ha : 0 < n → a = some ⟨g, o, none⟩) : Bytes w (.slice a n cap) ((L.drop o).take n) := by
  have hl : ((L.drop o).take n).length = n := by simp; omega
  refine ⟨a, cap, g, o, by rw [hl], by rw [hl]; exact ha, fun j hj => ?_⟩
  rw [hl] at hj
  rw [h.cell (by omega)]
  simp [List.getD, hj]

theorem bytes_nil (w : World) (a : Option Addr) (cap : Nat) : Bytes w (.slice a 0 cap) [] := ⟨a, cap, 0, 0, rfl, fun h => absurd h (by simp), fun j hj => absurd hj (by simp)⟩

/-- A vector: a slice whose length is its capacity: nil, or the whole of a block g of its own. -/
structure Vec (w : World) (B : Nat) (a : Option Addr) (g : Nat) (L : List Int) : Prop where
  addr : 0 < L.length → a = some ⟨g, 0, none⟩
  base : 0 < L.length → B ≤ g
  blk : 0 < L.length → Blk w g L

theorem Vec.bytes {w : World} {B : Nat} {a : Option Addr} {g : Nat} {L : List Int} (h : Vec w B a g L) (cap : Nat) : Bytes w (.slice a L.length cap) L := by
  by_cases h0 : L.length = 0
  · obtain rfl : L = [] := List.eq_nil_of_length_eq_zero h0
    exact bytes_nil w a cap
  · have := (h.blk (by omega)).bytes 0 L.length cap (by omega) a (fun h' => h.addr h')
    simpa using this

/-- 'v[:k]'. -/
theorem Vec.lo {w : World} {B : Nat} {a : Option Addr} {g : Nat} {L : List Int} (h : Vec w B a g L) (k cap : Nat) (hk : k ≤ L.length) : Bytes w (.slice a k cap) (L.take k) := by
  by_cases h0 : k = 0
  · subst h0; simpa using bytes_nil w a cap
  · have := (h.blk (by omega)).bytes 0 k cap (by omega) a (fun _ => h.addr (by omega))
    simpa using this

/-- 'v[k:]'. -/
theorem Vec.hi {w : World} {B : Nat} {a : Option Addr} {g : Nat} {L : List Int} (h : Vec w B a g L) (k cap : Nat) (hk : k ≤ L.length) : Bytes w (.slice (hiAddr a L.length k) (L.length - k) cap) (L.drop k) := by
  by_cases h0 : L.length - k = 0
  · have e : L.drop k = [] := List.drop_eq_nil_of_le (by omega)
    rw [h0, e]
    exact bytes_nil w _ cap
  · have := (h.blk (by omega)).bytes k (L.length - k) cap (by omega) (hiAddr a L.length k) (fun _ => by rw [hiAddr_pos (h.addr (by omega)) (by omega), Nat.zero_add])
    rwa [List.take_of_length_le (by simp)] at this

theorem Vec.kept {w w' : World} {B : Nat} {a : Option Addr} {g : Nat} {L : List Int} (h : Vec w B a g L) (hb : 0 < L.length → w'.heap[g]? = w.heap[g]?) : Vec w' B a g L :=
  ⟨h.addr, h.base, fun h0 => (hb h0).trans (h.blk h0)⟩

/-- Bytes behind 's[k:]'. -/
theorem Bytes.hi {w : World} {a : Option Addr} {cap b off : Nat} {bs : List Int} (ha : 0 < bs.length → a = some ⟨b, off, none⟩) (hc : ∀ j, j < bs.length → w.cell? ⟨b, off + j, none⟩ = some (.int .u8 (bs.getD j 0))) (hcap : bs.length ≤ cap) (k : Nat) (hk : k ≤ bs.length) :
    Bytes w (.slice (hiAddr a cap k) (bs.length - k) (cap - k)) (bs.drop k) := by
  have hl : (bs.drop k).length = bs.length - k := by simp
  by_cases h0 : bs.length - k = 0
  · have e : bs.drop k = [] := List.drop_eq_nil_of_le (by omega)
    rw [h0, e]
    exact bytes_nil w _ _
  · refine ⟨_, _, b, off + k, by rw [hl], fun _ => hiAddr_pos (ha (by omega)) (by omega), fun j hj => ?_⟩
    rw [hl] at hj
    rw [Nat.add_assoc, hc (k + j) (by omega)]
    simp [List.getD]

/-- Two worlds that part at the blocks S alone; no block is new. -/
structure Upd (w w' : World) (S : Nat → Prop) : Prop where
  os : w'.os = w.os
  tape : w'.tape = w.tape
  output : w'.output = w.output
  size : w'.heap.size = w.heap.size
  block : ∀ k, ¬ S k → w'.heap[k]? = w.heap[k]?

theorem Upd.below {w w' : World} {S : Nat → Prop} (h : Upd w w' S) {B : Nat} (hS : ∀ k, S k → B ≤ k) : Below B w w' :=
  ⟨h.os, h.tape, h.output, Nat.le_of_eq h.size.symm, fun k hk => h.block k (fun hs => by have := hS k hs; omega)⟩

theorem Upd.trans {a b c : World} {S : Nat → Prop} (h : Upd a b S) (k : Upd b c S) : Upd a c S :=
  ⟨k.os.trans h.os, k.tape.trans h.tape, k.output.trans h.output, k.size.trans h.size, fun i hi => (k.block i hi).trans (h.block i hi)⟩

/-- A copy of bytes into a block of the call's own: its run. -/
theorem copy_run (w : World) (ad ar : Option Addr) (nd cd nr cr g o : Nat) (cur rb : List Int) (hnr : rb.length = nr) (hle : nd ≤ nr) (had : 0 < nd → ad = some ⟨g, o, none⟩) (hfit : 0 < nd → o + nd ≤ cur.length) (hg : 0 < nd → Blk w g cur)
    (b off : Nat) (har : 0 < nr → ar = some ⟨b, off, none⟩) (hc : ∀ j, j < nr → w.cell? ⟨b, off + j, none⟩ = some (.int .u8 (rb.getD j 0))) :
    ∃ w', (∀ ty, (Builtin.copy_ #[22, 22] ty #[.slice ad nd cd, .slice ar nr cr]).run Tryd.prog w = .ok (.int .i64 nd) w') ∧ (0 < nd → Blk w' g (splice cur o (rb.take nd))) ∧ Upd w w' (fun k => 0 < nd ∧ k = g) := by
  by_cases h0 : nd = 0
  · subst h0
    refine ⟨w, fun ty => ?_, fun h => absurd h (by omega), ⟨rfl, rfl, rfl, rfl, fun _ _ => rfl⟩⟩
    have := run_copy_none (P := Tryd.prog) w 22 22 ty 5 ad ar 0 cd nr cr Tryd.underlying22 sz5 (by simp)
    rw [this]; rfl
  · obtain rfl := had (by omega)
    obtain rfl := har (by omega)
    have hl : (u8s (rb.take nd)).length = nd := by rw [length_u8s]; simp; omega
    have hr := fun ty => run_copy_row (P := Tryd.prog) w 22 22 ty 5 g o nd cd ⟨b, off, none⟩ nr cr (u8s cur).toArray 5 (u8s (rb.take nd)) Tryd.underlying22 sz5 (hg (by omega)) (by rw [hl]; exact (Nat.min_eq_right hle).symm)
      (fun j v hv => by
        obtain ⟨hj, rfl⟩ := u8s_get' hv
        rw [length_u8s] at hl
        rw [add_eq, hc j (by omega)]
        simp [List.getD, show j < nd by omega])
      (by rw [hl]; have := hfit (by omega); simpa [length_u8s] using this) (ints_oneCell .u8 _)
    refine ⟨w.setRow g ((u8s cur).toArray.toList.take o ++ u8s (rb.take nd) ++ (u8s cur).toArray.toList.drop (o + (u8s (rb.take nd)).length)).toArray, fun ty => by rw [hr ty, hl]; rfl, fun _ => ?_, ⟨rfl, rfl, rfl, by simp [World.setRow], fun k hk => setRow_other w g k _ (fun e => hk ⟨by omega, e⟩)⟩⟩
    have hs := setRow_heap w g _ ((u8s cur).toArray.toList.take o ++ u8s (rb.take nd) ++ (u8s cur).toArray.toList.drop (o + (u8s (rb.take nd)).length)).toArray 5 _ (hg (by omega))
    unfold Blk
    rw [hs, hl]
    have e : (rb.take nd).length = nd := by simp; omega
    simp [splice, u8s, e]

end Go.Proofs.Qxb6616481aDoor
