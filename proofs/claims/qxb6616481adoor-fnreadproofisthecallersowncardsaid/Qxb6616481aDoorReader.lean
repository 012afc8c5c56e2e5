/-
  The walks of ZZNewReader (8), ZZNewFailedReader (9), reader.bytes (19), ZZReaderBytes (10), ZZReaderRest (11), ZZReaderFailed (12).
-/
import Derived.Test.Qxb6616481aDoorClone
namespace Go.Proofs.Qxb6616481aDoor
open Go.RowKit

/-- A reader in memory: its two cells. -/
def Rd (w : World) (br : Nat) (bv ev : Value) : Prop := w.heap[br]? = some (.cells #[bv, ev] 40 (0, 0))

theorem Rd.c0 {w : World} {br : Nat} {bv ev : Value} (h : Rd w br bv ev) : w.cell? ⟨br, 0, none⟩ = some bv := by rw [cell_of_row w br 0 _ 40 (0, 0) h]; rfl
theorem Rd.c1 {w : World} {br : Nat} {bv ev : Value} (h : Rd w br bv ev) : w.cell? ⟨br, 1, none⟩ = some ev := by rw [cell_of_row w br 1 _ 40 (0, 0) h]; rfl
theorem Rd.f {w : World} {br : Nat} {bv ev : Value} (h : Rd w br bv ev) (j : Nat) : w.frozen? ⟨br, j, none⟩ = false := frozen_of_row w br j _ 40 h
theorem Rd.s0 {w : World} {br : Nat} {bv ev : Value} (h : Rd w br bv ev) (u : Value) : Rd (w.setCell ⟨br, 0, none⟩ u) br u ev := by
  have := heap_setCell_same w br 0 _ 40 u h
  simpa [Rd] using this
theorem Rd.s1 {w : World} {br : Nat} {bv ev : Value} (h : Rd w br bv ev) (u : Value) : Rd (w.setCell ⟨br, 1, none⟩ u) br bv u := by
  have := heap_setCell_same w br 1 _ 40 u h
  simpa [Rd] using this
theorem Rd.lt {w : World} {br : Nat} {bv ev : Value} (h : Rd w br bv ev) : br < w.heap.size := (Array.getElem?_eq_some_iff.1 h).1
theorem Rd.alloc (w : World) (bv ev : Value) : Rd (w.alloc (.cells #[bv, ev] 40)) w.heap.size bv ev := heap_alloc_new w _

theorem upd_set {w : World} {br j : Nat} {u : Value} {S : Nat → Prop} (hS : S br) : Upd w (w.setCell ⟨br, j, none⟩ u) S :=
  ⟨rfl, rfl, rfl, by simp [World.setCell], fun k hk => Below.heap_setCell w ⟨br, j, none⟩ u k (fun e => hk (by rw [e]; exact hS))⟩

theorem new_any (a : Option Addr) (n c : Nat) (w : World) : Calls Tryd.prog 8 #[.slice a n c] w fun e w' => e = .returned (.pointer (some ⟨w.heap.size, 0, none⟩)) ∧ w' = w.alloc (.cells #[.slice a n c, .nilIface] 40) := by
  go_enter Tryd.func8, Tryd.ntmps8
  go_wp2
  go_ret
  exact ⟨rfl, rfl⟩

theorem newFailed_any (a : Option Addr) (n c : Nat) (T : TypeId) (x : Value) (w : World) (hG : w.cell? ⟨0, 0, none⟩ = some (.iface T x)) :
    Calls Tryd.prog 9 #[.slice a n c] w fun e w' => e = .returned (.pointer (some ⟨w.heap.size, 0, none⟩)) ∧ w' = w.alloc (.cells #[.slice a n c, .iface T x] 40) := by
  go_enter Tryd.func9, Tryd.ntmps9
  go_wp2
  go_ret
  exact ⟨rfl, rfl⟩

theorem rest_any (br : Nat) (a : Option Addr) (n c : Nat) (ev : Value) (w : World) (h : Rd w br (.slice a n c) ev) : Calls Tryd.prog 11 #[.pointer (some ⟨br, 0, none⟩)] w fun e w' => e = .returned (.slice a n c) ∧ w' = w := by
  have h0 := h.c0
  go_enter Tryd.func11, Tryd.ntmps11
  go_wp2
  go_ret
  exact ⟨rfl, rfl⟩

theorem failed_no (br : Nat) (bv : Value) (w : World) (h : Rd w br bv .nilIface) : Calls Tryd.prog 12 #[.pointer (some ⟨br, 0, none⟩)] w fun e w' => e = .returned (.bool false) ∧ w' = w := by
  have h1 := h.c1
  go_enter Tryd.func12, Tryd.ntmps12
  go_wp2
  go_ret
  exact ⟨rfl, rfl⟩

theorem failed_yes (br : Nat) (bv : Value) (T : TypeId) (x : Value) (w : World) (h : Rd w br bv (.iface T x)) : Calls Tryd.prog 12 #[.pointer (some ⟨br, 0, none⟩)] w fun e w' => e = .returned (.bool true) ∧ w' = w := by
  have h1 := h.c1
  go_enter Tryd.func12, Tryd.ntmps12
  go_wp2
  go_ret
  exact ⟨rfl, rfl⟩

/-- A read by a reader that has failed. -/
theorem read_failed (br : Nat) (bv : Value) (T : TypeId) (x : Value) (dv : Value) (w : World) (h : Rd w br bv (.iface T x)) : Calls Tryd.prog 19 #[.pointer (some ⟨br, 0, none⟩), dv] w fun e w' => e = .returned (.tuple #[]) ∧ w' = w := by
  have h1 := h.c1
  go_enter Tryd.func19, Tryd.ntmps19
  go_wp2
  exact bodyPost_ret (v := .tuple #[]) (by simp [results, Tryd.results19, go_sem]) rfl ⟨rfl, rfl⟩

/-- A read that is too long. -/
theorem read_short (br : Nat) (a : Option Addr) (n c : Nat) (ad : Option Addr) (nd cd : Nat) (T : TypeId) (x : Value) (w : World) (h : Rd w br (.slice a n c) .nilIface) (hG : w.cell? ⟨0, 0, none⟩ = some (.iface T x)) (hlt : (n : Int) < nd) :
    Calls Tryd.prog 19 #[.pointer (some ⟨br, 0, none⟩), .slice ad nd cd] w fun e w' => e = .returned (.tuple #[]) ∧ w' = w.setCell ⟨br, 1, none⟩ (.iface T x) := by
  have h0 := h.c0
  have h1 := h.c1
  have hf := h.f 1
  go_enter Tryd.func19, Tryd.ntmps19
  go_wp2
  exact bodyPost_ret (v := .tuple #[]) (by simp [results, Tryd.results19, go_sem]) rfl ⟨rfl, rfl⟩

/-- What a read that fits leaves. -/
def ReadPost (w : World) (br : Nat) (a : Option Addr) (n c nd g o : Nat) (cur rb : List Int) (e : Ending) (w' : World) : Prop :=
  e = .returned (.tuple #[]) ∧ Rd w' br (.slice (hiAddr a c nd) (n - nd) (c - nd)) .nilIface ∧ (0 < nd → Blk w' g (splice cur o (rb.take nd))) ∧ Upd w w' (fun k => k = br ∨ (0 < nd ∧ k = g))

set_option maxRecDepth 100000 in
/-- A read that fits. -/
theorem read_fits (br : Nat) (a : Option Addr) (n c : Nat) (ad : Option Addr) (nd cd g o b off : Nat) (cur rb : List Int) (w : World) (h : Rd w br (.slice a n c) .nilIface) (hle : nd ≤ n) (hrb : rb.length = n)
    (had : 0 < nd → ad = some ⟨g, o, none⟩) (hfit : 0 < nd → o + nd ≤ cur.length) (hg : 0 < nd → Blk w g cur) (hgb : 0 < nd → g ≠ br)
    (ha : 0 < n → a = some ⟨b, off, none⟩) (hc : ∀ j, j < n → w.cell? ⟨b, off + j, none⟩ = some (.int .u8 (rb.getD j 0))) :
    Calls Tryd.prog 19 #[.pointer (some ⟨br, 0, none⟩), .slice ad nd cd] w (ReadPost w br a n c nd g o cur rb) := by
  obtain ⟨W2, hrun, hB2, hU⟩ := copy_run w.drew ad a nd cd n c g o cur rb hrb hle had hfit hg b off ha hc
  have hR2 : Rd W2 br (.slice a n c) .nilIface := (hU.block br (fun ⟨h0, e⟩ => hgb h0 e.symm)).trans h
  have HP : ReadPost w br a n c nd g o cur rb (.returned (.tuple #[])) (W2.setCell ⟨br, 0, none⟩ (.slice (hiAddr a c nd) (n - nd) (c - nd))) := by
    refine ⟨rfl, hR2.s0 _, fun h0 => ?_, ?_⟩
    · exact (Below.heap_setCell W2 ⟨br, 0, none⟩ _ g (hgb h0)).trans (hB2 h0)
    · have h1 : Upd w W2 (fun k => k = br ∨ (0 < nd ∧ k = g)) := ⟨hU.os, hU.tape, hU.output, hU.size, fun k hk => hU.block k (fun hs => hk (Or.inr hs))⟩
      exact h1.trans (upd_set (Or.inl rfl))
  have HPh := hide HP
  have h0 := h.c0
  have h1 := h.c1
  have k0 := hR2.c0
  have kf := hR2.f 0
  have hsl := fun w => slice_hi a n c nd hle w
  have hlt : ¬ (n : Int) < nd := by omega
  clear HP hU hB2 hR2 h hc ha hg had hfit hgb
  go_enter Tryd.func19, Tryd.ntmps19
  go_wp2_with fail
  go_region
  all_goals (go_end0; exact unhide HPh)

end Go.Proofs.Qxb6616481aDoor
