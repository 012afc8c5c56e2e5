/-
  The walks of bytes.NewReader (20), ZZNewByteSource (15), (*bytes.Reader).Len (22), ZZByteSourceLeft (17), (*bytes.Reader).Read (41).
-/
import Derived.Test.Qxb6616481aDoorClone
namespace Go.Proofs.Qxb6616481aDoor
open Go.RowKit

/-- A reader over bytes in memory: its three cells. -/
def BR (w : World) (rr : Nat) (bv : Value) (i pr : Int) : Prop := w.heap[rr]? = some (.cells #[bv, .int .i64 i, .int .i64 pr] 50 (0, 0))

theorem BR.c0 {w : World} {rr : Nat} {bv : Value} {i pr : Int} (h : BR w rr bv i pr) : w.cell? ⟨rr, 0, none⟩ = some bv := by rw [cell_of_row w rr 0 _ 50 (0, 0) h]; rfl
theorem BR.c1 {w : World} {rr : Nat} {bv : Value} {i pr : Int} (h : BR w rr bv i pr) : w.cell? ⟨rr, 1, none⟩ = some (.int .i64 i) := by rw [cell_of_row w rr 1 _ 50 (0, 0) h]; rfl
theorem BR.c2 {w : World} {rr : Nat} {bv : Value} {i pr : Int} (h : BR w rr bv i pr) : w.cell? ⟨rr, 2, none⟩ = some (.int .i64 pr) := by rw [cell_of_row w rr 2 _ 50 (0, 0) h]; rfl
theorem BR.f {w : World} {rr : Nat} {bv : Value} {i pr : Int} (h : BR w rr bv i pr) (j : Nat) : w.frozen? ⟨rr, j, none⟩ = false := frozen_of_row w rr j _ 50 h
theorem BR.s1 {w : World} {rr : Nat} {bv : Value} {i pr : Int} (h : BR w rr bv i pr) (u : Int) : BR (w.setCell ⟨rr, 1, none⟩ (.int .i64 u)) rr bv u pr := by
  have := heap_setCell_same w rr 1 _ 50 (.int .i64 u) h
  simpa [BR] using this
theorem BR.s2 {w : World} {rr : Nat} {bv : Value} {i pr : Int} (h : BR w rr bv i pr) (u : Int) : BR (w.setCell ⟨rr, 2, none⟩ (.int .i64 u)) rr bv i u := by
  have := heap_setCell_same w rr 2 _ 50 (.int .i64 u) h
  simpa [BR] using this
theorem BR.lt {w : World} {rr : Nat} {bv : Value} {i pr : Int} (h : BR w rr bv i pr) : rr < w.heap.size := (Array.getElem?_eq_some_iff.1 h).1

/-- The source: a pointer to the reader. -/
def Src (w : World) (sb rr : Nat) : Prop := w.heap[sb]? = some (.cells #[.pointer (some ⟨rr, 0, none⟩)] 45 (0, 0))
theorem Src.c0 {w : World} {sb rr : Nat} (h : Src w sb rr) : w.cell? ⟨sb, 0, none⟩ = some (.pointer (some ⟨rr, 0, none⟩)) := by rw [cell_of_row w sb 0 _ 45 (0, 0) h]; rfl
theorem Src.lt {w : World} {sb rr : Nat} (h : Src w sb rr) : sb < w.heap.size := (Array.getElem?_eq_some_iff.1 h).1

theorem newReader (a : Option Addr) (n c : Nat) (w : World) : Calls Tryd.prog 20 #[.slice a n c] w fun e w' => e = .returned (.pointer (some ⟨w.heap.size, 0, none⟩)) ∧ w' = w.alloc (.cells #[.slice a n c, .int .i64 0, .int .i64 (-1)] 50) := by
  go_enter Tryd.func20, Tryd.ntmps20
  go_wp2
  go_ret
  exact ⟨rfl, rfl⟩

/-- What ZZNewByteSource leaves. -/
def SrcPost (w : World) (a : Option Addr) (n c : Nat) (e : Ending) (w' : World) : Prop :=
  ∃ sb rr, e = .returned (.pointer (some ⟨sb, 0, none⟩)) ∧ Src w' sb rr ∧ BR w' rr (.slice a n c) 0 (-1) ∧ w.heap.size ≤ rr ∧ w.heap.size ≤ sb ∧ rr ≠ sb ∧ Below w.heap.size w w'

theorem newSource (a : Option Addr) (n c : Nat) (w : World) : Calls Tryd.prog 15 #[.slice a n c] w (SrcPost w a n c) := by
  go_enter Tryd.func15, Tryd.ntmps15
  go_wp2_with fail
  refine (newReader a n c _).mono ?_
  rintro e w1 ⟨rfl, hw⟩
  have hr : BR w1 w.heap.size (.slice a n c) 0 (-1) := by rw [hw]; exact heap_alloc_new w _
  have hb : Below w.heap.size w w1 := by rw [hw]; exact (Below.refl _ _).alloc (Nat.le_refl _) _
  have hs : w.heap.size < w1.heap.size := hr.lt
  clear hw
  go_wp2
  go_ret
  refine ⟨w1.heap.size, w.heap.size, rfl, heap_alloc_new w1 _, (Below.heap_alloc w1 _ _ hs).trans hr, Nat.le_refl _, by omega, by omega, hb.alloc (by omega) _⟩

theorem two_draws (w : World) (a b : Nat) : ∃ q, (w.drewN a).drewN b = w.drewN q := ⟨a + b, by simp⟩

/-- How many bytes are left. -/
theorem len_any (rr : Nat) (a : Option Addr) (n c : Nat) (i : Nat) (pr : Int) (w : World) (h : BR w rr (.slice a n c) i pr) (hi : i ≤ n) (hn : n ≤ 1048576) : Calls Tryd.prog 22 #[.pointer (some ⟨rr, 0, none⟩)] w fun e w' => e = .returned (.int .i64 ((n - i : Nat) : Int)) ∧ ∃ q, w' = w.drewN q := by
  have h0 := h.c0
  have h1 := h.c1
  clear h
  by_cases hlt : (n : Int) ≤ i
  · go_enter Tryd.func22, Tryd.ntmps22
    go_wp2_with fail
    go_quiet (fail)
    go_wp2
    go_ret
    have e : n - i = 0 := by omega
    rw [e]
    exact ⟨rfl, _, rfl⟩
  · go_enter Tryd.func22, Tryd.ntmps22
    go_wp2_with fail
    go_quiet (fail)
    go_wp2_with fail
    go_quiet (fail)
    go_wp2
    go_ret
    have e : ((n - i : Nat) : Int) = (n : Int) - i := by omega
    rw [e]
    exact ⟨rfl, two_draws _ _ _⟩

theorem left_any (sb rr : Nat) (a : Option Addr) (n c : Nat) (i : Nat) (pr : Int) (w : World) (hs : Src w sb rr) (h : BR w rr (.slice a n c) i pr) (hi : i ≤ n) (hn : n ≤ 1048576) : Calls Tryd.prog 17 #[.pointer (some ⟨sb, 0, none⟩)] w fun e w' => e = .returned (.int .i64 ((n - i : Nat) : Int)) ∧ ∃ q, w' = w.drewN q := by
  have h0 := hs.c0
  go_enter Tryd.func17, Tryd.ntmps17
  go_wp2_with fail
  refine (len_any rr a n c i pr _ h hi hn).mono ?_
  rintro e w1 ⟨rfl, q, rfl⟩
  go_wp2
  go_ret
  exact ⟨rfl, q, rfl⟩

/-- Read at the end. -/
theorem read_eof (rr : Nat) (a : Option Addr) (n c : Nat) (i : Nat) (pr : Int) (dv : Value) (TE : TypeId) (xE : Value) (w : World) (h : BR w rr (.slice a n c) i pr) (hi : (n : Int) ≤ i) (hG : w.cell? ⟨2, 0, none⟩ = some (.iface TE xE)) :
    Calls Tryd.prog 41 #[.pointer (some ⟨rr, 0, none⟩), dv] w fun e w' => e = .returned (.tuple #[.int .i64 0, .iface TE xE]) ∧ ∃ q, w' = w.drewN q := by
  have h0 := h.c0
  have h1 := h.c1
  clear h
  go_enter Tryd.func41, Tryd.ntmps41
  go_wp2_with fail
  go_quiet (fail)
  go_wp2_with fail
  go_quiet (fail)
  go_wp2
  go_ret2
  exact ⟨rfl, two_draws _ _ _⟩

/-- A copy of as many bytes as both have, behind any draws. -/
theorem copy_runq (w : World) (ad ar : Option Addr) (nd cd nr cr g o k : Nat) (cur rb : List Int) (hnr : rb.length = nr) (hk : Nat.min nr nd = k) (had : 0 < k → ad = some ⟨g, o, none⟩) (hfit : 0 < k → o + k ≤ cur.length) (hg : 0 < k → Blk w g cur)
    (b off : Nat) (har : 0 < k → ar = some ⟨b, off, none⟩) (hc : ∀ j, j < k → w.cell? ⟨b, off + j, none⟩ = some (.int .u8 (rb.getD j 0))) :
    ∃ w', (∀ q ty, (Builtin.copy_ #[22, 22] ty #[.slice ad nd cd, .slice ar nr cr]).run Tryd.prog (w.drewN q) = .ok (.int .i64 k) (w'.drewN q)) ∧ (0 < k → Blk w' g (splice cur o (rb.take k))) ∧ Upd w w' (fun j => 0 < k ∧ j = g) := by
  have hk1 : k ≤ nr := by rw [← hk]; exact Nat.min_le_left _ _
  by_cases h0 : k = 0
  · subst h0
    refine ⟨w, fun q ty => ?_, fun h => absurd h (by omega), ⟨rfl, rfl, rfl, rfl, fun _ _ => rfl⟩⟩
    have := run_copy_none (P := Tryd.prog) (w.drewN q) 22 22 ty 5 ad ar nd cd nr cr Tryd.underlying22 sz5 hk
    rw [this]; rfl
  · obtain rfl := had (by omega)
    obtain rfl := har (by omega)
    have hl : (u8s (rb.take k)).length = k := by rw [length_u8s]; simp; omega
    have hr := fun q ty => run_copy_row (P := Tryd.prog) (w.drewN q) 22 22 ty 5 g o nd cd ⟨b, off, none⟩ nr cr (u8s cur).toArray 5 (u8s (rb.take k)) Tryd.underlying22 sz5 (hg (by omega)) (by rw [hl]; exact hk.symm)
      (fun j v hv => by
        obtain ⟨hj, rfl⟩ := u8s_get' hv
        rw [length_u8s] at hl
        rw [add_eq]
        refine (hc j (by omega)).trans ?_
        simp [List.getD, show j < k by omega])
      (by rw [hl]; have := hfit (by omega); simpa [length_u8s] using this) (ints_oneCell .u8 _)
    refine ⟨w.setRow g ((u8s cur).toArray.toList.take o ++ u8s (rb.take k) ++ (u8s cur).toArray.toList.drop (o + (u8s (rb.take k)).length)).toArray, fun q ty => by rw [hr q ty, hl]; rfl, fun _ => ?_, ⟨rfl, rfl, rfl, by simp [World.setRow], fun j hj => setRow_other w g j _ (fun e => hj ⟨by omega, e⟩)⟩⟩
    have hs := setRow_heap w g _ ((u8s cur).toArray.toList.take o ++ u8s (rb.take k) ++ (u8s cur).toArray.toList.drop (o + (u8s (rb.take k)).length)).toArray 5 _ (hg (by omega))
    unfold Blk
    rw [hs, hl]
    have e : (rb.take k).length = k := by simp; omega
    simp [splice, u8s, e]

/-- What a read of k bytes leaves. -/
def ReadSome (w : World) (rr : Nat) (bv : Value) (i k g o : Nat) (cur rb : List Int) (e : Ending) (w' : World) : Prop :=
  e = .returned (.tuple #[.int .i64 k, .nilIface]) ∧ BR w' rr bv ((i + k : Nat) : Int) (-1) ∧ (0 < k → Blk w' g (splice cur o (rb.take k))) ∧ Upd w w' (fun j => j = rr ∨ (0 < k ∧ j = g))

theorem upd_set' {w : World} {br j : Nat} {u : Value} {S : Nat → Prop} (hS : S br) : Upd w (w.setCell ⟨br, j, none⟩ u) S :=
  ⟨rfl, rfl, rfl, by simp [World.setCell], fun k hk => Below.heap_setCell w ⟨br, j, none⟩ u k (fun e => hk (by rw [e]; exact hS))⟩

set_option maxRecDepth 100000 in
/-- Read ahead of the end. -/
theorem read_some (rr : Nat) (a : Option Addr) (n c : Nat) (i : Nat) (pr : Int) (ad : Option Addr) (nd cd g o k b off : Nat) (cur L : List Int) (w : World) (h : BR w rr (.slice a n c) i pr) (hi : i < n) (hn : n ≤ 1048576) (hL : L.length = n) (hk : Nat.min (n - i) nd = k)
    (had : 0 < k → ad = some ⟨g, o, none⟩) (hfit : 0 < k → o + k ≤ cur.length) (hg : 0 < k → Blk w g cur) (hgr : 0 < k → g ≠ rr) (hnc : n ≤ c)
    (ha : 0 < n → a = some ⟨b, off, none⟩) (hc : ∀ j, j < n → w.cell? ⟨b, off + j, none⟩ = some (.int .u8 (L.getD j 0))) (hbr : b ≠ rr) :
    Calls Tryd.prog 41 #[.pointer (some ⟨rr, 0, none⟩), .slice ad nd cd] w (ReadSome w rr (.slice a n c) i k g o cur (L.drop i)) := by
  have hR1 := h.s2 (-1)
  obtain ⟨W2, hrun, hB2, hU⟩ := copy_runq (w.setCell ⟨rr, 2, none⟩ (.int .i64 (-1))) ad (hiAddr a c i) nd cd (n - i) (c - i) g o k cur (L.drop i) (by simp [hL]) hk had hfit
    (fun h0 => (Below.heap_setCell w ⟨rr, 2, none⟩ _ g (hgr h0)).trans (hg h0)) b (off + i) (fun h0 => hiAddr_pos (ha (by omega)) (by omega))
    (fun j hj => by
      have hk1 : k ≤ n - i := by rw [← hk]; exact Nat.min_le_left _ _
      rw [World.cell?_setCell_other _ _ _ _ (fun e => hbr (congrArg Addr.block e).symm), Nat.add_assoc, hc (i + j) (by omega)]
      simp [List.getD])
  have hR2 : BR W2 rr (.slice a n c) i (-1) := (hU.block rr (fun ⟨h0, e⟩ => hgr h0 e.symm)).trans hR1
  have hk1 : k ≤ n - i := by rw [← hk]; exact Nat.min_le_left _ _
  have HP : ∀ q, ReadSome w rr (.slice a n c) i k g o cur (L.drop i) (.returned (.tuple #[.int .i64 k, .nilIface])) ((W2.setCell ⟨rr, 1, none⟩ (.int .i64 ((i : Int) + k))).drewN q) := fun q => by
    have e : ((i + k : Nat) : Int) = (i : Int) + k := by omega
    refine ⟨rfl, by rw [e]; exact hR2.s1 _, fun h0 => ?_, ?_⟩
    · exact (Below.heap_setCell W2 ⟨rr, 1, none⟩ _ g (hgr h0)).trans (hB2 h0)
    · have h1 : Upd w W2 (fun j => j = rr ∨ (0 < k ∧ j = g)) := (upd_set' (Or.inl rfl)).trans ⟨hU.os, hU.tape, hU.output, hU.size, fun j hj => hU.block j (fun hs => hj (Or.inr hs))⟩
      have h2 := h1.trans (upd_set' (u := .int .i64 ((i : Int) + k)) (j := 1) (Or.inl rfl))
      exact ⟨h2.os, h2.tape, h2.output, h2.size, h2.block⟩
  have HPh := hide HP
  have hrun' : ∀ nq ty, (Builtin.copy_ #[22, 22] ty #[.slice ad nd cd, .slice (hiAddr a c i) (n - i) (c - i)]).run Tryd.prog ((w.drewN nq).setCell ⟨rr, 2, none⟩ (.int .i64 (-1))).drew = .ok (.int .i64 k) (W2.drewN (nq + 1)) := fun nq ty => hrun (nq + 1) ty
  clear hrun
  have h0 := h.c0
  have h1 := h.c1
  have h2 := h.c2
  have f2 := h.f 2
  have k0 : ∀ nq, ((w.drewN nq).setCell ⟨rr, 2, none⟩ (.int .i64 (-1))).cell? ⟨rr, 0, none⟩ = some (.slice a n c) := fun nq => hR1.c0
  have k1 : ∀ nq, ((w.drewN nq).setCell ⟨rr, 2, none⟩ (.int .i64 (-1))).cell? ⟨rr, 1, none⟩ = some (.int .i64 i) := fun nq => hR1.c1
  have m1 := hR2.c1
  have mf := hR2.f 1
  have hsl := fun w => slice_hi a n c i (by omega) w
  have hlt : ¬ (n : Int) ≤ i := by omega
  have hiI : (i : Int) ≤ 1048576 := by omega
  have hkI : (k : Int) ≤ 1048576 := by omega
  clear HP hU hB2 hR2 hR1 h hc ha hg had hfit hgr hk hk1
  go_enter Tryd.func41, Tryd.ntmps41
  go_wp2_with fail
  go_quiet (fail)
  go_wp2_with fail
  go_region
  all_goals go_wp2
  all_goals go_ret2
  all_goals exact unhide HPh (nq + 1)

end Go.Proofs.Qxb6616481aDoor
