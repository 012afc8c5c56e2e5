/-
  FnReaderBytesSplitReadAgreesWithWholeRead (3): the reads as the law calls them, and the law's walk.
-/
import Derived.Test.Qxb6616481aDoorReader
namespace Go.Proofs.Qxb6616481aDoor
open Go.RowKit

theorem zread_failed (br : Nat) (bv : Value) (T : TypeId) (x : Value) (dv : Value) (w : World) (h : Rd w br bv (.iface T x)) : Calls Tryd.prog 10 #[.pointer (some ⟨br, 0, none⟩), dv] w fun e w' => e = .returned (.tuple #[]) ∧ w' = w := by
  go_enter Tryd.func10, Tryd.ntmps10
  go_wp2_with fail
  refine (read_failed br bv T x dv _ h).mono ?_
  rintro e w' ⟨rfl, hw⟩
  subst hw
  go_wp2_with fail
  go_end0
  exact ⟨rfl, rfl⟩

theorem zread_short (br : Nat) (a : Option Addr) (n c : Nat) (ad : Option Addr) (nd cd : Nat) (T : TypeId) (x : Value) (w : World) (h : Rd w br (.slice a n c) .nilIface) (hG : w.cell? ⟨0, 0, none⟩ = some (.iface T x)) (hlt : (n : Int) < nd) :
    Calls Tryd.prog 10 #[.pointer (some ⟨br, 0, none⟩), .slice ad nd cd] w fun e w' => e = .returned (.tuple #[]) ∧ Rd w' br (.slice a n c) (.iface T x) ∧ Upd w w' (fun k => k = br) := by
  go_enter Tryd.func10, Tryd.ntmps10
  go_wp2_with fail
  refine (read_short br a n c ad nd cd T x _ h hG hlt).mono ?_
  rintro e w' ⟨rfl, hw⟩
  have h1 : Rd w' br (.slice a n c) (.iface T x) := by rw [hw]; exact h.s1 _
  have h2 : Upd w w' (fun k => k = br) := by rw [hw]; exact upd_set rfl
  have H := hide (And.intro h1 h2)
  clear h1 h2 hw h hG
  go_wp2_with fail
  go_end0
  exact ⟨rfl, (unhide H).1, (unhide H).2⟩

theorem zread_fits (br : Nat) (a : Option Addr) (n c : Nat) (ad : Option Addr) (nd cd g o b off : Nat) (cur rb : List Int) (w : World) (h : Rd w br (.slice a n c) .nilIface) (hle : nd ≤ n) (hrb : rb.length = n)
    (had : 0 < nd → ad = some ⟨g, o, none⟩) (hfit : 0 < nd → o + nd ≤ cur.length) (hg : 0 < nd → Blk w g cur) (hgb : 0 < nd → g ≠ br)
    (ha : 0 < n → a = some ⟨b, off, none⟩) (hc : ∀ j, j < n → w.cell? ⟨b, off + j, none⟩ = some (.int .u8 (rb.getD j 0))) :
    Calls Tryd.prog 10 #[.pointer (some ⟨br, 0, none⟩), .slice ad nd cd] w (ReadPost w br a n c nd g o cur rb) := by
  have HC := hide (read_fits br a n c ad nd cd g o b off cur rb w h hle hrb had hfit hg hgb ha hc)
  clear h hle hrb had hfit hg hgb ha hc
  go_enter Tryd.func10, Tryd.ntmps10
  go_wp2_with fail
  refine (unhide HC).mono ?_
  rintro e w' ⟨rfl, h1, h2, h3⟩
  have H := hide (And.intro h1 (And.intro h2 h3))
  clear h1 h2 h3 HC
  go_wp2_with fail
  go_end0
  exact ⟨rfl, unhide H⟩

theorem new_abs (a : Option Addr) (n c : Nat) (w : World) : Calls Tryd.prog 8 #[.slice a n c] w fun e w' => e = .returned (.pointer (some ⟨w.heap.size, 0, none⟩)) ∧ Rd w' w.heap.size (.slice a n c) .nilIface ∧ Below w.heap.size w w' := by
  refine (new_any a n c w).mono fun e w' ⟨he, hw⟩ => ?_
  subst hw
  exact ⟨he, Rd.alloc _ _ _, (Below.refl _ _).alloc (Nat.le_refl _) _⟩

theorem newFailed_abs (a : Option Addr) (n c : Nat) (T : TypeId) (x : Value) (w : World) (hG : w.cell? ⟨0, 0, none⟩ = some (.iface T x)) :
    Calls Tryd.prog 9 #[.slice a n c] w fun e w' => e = .returned (.pointer (some ⟨w.heap.size, 0, none⟩)) ∧ Rd w' w.heap.size (.slice a n c) (.iface T x) ∧ Below w.heap.size w w' := by
  refine (newFailed_any a n c T x w hG).mono fun e w' ⟨he, hw⟩ => ?_
  subst hw
  exact ⟨he, Rd.alloc _ _ _, (Below.refl _ _).alloc (Nat.le_refl _) _⟩

/-- The law's five vectors, in the order in which they are made, and the variable that holds the error. -/
structure Five (w : World) (s0 : Nat) (B D : List Int) (ab ad awb awd a2 : Option Addr) (gb gd gwb gwd g2 : Nat) (T : TypeId) (x : Value) : Prop where
  vb : Vec w s0 ab gb B
  vd : Vec w s0 ad gd D
  vwb : Vec w s0 awb gwb B
  vwd : Vec w s0 awd gwd D
  v2 : Vec w s0 a2 g2 D
  o1 : 0 < B.length → 0 < D.length → gb < gd ∧ gd < gwb ∧ gwb < gwd ∧ gwd < g2
  o2 : 0 < D.length → gd < gwd ∧ gwd < g2
  o3 : 0 < B.length → gb < gwb
  glob : w.cell? ⟨0, 0, none⟩ = some (.iface T x)
  zero : 0 < s0
  last : (0 < B.length → gwb < w.heap.size) ∧ (0 < D.length → g2 < w.heap.size)

theorem Vec.below {w w' : World} {B s : Nat} {a : Option Addr} {g : Nat} {L : List Int} (h : Vec w B a g L) (hb : Below s w w') (hs : w.heap.size ≤ s) : Vec w' B a g L :=
  h.kept (fun h0 => hb.block g (Nat.lt_of_lt_of_le (h.blk h0).lt hs))

theorem Five.below {w w' : World} {s0 : Nat} {B D : List Int} {ab ad awb awd a2 : Option Addr} {gb gd gwb gwd g2 : Nat} {T : TypeId} {x : Value} (h : Five w s0 B D ab ad awb awd a2 gb gd gwb gwd g2 T x) (hb : Below w.heap.size w w') (hs0 : s0 ≤ w.heap.size) :
    Five w' s0 B D ab ad awb awd a2 gb gd gwb gwd g2 T x :=
  ⟨h.vb.below hb (Nat.le_refl _), h.vd.below hb (Nat.le_refl _), h.vwb.below hb (Nat.le_refl _), h.vwd.below hb (Nat.le_refl _), h.v2.below hb (Nat.le_refl _), h.o1, h.o2, h.o3,
    (hb.cell (show 0 < w.heap.size by have := h.zero; omega)).trans h.glob, h.zero, ⟨fun h0 => Nat.lt_of_lt_of_le (h.last.1 h0) hb.size, fun h0 => Nat.lt_of_lt_of_le (h.last.2 h0) hb.size⟩⟩

/-- What the five calls of zzClone leave. -/
theorem five_of {w w1 w2 w3 w4 w5 : World} {B D : List Int} {ab ad awb awd a2 : Option Addr} {gb gd gwb gwd g2 : Nat} {T : TypeId} {x : Value} (hz : 0 < w.heap.size) (hG : w.cell? ⟨0, 0, none⟩ = some (.iface T x))
    (h1 : Vec w1 w.heap.size ab gb B) (b1 : Below w.heap.size w w1) (h2 : Vec w2 w1.heap.size ad gd D) (b2 : Below w1.heap.size w1 w2) (h3 : Vec w3 w2.heap.size awb gwb B) (b3 : Below w2.heap.size w2 w3)
    (h4 : Vec w4 w3.heap.size awd gwd D) (b4 : Below w3.heap.size w3 w4) (h5 : Vec w5 w4.heap.size a2 g2 D) (b5 : Below w4.heap.size w4 w5) : Five w5 w.heap.size B D ab ad awb awd a2 gb gd gwb gwd g2 T x := by
  have s1 := b1.size; have s2 := b2.size; have s3 := b3.size; have s4 := b4.size; have s5 := b5.size
  have l1 : 0 < B.length → gb < w1.heap.size := fun h => (h1.blk h).lt
  have l2 : 0 < D.length → gd < w2.heap.size := fun h => (h2.blk h).lt
  have l3 : 0 < B.length → gwb < w3.heap.size := fun h => (h3.blk h).lt
  have l4 : 0 < D.length → gwd < w4.heap.size := fun h => (h4.blk h).lt
  have l5 : 0 < D.length → g2 < w5.heap.size := fun h => (h5.blk h).lt
  have m2 := h2.base; have m3 := h3.base; have m4 := h4.base; have m5 := h5.base
  have k1 := (((h1.below b2 (Nat.le_refl _)).below b3 (Nat.le_refl _)).below b4 (Nat.le_refl _)).below b5 (Nat.le_refl _)
  have k2 := ((h2.below b3 (Nat.le_refl _)).below b4 (Nat.le_refl _)).below b5 (Nat.le_refl _)
  have k3 := (h3.below b4 (Nat.le_refl _)).below b5 (Nat.le_refl _)
  have k4 := h4.below b5 (Nat.le_refl _)
  refine ⟨k1, ⟨k2.addr, fun h => by have := m2 h; omega, k2.blk⟩, ⟨k3.addr, fun h => by have := m3 h; omega, k3.blk⟩, ⟨k4.addr, fun h => by have := m4 h; omega, k4.blk⟩, ⟨h5.addr, fun h => by have := m5 h; omega, h5.blk⟩,
    fun hB hD => ?_, fun hD => ?_, fun hB => ?_, ?_, hz, ⟨fun hB => ?_, l5⟩⟩
  · have := l1 hB; have := l2 hD; have := l3 hB; have := l4 hD; have := m2 hD; have := m3 hB; have := m4 hD; have := m5 hD; omega
  · have := l2 hD; have := l4 hD; have := m4 hD; have := m5 hD; omega
  · have := l1 hB; have := m3 hB; omega
  · have bb : Below w.heap.size w w5 := b1.trans ((b2.mono s1).trans ((b3.mono (by omega)).trans ((b4.mono (by omega)).trans (b5.mono (by omega)))))
    exact (bb.cell (show 0 < w.heap.size from hz)).trans hG
  · have := l3 hB; omega

end Go.Proofs.Qxb6616481aDoor
