/-
  The walks of io.ReadFull (23), ReadProof (21), ZZReadProof (16).
-/
import Derived.Test.Qxb6616481aDoorFull
namespace Go.Proofs.Qxb6616481aDoor
open Go.RowKit

/-- ReadFull is ReadAtLeast at the buffer's length. -/
theorem full_wrap (rdr : Value) (g : Nat) (w : World) (R : Int → Value → World → Prop)
    (h : Calls Tryd.prog 24 #[rdr, .slice (some ⟨g, 0, none⟩) 64 64, .int .i64 64] w fun e w' => ∃ r x, e = .returned (.tuple #[.int .i64 r, x]) ∧ R r x w') :
    Calls Tryd.prog 23 #[rdr, .slice (some ⟨g, 0, none⟩) 64 64] w fun e w' => ∃ r x, e = .returned (.tuple #[.int .i64 r, x]) ∧ R r x w' := by
  have H := hide h
  clear h
  go_enter Tryd.func23, Tryd.ntmps23
  go_wp2_with fail
  refine (unhide H).mono ?_
  rintro e w1 ⟨r, x, rfl, hR⟩
  have HR := hide hR
  clear hR
  go_wp2
  go_ret2
  exact ⟨r, x, rfl, unhide HR⟩

/-- Among the blocks that were, the reader's alone has changed. -/
structure Upg (w w' : World) (rr : Nat) : Prop where
  os : w'.os = w.os
  tape : w'.tape = w.tape
  output : w'.output = w.output
  size : w.heap.size ≤ w'.heap.size
  block : ∀ k, k < w.heap.size → k ≠ rr → w'.heap[k]? = w.heap[k]?

/-- What a proof that was read leaves. -/
def GotPost (v : Value) (w : World) (rr : Nat) (bv : Value) (i : Nat) (L : List Int) (e : Ending) (w' : World) : Prop :=
  ∃ g, e = .returned (.tuple #[.slice (some ⟨g, 0, none⟩) 64 64, v]) ∧ w.heap.size ≤ g ∧ BR w' rr bv ((i + 64 : Nat) : Int) (-1) ∧ Blk w' g ((L.drop i).take 64) ∧ Upg w w' rr

/-- What a proof that was not read leaves: the error. -/
def LackPost (w : World) (rr : Nat) (bv : Value) (n : Nat) (e : Ending) (w' : World) : Prop :=
  ∃ T x, e = .returned (.tuple #[.slice none 0 0, .iface T x]) ∧ (∃ pr, BR w' rr bv (n : Int) pr) ∧ Upg w w' rr

/-- The same, told by a bool. -/
def NonePost (w : World) (rr : Nat) (bv : Value) (n : Nat) (e : Ending) (w' : World) : Prop :=
  e = .returned (.tuple #[.slice none 0 0, .bool true]) ∧ (∃ pr, BR w' rr bv (n : Int) pr) ∧ Upg w w' rr

theorem zeros64 : (madeCells (Value.int .u8 0).cells (64 * 1)).toList = u8s (List.replicate 64 0) := by kernel_rfl

/-- The row that 'make' lays. -/
theorem made {w1 : World} {B g : Nat} (h : w1.ownsRow B 5 1 (.slice (some ⟨g, 0, none⟩) 64 64) 64 (madeCells (Value.int .u8 0).cells (64 * 1)).toList) : Blk w1 g (List.replicate 64 0) := by
  have := own_block h
  unfold Blk
  rw [this, zeros64]

set_option maxRecDepth 100000 in
theorem proof_got (rr : Nat) (a : Option Addr) (n c : Nat) (i : Nat) (pr : Int) (b off : Nat) (L : List Int) (w : World) (h : BR w rr (.slice a n c) i pr) (hi : i + 64 ≤ n) (hn : n ≤ 1048576) (hL : L.length = n)
    (hnc : n ≤ c) (ha : 0 < n → a = some ⟨b, off, none⟩) (hc : ∀ j, j < n → w.cell? ⟨b, off + j, none⟩ = some (.int .u8 (L.getD j 0))) (hbr : b ≠ rr) :
    Calls Tryd.prog 21 #[.iface 42 (.pointer (some ⟨rr, 0, none⟩))] w (GotPost .nilIface w rr (.slice a n c) i L) := by
  obtain ⟨i0, hi0, hz0, hz1, hz2⟩ := info_parts info5
  have hrl := h.lt
  have HH := hide (fun w1 (hb : Below w.heap.size w w1) (hg : Blk w1 w.heap.size (List.replicate 64 0)) =>
    full_wrap (.iface 42 (.pointer (some ⟨rr, 0, none⟩))) w.heap.size w1 _ ((atLeast_all rr a n c i pr w.heap.size b off (List.replicate 64 0) L w1 ((hb.block _ hrl).trans h) hi hn hL (by simp) hg (by omega) hnc ha
      (fun j hj => (hb.cell (World.block_lt_of_cell? _ _ (hc j hj))).trans (hc j hj)) hbr).mono (R' := fun e w' => ∃ r x, e = .returned (.tuple #[.int .i64 r, x]) ∧ x = .nilIface ∧ FullPost w1 rr (.slice a n c) i w.heap.size L (.returned (.tuple #[.int .i64 64, .nilIface])) w')
      (fun e w' hp => by obtain ⟨rfl, hp⟩ := hp; exact ⟨64, _, rfl, rfl, rfl, hp⟩)))
  clear h hc ha
  go_enter Tryd.func21, Tryd.ntmps21
  go_wp2_with (first
    | (at_make; refine wpList_make_full _ rfl _ _ 22 rfl w.heap.size 5 i0 (.int .u8 0) 1 Tryd.underlying22 hi0 hz0 hz1 _ _ _ _ 64 rfl rfl rfl rfl (by rw [hz2]; omega) (by unfold maxLen; omega) (Nat.le_refl _) ?_; intro w1 hown1 hg1; have hbel : Below w.heap.size w w1 := ⟨hg1.os, hg1.tape, hg1.output, hg1.size, fun k hk => hg1.block k hk (by simp)⟩)
    | fail)
  have hB := made hown1
  have hs := hB.lt
  clear hown1 hg1
  refine (unhide HH w1 hbel hB).mono ?_
  rintro e w2 ⟨r, x, rfl, rfl, _, p1, p2, p3⟩
  have HP := hide (show GotPost .nilIface w rr (.slice a n c) i L (.returned (.tuple #[.slice (some ⟨w.heap.size, 0, none⟩) 64 64, .nilIface])) w2 from
    ⟨w.heap.size, rfl, Nat.le_refl _, p1, p2, p3.os.trans hbel.os, p3.tape.trans hbel.tape, p3.output.trans hbel.output, by have := p3.size; omega, fun k hk hkr => (p3.block k (by rintro (h | h) <;> omega)).trans (hbel.block k hk)⟩)
  clear p1 p2 p3 hB HH
  go_wp2
  go_ret2
  exact unhide HP

set_option maxRecDepth 100000 in
theorem proof_lack (rr : Nat) (a : Option Addr) (n c : Nat) (i : Nat) (pr : Int) (b off : Nat) (L : List Int) (aE : Addr) (TU : TypeId) (xU : Value) (w : World) (h : BR w rr (.slice a n c) i pr) (hi : i ≤ n) (hi2 : n < i + 64) (hn : n ≤ 1048576) (hL : L.length = n)
    (hnc : n ≤ c) (ha : 0 < n → a = some ⟨b, off, none⟩) (hc : ∀ j, j < n → w.cell? ⟨b, off + j, none⟩ = some (.int .u8 (L.getD j 0))) (hbr : b ≠ rr)
    (hG : w.cell? ⟨2, 0, none⟩ = some (.iface 57 (.pointer (some aE)))) (hG3 : w.cell? ⟨3, 0, none⟩ = some (.iface TU xU)) (hz : 3 < rr) :
    Calls Tryd.prog 21 #[.iface 42 (.pointer (some ⟨rr, 0, none⟩))] w (LackPost w rr (.slice a n c) n) := by
  obtain ⟨i0, hi0, hz0, hz1, hz2⟩ := info_parts info5
  have hrl := h.lt
  have HH := hide (fun w1 (hb : Below w.heap.size w w1) (hg : Blk w1 w.heap.size (List.replicate 64 0)) =>
    full_wrap (.iface 42 (.pointer (some ⟨rr, 0, none⟩))) w.heap.size w1 (fun r x w' => ∃ T y, x = .iface T y ∧ EndPost w1 rr (.slice a n c) n w.heap.size (.returned (.tuple #[.int .i64 r, .iface T y])) w') (by
      have hG1 : w1.cell? ⟨2, 0, none⟩ = some (.iface 57 (.pointer (some aE))) := (World.cell?_of_block (hb.block 2 (by omega))).trans hG
      have hG31 : w1.cell? ⟨3, 0, none⟩ = some (.iface TU xU) := (World.cell?_of_block (hb.block 3 (by omega))).trans hG3
      have h1 : BR w1 rr (.slice a n c) i pr := (hb.block _ hrl).trans h
      have key : Calls Tryd.prog 24 #[.iface 42 (.pointer (some ⟨rr, 0, none⟩)), .slice (some ⟨w.heap.size, 0, none⟩) 64 64, .int .i64 64] w1 (EndPost w1 rr (.slice a n c) n w.heap.size) := by
        rcases Nat.lt_or_ge i n with hlt | hge
        · exact atLeast_some rr a n c i (n - i) pr w.heap.size b off (List.replicate 64 0) L aE TU xU w1 h1 rfl (by omega) (by omega) hn hL (by simp) hg (by omega) hnc ha (fun j hj => (hb.cell (World.block_lt_of_cell? _ _ (hc j hj))).trans (hc j hj)) hbr hG1 hG31 ⟨hz, by omega⟩
        · obtain rfl : i = n := by omega
          exact atLeast_end rr a i c pr w.heap.size aE w1 h1 hG1
      refine key.mono fun e w' hp => ?_
      obtain ⟨⟨r, T, x, rfl⟩, hp⟩ := hp
      exact ⟨r, _, rfl, T, x, rfl, ⟨r, T, x, rfl⟩, hp⟩))
  clear h hc ha
  go_enter Tryd.func21, Tryd.ntmps21
  go_wp2_with (first
    | (at_make; refine wpList_make_full _ rfl _ _ 22 rfl w.heap.size 5 i0 (.int .u8 0) 1 Tryd.underlying22 hi0 hz0 hz1 _ _ _ _ 64 rfl rfl rfl rfl (by rw [hz2]; omega) (by unfold maxLen; omega) (Nat.le_refl _) ?_; intro w1 hown1 hg1; have hbel : Below w.heap.size w w1 := ⟨hg1.os, hg1.tape, hg1.output, hg1.size, fun k hk => hg1.block k hk (by simp)⟩)
    | fail)
  have hB := made hown1
  have hs := hB.lt
  clear hown1 hg1
  refine (unhide HH w1 hbel hB).mono ?_
  rintro e w2 ⟨r, _, rfl, T, x, rfl, _, p2, p3⟩
  have HP := hide (show LackPost w rr (.slice a n c) n (.returned (.tuple #[.slice none 0 0, .iface T x])) w2 from
    ⟨T, x, rfl, p2, p3.os.trans hbel.os, p3.tape.trans hbel.tape, p3.output.trans hbel.output, by have := p3.size; omega, fun k hk hkr => (p3.block k (by rintro (h | h) <;> omega)).trans (hbel.block k hk)⟩)
  clear p2 p3 hB HH
  go_wp2
  go_ret2
  exact unhide HP

set_option maxRecDepth 100000 in
/-- ZZReadProof with 64 bytes left. -/
theorem zproof_got (sb rr : Nat) (a : Option Addr) (n c : Nat) (i : Nat) (pr : Int) (b off : Nat) (L : List Int) (w : World) (hs : Src w sb rr) (h : BR w rr (.slice a n c) i pr) (hi : i + 64 ≤ n) (hn : n ≤ 1048576) (hL : L.length = n)
    (hnc : n ≤ c) (ha : 0 < n → a = some ⟨b, off, none⟩) (hc : ∀ j, j < n → w.cell? ⟨b, off + j, none⟩ = some (.int .u8 (L.getD j 0))) (hbr : b ≠ rr) :
    Calls Tryd.prog 16 #[.pointer (some ⟨sb, 0, none⟩)] w (GotPost (.bool false) w rr (.slice a n c) i L) := by
  have h0 := hs.c0
  have HH := hide (proof_got rr a n c i pr b off L w h hi hn hL hnc ha hc hbr)
  clear h hc ha
  go_enter Tryd.func16, Tryd.ntmps16
  go_wp2_with fail
  refine (unhide HH).mono ?_
  rintro e w1 ⟨g, rfl, p1, p2, p3, p4⟩
  have HP := hide (show ∀ q, GotPost (.bool false) w rr (.slice a n c) i L (.returned (.tuple #[.slice (some ⟨g, 0, none⟩) 64 64, .bool false])) (w1.drewN q) from
    fun q => ⟨g, rfl, p1, p2, p3, p4.os, p4.tape, p4.output, p4.size, p4.block⟩)
  clear p1 p2 p3 p4 HH
  go_wp2_with fail
  go_quiet (fail)
  go_wp2
  go_ret2
  exact unhide HP _

set_option maxRecDepth 100000 in
/-- ZZReadProof with fewer left. -/
theorem zproof_none (sb rr : Nat) (a : Option Addr) (n c : Nat) (i : Nat) (pr : Int) (b off : Nat) (L : List Int) (aE : Addr) (TU : TypeId) (xU : Value) (w : World) (hs : Src w sb rr) (h : BR w rr (.slice a n c) i pr) (hi : i ≤ n) (hi2 : n < i + 64) (hn : n ≤ 1048576) (hL : L.length = n)
    (hnc : n ≤ c) (ha : 0 < n → a = some ⟨b, off, none⟩) (hc : ∀ j, j < n → w.cell? ⟨b, off + j, none⟩ = some (.int .u8 (L.getD j 0))) (hbr : b ≠ rr)
    (hG : w.cell? ⟨2, 0, none⟩ = some (.iface 57 (.pointer (some aE)))) (hG3 : w.cell? ⟨3, 0, none⟩ = some (.iface TU xU)) (hz : 3 < rr) :
    Calls Tryd.prog 16 #[.pointer (some ⟨sb, 0, none⟩)] w (NonePost w rr (.slice a n c) n) := by
  have h0 := hs.c0
  have HH := hide (proof_lack rr a n c i pr b off L aE TU xU w h hi hi2 hn hL hnc ha hc hbr hG hG3 hz)
  clear h hc ha
  go_enter Tryd.func16, Tryd.ntmps16
  go_wp2_with fail
  refine (unhide HH).mono ?_
  rintro e w1 ⟨T, x, rfl, ⟨pr', p1⟩, p4⟩
  have HP := hide (show ∀ q, NonePost w rr (.slice a n c) n (.returned (.tuple #[.slice none 0 0, .bool true])) (w1.drewN q) from
    fun q => ⟨rfl, ⟨pr', p1⟩, p4.os, p4.tape, p4.output, p4.size, p4.block⟩)
  clear p1 p4 HH
  go_wp2_with fail
  go_quiet (fail)
  go_wp2
  go_ret2
  exact unhide HP _

end Go.Proofs.Qxb6616481aDoor
