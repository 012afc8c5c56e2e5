/-
  FnReadProofReadsConsecutiveBlocksThenFails (4): the law's walk.
-/
import Derived.Test.Qxb6616481aDoorRead
import Derived.Test.Qxb6616481aDoorSplitWalk
namespace Go.Proofs.Qxb6616481aDoor
open Go.RowKit

/-- The two errors that a short read may end with. -/
structure Sent (w : World) (aE : Addr) (TU : TypeId) (xU : Value) : Prop where
  g2 : w.cell? ⟨2, 0, none⟩ = some (.iface 57 (.pointer (some aE)))
  g3 : w.cell? ⟨3, 0, none⟩ = some (.iface TU xU)

/-- The source, the stream and its copy, with i bytes read. -/
structure Run (w0 wr : World) (m : Nat) (L : List Int) (ab awb : Option Addr) (gb gw sb rr : Nat) (aE : Addr) (TU : TypeId) (xU : Value) (i : Nat) : Prop where
  src : Src wr sb rr
  br : ∃ pr, BR wr rr (.slice ab m m) ((i : Nat) : Int) pr
  vb : Vec wr w0.heap.size ab gb L
  vw : Vec wr w0.heap.size awb gw L
  sent : Sent wr aE TU xU
  bel : Below w0.heap.size w0 wr
  hs : w0.heap.size ≤ rr ∧ 3 < rr ∧ rr ≠ sb ∧ L.length = m ∧ (0 < m → gb ≠ rr ∧ gw ≠ rr) ∧ m ≤ 1048576

theorem Run.q {w0 wr : World} {m : Nat} {L : List Int} {ab awb : Option Addr} {gb gw sb rr : Nat} {aE : Addr} {TU : TypeId} {xU : Value} {i : Nat} (h : Run w0 wr m L ab awb gb gw sb rr aE TU xU i) (q : Nat) : Run w0 (wr.drewN q) m L ab awb gb gw sb rr aE TU xU i :=
  ⟨h.src, h.br, ⟨h.vb.addr, h.vb.base, h.vb.blk⟩, ⟨h.vw.addr, h.vw.base, h.vw.blk⟩, ⟨h.sent.g2, h.sent.g3⟩, below_drewN h.bel q, h.hs⟩

theorem Run.step {w0 wr w1 : World} {m : Nat} {L : List Int} {ab awb : Option Addr} {gb gw sb rr : Nat} {aE : Addr} {TU : TypeId} {xU : Value} {i : Nat} (h : Run w0 wr m L ab awb gb gw sb rr aE TU xU i) (hu : Upg wr w1 rr) {j : Nat} (hb : ∃ pr, BR w1 rr (.slice ab m m) ((j : Nat) : Int) pr) : Run w0 w1 m L ab awb gb gw sb rr aE TU xU j := by
  obtain ⟨h1, h2, h3, h4, h5, _⟩ := h.hs
  obtain ⟨pr, hbr⟩ := h.br
  have hrl := hbr.lt
  exact ⟨(hu.block sb h.src.lt (Ne.symm h3)).trans h.src, hb, h.vb.kept (fun h0 => hu.block gb (h.vb.blk h0).lt (h5 (by omega)).1), h.vw.kept (fun h0 => hu.block gw (h.vw.blk h0).lt (h5 (by omega)).2),
    ⟨(World.cell?_of_block (hu.block 2 (by omega) (by omega))).trans h.sent.g2, (World.cell?_of_block (hu.block 3 (by omega) (by omega))).trans h.sent.g3⟩,
    h.bel.trans ⟨hu.os, hu.tape, hu.output, hu.size, fun k hk => hu.block k (by have := h.bel.size; omega) (by omega)⟩, h.hs⟩

theorem Run.got {w0 wr : World} {m : Nat} {L : List Int} {ab awb : Option Addr} {gb gw sb rr : Nat} {aE : Addr} {TU : TypeId} {xU : Value} {i : Nat} (h : Run w0 wr m L ab awb gb gw sb rr aE TU xU i) (hi : i + 64 ≤ m) :
    Calls Tryd.prog 16 #[.pointer (some ⟨sb, 0, none⟩)] wr fun e w1 => ∃ g, e = .returned (.tuple #[.slice (some ⟨g, 0, none⟩) 64 64, .bool false]) ∧ wr.heap.size ≤ g ∧ Blk w1 g ((L.drop i).take 64) ∧ Run w0 w1 m L ab awb gb gw sb rr aE TU xU (i + 64) := by
  obtain ⟨h1, h2, h3, h4, h5, h6⟩ := h.hs
  obtain ⟨pr, hbr⟩ := h.br
  refine (zproof_got sb rr ab m m i pr gb 0 L wr h.src hbr hi h6 h4 (Nat.le_refl _) (fun h0 => h.vb.addr (by omega)) (fun j hj => h.vb.cells j (by omega)) (h5 (by omega)).1).mono fun e w1 hp => ?_
  obtain ⟨g, rfl, p1, p2, p3, p4⟩ := hp
  exact ⟨g, rfl, p1, p3, h.step p4 ⟨-1, p2⟩⟩

theorem Run.lack {w0 wr : World} {m : Nat} {L : List Int} {ab awb : Option Addr} {gb gw sb rr : Nat} {aE : Addr} {TU : TypeId} {xU : Value} {i : Nat} (h : Run w0 wr m L ab awb gb gw sb rr aE TU xU i) (hi : i ≤ m) (hi2 : m < i + 64) :
    Calls Tryd.prog 16 #[.pointer (some ⟨sb, 0, none⟩)] wr fun e w1 => e = .returned (.tuple #[.slice none 0 0, .bool true]) ∧ Run w0 w1 m L ab awb gb gw sb rr aE TU xU m := by
  obtain ⟨h1, h2, h3, h4, h5, h6⟩ := h.hs
  obtain ⟨pr, hbr⟩ := h.br
  rcases Nat.eq_zero_or_pos m with h0 | h0
  · refine (zproof_none sb rr ab m m i pr (rr + 1) 0 L aE TU xU wr h.src hbr hi hi2 h6 h4 (Nat.le_refl _) (fun h => absurd h (by omega)) (fun j hj => absurd hj (by omega)) (by omega) h.sent.g2 h.sent.g3 h2).mono fun e w1 hp => ?_
    obtain ⟨rfl, p2, p4⟩ := hp
    exact ⟨rfl, h.step p4 p2⟩
  · refine (zproof_none sb rr ab m m i pr gb 0 L aE TU xU wr h.src hbr hi hi2 h6 h4 (Nat.le_refl _) (fun h0 => h.vb.addr (by omega)) (fun j hj => h.vb.cells j (by omega)) (h5 (by omega)).1 h.sent.g2 h.sent.g3 h2).mono fun e w1 hp => ?_
    obtain ⟨rfl, p2, p4⟩ := hp
    exact ⟨rfl, h.step p4 p2⟩

theorem Run.left {w0 wr : World} {m : Nat} {L : List Int} {ab awb : Option Addr} {gb gw sb rr : Nat} {aE : Addr} {TU : TypeId} {xU : Value} {i : Nat} (h : Run w0 wr m L ab awb gb gw sb rr aE TU xU i) (hi : i ≤ m) (r : Int) (hr : r = (m : Int) - i) :
    Calls Tryd.prog 17 #[.pointer (some ⟨sb, 0, none⟩)] wr fun e w1 => e = .returned (.int .i64 r) ∧ ∃ q, w1 = wr.drewN q := by
  obtain ⟨h1, h2, h3, h4, h5, h6⟩ := h.hs
  obtain ⟨pr, hbr⟩ := h.br
  have := left_any sb rr ab m m i pr wr h.src hbr hi h6
  rw [show ((m - i : Nat) : Int) = r by omega] at this
  exact this

set_option maxHeartbeats 4000000 in
set_option maxRecDepth 100000 in
theorem blocks_walk (a0 : Option Addr) (c0 : Nat) (L : List Int) (aE : Addr) (TU : TypeId) (xU : Value) (w : World) (r0 : L.length ≤ 140737488351232) (hG : Sent w aE TU xU) (hB : Bytes w (.slice a0 L.length c0) L) :
    Calls Tryd.prog 4 #[.slice a0 L.length c0] w fun e w' => e = .returned (.bool true) ∧ Below w.heap.size w w' := by
  have HW := hide (within14 a0 L.length c0 w r0)
  have hz : 3 < w.heap.size := World.block_lt_of_cell? _ _ hG.g3
  obtain ⟨m, hm⟩ : ∃ m, L.length = m := ⟨_, rfl⟩
  rw [hm] at r0 hB HW ⊢
  have Hm := hide hm
  have HG := hide hG
  clear hm hG
  go_enter Tryd.func4, Tryd.ntmps4
  go_wp2_with fail
  refine (unhide HW).mono ?_
  rintro e w' ⟨⟨ok, rfl⟩, hw⟩
  subst hw
  clear HW
  cases ok
  · go_wp2_with fail
    go_ret
    exact ⟨rfl, Below.refl _ _⟩
  by_cases t1 : (1048576 : Int) < m
  · go_wp2_with fail
    go_ret
    exact ⟨rfl, Below.refl _ _⟩
  go_wp2_with fail
  refine (clone_any _ L _ (by have := unhide Hm; omega) hB).mono ?_
  rintro e w1 ⟨ab, gb, rfl, hvb, hb1⟩
  have hs1 := hb1.size
  rw [unhide Hm]
  have hB1 := hvb.bytes m
  rw [unhide Hm] at hB1
  go_wp2_with fail
  refine (clone_any _ L _ (by have := unhide Hm; omega) hB1).mono ?_
  rintro e w2 ⟨aw, gw, rfl, hvw, hb2⟩
  have hs2 := hb2.size
  rw [unhide Hm]
  go_wp2_with fail
  refine (newSource ab m m w2).mono ?_
  rintro e w3 ⟨sb, rr, rfl, hsrc, hbr, z1, z2, z3, hb3⟩
  have hB3 : Below w'.heap.size w' w3 := (hb1.trans (hb2.mono hs1)).trans (hb3.mono (Nat.le_trans hs1 hs2))
  have hR : Run w' w3 m L ab aw gb gw sb rr aE TU xU 0 := by
    refine ⟨hsrc, ⟨-1, hbr⟩, ?_, ?_, ?_, hB3, by omega, by omega, z3, unhide Hm, fun h0 => ?_, by omega⟩
    · exact hvb.kept (fun h0 => (hb3.block gb (by have := (hvb.blk h0).lt; omega)).trans (hb2.block gb (hvb.blk h0).lt))
    · exact (⟨hvw.addr, fun h0 => by have := hvw.base h0; omega, fun h0 => (hb3.block gw (hvw.blk h0).lt).trans (hvw.blk h0)⟩)
    · exact ⟨(World.cell?_of_block (hB3.block 2 (by omega))).trans (unhide HG).g2, (World.cell?_of_block (hB3.block 3 (by omega))).trans (unhide HG).g3⟩
    · have h1 := (hvb.blk (by rw [unhide Hm]; exact h0)).lt
      have h2 := (hvw.blk (by rw [unhide Hm]; exact h0)).lt
      exact ⟨by omega, by omega⟩
  clear hvb hvw hb1 hb2 hb3 hsrc hbr z1 z2 z3 hB1 HG hB hs1 hs2 hB3
  go_wp2_with fail
  obtain ⟨n, hn⟩ : ∃ n : Nat, (m : Int) / 64 = n := ⟨m / 64, by omega⟩
  rw [hn]
  have h64 : 64 * n ≤ m ∧ m < 64 * n + 64 := by omega
  have H64 := hide h64
  have hnB : (n : Int) ≤ 16384 := by omega
  have hbel := hide hR.bel
  clear hn h64 hz
  go_loopw [6] (fun i wr => ∃ k : Nat, k ≤ n + 1 ∧ i = .int .i64 k ∧ Hid (k ≤ n → Run w' wr m L ab aw gb gw sb rr aE TU xU (64 * k)) ∧ Hid (Below w'.heap.size w' wr)) (fun i _ => n + 1 - (intOf i).toNat)
  case atStart => exact ⟨0, Nat.zero_le _, rfl, fun _ => hR, hbel⟩
  case round =>
    obtain ⟨k, hk, rfl, HR, HB⟩ := hrel
    clear hR hbel
    by_cases hkn : (k : Int) ≤ n
    · have HR' := hide (unhide HR (by omega))
      clear HR
      by_cases hlt : (k : Int) < n
      · have hfit : 64 * k + 64 ≤ m := by have := unhide H64; omega
        go_wp2_with fail
        refine ((unhide HR').got hfit).mono ?_
        rintro e w4 ⟨g, rfl, p1, p2, p3⟩
        go_wp2_with fail
        refine (p3.left hfit ((m : Int) - 64 * ((k : Int) + 1)) (by omega)).mono ?_
        rintro e w5 ⟨rfl, q, hw⟩
        have p2' : Blk w5 g ((L.drop (64 * k)).take 64) := by rw [hw]; exact p2
        have p3' : Run w' w5 m L ab aw gb gw sb rr aE TU xU (64 * k + 64) := by rw [hw]; exact p3.q q
        have y1 := p2'.bytes 0 64 64 (by have := unhide Hm; simp; omega) (some ⟨g, 0, none⟩) (fun _ => rfl)
        have y2 := (p3'.vw.blk (by have := unhide Hm; omega)).bytes (64 * k) 64 (m - 64 * k) (by have := unhide Hm; omega) (hiAddr aw m (64 * k)) (fun _ => by rw [hiAddr_pos (p3'.vw.addr (by have := unhide Hm; omega)) (by omega), Nat.zero_add])
        have e1 : (((L.drop (64 * k)).take 64).drop 0).take 64 = (L.drop (64 * k)).take 64 := by rw [List.drop_zero, List.take_take]; rfl
        rw [e1] at y1
        have hsl := fun w => slice_mid aw m m (64 * k) (64 * k + 64) (by omega) hfit w
        have e2 : 64 * k + 64 - 64 * k = 64 := by omega
        have e3 : ((64 * k + 64 : Nat) : Int) = 64 * (k : Int) + 64 := by omega
        have e4 : ((64 * k : Nat) : Int) = 64 * (k : Int) := by omega
        rw [e2, e3, e4] at hsl
        have HY := hide (eq_same _ _ _ w5 (by simp; omega) y1 y2)
        have HR2 := hide p3'
        clear p1 p2 p3 hw p2' p3' y1 y2 e1 e2 e3 e4 HR'
        go_wp2_with fail
        refine (unhide HY).mono ?_
        rintro e w6 ⟨rfl, q2, hw⟩
        have HB2 := hide (show Below w'.heap.size w' w6 by rw [hw]; exact below_drewN (unhide HR2).bel q2)
        have HR3 := hide (show k + 1 ≤ n → Run w' w6 m L ab aw gb gw sb rr aE TU xU (64 * (k + 1)) from fun _ => by rw [hw]; exact (unhide HR2).q q2)
        clear hw HY HR2
        go_wp2
        go_roundw
        case rel => exact ⟨k + 1, by omega, by go_num, HR3, HB2⟩
        case measure => simp [intOf]; omega
      · have hfit : 64 * k ≤ m ∧ m < 64 * k + 64 := by have := unhide H64; omega
        go_wp2_with fail
        refine ((unhide HR').lack hfit.1 hfit.2).mono ?_
        rintro e w4 ⟨rfl, p3⟩
        go_wp2_with fail
        refine (p3.left (Nat.le_refl _) 0 (by omega)).mono ?_
        rintro e w5 ⟨rfl, q, hw⟩
        have HB2 := hide (show Below w'.heap.size w' w5 by rw [hw]; exact below_drewN p3.bel q)
        have hnil := fun w => neq22 none 0 0 w
        clear hw p3 HR'
        go_wp2
        go_roundw
        case rel => exact ⟨k + 1, by omega, by go_num, fun h => absurd h (by omega), HB2⟩
        case measure => simp [intOf]; omega
    · go_wp2
      go_ret
      exact ⟨rfl, unhide HB⟩

end Go.Proofs.Qxb6616481aDoor
