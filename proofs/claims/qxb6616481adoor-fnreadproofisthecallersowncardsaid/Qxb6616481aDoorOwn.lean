/-
  FnReadProofIsTheCallersOwn (5): the law's walk.
-/
import Derived.Test.Qxb6616481aDoorBlocks
namespace Go.Proofs.Qxb6616481aDoor
open Go.RowKit

theorem Run.got2 {w0 wr : World} {m : Nat} {L : List Int} {ab awb : Option Addr} {gb gw sb rr : Nat} {aE : Addr} {TU : TypeId} {xU : Value} {i : Nat} (h : Run w0 wr m L ab awb gb gw sb rr aE TU xU i) (hi : i + 64 ≤ m) :
    Calls Tryd.prog 16 #[.pointer (some ⟨sb, 0, none⟩)] wr fun e w1 => ∃ g, e = .returned (.tuple #[.slice (some ⟨g, 0, none⟩) 64 64, .bool false]) ∧ wr.heap.size ≤ g ∧ Blk w1 g ((L.drop i).take 64) ∧ Run w0 w1 m L ab awb gb gw sb rr aE TU xU (i + 64) ∧ Upg wr w1 rr := by
  obtain ⟨h1, h2, h3, h4, h5, h6⟩ := h.hs
  obtain ⟨pr, hbr⟩ := h.br
  refine (zproof_got sb rr ab m m i pr gb 0 L wr h.src hbr hi h6 h4 (Nat.le_refl _) (fun h0 => h.vb.addr (by omega)) (fun j hj => h.vb.cells j (by omega)) (h5 (by omega)).1).mono fun e w1 hp => ?_
  obtain ⟨g, rfl, p1, p2, p3, p4⟩ := hp
  exact ⟨g, rfl, p1, p3, h.step p4 ⟨-1, p2⟩, p4⟩

theorem Run.lack2 {w0 wr : World} {m : Nat} {L : List Int} {ab awb : Option Addr} {gb gw sb rr : Nat} {aE : Addr} {TU : TypeId} {xU : Value} {i : Nat} (h : Run w0 wr m L ab awb gb gw sb rr aE TU xU i) (hi : i ≤ m) (hi2 : m < i + 64) (h0 : 0 < m) :
    Calls Tryd.prog 16 #[.pointer (some ⟨sb, 0, none⟩)] wr fun e w1 => e = .returned (.tuple #[.slice none 0 0, .bool true]) ∧ Run w0 w1 m L ab awb gb gw sb rr aE TU xU m ∧ Upg wr w1 rr := by
  obtain ⟨h1, h2, h3, h4, h5, h6⟩ := h.hs
  obtain ⟨pr, hbr⟩ := h.br
  refine (zproof_none sb rr ab m m i pr gb 0 L aE TU xU wr h.src hbr hi hi2 h6 h4 (Nat.le_refl _) (fun h0 => h.vb.addr (by omega)) (fun j hj => h.vb.cells j (by omega)) (h5 (by omega)).1 h.sent.g2 h.sent.g3 h2).mono fun e w1 hp => ?_
  obtain ⟨rfl, p2, p4⟩ := hp
  exact ⟨rfl, h.step p4 p2, p4⟩

/-- The block g is none of the blocks that the run stands on. -/
structure Apart (w0 : World) (m gb gw sb rr g : Nat) : Prop where
  low : w0.heap.size ≤ g ∧ 3 < g
  s : sb ≠ g
  r : rr ≠ g
  b : 0 < m → gb ≠ g ∧ gw ≠ g

theorem Run.apart {w0 wr : World} {m : Nat} {L : List Int} {ab awb : Option Addr} {gb gw sb rr : Nat} {aE : Addr} {TU : TypeId} {xU : Value} {i g : Nat} (h : Run w0 wr m L ab awb gb gw sb rr aE TU xU i) (hg : wr.heap.size ≤ g) : Apart w0 m gb gw sb rr g := by
  obtain ⟨h1, h2, h3, h4, h5, h6⟩ := h.hs
  obtain ⟨pr, hbr⟩ := h.br
  have k1 := hbr.lt
  have k2 := h.src.lt
  have k3 := h.bel.size
  exact ⟨⟨by omega, by omega⟩, by omega, by omega, fun h0 => ⟨by have := (h.vb.blk (by omega)).lt; omega, by have := (h.vw.blk (by omega)).lt; omega⟩⟩

theorem Run.set {w0 wr : World} {m : Nat} {L : List Int} {ab awb : Option Addr} {gb gw sb rr : Nat} {aE : Addr} {TU : TypeId} {xU : Value} {i g : Nat} (h : Run w0 wr m L ab awb gb gw sb rr aE TU xU i) (ha : Apart w0 m gb gw sb rr g) (k : Nat) (u : Value) : Run w0 (wr.setCell ⟨g, k, none⟩ u) m L ab awb gb gw sb rr aE TU xU i := by
  obtain ⟨h1, h2, h3, h4, h5, h6⟩ := h.hs
  obtain ⟨pr, hbr⟩ := h.br
  have hl := ha.low
  have key : ∀ j, j ≠ g → (wr.setCell ⟨g, k, none⟩ u).heap[j]? = wr.heap[j]? := fun j hj => Below.heap_setCell wr ⟨g, k, none⟩ u j hj
  exact ⟨(key sb ha.s).trans h.src, ⟨pr, (key rr ha.r).trans hbr⟩, h.vb.kept (fun h0 => key gb (ha.b (by omega)).1), h.vw.kept (fun h0 => key gw (ha.b (by omega)).2),
    ⟨(World.cell?_of_block (key 2 (by omega))).trans h.sent.g2, (World.cell?_of_block (key 3 (by omega))).trans h.sent.g3⟩, h.bel.setCell (p := ⟨g, k, none⟩) hl.1 u, h.hs⟩

/-- '^y' on a byte. -/
def cpl (y : Int) : Int := IntKind.u8.wrap (BitVec.ofInt 8 (if IntKind.u8.signed = true then -1 else IntKind.u8.max) ^^^ BitVec.ofInt 8 y).toNat

theorem cpl_run (y : Int) (w : World) : (Op.unary .xor (.int .u8 y)).run Tryd.prog w = .ok (.int .u8 (cpl y)) w := rfl

/-- The first k bytes turned over. -/
def flips (k : Nat) (X : List Int) : List Int := (X.take k).map cpl ++ X.drop k

theorem flips_len (k : Nat) (X : List Int) : (flips k X).length = X.length := by simp [flips]; omega
theorem flips_at (k : Nat) (X : List Int) : (flips k X).getD k 0 = X.getD k 0 := by
  unfold flips
  by_cases h : k < X.length
  · have e : ((X.take k).map cpl).length = k := by simp; omega
    simp only [List.getD]
    rw [List.getElem?_append_right (by omega), e]
    simp
  · simp only [List.getD]
    rw [List.getElem?_eq_none (by simp; omega), List.getElem?_eq_none (by omega)]
theorem flips_zero (X : List Int) : flips 0 X = X := by simp [flips]
theorem flips_set (k : Nat) (X : List Int) (h : k < X.length) : (flips k X).set k (cpl (X.getD k 0)) = flips (k + 1) X := by
  unfold flips
  have e : ((X.take k).map cpl).length = k := by simp; omega
  have e3 : X.getD k 0 = X[k] := by simp [List.getD, List.getElem?_eq_getElem h]
  rw [e3, List.set_append_right _ _ (by omega), e, Nat.sub_self, List.drop_eq_getElem_cons h, List.set_cons_zero, List.take_succ_eq_append_getElem h, List.map_append, List.append_assoc]
  rfl
theorem flips_all (X : List Int) (k j : Nat) (hk : X.length ≤ k) (hj : j < X.length) : (flips k X).getD j 0 = cpl (X.getD j 0) := by
  unfold flips
  rw [List.take_of_length_le hk, List.drop_eq_nil_of_le hk, List.append_nil]
  simp [List.getD, hj]

theorem Blk.set {w : World} {g : Nat} {Y : List Int} (h : Blk w g Y) (k : Nat) (u : Int) : Blk (w.setCell ⟨g, k, none⟩ (.int .u8 u)) g (Y.set k u) := by
  have := heap_setCell_same w g k _ 5 (.int .u8 u) h
  unfold Blk
  rw [this]
  simp [u8s, List.map_set]

/-- The run, and the proof of the caller's own with k of its bytes turned over. -/
def Mine (w0 wr : World) (m : Nat) (L : List Int) (ab awb : Option Addr) (gb gw sb rr : Nat) (aE : Addr) (TU : TypeId) (xU : Value) (g k : Nat) : Prop :=
  Run w0 wr m L ab awb gb gw sb rr aE TU xU 64 ∧ Apart w0 m gb gw sb rr g ∧ Blk wr g (flips k (L.take 64))

theorem Mine.next {w0 wr : World} {m : Nat} {L : List Int} {ab awb : Option Addr} {gb gw sb rr : Nat} {aE : Addr} {TU : TypeId} {xU : Value} {g k : Nat} (h : Mine w0 wr m L ab awb gb gw sb rr aE TU xU g k) (hk : k < 64) (hm : 64 ≤ L.length) :
    Mine w0 (wr.setCell ⟨g, k, none⟩ (.int .u8 (cpl (L.getD k 0)))) m L ab awb gb gw sb rr aE TU xU g (k + 1) := by
  refine ⟨h.1.set h.2.1 _ _, h.2.1, ?_⟩
  have e : L.getD k 0 = (L.take 64).getD k 0 := by simp [List.getD, hk]
  rw [e, ← flips_set k (L.take 64) (by simp; omega)]
  exact h.2.2.set k _

theorem Mine.cell {w0 wr : World} {m : Nat} {L : List Int} {ab awb : Option Addr} {gb gw sb rr : Nat} {aE : Addr} {TU : TypeId} {xU : Value} {g k : Nat} (h : Mine w0 wr m L ab awb gb gw sb rr aE TU xU g k) (hk : k < 64) (hm : 64 ≤ L.length) :
    wr.cell? ⟨g, k, none⟩ = some (.int .u8 (L.getD k 0)) := by
  rw [h.2.2.cell (j := k) (by rw [flips_len]; simp; omega), flips_at]
  simp [List.getD, hk]

/-- What the last loop reads. -/
def Tail (w0 wr : World) (L : List Int) (g gw : Nat) : Prop :=
  Below w0.heap.size w0 wr ∧ (∀ j, j < 64 → wr.cell? ⟨g, j, none⟩ = some (.int .u8 (cpl (L.getD j 0)))) ∧ (∀ j, j < 64 → wr.cell? ⟨gw, j, none⟩ = some (.int .u8 (L.getD j 0)))

theorem Tail.q {w0 wr : World} {L : List Int} {g gw : Nat} (h : Tail w0 wr L g gw) (q : Nat) : Tail w0 (wr.drewN q) L g gw := ⟨below_drewN h.1 q, h.2.1, h.2.2⟩

theorem tail_cells {w0 wr : World} {m : Nat} {L : List Int} {ab awb : Option Addr} {gb gw sb rr : Nat} {aE : Addr} {TU : TypeId} {xU : Value} {g i : Nat} (h : Run w0 wr m L ab awb gb gw sb rr aE TU xU i) (hg : Blk wr g (flips 64 (L.take 64))) (hm : 64 ≤ L.length) : Tail w0 wr L g gw := by
  refine ⟨h.bel, fun j hj => ?_, fun j hj => (h.vw.blk (by omega)).cell (by omega)⟩
  rw [hg.cell (by rw [flips_len]; simp; omega), flips_all _ _ _ (by simp; omega) (by simp; omega)]
  simp [List.getD, hj]

set_option maxHeartbeats 4000000 in
set_option maxRecDepth 100000 in
theorem own_walk (a0 : Option Addr) (c0 : Nat) (L : List Int) (aE : Addr) (TU : TypeId) (xU : Value) (w : World) (r0 : L.length ≤ 140737488351232) (hG : Sent w aE TU xU) (hB : Bytes w (.slice a0 L.length c0) L) :
    Calls Tryd.prog 5 #[.slice a0 L.length c0] w fun e w' => e = .returned (.bool true) ∧ Below w.heap.size w w' := by
  have HW := hide (within18 a0 L.length c0 w r0)
  have hz : 3 < w.heap.size := World.block_lt_of_cell? _ _ hG.g3
  obtain ⟨m, hm⟩ : ∃ m, L.length = m := ⟨_, rfl⟩
  rw [hm] at r0 hB HW ⊢
  have Hm := hide hm
  have HG := hide hG
  clear hm hG
  go_enter Tryd.func5, Tryd.ntmps5
  go_wp2_with fail
  refine (unhide HW).mono ?_
  rintro e w' ⟨⟨ok, rfl⟩, hw⟩
  subst hw
  clear HW
  cases ok
  · go_wp2_with fail
    go_ret
    exact ⟨rfl, Below.refl _ _⟩
  by_cases t1 : (1048576 : Int) < m
  · go_wp2_with fail
    go_ret
    exact ⟨rfl, Below.refl _ _⟩
  go_wp2_with fail
  refine (clone_any _ L _ (by have := unhide Hm; omega) hB).mono ?_
  rintro e w1 ⟨ab, gb, rfl, hvb, hb1⟩
  have hs1 := hb1.size
  rw [unhide Hm]
  have hB1 := hvb.bytes m
  rw [unhide Hm] at hB1
  go_wp2_with fail
  refine (clone_any _ L _ (by have := unhide Hm; omega) hB1).mono ?_
  rintro e w2 ⟨aw, gw, rfl, hvw, hb2⟩
  have hs2 := hb2.size
  rw [unhide Hm]
  go_wp2_with fail
  refine (newSource ab m m w2).mono ?_
  rintro e w3 ⟨sb, rr, rfl, hsrc, hbr, z1, z2, z3, hb3⟩
  have hB3 : Below w'.heap.size w' w3 := (hb1.trans (hb2.mono hs1)).trans (hb3.mono (Nat.le_trans hs1 hs2))
  have hR : Run w' w3 m L ab aw gb gw sb rr aE TU xU 0 := by
    refine ⟨hsrc, ⟨-1, hbr⟩, ?_, ?_, ?_, hB3, by omega, by omega, z3, unhide Hm, fun h0 => ?_, by omega⟩
    · exact hvb.kept (fun h0 => (hb3.block gb (by have := (hvb.blk h0).lt; omega)).trans (hb2.block gb (hvb.blk h0).lt))
    · exact (⟨hvw.addr, fun h0 => by have := hvw.base h0; omega, fun h0 => (hb3.block gw (hvw.blk h0).lt).trans (hvw.blk h0)⟩)
    · exact ⟨(World.cell?_of_block (hB3.block 2 (by omega))).trans (unhide HG).g2, (World.cell?_of_block (hB3.block 3 (by omega))).trans (unhide HG).g3⟩
    · have h1 := (hvb.blk (by rw [unhide Hm]; exact h0)).lt
      have h2 := (hvw.blk (by rw [unhide Hm]; exact h0)).lt
      exact ⟨by omega, by omega⟩
  have HR := hide hR
  clear hvb hvw hb1 hb2 hb3 hsrc hbr z1 z2 z3 hB1 HG hB hs1 hs2 hB3 hz hR
  by_cases hlt : (m : Int) < 64
  · go_wp2_with fail
    refine ((unhide HR).lack (Nat.zero_le _) (by omega)).mono ?_
    rintro e w4 ⟨rfl, p3⟩
    have hnil := fun w => eql22 none 0 0 w
    have HR2 := hide p3
    clear p3 HR
    go_wp2_with fail
    refine ((unhide HR2).left (Nat.le_refl _) 0 (by omega)).mono ?_
    rintro e w5 ⟨rfl, q, hw⟩
    have HB2 := hide (show Below w'.heap.size w' w5 by rw [hw]; exact below_drewN (unhide HR2).bel q)
    clear hw HR2
    go_wp2
    go_ret
    exact ⟨rfl, unhide HB2⟩
  · have h64 : 64 ≤ m := by omega
    have hL64 : 64 ≤ L.length := by rw [unhide Hm]; exact h64
    go_wp2_with fail
    refine ((unhide HR).got2 (by omega)).mono ?_
    rintro e w4 ⟨g, rfl, p1, p2, p3, p4⟩
    rw [List.drop_zero] at p2
    have hap := (unhide HR).apart p1
    have y1 := p2.bytes 0 64 64 (by simp; omega) (some ⟨g, 0, none⟩) (fun _ => rfl)
    have e1 : ((L.take 64).drop 0).take 64 = L.take 64 := by rw [List.drop_zero, List.take_take]; rfl
    rw [e1] at y1
    have y2 := p3.vw.lo 64 m hL64
    have hsl : ∀ w, (Instr.slice 22 (.slice aw m m) none (some (.int .i64 64)) none).run Tryd.prog w = .ok (.slice aw 64 m) w := fun w => slice_lo aw m m 64 h64 w
    have HY := hide (eq_same _ _ _ w4 (by simp; omega) y1 y2)
    have HM := hide (show Mine w' w4 m L ab aw gb gw sb rr aE TU xU g 0 from ⟨p3, hap, by rw [flips_zero]; exact p2⟩)
    clear p1 p2 p3 p4 hap y1 y2 e1 HR
    go_wp2_with fail
    refine (unhide HY).mono ?_
    rintro e w5 ⟨rfl, q2, hw⟩
    have HM5 := hide (show Mine w' w5 m L ab aw gb gw sb rr aE TU xU g 0 by rw [hw]; exact ⟨(unhide HM).1.q q2, (unhide HM).2.1, (unhide HM).2.2⟩)
    clear hw HY HM hsl
    go_wp2_with fail
    go_loopw [7] (fun i wr => ∃ k : Nat, k ≤ 64 ∧ i = .int .i64 k ∧ Hid (Mine w' wr m L ab aw gb gw sb rr aE TU xU g k)) (fun i _ => 64 - (intOf i).toNat)
    case atStart => exact ⟨0, Nat.zero_le _, rfl, HM5⟩
    case round =>
      obtain ⟨k, hk, rfl, HK⟩ := hrel
      clear HM5
      by_cases hkl : (k : Int) < 64
      · have hcx := (unhide HK).cell (by omega) hL64
        have hix := fun w => index_run (a := some ⟨g, 0, none⟩) (n := 64) (b := g) (off := 0) 64 (fun _ => rfl) (k := k) (by omega) w
        simp only [Nat.zero_add] at hix
        have hfz := frozen_of_row wr g k _ 5 (unhide HK).2.2
        have HN := hide ((unhide HK).next (by omega) hL64)
        have hcpl := cpl_run
        clear HK
        generalize L.getD k 0 = x at *
        go_wp2
        go_roundw
        case rel => exact ⟨k + 1, by omega, by go_num, HN⟩
        case measure => simp [intOf]; omega
      · obtain rfl : k = 64 := by omega
        obtain ⟨wo, hwo⟩ : ∃ wo : World, wo = wr := ⟨_, rfl⟩
        rw [← hwo] at HK ⊢
        clear hwo wr
        have HM6 := hide (unhide HK)
        clear HK
        have y1 := (unhide HM6).1.vb.bytes m
        have y2 := (unhide HM6).1.vw.bytes m
        rw [unhide Hm] at y1 y2
        have HY := hide (eq_same _ _ L wo (by rw [unhide Hm]; omega) y1 y2)
        clear y1 y2
        go_wp2_with fail
        refine (unhide HY).mono ?_
        rintro e w6 ⟨rfl, q, hw⟩
        have HM7 := hide (show Mine w' w6 m L ab aw gb gw sb rr aE TU xU g 64 by rw [hw]; exact ⟨(unhide HM6).1.q q, (unhide HM6).2.1, (unhide HM6).2.2⟩)
        clear hw HY HM6
        by_cases hge : (128 : Int) ≤ m
        · go_wp2_with fail
          refine ((unhide HM7).1.got2 (by omega)).mono ?_
          rintro e w7 ⟨g2, rfl, p1, p2, p3, p4⟩
          have pg : Blk w7 g (flips 64 (L.take 64)) := (p4.block g (unhide HM7).2.2.lt (Ne.symm (unhide HM7).2.1.r)).trans (unhide HM7).2.2
          have y1 := p2.bytes 0 64 64 (by have := unhide Hm; simp; omega) (some ⟨g2, 0, none⟩) (fun _ => rfl)
          have e1 : (((L.drop 64).take 64).drop 0).take 64 = (L.drop 64).take 64 := by rw [List.drop_zero, List.take_take]; rfl
          rw [e1] at y1
          have hwa := p3.vw.addr (by omega)
          have y2 := (p3.vw.blk (by omega)).bytes 64 64 (m - 64) (by have := unhide Hm; omega) (hiAddr aw m 64) (fun _ => by rw [hiAddr_pos hwa (by omega), Nat.zero_add])
          have hsl : ∀ w, (Instr.slice 22 (.slice aw m m) (some (.int .i64 64)) (some (.int .i64 128)) none).run Tryd.prog w = .ok (.slice (hiAddr aw m 64) 64 (m - 64)) w := fun w => slice_mid aw m m 64 128 (by omega) (by omega) w
          have HY := hide (eq_same _ _ _ w7 (by simp; omega) y1 y2)
          have Hc := hide (tail_cells p3 pg hL64)
          have Hwa := hide hwa
          clear p1 p2 p3 p4 pg y1 y2 e1 hwa HM7
          go_wp2_with fail
          refine (unhide HY).mono ?_
          rintro e w8 ⟨rfl, q3, hw⟩
          have HT := hide (show Tail w' w8 L g gw by rw [hw]; exact (unhide Hc).q q3)
          clear hw HY hsl Hc
          go_wp2_with fail
          go_loopw [10] (fun i wr => ∃ k : Nat, k ≤ 64 ∧ i = .int .i64 k ∧ Hid (Tail w' wr L g gw)) (fun i _ => 64 - (intOf i).toNat)
          case atStart => exact ⟨0, Nat.zero_le _, rfl, HT⟩
          case round =>
            obtain ⟨k, hk2, rfl, HK⟩ := hrel
            clear HT
            by_cases hkl2 : (k : Int) < 64
            · have hc1 := (unhide HK).2.1 k (by omega)
              have hc2 := (unhide HK).2.2 k (by omega)
              have hix := fun w => index_run (a := some ⟨g, 0, none⟩) (n := 64) (b := g) (off := 0) 64 (fun _ => rfl) (k := k) (by omega) w
              have hix2 := fun w => index_run (a := aw) (n := m) (b := gw) (off := 0) m (fun _ => unhide Hwa) (k := k) (by omega) w
              simp only [Nat.zero_add] at hix hix2
              have hcpl := cpl_run
              have HQ := hide (show ∀ q, Tail w' (wr.drewN q) L g gw from (unhide HK).q)
              clear HK
              generalize L.getD k 0 = x at *
              have hbits : bits .xor .u8 (if IntKind.u8.signed = true then -1 else IntKind.u8.max) x = cpl x := rfl
              go_wp2_with fail
              go_quiet (fail)
              go_wp2
              go_roundw
              case rel => exact ⟨k + 1, by omega, by go_num, unhide HQ _⟩
              case measure => simp [intOf]; omega
            · go_wp2
              go_ret
              exact ⟨rfl, (unhide HK).1⟩
        · go_wp2_with fail
          refine ((unhide HM7).1.lack2 h64 (by omega) (by omega)).mono ?_
          rintro e w8 ⟨rfl, p3, p4⟩
          have pg : Blk w8 g (flips 64 (L.take 64)) := (p4.block g (unhide HM7).2.2.lt (Ne.symm (unhide HM7).2.1.r)).trans (unhide HM7).2.2
          have HT := hide (tail_cells p3 pg hL64)
          have Hwa := hide (p3.vw.addr (by omega))
          have hnil := fun w => neq22 none 0 0 w
          clear p3 p4 pg HM7
          go_wp2_with fail
          go_loopw [10] (fun i wr => ∃ k : Nat, k ≤ 64 ∧ i = .int .i64 k ∧ Hid (Tail w' wr L g gw)) (fun i _ => 64 - (intOf i).toNat)
          case atStart => exact ⟨0, Nat.zero_le _, rfl, HT⟩
          case round =>
            obtain ⟨k, hk2, rfl, HK⟩ := hrel
            clear HT
            by_cases hkl2 : (k : Int) < 64
            · have hc1 := (unhide HK).2.1 k (by omega)
              have hc2 := (unhide HK).2.2 k (by omega)
              have hix := fun w => index_run (a := some ⟨g, 0, none⟩) (n := 64) (b := g) (off := 0) 64 (fun _ => rfl) (k := k) (by omega) w
              have hix2 := fun w => index_run (a := aw) (n := m) (b := gw) (off := 0) m (fun _ => unhide Hwa) (k := k) (by omega) w
              simp only [Nat.zero_add] at hix hix2
              have hcpl := cpl_run
              have HQ := hide (show ∀ q, Tail w' (wr.drewN q) L g gw from (unhide HK).q)
              clear HK
              generalize L.getD k 0 = x at *
              have hbits : bits .xor .u8 (if IntKind.u8.signed = true then -1 else IntKind.u8.max) x = cpl x := rfl
              go_wp2_with fail
              go_quiet (fail)
              go_wp2
              go_roundw
              case rel => exact ⟨k + 1, by omega, by go_num, unhide HQ _⟩
              case measure => simp [intOf]; omega
            · go_wp2
              go_ret
              exact ⟨rfl, (unhide HK).1⟩

end Go.Proofs.Qxb6616481aDoor
