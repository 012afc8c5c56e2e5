/-
  FnReaderBytesSplitReadAgreesWithWholeRead (3): the law's walk.
-/
import Derived.Test.Qxb6616481aDoorSplit
namespace Go.Proofs.Qxb6616481aDoor
open Go.RowKit

theorem Bytes.q {w : World} {v : Value} {bs : List Int} (h : Bytes w v bs) (q : Nat) : Bytes (w.drewN q) v bs := h

theorem splice_all {B D : List Int} {n : Nat} (hD : D.length = n) (hn : n ≤ B.length) : splice D 0 (B.take n) = B.take n := by
  have e : (B.take n).length = n := by simp; omega
  simp [splice, hD, Nat.min_eq_left hn]

theorem splice_lo {B D : List Int} {k : Nat} (hB : k ≤ B.length) : splice D 0 (B.take k) = B.take k ++ D.drop k := by
  simp [splice, Nat.min_eq_left hB]

theorem splice_two {B D : List Int} {k n : Nat} (hD : D.length = n) (hk : k ≤ n) (hn : n ≤ B.length) : splice (B.take k ++ D.drop k) k ((B.drop k).take (n - k)) = B.take n := by
  have e1 : (B.take k).length = k := by simp; omega
  have e2 : ((B.drop k).take (n - k)).length = n - k := by simp; omega
  unfold splice
  rw [e2, List.take_append_of_le_length (by omega), List.take_of_length_le (by omega)]
  have e3 : (B.take k ++ D.drop k).drop (k + (n - k)) = [] := List.drop_eq_nil_of_le (by simp; omega)
  rw [e3, List.append_nil]
  have : n = k + (n - k) := by omega
  rw [this, List.take_add]
  simp

theorem Vec.upd {w w' : World} {S : Nat → Prop} {s : Nat} {a : Option Addr} {g : Nat} {L : List Int} (h : Vec w s a g L) (hu : Upd w w' S) (hS : 0 < L.length → ¬ S g) : Vec w' s a g L := h.kept (fun h0 => hu.block g (hS h0))

theorem Rd.upd {w w' : World} {S : Nat → Prop} {br : Nat} {bv ev : Value} (h : Rd w br bv ev) (hu : Upd w w' S) (hS : ¬ S br) : Rd w' br bv ev := (hu.block br hS).trans h

theorem Vec.cells {w : World} {s : Nat} {a : Option Addr} {g : Nat} {L : List Int} (h : Vec w s a g L) : ∀ j, j < L.length → w.cell? ⟨g, 0 + j, none⟩ = some (.int .u8 (L.getD j 0)) := fun j hj => by
  rw [Nat.zero_add]; exact (h.blk (by omega)).cell hj

/-- What is left of a vector behind k bytes, and behind n. -/
theorem Vec.rest {w : World} {s : Nat} {a : Option Addr} {g : Nat} {L : List Int} (h : Vec w s a g L) {m k n : Nat} (hm : L.length = m) (hk : k ≤ n) (hn : n ≤ m) :
    Bytes w (.slice (hiAddr (hiAddr a m k) (m - k) (n - k)) (m - k - (n - k)) (m - k - (n - k))) (L.drop n) := by
  subst hm
  have hc : ∀ j, j < (L.drop k).length → w.cell? ⟨g, k + j, none⟩ = some (.int .u8 ((L.drop k).getD j 0)) := fun j hj => by
    have hl : (L.drop k).length = L.length - k := by simp
    have := (h.blk (by omega)).cell (j := k + j) (by omega)
    rw [this]; simp [List.getD]
  have hl : (L.drop k).length = L.length - k := by simp
  have := Bytes.hi (a := hiAddr a L.length k) (cap := L.length - k) (b := g) (off := k) (bs := L.drop k) (fun h0 => by rw [hiAddr_pos (h.addr (by omega)) (by omega), Nat.zero_add]) hc (by omega) (n - k) (by omega)
  rw [hl, List.drop_drop, show k + (n - k) = n by omega] at this
  exact this

set_option maxHeartbeats 4000000 in
set_option maxRecDepth 100000 in
theorem split_walk (a0 : Option Addr) (c0 : Nat) (a1 : Option Addr) (c1 : Nat) (B D : List Int) (k : Int) (failed : Bool) (T : TypeId) (x : Value) (w : World)
    (r0 : B.length ≤ 140737488351232) (r1 : D.length ≤ 140737488351232) (hz : 0 < w.heap.size) (hG : w.cell? ⟨0, 0, none⟩ = some (.iface T x)) (hB : Bytes w (.slice a0 B.length c0) B) (hD : Bytes w (.slice a1 D.length c1) D) :
    Calls Tryd.prog 3 #[.slice a0 B.length c0, .slice a1 D.length c1, .int .i64 k, .bool failed] w fun e w' => e = .returned (.bool true) ∧ Below w.heap.size w w' := by
  have HW := hide (within6 a0 B.length c0 a1 D.length c1 k failed w r0 r1)
  obtain ⟨m, hm⟩ : ∃ m, B.length = m := ⟨_, rfl⟩
  obtain ⟨n, hn⟩ : ∃ n, D.length = n := ⟨_, rfl⟩
  rw [hm] at r0 hB HW ⊢
  rw [hn] at r1 hD HW ⊢
  have Hm := hide hm
  have Hn := hide hn
  have HG := hide hG
  clear hm hn hG
  go_enter Tryd.func3, Tryd.ntmps3
  go_wp2_with fail
  refine (unhide HW).mono ?_
  rintro e w' ⟨⟨ok, rfl⟩, hw⟩
  subst hw
  clear HW
  cases ok
  · go_wp2_with fail
    go_ret
    exact ⟨rfl, Below.refl _ _⟩
  by_cases t1 : (524288 : Int) < m
  · go_wp2_with fail
    go_ret
    exact ⟨rfl, Below.refl _ _⟩
  by_cases t2 : (524288 : Int) < n
  · go_wp2_with fail
    go_ret
    exact ⟨rfl, Below.refl _ _⟩
  by_cases t3 : k < 0
  · go_wp2_with fail
    go_ret
    exact ⟨rfl, Below.refl _ _⟩
  by_cases t4 : (n : Int) < k
  · go_wp2_with fail
    go_ret
    exact ⟨rfl, Below.refl _ _⟩
  obtain ⟨kk, rfl⟩ := Int.eq_ofNat_of_zero_le (show 0 ≤ k by omega)
  have hkn : kk ≤ n := by omega
  have hk0 : decide ((kk : Int) < 0) = false := by simp
  clear t3
  go_wp2_with fail
  refine (clone_any _ B _ (by rw [unhide Hm]; omega) hB).mono ?_
  rintro e w1 ⟨ab, gb, rfl, v1, b1⟩
  rw [unhide Hm]
  have hD1 := hD.later b1
  clear hB hD
  go_wp2_with fail
  refine (clone_any _ D _ (by rw [unhide Hn]; omega) hD1).mono ?_
  rintro e w2 ⟨ad, gd, rfl, v2, b2⟩
  rw [unhide Hn]
  clear hD1
  go_wp2_with fail
  refine (clone_any _ B _ (by rw [unhide Hm]; omega) (by have := (v1.below b2 (Nat.le_refl _)).bytes m; rwa [unhide Hm] at this)).mono ?_
  rintro e w3 ⟨awb, gwb, rfl, v3, b3⟩
  rw [unhide Hm]
  go_wp2_with fail
  refine (clone_any _ D _ (by rw [unhide Hn]; omega) (by have := (v2.below b3 (Nat.le_refl _)).bytes n; rwa [unhide Hn] at this)).mono ?_
  rintro e w4 ⟨awd, gwd, rfl, v4, b4⟩
  rw [unhide Hn]
  go_wp2_with fail
  refine (clone_any _ D _ (by rw [unhide Hn]; omega) (by have := ((v2.below b3 (Nat.le_refl _)).below b4 (Nat.le_refl _)).bytes n; rwa [unhide Hn] at this)).mono ?_
  rintro e w5 ⟨a2, g2, rfl, v5, b5⟩
  rw [unhide Hn]
  have hF := five_of hz (unhide HG) v1 b1 v2 b2 v3 b3 v4 b4 v5 b5
  have hB05 : Below w'.heap.size w' w5 := b1.trans ((b2.mono b1.size).trans ((b3.mono (by have := b1.size; have := b2.size; omega)).trans ((b4.mono (by have := b1.size; have := b2.size; have := b3.size; omega)).trans (b5.mono (by have := b1.size; have := b2.size; have := b3.size; have := b4.size; omega)))))
  clear v1 b1 v2 b2 v3 b3 v4 b4 v5 b5 HG
  have hs5 := hB05.size
  go_wp2_with fail
  refine (new_abs ab m m _).mono ?_
  rintro e w6 ⟨rfl, hr1, b6⟩
  have hF6 := hF.below b6 hs5
  have hB06 := hB05.trans (b6.mono hs5)
  have hs6 := hB06.size
  go_wp2_with fail
  refine (new_abs ab m m _).mono ?_
  rintro e w7 ⟨rfl, hr2, b7⟩
  have hr1' : Rd w7 w5.heap.size (.slice ab m m) .nilIface := (b7.block _ hr1.lt).trans hr1
  have hF7 := hF6.below b7 hs6
  have hB07 := hB06.trans (b7.mono hs6)
  have hs7 := hB07.size
  have hlast := hF.last
  have h65 := hr1.lt
  have h76 := hr2.lt
  rw [unhide Hm, unhide Hn] at hlast
  clear hF hF6 hr1 b6 b7 hB05 hB06
  have hlo := fun w => slice_lo a2 n n kk hkn w
  have hhi := fun w => slice_hi a2 n n kk hkn w
  generalize w5.heap.size = br1 at *
  generalize w6.heap.size = br2 at *
  cases failed
  · -- NOT FAILED
    have vb := hF7.vb
    have vd := hF7.vd
    have vwb := hF7.vwb
    have vwd := hF7.vwd
    have v2 := hF7.v2
    have o1 := hF7.o1
    have o2 := hF7.o2
    have o3 := hF7.o3
    have hglob := hF7.glob
    have hzero := hF7.zero
    have hbd := hF7.vd.base
    have hb2 := hF7.v2.base
    rw [unhide Hm, unhide Hn] at o1
    rw [unhide Hn] at o2 hbd hb2
    rw [unhide Hm] at o3
    clear hF7
    have Lb : 0 < m → gb < gwb ∧ gwb < br1 := fun h => ⟨o3 h, hlast.1 h⟩
    have Ld : 0 < n → gd < gwd ∧ gwd < g2 ∧ g2 < br1 := fun h => ⟨(o2 h).1, (o2 h).2, hlast.2 h⟩
    have Lbd : 0 < m → 0 < n → gb < gd ∧ gd < gwb ∧ gwb < gwd := fun h h' => ⟨(o1 h h').1, (o1 h h').2.1, (o1 h h').2.2.1⟩
    have hB' : ∀ {p : Prop}, (0 < m → p) → 0 < B.length → p := fun f h => f (by rw [unhide Hm] at h; exact h)
    have hD' : ∀ {p : Prop}, (0 < n → p) → 0 < D.length → p := fun f h => f (by rw [unhide Hn] at h; exact h)
    have HL := hide (And.intro Lb (And.intro Ld Lbd))
    have HB' := @hB'
    have HD' := @hD'
    clear hlast o1 o2 o3 Lb Ld Lbd hB' hD'
    by_cases hnm : n ≤ m
    · -- IT FITS
      go_wp2_with fail
      refine (zread_fits br1 ab m m ad n n gd 0 gb 0 D B _ hr1' hnm (unhide Hm) (fun h0 => vd.addr (by rw [unhide Hn]; exact h0)) (fun _ => by rw [unhide Hn]; omega) (fun h0 => vd.blk (by rw [unhide Hn]; exact h0)) (fun h0 => by have := (unhide HL).2.1 h0; omega)
        (fun h0 => vb.addr (by rw [unhide Hm]; exact h0)) (fun j hj => vb.cells j (by rw [unhide Hm]; exact hj))).mono ?_
      rintro e w8 ⟨rfl, p1, p2, p3⟩
      have vb8 := vb.upd p3 (HB' fun h0 => by rintro (h | ⟨h1, h⟩) <;> (have := (unhide HL).1 h0; have := (unhide HL).2.2 h0; omega))
      have vwb8 := vwb.upd p3 (HB' fun h0 => by rintro (h | ⟨h1, h⟩) <;> (have := (unhide HL).1 h0; have := (unhide HL).2.2 h0; omega))
      have v28 := v2.upd p3 (HD' fun h0 => by rintro (h | ⟨h1, h⟩) <;> (have := (unhide HL).2.1 h0; omega))
      have r28 := hr2.upd p3 (by rintro (h | ⟨h1, h⟩) <;> first | omega | (have := (unhide HL).2.1 h1; omega))
      have hBn : (B.take n).length = n := by have := unhide Hm; simp; omega
      have vd8 : Vec w8 w'.heap.size ad gd (B.take n) := ⟨fun h0 => vd.addr (by rw [unhide Hn]; omega), fun h0 => vd.base (by rw [unhide Hn]; omega), fun h0 => by rw [← splice_all (unhide Hn) (by rw [unhide Hm]; exact hnm)]; exact p2 (by omega)⟩
      have hB8 : Below w'.heap.size w' w8 := hB07.trans (p3.below (fun q hq => by rcases hq with h | ⟨h1, h⟩ <;> first | omega | (have := hbd h1; omega)))
      clear vb vwb v2 hr2 vd vwd hr1' p2 p3 hB07 hglob
      go_wp2_with fail
      refine (zread_fits br2 ab m m a2 kk n g2 0 gb 0 D B _ r28 (by omega) (unhide Hm) (fun h0 => v28.addr (by rw [unhide Hn]; omega)) (fun _ => by rw [unhide Hn]; omega) (fun h0 => v28.blk (by rw [unhide Hn]; omega)) (fun h0 => by have := (unhide HL).2.1 (by omega); omega)
        (fun h0 => vb8.addr (by rw [unhide Hm]; exact h0)) (fun j hj => vb8.cells j (by rw [unhide Hm]; exact hj))).mono ?_
      rintro e w9 ⟨rfl, q1, q2, q3⟩
      have vb9 := vb8.upd q3 (HB' fun h0 => by rintro (h | ⟨h1, h⟩) <;> first | (have := (unhide HL).1 h0; omega) | (have := (unhide HL).1 h0; have := (unhide HL).2.2 h0 (by omega); have := (unhide HL).2.1 (by omega); omega))
      have vwb9 := vwb8.upd q3 (HB' fun h0 => by rintro (h | ⟨h1, h⟩) <;> first | (have := (unhide HL).1 h0; omega) | (have := (unhide HL).1 h0; have := (unhide HL).2.2 h0 (by omega); have := (unhide HL).2.1 (by omega); omega))
      have vd9 := vd8.upd q3 (fun h0 => by rintro (h | ⟨h1, h⟩) <;> (have := (unhide HL).2.1 (by omega); omega))
      have r19 := p1.upd q3 (by rintro (h | ⟨h1, h⟩) <;> first | omega | (have := (unhide HL).2.1 (by omega); omega))
      have hlk : (B.take kk ++ D.drop kk).length = n := by have := unhide Hm; have := unhide Hn; simp; omega
      have v29 : 0 < n → Blk w9 g2 (B.take kk ++ D.drop kk) := fun h0 => by
        rw [← splice_lo (by rw [unhide Hm]; omega)]
        by_cases hk : 0 < kk
        · exact q2 hk
        · obtain rfl : kk = 0 := by omega
          have : Blk w9 g2 D := (q3.block g2 (by rintro (h | ⟨h1, h⟩) <;> first | omega | (have := (unhide HL).2.1 h0; omega))).trans (v28.blk (by rw [unhide Hn]; exact h0))
          simpa [splice] using this
      have hB9 : Below w'.heap.size w' w9 := hB8.trans (q3.below (fun q hq => by rcases hq with h | ⟨h1, h⟩ <;> first | omega | (have := hb2 (by omega); omega)))
      have a29 := v28.addr
      rw [unhide Hn] at a29
      clear vb8 vwb8 v28 r28 vd8 q2 q3 hB8 p1
      go_wp2_with fail
      refine (zread_fits br2 (hiAddr ab m kk) (m - kk) (m - kk) (hiAddr a2 n kk) (n - kk) (n - kk) g2 kk gb kk (B.take kk ++ D.drop kk) (B.drop kk) _ q1 (by omega) (by rw [List.length_drop, unhide Hm]) (fun h0 => by rw [hiAddr_pos (a29 (by omega)) (by omega), Nat.zero_add]) (fun _ => by omega) (fun h0 => v29 (by omega)) (fun h0 => by have := (unhide HL).2.1 (by omega); omega)
        (fun h0 => by rw [hiAddr_pos (vb9.addr (by rw [unhide Hm]; omega)) (by omega), Nat.zero_add]) (fun j hj => by have := vb9.cells (kk + j) (by rw [unhide Hm]; omega); rw [Nat.zero_add] at this; rw [this]; simp [List.getD])).mono ?_
      rintro e w10 ⟨rfl, s1, s2, s3⟩
      have vb10 := vb9.upd s3 (HB' fun h0 => by rintro (h | ⟨h1, h⟩) <;> first | (have := (unhide HL).1 h0; omega) | (have := (unhide HL).1 h0; have := (unhide HL).2.2 h0 (by omega); have := (unhide HL).2.1 (by omega); omega))
      have vwb10 := vwb9.upd s3 (HB' fun h0 => by rintro (h | ⟨h1, h⟩) <;> first | (have := (unhide HL).1 h0; omega) | (have := (unhide HL).1 h0; have := (unhide HL).2.2 h0 (by omega); have := (unhide HL).2.1 (by omega); omega))
      have vd10 := vd9.upd s3 (fun h0 => by rintro (h | ⟨h1, h⟩) <;> (have := (unhide HL).2.1 (by omega); omega))
      have r110 := r19.upd s3 (by rintro (h | ⟨h1, h⟩) <;> first | omega | (have := (unhide HL).2.1 (by omega); omega))
      have v210 : Vec w10 w'.heap.size a2 g2 (B.take n) := ⟨fun h0 => a29 (by omega), fun h0 => hb2 (by omega), fun h0 => by
        rw [← splice_two (unhide Hn) hkn (by rw [unhide Hm]; exact hnm)]
        by_cases hk : 0 < n - kk
        · exact s2 hk
        · have : Blk w10 g2 (B.take kk ++ D.drop kk) := (s3.block g2 (by rintro (h | ⟨h1, h⟩) <;> first | omega | (have := (unhide HL).2.1 (by omega); omega))).trans (v29 (by omega))
          have e : n - kk = 0 := by omega
          rw [e]
          simpa [splice] using this⟩
      have hB10 : Below w'.heap.size w' w10 := hB9.trans (s3.below (fun q hq => by rcases hq with h | ⟨h1, h⟩ <;> first | omega | (have := hb2 (by omega); omega)))
      clear vb9 vwb9 vd9 r19 v29 q1 s2 s3 hB9 a29 hlo hhi
      go_wp2_with fail
      refine (rest_any br1 _ _ _ _ _ r110).mono ?_
      rintro e w11 ⟨rfl, hw⟩
      subst hw
      go_wp2_with fail
      refine (rest_any br2 _ _ _ _ _ s1).mono ?_
      rintro e w11 ⟨rfl, hw⟩
      subst hw
      go_wp2_with fail
      refine (failed_no br1 _ _ r110).mono ?_
      rintro e w11 ⟨rfl, hw⟩
      subst hw
      go_wp2_with fail
      refine (failed_no br2 _ _ s1).mono ?_
      rintro e w11 ⟨rfl, hw⟩
      subst hw
      have y1 := vd10.bytes n
      have y2 := vwb10.lo n m (by rw [unhide Hm]; exact hnm)
      have y3 := v210.bytes n
      have y4 := vb10.hi n (m - n) (by rw [unhide Hm]; exact hnm)
      have y5 := vb10.rest (unhide Hm) hkn hnm
      have y6 := vwb10.hi n (m - n) (by rw [unhide Hm]; exact hnm)
      rw [hBn] at y1 y3
      rw [unhide Hm] at y4 y6
      have hdl : (B.drop n).length ≤ 1048576 := by rw [List.length_drop, unhide Hm]; omega
      have hnmI : (n : Int) ≤ m := by omega
      have hlo2 := fun w => slice_lo awb m m n hnm w
      have hhi2 := fun w => slice_hi awb m m n hnm w
      clear vb10 vwb10 vd10 v210 r110 s1
      go_wp2_with fail
      refine (eq_same _ _ (B.take n) _ (by omega) y1 y2).mono ?_
      rintro e u1 ⟨rfl, z1, hw⟩
      subst hw
      go_wp2_with fail
      refine (eq_same _ _ (B.take n) _ (by omega) (y3.q _) (y2.q _)).mono ?_
      rintro e u1 ⟨rfl, z2, hw⟩
      subst hw
      go_wp2_with fail
      refine (eq_same _ _ (B.drop n) _ hdl (y4.q _) (y6.q _)).mono ?_
      rintro e u1 ⟨rfl, z3, hw⟩
      subst hw
      go_wp2_with fail
      refine (eq_same _ _ (B.drop n) _ hdl (y5.q _) (y6.q _)).mono ?_
      rintro e u1 ⟨rfl, z4, hw⟩
      subst hw
      go_wp2_with fail
      go_ret
      exact ⟨rfl, below_drewN hB10 _⟩
    · -- IT DOES NOT FIT
      have hnmI : ¬ (n : Int) ≤ m := by omega
      have hltI : (m : Int) < n := by omega
      go_wp2_with fail
      refine (zread_short br1 ab m m ad n n T x _ hr1' hglob hltI).mono ?_
      rintro e w8 ⟨rfl, p1, p3⟩
      have vb8 := vb.upd p3 (HB' fun h0 => by intro h; have := (unhide HL).1 h0; omega)
      have vwb8 := vwb.upd p3 (HB' fun h0 => by intro h; have := (unhide HL).1 h0; omega)
      have vd8 := vd.upd p3 (HD' fun h0 => by intro h; have := (unhide HL).2.1 h0; omega)
      have vwd8 := vwd.upd p3 (HD' fun h0 => by intro h; have := (unhide HL).2.1 h0; omega)
      have v28 := v2.upd p3 (HD' fun h0 => by intro h; have := (unhide HL).2.1 h0; omega)
      have r28 := hr2.upd p3 (by intro h; omega)
      have hB8 : Below w'.heap.size w' w8 := hB07.trans (p3.below (fun q hq => by omega))
      have hg8 : w8.cell? ⟨0, 0, none⟩ = some (.iface T x) := (World.cell?_of_block (p3.block 0 (by intro h; omega))).trans hglob
      clear vb vwb v2 hr2 vd vwd hr1' p3 hB07 hglob
      by_cases hkm : kk ≤ m
      · have hkmI : (kk : Int) ≤ m := by omega
        go_wp2_with fail
        refine (zread_fits br2 ab m m a2 kk n g2 0 gb 0 D B _ r28 hkm (unhide Hm) (fun h0 => v28.addr (by rw [unhide Hn]; omega)) (fun _ => by rw [unhide Hn]; omega) (fun h0 => v28.blk (by rw [unhide Hn]; omega)) (fun h0 => by have := (unhide HL).2.1 (by omega); omega)
          (fun h0 => vb8.addr (by rw [unhide Hm]; exact h0)) (fun j hj => vb8.cells j (by rw [unhide Hm]; exact hj))).mono ?_
        rintro e w9 ⟨rfl, q1, q2, q3⟩
        have vb9 := vb8.upd q3 (HB' fun h0 => by rintro (h | ⟨h1, h⟩) <;> first | (have := (unhide HL).1 h0; omega) | (have := (unhide HL).1 h0; have := (unhide HL).2.2 h0 (by omega); have := (unhide HL).2.1 (by omega); omega))
        have vwb9 := vwb8.upd q3 (HB' fun h0 => by rintro (h | ⟨h1, h⟩) <;> first | (have := (unhide HL).1 h0; omega) | (have := (unhide HL).1 h0; have := (unhide HL).2.2 h0 (by omega); have := (unhide HL).2.1 (by omega); omega))
        have vd9 := vd8.upd q3 (HD' fun h0 => by rintro (h | ⟨h1, h⟩) <;> (have := (unhide HL).2.1 h0; omega))
        have vwd9 := vwd8.upd q3 (HD' fun h0 => by rintro (h | ⟨h1, h⟩) <;> (have := (unhide HL).2.1 h0; omega))
        have r19 := p1.upd q3 (by rintro (h | ⟨h1, h⟩) <;> first | omega | (have := (unhide HL).2.1 (by omega); omega))
        have hlk : (B.take kk ++ D.drop kk).length = n := by have := unhide Hm; have := unhide Hn; simp; omega
        have v29 : Vec w9 w'.heap.size a2 g2 (B.take kk ++ D.drop kk) := ⟨fun h0 => v28.addr (by rw [unhide Hn]; omega), fun h0 => hb2 (by omega), fun h0 => by
          rw [← splice_lo (by rw [unhide Hm]; omega)]
          by_cases hk : 0 < kk
          · exact q2 hk
          · obtain rfl : kk = 0 := by omega
            have : Blk w9 g2 D := (q3.block g2 (by rintro (h | ⟨h1, h⟩) <;> first | omega | (have := (unhide HL).2.1 (by omega); omega))).trans (v28.blk (by rw [unhide Hn]; omega))
            simpa [splice] using this⟩
        have hB9 : Below w'.heap.size w' w9 := hB8.trans (q3.below (fun q hq => by rcases hq with h | ⟨h1, h⟩ <;> first | omega | (have := hb2 (by omega); omega)))
        have hg9 : w9.cell? ⟨0, 0, none⟩ = some (.iface T x) := (World.cell?_of_block (q3.block 0 (by rintro (h | ⟨h1, h⟩) <;> first | omega | (have := hb2 (by omega); omega)))).trans hg8
        clear vb8 vwb8 v28 r28 vd8 vwd8 q2 q3 hB8 p1 hg8
        go_wp2_with fail
        refine (zread_short br2 (hiAddr ab m kk) (m - kk) (m - kk) (hiAddr a2 n kk) (n - kk) (n - kk) T x _ q1 hg9 (by omega)).mono ?_
        rintro e w10 ⟨rfl, s1, s3⟩
        have vb10 := vb9.upd s3 (HB' fun h0 => by intro h; have := (unhide HL).1 h0; omega)
        have vwb10 := vwb9.upd s3 (HB' fun h0 => by intro h; have := (unhide HL).1 h0; omega)
        have vd10 := vd9.upd s3 (HD' fun h0 => by intro h; have := (unhide HL).2.1 h0; omega)
        have vwd10 := vwd9.upd s3 (HD' fun h0 => by intro h; have := (unhide HL).2.1 h0; omega)
        have v210 := v29.upd s3 (fun h0 => by intro h; have := (unhide HL).2.1 (by omega); omega)
        have r110 := r19.upd s3 (by intro h; omega)
        have hB10 : Below w'.heap.size w' w10 := hB9.trans (s3.below (fun q hq => by omega))
        clear vb9 vwb9 vd9 vwd9 r19 v29 q1 s3 hB9 hg9
        go_wp2_with fail
        refine (rest_any br1 _ _ _ _ _ r110).mono ?_
        rintro e w11 ⟨rfl, hw⟩
        subst hw
        go_wp2_with fail
        refine (rest_any br2 _ _ _ _ _ s1).mono ?_
        rintro e w11 ⟨rfl, hw⟩
        subst hw
        go_wp2_with fail
        refine (failed_yes br1 _ T x _ r110).mono ?_
        rintro e w11 ⟨rfl, hw⟩
        subst hw
        go_wp2_with fail
        refine (failed_yes br2 _ T x _ s1).mono ?_
        rintro e w11 ⟨rfl, hw⟩
        subst hw
        have y1 := vd10.bytes n
        have y2 := vwd10.bytes n
        have y3 := vb10.bytes m
        have y4 := vwb10.bytes m
        have x1 := v210.lo kk n (by omega)
        have x2 := vwb10.lo kk m (by rw [unhide Hm]; exact hkm)
        have x3 := v210.hi kk (n - kk) (by omega)
        have x4 := vwd10.hi kk (n - kk) (by rw [unhide Hn]; exact hkn)
        have x5 := vb10.hi kk (m - kk) (by rw [unhide Hm]; exact hkm)
        have x6 := vwb10.hi kk (m - kk) (by rw [unhide Hm]; exact hkm)
        have e1 : (B.take kk ++ D.drop kk).take kk = B.take kk := by
          have : (B.take kk).length = kk := by have := unhide Hm; simp; omega
          rw [List.take_append_of_le_length (by omega), List.take_of_length_le (by omega)]
        have e2 : (B.take kk ++ D.drop kk).drop kk = D.drop kk := by
          have : (B.take kk).length = kk := by have := unhide Hm; simp; omega
          rw [List.drop_append_of_le_length (by omega), List.drop_eq_nil_of_le (by omega), List.nil_append]
        rw [e1] at x1
        rw [e2, hlk] at x3
        rw [unhide Hn] at y1 y2 x4
        rw [unhide Hm] at y3 y4 x5 x6
        have l1 : (B.take kk).length ≤ 1048576 := by have := unhide Hm; simp; omega
        have l2 : (D.drop kk).length ≤ 1048576 := by rw [List.length_drop, unhide Hn]; omega
        have l3 : (B.drop kk).length ≤ 1048576 := by rw [List.length_drop, unhide Hm]; omega
        have hlo2 := fun w => slice_lo awb m m kk hkm w
        have hhi2 := fun w => slice_hi awb m m kk hkm w
        have hhi3 := fun w => slice_hi awd n n kk hkn w
        clear vb10 vwb10 vd10 vwd10 v210 r110 s1 e1 e2
        go_wp2_with fail
        refine (eq_same _ _ D _ (by rw [unhide Hn]; omega) y1 y2).mono ?_
        rintro e u1 ⟨rfl, z1, hw⟩
        subst hw
        go_wp2_with fail
        refine (eq_same _ _ B _ (by rw [unhide Hm]; omega) (y3.q _) (y4.q _)).mono ?_
        rintro e u2 ⟨rfl, z2, hw⟩
        have HBu := hide (show Below w'.heap.size w' u2 by rw [hw]; exact below_drewN (below_drewN hB10 _) _)
        have hx : ∀ {v : Value} {bs : List Int}, Bytes w11 v bs → Bytes u2 v bs := fun h => by rw [hw]; exact h
        have HE1 := hide (fun q => eq_same (.slice a2 kk n) (.slice awb kk m) (B.take kk) (u2.drewN q) l1 ((hx x1).q q) ((hx x2).q q))
        have HE2 := hide (fun q => eq_same (.slice (hiAddr a2 n kk) (n - kk) (n - kk)) (.slice (hiAddr awd n kk) (n - kk) (n - kk)) (D.drop kk) (u2.drewN q) l2 ((hx x3).q q) ((hx x4).q q))
        have HE3 := hide (fun q => eq_same (.slice (hiAddr ab m kk) (m - kk) (m - kk)) (.slice (hiAddr awb m kk) (m - kk) (m - kk)) (B.drop kk) (u2.drewN q) l3 ((hx x5).q q) ((hx x6).q q))
        clear hx
        clear hw x1 x2 x3 x4 x5 x6 y1 y2 y3 y4 hB10
        go_wp2_with fail
        go_quiet ((first | (go_at_call_of 13 (Value.slice a2 kk n); exact Calls.quiet_of (unhide HE1 _)) | (go_at_call_of 13 (Value.slice (hiAddr a2 n kk) (n - kk) (n - kk)); exact Calls.quiet_of (unhide HE2 _)) | (go_at_call_of 13 (Value.slice (hiAddr ab m kk) (m - kk) (m - kk)); exact Calls.quiet_of (unhide HE3 _))))
        go_wp2
        go_ret
        exact ⟨rfl, below_drewN (unhide HBu) _⟩
      · have hkmI : ¬ (kk : Int) ≤ m := by omega
        go_wp2_with fail
        refine (zread_short br2 ab m m a2 kk n T x _ r28 hg8 (by omega)).mono ?_
        rintro e w9 ⟨rfl, q1, q3⟩
        have vb9 := vb8.upd q3 (HB' fun h0 => by intro h; have := (unhide HL).1 h0; omega)
        have vwb9 := vwb8.upd q3 (HB' fun h0 => by intro h; have := (unhide HL).1 h0; omega)
        have vd9 := vd8.upd q3 (HD' fun h0 => by intro h; have := (unhide HL).2.1 h0; omega)
        have vwd9 := vwd8.upd q3 (HD' fun h0 => by intro h; have := (unhide HL).2.1 h0; omega)
        have v29 := v28.upd q3 (HD' fun h0 => by intro h; have := (unhide HL).2.1 h0; omega)
        have r19 := p1.upd q3 (by intro h; omega)
        have hB9 : Below w'.heap.size w' w9 := hB8.trans (q3.below (fun q hq => by omega))
        clear vb8 vwb8 v28 r28 vd8 vwd8 q3 hB8 p1 hg8
        go_wp2_with fail
        refine (zread_failed br2 _ T x _ _ q1).mono ?_
        rintro e w10 ⟨rfl, hw⟩
        subst hw
        go_wp2_with fail
        refine (rest_any br1 _ _ _ _ _ r19).mono ?_
        rintro e w11 ⟨rfl, hw⟩
        subst hw
        go_wp2_with fail
        refine (rest_any br2 _ _ _ _ _ q1).mono ?_
        rintro e w11 ⟨rfl, hw⟩
        subst hw
        go_wp2_with fail
        refine (failed_yes br1 _ T x _ r19).mono ?_
        rintro e w11 ⟨rfl, hw⟩
        subst hw
        go_wp2_with fail
        refine (failed_yes br2 _ T x _ q1).mono ?_
        rintro e w11 ⟨rfl, hw⟩
        subst hw
        have y1 := vd9.bytes n
        have y2 := vwd9.bytes n
        have y3 := vb9.bytes m
        have y4 := vwb9.bytes m
        have y5 := v29.bytes n
        rw [unhide Hn] at y1 y2 y5
        rw [unhide Hm] at y3 y4
        clear vb9 vwb9 vd9 vwd9 v29 r19 q1
        go_wp2_with fail
        refine (eq_same _ _ D _ (by rw [unhide Hn]; omega) y1 y2).mono ?_
        rintro e u1 ⟨rfl, z1, hw⟩
        subst hw
        go_wp2_with fail
        refine (eq_same _ _ B _ (by rw [unhide Hm]; omega) (y3.q _) (y4.q _)).mono ?_
        rintro e u1 ⟨rfl, z2, hw⟩
        subst hw
        go_wp2_with fail
        refine (eq_same _ _ D _ (by rw [unhide Hn]; omega) (y5.q _) (y2.q _)).mono ?_
        rintro e u1 ⟨rfl, z3, hw⟩
        subst hw
        go_wp2_with fail
        refine (eq_same _ _ B _ (by rw [unhide Hm]; omega) (y3.q _) (y4.q _)).mono ?_
        rintro e u1 ⟨rfl, z4, hw⟩
        subst hw
        go_wp2_with fail
        go_ret
        exact ⟨rfl, below_drewN hB9 _⟩
  · go_wp2_with fail
    refine (newFailed_abs ab m m T x _ hF7.glob).mono ?_
    rintro e w8 ⟨rfl, hr3, b8⟩
    have hF8 := hF7.below b8 hs7
    have hB08 := hB07.trans (b8.mono hs7)
    have hs8 := hB08.size
    go_wp2_with fail
    refine (newFailed_abs ab m m T x _ hF8.glob).mono ?_
    rintro e w9 ⟨rfl, hr4, b9⟩
    have hr3' : Rd w9 w7.heap.size (.slice ab m m) (.iface T x) := (b9.block _ hr3.lt).trans hr3
    have hF9 := hF8.below b9 hs8
    have hB09 := hB08.trans (b9.mono hs8)
    clear hF7 hF8 hr3 b8 b9 hB07 hB08 hr1' hr2
    generalize w7.heap.size = q1 at *
    generalize w8.heap.size = q2 at *
    go_wp2_with fail
    refine (zread_failed q1 _ T x _ _ hr3').mono ?_
    rintro e w10 ⟨rfl, hw⟩
    subst hw
    go_wp2_with fail
    refine (zread_failed q2 _ T x _ _ hr4).mono ?_
    rintro e w10 ⟨rfl, hw⟩
    subst hw
    go_wp2_with fail
    refine (zread_failed q2 _ T x _ _ hr4).mono ?_
    rintro e w10 ⟨rfl, hw⟩
    subst hw
    go_wp2_with fail
    refine (rest_any q1 ab m m _ _ hr3').mono ?_
    rintro e w10 ⟨rfl, hw⟩
    subst hw
    go_wp2_with fail
    refine (rest_any q2 ab m m _ _ hr4).mono ?_
    rintro e w10 ⟨rfl, hw⟩
    subst hw
    go_wp2_with fail
    refine (failed_yes q1 _ T x _ hr3').mono ?_
    rintro e w10 ⟨rfl, hw⟩
    subst hw
    go_wp2_with fail
    refine (failed_yes q2 _ T x _ hr4).mono ?_
    rintro e w10 ⟨rfl, hw⟩
    subst hw
    have y1 := hF9.vd.bytes n
    have y2 := hF9.vwd.bytes n
    have y3 := hF9.v2.bytes n
    have y4 := hF9.vb.bytes m
    have y5 := hF9.vwb.bytes m
    rw [unhide Hn] at y1 y2 y3
    rw [unhide Hm] at y4 y5
    go_wp2_with fail
    refine (eq_same _ _ D _ (by rw [unhide Hn]; omega) y1 y2).mono ?_
    rintro e u1 ⟨rfl, z1, hw⟩
    subst hw
    go_wp2_with fail
    refine (eq_same _ _ D _ (by rw [unhide Hn]; omega) (y3.q _) (y2.q _)).mono ?_
    rintro e u1 ⟨rfl, z2, hw⟩
    subst hw
    go_wp2_with fail
    refine (eq_same _ _ B _ (by rw [unhide Hm]; omega) (y4.q _) (y5.q _)).mono ?_
    rintro e u1 ⟨rfl, z3, hw⟩
    subst hw
    go_wp2_with fail
    refine (eq_same _ _ B _ (by rw [unhide Hm]; omega) (y4.q _) (y5.q _)).mono ?_
    rintro e u1 ⟨rfl, z4, hw⟩
    subst hw
    go_wp2_with fail
    go_ret
    exact ⟨rfl, below_drewN hB09 _⟩

end Go.Proofs.Qxb6616481aDoor
