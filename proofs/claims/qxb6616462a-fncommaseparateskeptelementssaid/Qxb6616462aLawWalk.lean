/-
  The walk of FnCommaSeparatesKeptElements (3), at a stack of at least one level.
-/
import Derived.Test.Qxb6616462aLaw
namespace Go.Proofs.Qxb6616462a
open Go.RowKit

set_option maxHeartbeats 4000000 in
set_option maxRecDepth 100000 in
theorem law_some (nk m c0 b0 off0 : Nat) (ks : Nat → Bool) (a1 : Option Addr) (c1 : Nat) (ds : List Int) (ev : Value) (es : List (List Int)) (K : Nat → Value) (w : World)
    (hnk : nk = m + 1) (r0 : nk ≤ 140737488351232) (r1 : ds.length ≤ 140737488351232) (r2 : es.length ≤ 140737488351232) (r3 : ∀ j, j < es.length → (es.getD j []).length ≤ 140737488351232)
    (hb0 : b0 < w.heap.size) (hk0 : ∀ j, j < nk → w.cell? ⟨b0, off0 + j, none⟩ = some (.bool (ks j)))
    (hD : Bytes w (.slice a1 ds.length c1) ds) (hE : Elems w ev es K) :
    Calls Try.prog 3 #[.slice (some ⟨b0, off0, none⟩) nk c0, .slice a1 ds.length c1, ev] w fun e w' => e = .returned (.bool true) ∧ Below w.heap.size w w' := by
  obtain ⟨i0, hi, hz0, hz1, hz2⟩ := info_parts info4
  have hne := fun w => neq22 (some ⟨b0, off0, none⟩) nk c0 w
  simp only [Option.isNone_some, Bool.not_false] at hne
  have hW := within_any (some ⟨b0, off0, none⟩) nk c0 a1 ds.length c1 ev es K w r0 r1 r2 r3 hE
  obtain ⟨⟨a, cap, b, off, rfl, ha, hlt, hc⟩, hin⟩ := hE
  have hE : Elems w (.slice a es.length cap) es K := ⟨⟨a, cap, b, off, rfl, ha, hlt, hc⟩, hin⟩
  generalize hn : es.length = n at *
  have Hn : Hid (es.length = n) := hn
  clear hn
  generalize hnd : ds.length = nd at *
  have Hnd : Hid (ds.length = nd) := hnd
  clear hnd
  have Hnk := hide hnk
  clear hnk
  have HW := hide hW
  clear hW
  go_enter Try.func3, Try.ntmps3
  go_wp2_with fail
  refine (unhide HW).mono ?_
  rintro e w' ⟨⟨ok, rfl⟩, hw⟩
  subst hw
  clear HW
  cases ok
  · go_wp2_with fail
    go_ret
    exact ⟨rfl, Below.refl _ _⟩
  by_cases t1 : (1048576 : Int) < nk
  · go_wp2_with fail
    go_ret
    exact ⟨rfl, Below.refl _ _⟩
  by_cases t2 : (1048576 : Int) < nd
  · go_wp2_with fail
    go_ret
    exact ⟨rfl, Below.refl _ _⟩
  by_cases t3 : (1048576 : Int) < n
  · go_wp2_with fail
    go_ret
    exact ⟨rfl, Below.refl _ _⟩
  by_cases t4 : (1048576 : Int) < (nk : Int) + nd
  · go_wp2_with (first
      | (at_make; refine wpList_make_full _ rfl _ _ 22 rfl w'.heap.size 4 i0 (.bool false) 1 Try.underlying22 hi hz0 hz1 _ _ _ _ nk rfl rfl rfl rfl (by rw [hz2]; omega) (by unfold maxLen; omega) (Nat.le_refl _) ?_; intro w1 hown1 hg1; have hbel := below_of_grown hg1; have hk1 : ∀ j, j < nk → w1.cell? ⟨b0, off0 + j, none⟩ = some (.bool (ks j)) := fun j hj => (hbel.cell (by exact hb0)).trans (hk0 j hj))
      | (refine wpList_copy_flags rfl (.tmp 41) (.tmp 42) rfl w'.heap.size b0 off0 nk c0 ks _ rfl rfl hown1 hk1 hbel ?_; intro w2 hkc hbk hb2)
      | fail)
    go_ret
    exact ⟨rfl, hb2⟩
  go_wp2_with (first
    | (at_make; refine wpList_make_full _ rfl _ _ 22 rfl w'.heap.size 4 i0 (.bool false) 1 Try.underlying22 hi hz0 hz1 _ _ _ _ nk rfl rfl rfl rfl (by rw [hz2]; omega) (by unfold maxLen; omega) (Nat.le_refl _) ?_; intro w1 hown1 hg1; have hbel := below_of_grown hg1; have hk1 : ∀ j, j < nk → w1.cell? ⟨b0, off0 + j, none⟩ = some (.bool (ks j)) := fun j hj => (hbel.cell (by exact hb0)).trans (hk0 j hj))
    | (refine wpList_copy_flags rfl (.tmp 41) (.tmp 42) rfl w'.heap.size b0 off0 nk c0 ks _ rfl rfl hown1 hk1 hbel ?_; intro w2 hkc hbk hb2)
    | fail)
  have hEw := hE.later hb2
  have hDw := hD.later hb2
  have hcw : ∀ j, j < n → w2.cell? ⟨b, off + j, none⟩ = some (K j) := fun j hj => (hb2.cell (by exact hlt (by omega))).trans (hc j hj)
  have hbw2 := hb2
  clear hown1 hg1 hbel hk1 hne hc hE hD hk0
  have HR := hide hkc
  clear hkc
  go_loop [8, 9] (fun t i => ∃ k : Nat, k ≤ n ∧ i = .int .i64 k ∧ t = .int .i64 ((nk : Int) + nd + total (es.take k)) ∧ (nk : Int) + nd + total (es.take k) ≤ 1048576) (fun _ i => n - (intOf i).toNat)
  case atStart => exact ⟨0, Nat.zero_le _, rfl, by simp [total], by simp [total]; omega⟩
  case round =>
    obtain ⟨k, hk, rfl, rfl, hq⟩ := hrel
    by_cases hkl : k < n
    · have hix := fun w => index_run Try.underlying24 info23 cap ha hkl w
      have hcx := hcw k hkl
      have hl := r3 k hkl
      obtain ⟨a', cap', b', off', eK, _⟩ := hin k hkl
      rw [eK] at hcx
      have HT := hide (total_take_succ (es := es) (k := k) (by rw [Hn.out]; exact hkl))
      generalize (es.getD k []).length = ne at *
      generalize hq0 : total (es.take k) = q at *
      clear eK hq0 hin hcw r3 hEw hDw
      by_cases hbig : (1048576 : Int) < (nk : Int) + nd + q + (24 + ne)
      · go_wp2
        go_ret
        exact ⟨rfl, hbw2⟩
      go_wp2
      go_round
      case rel => exact ⟨k + 1, by omega, by go_num, by rw [unhide HT]; congr 1; omega, by rw [unhide HT]; omega⟩
      case measure => simp [intOf]; omega
    · have hkn : n = k := by omega
      subst hkn
      rw [List.take_of_length_le (by rw [Hn.out]; exact Nat.le_refl _)] at hq
      have hkm := unhide HR m (by have := Hnk.out; omega)
      have hnz : ((nk : Int) == 0) = false := beq_eq_false_iff_ne.2 (by have := Hnk.out; omega)
      have hlast := fun w => index_last Try.underlying22 info4 w'.heap.size nk m nk Hnk.out w
      have HC := hide hcw
      clear hcw hin
      go_wp2_with fail
      refine (copy_any _ ds _ (by rw [Hnd.out]; omega) (by exact hDw)).mono ?_
      rintro e w3 ⟨vd, rfl, hownD, hb3⟩
      have hs3 := hb3.size
      have hkc3 : Row w3 (.slice (some ⟨w'.heap.size, 0, none⟩) nk nk) nk (fun i => .bool (ks i)) :=
        ⟨_, nk, w'.heap.size, 0, rfl, fun _ => rfl, fun _ => by omega, fun j hj => by rw [Nat.zero_add]; exact (hb3.cell (by exact hbk)).trans (unhide HR j hj)⟩
      clear hlast hkm hnz
      go_wp2_with fail
      refine (newFilter _ nk ks _ (by omega) hkc3).mono ?_
      rintro e w4 ⟨rfl, ⟨bw, hbw, hF⟩, hb4⟩
      have HL2 : L2 w2 w3.heap.size bw nk m ks ds es 0 vd w4 := L2_start hownD hb3 hF hb4 hbw
      have hs4 : w3.heap.size ≤ w4.heap.size := hb4.size
      clear hownD hF hb3 hb4 hkc3
      generalize w3.heap.size = bf at *
      go_wp2_with fail
      go_loopw [11, 13] (fun v i wr => ∃ j : Nat, j ≤ n ∧ i = .int .i64 j ∧ L2 w2 bf bw nk m ks ds es j v wr) (fun _ i _ => n - (intOf i).toNat)
      case atStart => exact ⟨0, Nat.zero_le _, rfl, HL2⟩
      case round =>
        obtain ⟨j, hj, rfl, hI⟩ := hrel
        have hlen : (ds ++ joinC (ks m) (es.take j)).length ≤ 1048576 := by
          have h1 := length_joinC (ks m) (es.take j)
          have h2 := total_take_le es j
          have h3 := Hnd.out
          rw [List.length_append]; omega
        by_cases hjl : j < n
        · have hjl' : j < es.length := by rw [Hn.out]; exact hjl
          go_wp2_with fail
          refine (zzcomma_n w2.heap.size w2.heap.size bf bw nk m (flags m ks j) _ _ _ Hnk.out (by omega) (by omega) hI.filt hI.own hI.below.size hI.apart.1 hI.apart.2).mono ?_
          rintro e w5 ⟨v1, rfl, p1, p2, p3, p4⟩
          have hI' := hI.comma p1 p2 p3 p4
          clear p1 p2 p3 p4 hI
          have hix := fun w => index_run Try.underlying24 info23 cap ha hjl w
          have hcx : w5.cell? ⟨b, off + j, none⟩ = some (K j) := (hI'.below.cell (show b < w2.heap.size by have := hlt (by omega); omega)).trans (unhide HC j hjl)
          obtain ⟨a', cap', b', off', eK, ha', hlt', hc'⟩ := hEw.2 j hjl'
          have HeK := hide eK
          have hls : (ds ++ joinC (ks m) (es.take j) ++ if flags m ks j m then [44] else []).length + (es.getD j []).length ≤ 4194304 := by
            have h1 := length_joinC (ks m) (es.take (j + 1))
            have h2 := total_take_le es (j + 1)
            have h3 := Hnd.out
            have h4 := congrArg List.length (join_step ds m ks hjl')
            rw [List.length_append, List.length_append] at h4
            omega
          have hap := append_any w2.heap.size v1 (K j) _ (es.getD j []) w5 hls hI'.own hI'.below.size a' cap' b' off' (unhide HeK) ha' (fun h0 => ⟨Nat.lt_of_lt_of_le (hlt' h0) hI'.below.size, fun e => by have := own_ge hI'.own e; have := hlt' h0; omega⟩)
            (fun i hi => (hI'.below.cell (show b' < w2.heap.size from hlt' (by omega))).trans (hc' i hi))
          have HA := hide hap
          clear eK hap ha' hlt' hc'
          go_wp2_with fail
          refine (unhide HA).mono ?_
          rintro e w6 ⟨v2, rfl, p1, p2, p3⟩
          have hI2 := hI'.app hjl' p1 p2 p3
          clear p1 p2 p3 hI' HA HeK hcx hix
          go_wp2_with fail
          go_roundw
          case rel => exact ⟨j + 1, by omega, by go_num, hI2⟩
          case measure => simp [intOf]; omega
        · have hjn : n = j := by omega
          subst hjn
          go_wp2_with fail
          refine (kept_n w2.heap.size bf bw nk m (flags m ks n) _ Hnk.out (by omega) hI.filt).mono ?_
          rintro e w5 ⟨rfl, ⟨L, hownA, hLA⟩, hb5⟩
          have hownD5 := own_below hI.own hb5
          have hb25 : Below w2.heap.size w2 w5 := hI.below.trans (hb5.mono hI.below.size)
          have hs25 := hb25.size
          have htk : es.take n = es := List.take_of_length_le (by rw [Hn.out]; exact Nat.le_refl _)
          rw [htk] at hownD5 hlen
          have hs5 : wr.heap.size < w5.heap.size := (hownA.lt _ rfl).2
          clear hI HL2 htk
          generalize wr.heap.size = ba at *
          go_wp2_with fail
          refine (copy_any _ ds _ (by rw [Hnd.out]; omega) (by exact hDw.later hb25)).mono ?_
          rintro e wx ⟨vx, rfl, hownW, hb6⟩
          obtain ⟨pre, hpre⟩ : ∃ pre, pre = (if ks m && decide (0 < n) then [44] else ([] : List Int)) := ⟨_, rfl⟩
          have Hpre := hide hpre
          clear hpre
          have hcase : (ks m = true ∧ 0 < n) ∨ (ks m = true ∧ n = 0) ∨ ks m = false := by
            cases ks m
            · exact Or.inr (Or.inr rfl)
            · rcases Nat.eq_zero_or_pos n with h | h
              · exact Or.inr (Or.inl ⟨rfl, h⟩)
              · exact Or.inl ⟨rfl, h⟩
          rcases hcase with ⟨hks, hn0⟩ | ⟨hks, hn0⟩ | hks
          · have hp : pre = [44] := by rw [unhide Hpre, hks]; simp [hn0]
            have hnI : (0 : Int) < n := by omega
            have hpl : pre.length ≤ 1 := by rw [hp]; simp
            have Hp := hide hp
            clear hp
            go_wp2_with (first
              | (at_builtin; refine wpList_append_byte rfl (.tmp 106) (.tmp 107) rfl w5.heap.size _ ds 44 rfl hownW rfl (by rw [Hnd.out]; omega) hb6.size ?_; intro vy wy hownY hgY hmY)
              | fail)
            have HL3 : L3 w5 (ds ++ pre) es 0 vy wy := ⟨by rw [unhide Hp]; simpa [joinC] using hownY, hb6.grown hgY hb6.size (fun q hq => own_ge hownW hq)⟩
            clear hownY hgY hmY hownW hb6
            go_loopw [15, 16] (fun v i wr => ∃ j : Nat, j ≤ n ∧ i = .int .i64 j ∧ L3 w5 (ds ++ pre) es j v wr) (fun _ i _ => n - (intOf i).toNat)
            case atStart => exact ⟨0, Nat.zero_le _, rfl, HL3⟩
            case round =>
              obtain ⟨j, hj, rfl, hI⟩ := hrel
              have hlenP : (ds ++ pre ++ joinC false (es.take j)).length ≤ 2097152 := by
                have h1 := length_joinC false (es.take j)
                have h2 := total_take_le es j
                have h3 := Hnd.out
                rw [List.length_append, List.length_append]; omega
              by_cases hjl : j < n
              · have hjl' : j < es.length := by rw [Hn.out]; exact hjl
                have hix := fun w => index_run Try.underlying24 info23 cap ha hjl w
                obtain ⟨a', cap', b', off', eK, ha', hlt', hc'⟩ := hEw.2 j hjl'
                have HeK := hide eK
                have hls : (ds ++ pre ++ joinC false (es.take j)).length + 1 + (es.getD j []).length ≤ 4194304 := by
                  have h1 := length_joinC false (es.take (j + 1))
                  have h2 := total_take_le es (j + 1)
                  have h4 := total_take_succ hjl'
                  omega
                have hcx : ∀ W, Below w5.heap.size w5 W → W.cell? ⟨b, off + j, none⟩ = some (K j) := fun W hW => (hW.cell (show b < w5.heap.size by have := hlt (by omega); omega)).trans ((hb25.cell (show b < w2.heap.size by have := hlt (by omega); omega)).trans (unhide HC j hjl))
                have hcb : ∀ W, Below w5.heap.size w5 W → ∀ i, i < (es.getD j []).length → W.cell? ⟨b', off' + i, none⟩ = some (.int .u8 ((es.getD j []).getD i 0)) := fun W hW i hi => (hW.cell (show b' < w5.heap.size by have := hlt' (by omega); omega)).trans ((hb25.cell (show b' < w2.heap.size from hlt' (by omega))).trans (hc' i hi))
                have Hcx := hide hcx
                have Hcb := hide hcb
                have Hlt := hide hlt'
                have Hix := hide hix
                clear eK hcx hcb hlt' hc' hix
                by_cases hj0 : 0 < j
                · have hjI : (0 : Int) < j := by omega
                  go_wp2_with (first
                    | (at_builtin; refine wpList_append_byte rfl (.tmp 117) (.tmp 118) rfl w5.heap.size _ _ 44 rfl hI.own rfl (by omega) hI.below.size ?_; intro vz wz hownZ hgZ hmZ; have hbZ := hI.below.grown hgZ hI.below.size (fun q hq => own_ge hI.own hq); have hcz := unhide Hcx wz hbZ; have hix := unhide Hix)
                    | fail)
                  refine (append_any w5.heap.size vz (K j) _ (es.getD j []) wz (by rw [List.length_append, List.length_singleton]; omega) hownZ hbZ.size a' cap' b' off' (unhide HeK) ha' (fun h0 => ⟨by have := unhide Hlt h0; have := hbZ.size; omega, fun e => by have := own_ge hownZ e; have := unhide Hlt h0; omega⟩) (unhide Hcb wz hbZ)).mono ?_
                  rintro e w8 ⟨v2, rfl, p1, p2, p3⟩
                  have hI2 : L3 w5 (ds ++ pre) es (j + 1) v2 w8 := ⟨by rw [L3_step _ hjl']; simp only [hj0, decide_true, if_true]; exact p1, hbZ.grown p2 hbZ.size (fun q hq => own_ge hownZ hq)⟩
                  clear p1 p2 p3 hI hownZ hgZ hmZ hcz hix hbZ
                  go_wp2_with fail
                  go_roundw
                  case rel => exact ⟨j + 1, by omega, by go_num, hI2⟩
                  case measure => simp [intOf]; omega
                · have hjI : ¬ (0 : Int) < j := by omega
                  have hcz := unhide Hcx _ hI.below
                  have hix := unhide Hix
                  go_wp2_with fail
                  refine (append_any w5.heap.size _ (K j) _ (es.getD j []) _ (by omega) hI.own hI.below.size a' cap' b' off' (unhide HeK) ha' (fun h0 => ⟨by have := unhide Hlt h0; have := hI.below.size; omega, fun e => by have := own_ge hI.own e; have := unhide Hlt h0; omega⟩) (unhide Hcb _ hI.below)).mono ?_
                  rintro e w8 ⟨v2, rfl, p1, p2, p3⟩
                  have hI2 : L3 w5 (ds ++ pre) es (j + 1) v2 w8 := ⟨by rw [L3_step _ hjl']; simp only [hj0, decide_false, Bool.false_eq_true, if_false, List.append_nil]; exact p1, hI.below.grown p2 hI.below.size (fun q hq => own_ge hI.own hq)⟩
                  clear p1 p2 p3 hI hcz hix
                  go_wp2_with fail
                  go_roundw
                  case rel => exact ⟨j + 1, by omega, by go_num, hI2⟩
                  case measure => simp [intOf]; omega
              · have hjn : n = j := by omega
                subst hjn
                have hownW' := hI.own
                rw [unhide Hpre, L3_end ds (ks m) es n Hn.out] at hownW'
                have hbI := hI.below
                have hbD := bytes_of_own (own_below hownD5 hbI)
                have hbW := bytes_of_own hownW'
                clear hI hownW' HL3
                go_wp2_with fail
                refine (equal_same _ _ (ds ++ joinC (ks m) es) _ (by omega) hbD hbW).mono ?_
                rintro e wq ⟨rfl, hbq⟩
                have hb5q : Below w5.heap.size w5 wq := hbI.trans (hbq.mono hbI.size)
                clear hbD hbW hbq hbI hlenP
                go_wp2_with fail
                go_loopw [17] (fun i wr => ∃ j : Nat, j ≤ m ∧ i = .int .i64 j ∧ Below w5.heap.size w5 wr) (fun i _ => nk - (intOf i).toNat)
                case atStart => exact ⟨0, Nat.zero_le _, rfl, hb5q⟩
                case round =>
                  obtain ⟨j, hj, rfl, hbr⟩ := hrel
                  have hnkm := Hnk.out
                  have hcA : ∀ i, i < nk → wr.cell? ⟨ba, i, none⟩ = some (.bool (flags m ks n i)) := fun i hi => (hbr.cell (show ba < w5.heap.size from hs5)).trans (by rw [hownA.cellAt i (by omega)]; exact hLA i hi)
                  have hcK : ∀ i, i < nk → wr.cell? ⟨w'.heap.size, i, none⟩ = some (.bool (ks i)) := fun i hi => (hbr.cell (show w'.heap.size < w5.heap.size by omega)).trans ((hb25.cell (show w'.heap.size < w2.heap.size from hbk)).trans (unhide HR i hi))
                  by_cases hjm : (j : Int) < (nk : Int) - 1
                  · have hA1 := hcA j (by omega)
                    have hK1 := hcK j (by omega)
                    rw [flags_ne m ks n (by omega)] at hA1
                    have hjn : (j : Int) < nk := by omega
                    clear hcA hcK hnkm
                    go_wp2_with fail
                    go_quiet (fail)
                    go_wp2
                    go_roundw
                    case rel => exact ⟨j + 1, by have := Hnk.out; omega, by go_num, below_drewN hbr _⟩
                    case measure => simp [intOf]; omega
                  · have hA1 := hcA m (by omega)
                    rw [flags_last, hks] at hA1
                    have hlast := fun w => index_last Try.underlying22 info4 ba nk m nk Hnk.out w
                    have HB : Below w'.heap.size w' wr := hbw2.trans ((hb25.trans (hbr.mono (by omega))).mono (by omega))
                    clear hcA hcK hnkm
                    simp only [Bool.true_or] at hA1
                    go_wp2
                    go_ret
                    exact ⟨rfl, HB⟩
          · have hp : pre = [] := by rw [unhide Hpre, hks]; simp [hn0]
            have hnI : ¬ (0 : Int) < n := by omega
            have hpl : pre.length ≤ 1 := by rw [hp]; simp
            have HL3 : L3 w5 (ds ++ pre) es 0 vx wx := ⟨by rw [hp]; simpa [joinC] using hownW, hb6⟩
            clear hownW hb6 hp
            have Hn0 := hide hn0
            clear hn0
            go_wp2_with fail
            go_loopw [15, 16] (fun v i wr => ∃ j : Nat, j ≤ n ∧ i = .int .i64 j ∧ L3 w5 (ds ++ pre) es j v wr) (fun _ i _ => n - (intOf i).toNat)
            case atStart => exact ⟨0, Nat.zero_le _, rfl, HL3⟩
            case round =>
              obtain ⟨j, hj, rfl, hI⟩ := hrel
              have hlenP : (ds ++ pre ++ joinC false (es.take j)).length ≤ 2097152 := by
                have h1 := length_joinC false (es.take j)
                have h2 := total_take_le es j
                have h3 := Hnd.out
                rw [List.length_append, List.length_append]; omega
              by_cases hjl : j < n
              · exfalso; omega
              · have hjn : n = j := by omega
                subst hjn
                have hownW' := hI.own
                rw [unhide Hpre, L3_end ds (ks m) es n Hn.out] at hownW'
                have hbI := hI.below
                have hbD := bytes_of_own (own_below hownD5 hbI)
                have hbW := bytes_of_own hownW'
                clear hI hownW' HL3
                go_wp2_with fail
                refine (equal_same _ _ (ds ++ joinC (ks m) es) _ (by omega) hbD hbW).mono ?_
                rintro e wq ⟨rfl, hbq⟩
                have hb5q : Below w5.heap.size w5 wq := hbI.trans (hbq.mono hbI.size)
                clear hbD hbW hbq hbI hlenP
                go_wp2_with fail
                go_loopw [17] (fun i wr => ∃ j : Nat, j ≤ m ∧ i = .int .i64 j ∧ Below w5.heap.size w5 wr) (fun i _ => nk - (intOf i).toNat)
                case atStart => exact ⟨0, Nat.zero_le _, rfl, hb5q⟩
                case round =>
                  obtain ⟨j, hj, rfl, hbr⟩ := hrel
                  have hnkm := Hnk.out
                  have hcA : ∀ i, i < nk → wr.cell? ⟨ba, i, none⟩ = some (.bool (flags m ks n i)) := fun i hi => (hbr.cell (show ba < w5.heap.size from hs5)).trans (by rw [hownA.cellAt i (by omega)]; exact hLA i hi)
                  have hcK : ∀ i, i < nk → wr.cell? ⟨w'.heap.size, i, none⟩ = some (.bool (ks i)) := fun i hi => (hbr.cell (show w'.heap.size < w5.heap.size by omega)).trans ((hb25.cell (show w'.heap.size < w2.heap.size from hbk)).trans (unhide HR i hi))
                  by_cases hjm : (j : Int) < (nk : Int) - 1
                  · have hA1 := hcA j (by omega)
                    have hK1 := hcK j (by omega)
                    rw [flags_ne m ks n (by omega)] at hA1
                    have hjn : (j : Int) < nk := by omega
                    clear hcA hcK hnkm
                    go_wp2_with fail
                    go_quiet (fail)
                    go_wp2
                    go_roundw
                    case rel => exact ⟨j + 1, by have := Hnk.out; omega, by go_num, below_drewN hbr _⟩
                    case measure => simp [intOf]; omega
                  · have hA1 := hcA m (by omega)
                    rw [flags_last, hks] at hA1
                    have hlast := fun w => index_last Try.underlying22 info4 ba nk m nk Hnk.out w
                    have HB : Below w'.heap.size w' wr := hbw2.trans ((hb25.trans (hbr.mono (by omega))).mono (by omega))
                    clear hcA hcK hnkm
                    simp only [Bool.true_or] at hA1
                    go_wp2
                    go_ret
                    exact ⟨rfl, HB⟩
          · have hp : pre = [] := by rw [unhide Hpre, hks]; simp
            have hpl : pre.length ≤ 1 := by rw [hp]; simp
            have HL3 : L3 w5 (ds ++ pre) es 0 vx wx := ⟨by rw [hp]; simpa [joinC] using hownW, hb6⟩
            clear hownW hb6 hp
            go_wp2_with fail
            go_loopw [15, 16] (fun v i wr => ∃ j : Nat, j ≤ n ∧ i = .int .i64 j ∧ L3 w5 (ds ++ pre) es j v wr) (fun _ i _ => n - (intOf i).toNat)
            case atStart => exact ⟨0, Nat.zero_le _, rfl, HL3⟩
            case round =>
              obtain ⟨j, hj, rfl, hI⟩ := hrel
              have hlenP : (ds ++ pre ++ joinC false (es.take j)).length ≤ 2097152 := by
                have h1 := length_joinC false (es.take j)
                have h2 := total_take_le es j
                have h3 := Hnd.out
                rw [List.length_append, List.length_append]; omega
              by_cases hjl : j < n
              · have hjl' : j < es.length := by rw [Hn.out]; exact hjl
                have hix := fun w => index_run Try.underlying24 info23 cap ha hjl w
                obtain ⟨a', cap', b', off', eK, ha', hlt', hc'⟩ := hEw.2 j hjl'
                have HeK := hide eK
                have hls : (ds ++ pre ++ joinC false (es.take j)).length + 1 + (es.getD j []).length ≤ 4194304 := by
                  have h1 := length_joinC false (es.take (j + 1))
                  have h2 := total_take_le es (j + 1)
                  have h4 := total_take_succ hjl'
                  omega
                have hcx : ∀ W, Below w5.heap.size w5 W → W.cell? ⟨b, off + j, none⟩ = some (K j) := fun W hW => (hW.cell (show b < w5.heap.size by have := hlt (by omega); omega)).trans ((hb25.cell (show b < w2.heap.size by have := hlt (by omega); omega)).trans (unhide HC j hjl))
                have hcb : ∀ W, Below w5.heap.size w5 W → ∀ i, i < (es.getD j []).length → W.cell? ⟨b', off' + i, none⟩ = some (.int .u8 ((es.getD j []).getD i 0)) := fun W hW i hi => (hW.cell (show b' < w5.heap.size by have := hlt' (by omega); omega)).trans ((hb25.cell (show b' < w2.heap.size from hlt' (by omega))).trans (hc' i hi))
                have Hcx := hide hcx
                have Hcb := hide hcb
                have Hlt := hide hlt'
                have Hix := hide hix
                clear eK hcx hcb hlt' hc' hix
                by_cases hj0 : 0 < j
                · have hjI : (0 : Int) < j := by omega
                  go_wp2_with (first
                    | (at_builtin; refine wpList_append_byte rfl (.tmp 117) (.tmp 118) rfl w5.heap.size _ _ 44 rfl hI.own rfl (by omega) hI.below.size ?_; intro vz wz hownZ hgZ hmZ; have hbZ := hI.below.grown hgZ hI.below.size (fun q hq => own_ge hI.own hq); have hcz := unhide Hcx wz hbZ; have hix := unhide Hix)
                    | fail)
                  refine (append_any w5.heap.size vz (K j) _ (es.getD j []) wz (by rw [List.length_append, List.length_singleton]; omega) hownZ hbZ.size a' cap' b' off' (unhide HeK) ha' (fun h0 => ⟨by have := unhide Hlt h0; have := hbZ.size; omega, fun e => by have := own_ge hownZ e; have := unhide Hlt h0; omega⟩) (unhide Hcb wz hbZ)).mono ?_
                  rintro e w8 ⟨v2, rfl, p1, p2, p3⟩
                  have hI2 : L3 w5 (ds ++ pre) es (j + 1) v2 w8 := ⟨by rw [L3_step _ hjl']; simp only [hj0, decide_true, if_true]; exact p1, hbZ.grown p2 hbZ.size (fun q hq => own_ge hownZ hq)⟩
                  clear p1 p2 p3 hI hownZ hgZ hmZ hcz hix hbZ
                  go_wp2_with fail
                  go_roundw
                  case rel => exact ⟨j + 1, by omega, by go_num, hI2⟩
                  case measure => simp [intOf]; omega
                · have hjI : ¬ (0 : Int) < j := by omega
                  have hcz := unhide Hcx _ hI.below
                  have hix := unhide Hix
                  go_wp2_with fail
                  refine (append_any w5.heap.size _ (K j) _ (es.getD j []) _ (by omega) hI.own hI.below.size a' cap' b' off' (unhide HeK) ha' (fun h0 => ⟨by have := unhide Hlt h0; have := hI.below.size; omega, fun e => by have := own_ge hI.own e; have := unhide Hlt h0; omega⟩) (unhide Hcb _ hI.below)).mono ?_
                  rintro e w8 ⟨v2, rfl, p1, p2, p3⟩
                  have hI2 : L3 w5 (ds ++ pre) es (j + 1) v2 w8 := ⟨by rw [L3_step _ hjl']; simp only [hj0, decide_false, Bool.false_eq_true, if_false, List.append_nil]; exact p1, hI.below.grown p2 hI.below.size (fun q hq => own_ge hI.own hq)⟩
                  clear p1 p2 p3 hI hcz hix
                  go_wp2_with fail
                  go_roundw
                  case rel => exact ⟨j + 1, by omega, by go_num, hI2⟩
                  case measure => simp [intOf]; omega
              · have hjn : n = j := by omega
                subst hjn
                have hownW' := hI.own
                rw [unhide Hpre, L3_end ds (ks m) es n Hn.out] at hownW'
                have hbI := hI.below
                have hbD := bytes_of_own (own_below hownD5 hbI)
                have hbW := bytes_of_own hownW'
                clear hI hownW' HL3
                go_wp2_with fail
                refine (equal_same _ _ (ds ++ joinC (ks m) es) _ (by omega) hbD hbW).mono ?_
                rintro e wq ⟨rfl, hbq⟩
                have hb5q : Below w5.heap.size w5 wq := hbI.trans (hbq.mono hbI.size)
                clear hbD hbW hbq hbI hlenP
                go_wp2_with fail
                go_loopw [17] (fun i wr => ∃ j : Nat, j ≤ m ∧ i = .int .i64 j ∧ Below w5.heap.size w5 wr) (fun i _ => nk - (intOf i).toNat)
                case atStart => exact ⟨0, Nat.zero_le _, rfl, hb5q⟩
                case round =>
                  obtain ⟨j, hj, rfl, hbr⟩ := hrel
                  have hnkm := Hnk.out
                  have hcA : ∀ i, i < nk → wr.cell? ⟨ba, i, none⟩ = some (.bool (flags m ks n i)) := fun i hi => (hbr.cell (show ba < w5.heap.size from hs5)).trans (by rw [hownA.cellAt i (by omega)]; exact hLA i hi)
                  have hcK : ∀ i, i < nk → wr.cell? ⟨w'.heap.size, i, none⟩ = some (.bool (ks i)) := fun i hi => (hbr.cell (show w'.heap.size < w5.heap.size by omega)).trans ((hb25.cell (show w'.heap.size < w2.heap.size from hbk)).trans (unhide HR i hi))
                  by_cases hjm : (j : Int) < (nk : Int) - 1
                  · have hA1 := hcA j (by omega)
                    have hK1 := hcK j (by omega)
                    rw [flags_ne m ks n (by omega)] at hA1
                    have hjn : (j : Int) < nk := by omega
                    clear hcA hcK hnkm
                    go_wp2_with fail
                    go_quiet (fail)
                    go_wp2
                    go_roundw
                    case rel => exact ⟨j + 1, by have := Hnk.out; omega, by go_num, below_drewN hbr _⟩
                    case measure => simp [intOf]; omega
                  · have hA1 := hcA m (by omega)
                    rw [flags_last, hks] at hA1
                    have hlast := fun w => index_last Try.underlying22 info4 ba nk m nk Hnk.out w
                    have HB : Below w'.heap.size w' wr := hbw2.trans ((hb25.trans (hbr.mono (by omega))).mono (by omega))
                    clear hcA hcK hnkm
                    simp only [Bool.false_or] at hA1
                    rcases Nat.eq_zero_or_pos n with h0 | h0
                    · have hnI : ¬ (0 : Int) < n := by omega
                      have hd : decide (0 < n) = false := by simp; omega
                      rw [hd] at hA1
                      clear h0
                      go_wp2
                      go_ret
                      exact ⟨rfl, HB⟩
                    · have hnI : (0 : Int) < n := by omega
                      have hd : decide (0 < n) = true := by simp; omega
                      rw [hd] at hA1
                      clear h0
                      go_wp2
                      go_ret
                      exact ⟨rfl, HB⟩

end Go.Proofs.Qxb6616462a
