/-
  The walk of FnCommaSeparatesKeptElements (3), at no level; the walks under one head.
-/
import Derived.Test.Qxb6616462aLawWalk
namespace Go.Proofs.Qxb6616462a
open Go.RowKit

set_option maxHeartbeats 1000000 in
set_option maxRecDepth 100000 in
theorem law_nil (c0 : Nat) (a1 : Option Addr) (c1 : Nat) (ds : List Int) (ev : Value) (es : List (List Int)) (K : Nat → Value) (w : World)
    (r1 : ds.length ≤ 140737488351232) (r2 : es.length ≤ 140737488351232) (r3 : ∀ j, j < es.length → (es.getD j []).length ≤ 140737488351232) (hE : Elems w ev es K) :
    Calls Try.prog 3 #[.slice none 0 c0, .slice a1 ds.length c1, ev] w fun e w' => e = .returned (.bool true) ∧ Below w.heap.size w w' := by
  have hne := fun w => neq22 none 0 c0 w
  simp only [Option.isNone_none, Bool.not_true] at hne
  have hW := within_any none 0 c0 a1 ds.length c1 ev es K w (by omega) r1 r2 r3 hE
  obtain ⟨⟨a, cap, b, off, rfl, ha, hlt, hc⟩, hin⟩ := hE
  generalize hn : es.length = n at *
  have Hn : Hid (es.length = n) := hn
  clear hn
  generalize hnd : ds.length = nd at *
  clear hnd
  have HW := hide hW
  clear hW
  go_enter Try.func3, Try.ntmps3
  go_wp2_with fail
  refine (unhide HW).mono ?_
  rintro e w' ⟨⟨ok, rfl⟩, hw⟩
  subst hw
  clear HW
  cases ok
  · go_wp2_with fail
    go_ret
    exact ⟨rfl, Below.refl _ _⟩
  by_cases t2 : (1048576 : Int) < nd
  · go_wp2_with fail
    go_ret
    exact ⟨rfl, Below.refl _ _⟩
  by_cases t3 : (1048576 : Int) < n
  · go_wp2_with fail
    go_ret
    exact ⟨rfl, Below.refl _ _⟩
  go_wp2_with fail
  have hcw := hc
  have HB : Below w'.heap.size w' w' := Below.refl _ _
  clear hc hne
  go_loop [8, 9] (fun t i => ∃ k : Nat, k ≤ n ∧ i = .int .i64 k ∧ t = .int .i64 ((nd : Int) + total (es.take k)) ∧ (nd : Int) + total (es.take k) ≤ 1048576) (fun _ i => n - (intOf i).toNat)
  case atStart => exact ⟨0, Nat.zero_le _, rfl, by simp [total], by simp [total]; omega⟩
  case round =>
    obtain ⟨k, hk, rfl, rfl, hq⟩ := hrel
    by_cases hkl : k < n
    · have hix := fun w => index_run Try.underlying24 info23 cap ha hkl w
      have hcx := hcw k hkl
      have hl := r3 k hkl
      obtain ⟨a', cap', b', off', eK, _⟩ := hin k hkl
      rw [eK] at hcx
      have HT := hide (total_take_succ (es := es) (k := k) (by rw [Hn.out]; exact hkl))
      generalize (es.getD k []).length = ne at *
      generalize hq0 : total (es.take k) = q at *
      clear eK hq0 hin hcw r3
      by_cases hbig : (1048576 : Int) < (nd : Int) + q + (24 + ne)
      · go_wp2
        go_ret
        exact ⟨rfl, HB⟩
      go_wp2
      go_round
      case rel => exact ⟨k + 1, by omega, by go_num, by rw [unhide HT]; congr 1; omega, by rw [unhide HT]; omega⟩
      case measure => simp [intOf]; omega
    · go_wp2
      go_ret
      exact ⟨rfl, HB⟩

set_option maxHeartbeats 1000000 in
set_option maxRecDepth 100000 in
theorem law_empty (ad : Addr) (c0 : Nat) (a1 : Option Addr) (c1 : Nat) (ds : List Int) (ev : Value) (es : List (List Int)) (K : Nat → Value) (w : World)
    (r1 : ds.length ≤ 140737488351232) (r2 : es.length ≤ 140737488351232) (r3 : ∀ j, j < es.length → (es.getD j []).length ≤ 140737488351232) (hE : Elems w ev es K) :
    Calls Try.prog 3 #[.slice (some ad) 0 c0, .slice a1 ds.length c1, ev] w fun e w' => e = .returned (.bool true) ∧ Below w.heap.size w w' := by
  obtain ⟨i0, hi, hz0, hz1, hz2⟩ := info_parts info4
  have hne := fun w => neq22 (some ad) 0 c0 w
  simp only [Option.isNone_some, Bool.not_false] at hne
  have hW := within_any (some ad) 0 c0 a1 ds.length c1 ev es K w (by omega) r1 r2 r3 hE
  obtain ⟨⟨a, cap, b, off, rfl, ha, hlt, hc⟩, hin⟩ := hE
  generalize hn : es.length = n at *
  have Hn : Hid (es.length = n) := hn
  clear hn
  generalize hnd : ds.length = nd at *
  clear hnd
  have HW := hide hW
  clear hW
  go_enter Try.func3, Try.ntmps3
  go_wp2_with fail
  refine (unhide HW).mono ?_
  rintro e w' ⟨⟨ok, rfl⟩, hw⟩
  subst hw
  clear HW
  cases ok
  · go_wp2_with fail
    go_ret
    exact ⟨rfl, Below.refl _ _⟩
  by_cases t2 : (1048576 : Int) < nd
  · go_wp2_with fail
    go_ret
    exact ⟨rfl, Below.refl _ _⟩
  by_cases t3 : (1048576 : Int) < n
  · go_wp2_with fail
    go_ret
    exact ⟨rfl, Below.refl _ _⟩
  go_wp2_with (first
    | (at_make; refine wpList_make_full _ rfl _ _ 22 rfl w'.heap.size 4 i0 (.bool false) 1 Try.underlying22 hi hz0 hz1 _ _ _ _ 0 rfl rfl rfl rfl (by rw [hz2]; omega) (by unfold maxLen; omega) (Nat.le_refl _) ?_; intro w1 hown1 hg1)
    | (refine wpList_copy_nothing rfl (.tmp 41) (.tmp 42) 22 22 rfl 4 Try.underlying22 sz4 _ _ 0 0 0 c0 rfl rfl rfl ?_)
    | fail)
  have hb2 := below_of_grown hg1
  have hcw : ∀ j, j < n → w1.cell? ⟨b, off + j, none⟩ = some (K j) := fun j hj => (hb2.cell (by exact hlt (by omega))).trans (hc j hj)
  have HB := hb2
  clear hown1 hg1 hne hc
  go_loop [8, 9] (fun t i => ∃ k : Nat, k ≤ n ∧ i = .int .i64 k ∧ t = .int .i64 ((nd : Int) + total (es.take k)) ∧ (nd : Int) + total (es.take k) ≤ 1048576) (fun _ i => n - (intOf i).toNat)
  case atStart => exact ⟨0, Nat.zero_le _, rfl, by simp [total], by simp [total]; omega⟩
  case round =>
    obtain ⟨k, hk, rfl, rfl, hq⟩ := hrel
    by_cases hkl : k < n
    · have hix := fun w => index_run Try.underlying24 info23 cap ha hkl w
      have hcx := hcw k hkl
      have hl := r3 k hkl
      obtain ⟨a', cap', b', off', eK, _⟩ := hin k hkl
      rw [eK] at hcx
      have HT := hide (total_take_succ (es := es) (k := k) (by rw [Hn.out]; exact hkl))
      generalize (es.getD k []).length = ne at *
      generalize hq0 : total (es.take k) = q at *
      clear eK hq0 hin hcw r3
      by_cases hbig : (1048576 : Int) < (nd : Int) + q + (24 + ne)
      · go_wp2
        go_ret
        exact ⟨rfl, HB⟩
      go_wp2
      go_round
      case rel => exact ⟨k + 1, by omega, by go_num, by rw [unhide HT]; congr 1; omega, by rw [unhide HT]; omega⟩
      case measure => simp [intOf]; omega
    · go_wp2
      go_ret
      exact ⟨rfl, HB⟩

end Go.Proofs.Qxb6616462a
