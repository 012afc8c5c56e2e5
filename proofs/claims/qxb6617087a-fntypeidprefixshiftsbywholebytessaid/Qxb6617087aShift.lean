/-
  FnTypeIDPrefixShiftsByWholeBytes (4): the law's walk.
-/
import Derived.Test.Qxb6617087aPrefix
namespace Go.Proofs.Qxb6617087a
open Go.RowKit

theorem upto7 {k : Nat} (h : k < 7) : k = 0 ∨ k = 1 ∨ k = 2 ∨ k = 3 ∨ k = 4 ∨ k = 5 ∨ k = 6 := by omega

/-- t << 8. -/
def up (t : Int) : Int := t * 256 % 18446744073709551616

theorem up_range (t : Int) : 0 ≤ up t ∧ up t < 18446744073709551616 := by unfold up; omega

theorem up_byte (t : Int) {k : Nat} (h : k < 7) : byt (up t) k = byt t (k + 1) := by
  rcases upto7 h with rfl | rfl | rfl | rfl | rfl | rfl | rfl <;> simp [byt, pb, up] <;> omega

theorem up_last (t : Int) : byt (up t) 7 = 0 := by simp [byt, pb, up]

theorem down_first (t : Int) (h0 : 0 ≤ t) (h1 : t < 18446744073709551616) : byt (t / 256) 0 = 0 := by simp [byt, pb]; omega

theorem down_byte (t : Int) (h0 : 0 ≤ t) (h1 : t < 18446744073709551616) {k : Nat} (h : k < 7) : byt (t / 256) (k + 1) = byt t k := by
  rcases upto7 h with rfl | rfl | rfl | rfl | rfl | rfl | rfl <;> simp [byt, pb] <;> omega

theorem byt_last (t : Int) : byt t 7 = t % 256 := rfl

set_option maxRecDepth 100000 in
theorem shift_walk (t : Int) (h0 : 0 ≤ t) (h1 : t < 18446744073709551616) (w : World) :
    Calls Try.prog 4 #[.int .u64 t] w fun e w' => e = .returned (.bool true) ∧ Grown w w' := by
  have HU := hide (fun w => prefix_any (up t) (up_range t).1 (up_range t).2 w)
  have HD := hide (fun w => prefix_any (t / 256) (by omega) (by omega) w)
  go_enter Try.func4, Try.ntmps4
  go_wp2_with fail
  refine (prefix_any t h0 h1 w).mono ?_
  rintro e w1 ⟨rfl, p1, b1, g1⟩
  go_wp2_with fail
  refine (unhide HU w1).mono ?_
  rintro e w2 ⟨rfl, p2, b2, g2⟩
  go_wp2_with fail
  refine (unhide HD w2).mono ?_
  rintro e w3 ⟨rfl, p3, b3, g3⟩
  have q2 : Pf w3 w1.heap.size (up t) := (b3.block _ p2.lt).trans p2
  have q1 : Pf w3 w.heap.size t := ((b3.mono b2.size).block _ p1.lt).trans ((b2.block _ p1.lt).trans p1)
  have HG := hide (g3 w (g2 w (g1 w (Grown.refl w))))
  have HL := hide q2
  have HA := hide q1
  have HR := hide p3
  clear p1 p2 p3 b1 b2 b3 g1 g2 g3 q1 q2 HU HD
  generalize w.heap.size = i1 at *
  generalize w1.heap.size = i2 at *
  generalize w2.heap.size = i3 at *
  go_wp2_with fail
  go_loopw [6] (fun i wr => ∃ k : Nat, k ≤ 7 ∧ i = .int .i64 k ∧ ∃ q, wr = w3.drewN q) (fun i _ => 7 - (intOf i).toNat)
  case atStart => exact ⟨0, Nat.zero_le _, rfl, 0, rfl⟩
  case round =>
    obtain ⟨k, hk, rfl, q, rfl⟩ := hrel
    by_cases hkl : (k : Int) < 7
    · have hc1 := (unhide HL).cell (k := k) (by omega)
      have hc2 := (unhide HA).cell (k := k + 1) (by omega)
      rw [up_byte t (by omega)] at hc1
      have hix1 := fun w => index_run i2 k (by omega) w
      have hix2 := fun w => index_run i1 (k + 1) (by omega) w
      have e1 : ((k + 1 : Nat) : Int) = (k : Int) + 1 := by omega
      rw [e1] at hix2
      clear e1
      generalize byt t (k + 1) = x at *
      go_wp2_with fail
      go_quiet (fail)
      go_wp2
      go_roundw
      case rel => exact ⟨k + 1, by omega, by go_num, _, rfl⟩
      case measure => simp [intOf]; omega
    · have hc1 := (unhide HL).cell (k := 7) (by omega)
      have hc2 := (unhide HR).cell (k := 0) (by omega)
      rw [up_last] at hc1
      rw [down_first t h0 h1] at hc2
      obtain rfl : k = 7 := by omega
      go_wp2_with fail
      go_loopw [7] (fun i wr => ∃ j : Nat, 1 ≤ j ∧ j ≤ 8 ∧ i = .int .i64 j ∧ ∃ q, wr = w3.drewN q) (fun i _ => 8 - (intOf i).toNat)
      case atStart => exact ⟨1, Nat.le_refl _, by omega, rfl, q, rfl⟩
      case round =>
        obtain ⟨j, hj1, hj, rfl, q2, rfl⟩ := hrel
        clear hc1 hc2
        by_cases hjl : (j : Int) < 8
        · obtain ⟨k, rfl⟩ : ∃ k, j = k + 1 := ⟨j - 1, by omega⟩
          have hc1 := (unhide HR).cell (k := k + 1) (by omega)
          have hc2 := (unhide HA).cell (k := k) (by omega)
          rw [down_byte t h0 h1 (by omega)] at hc1
          have hix1 := fun w => index_run i3 (k + 1) (by omega) w
          have hix2 := fun w => index_run i1 k (by omega) w
          have e1 : (k : Int) = ((k + 1 : Nat) : Int) - 1 := by omega
          rw [e1] at hix2
          clear e1
          generalize byt t k = x at *
          go_wp2_with fail
          go_quiet (fail)
          go_wp2
          go_roundw
          case rel => exact ⟨k + 1 + 1, by omega, by omega, by go_num, _, rfl⟩
          case measure => simp [intOf]; omega
        · have hc1 := (unhide HA).cell (k := 7) (by omega)
          rw [byt_last] at hc1
          obtain rfl : j = 8 := by omega
          go_wp2
          go_ret
          exact ⟨rfl, grown_q (unhide HG) _⟩

end Go.Proofs.Qxb6617087a
