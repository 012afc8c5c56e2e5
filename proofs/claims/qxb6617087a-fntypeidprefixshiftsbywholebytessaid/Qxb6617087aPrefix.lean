/-
  The walks of (enc.TypeID).Prefix (5), beDecode (6), compareBytes (7).
-/
import Derived.Test.Qxb6617087aRows
import Derived.WalkKit
import Derived.WalkSpells
import Derived.WalkSmall
import Derived.Deep.QuietTactic
import Derived.BigQuiet
import Derived.Laws.Bits64b
namespace Go.Proofs.Qxb6617087a
open Go.RowKit

theorem hide {p : Prop} (h : p) : Hid p := h
theorem unhide {p : Prop} (h : Hid p) : p := h

/-- The eight bytes. -/
def pb (t : Int) : List Int := [t / 72057594037927936, t / 281474976710656 % 256, t / 1099511627776 % 256, t / 4294967296 % 256, t / 16777216 % 256, t / 65536 % 256, t / 256 % 256, t % 256]

/-- The k-th byte. -/
def byt (t : Int) (k : Nat) : Int := (pb t).getD k 0

/-- The block b holds the eight bytes of t. -/
def Pf (w : World) (b : Nat) (t : Int) : Prop := w.heap[b]? = some (.cells ((pb t).map (Value.int .u8)).toArray 5 (0, 0))

/-- The number that the first k bytes give. -/
def top (t : Int) (k : Nat) : Int := [0, t / 72057594037927936, t / 281474976710656, t / 1099511627776, t / 4294967296, t / 16777216, t / 65536, t / 256, t].getD k 0

theorem upto8 {k : Nat} (h : k < 8) : k = 0 ∨ k = 1 ∨ k = 2 ∨ k = 3 ∨ k = 4 ∨ k = 5 ∨ k = 6 ∨ k = 7 := by omega

theorem byt_range (t : Int) (h0 : 0 ≤ t) (h1 : t < 18446744073709551616) {k : Nat} (h : k < 8) : 0 ≤ byt t k ∧ byt t k < 256 := by
  rcases upto8 h with rfl | rfl | rfl | rfl | rfl | rfl | rfl | rfl <;> simp [byt, pb] <;> omega

theorem top_step (t : Int) {k : Nat} (h : k < 8) : top t (k + 1) = top t k * 256 + byt t k := by
  rcases upto8 h with rfl | rfl | rfl | rfl | rfl | rfl | rfl | rfl <;> simp [byt, pb, top] <;> omega

theorem top_range (t : Int) (h0 : 0 ≤ t) (h1 : t < 18446744073709551616) {k : Nat} (h : k < 8) : 0 ≤ top t k ∧ top t k < 72057594037927936 := by
  rcases upto8 h with rfl | rfl | rfl | rfl | rfl | rfl | rfl | rfl <;> simp [top] <;> omega

theorem top_lt (t u : Int) {k : Nat} (h : k < 8) (hlt : top t (k + 1) < top u (k + 1)) : t < u := by
  rcases upto8 h with rfl | rfl | rfl | rfl | rfl | rfl | rfl | rfl <;> simp [top] at hlt <;> omega

theorem Pf.cell {w : World} {b : Nat} {t : Int} (h : Pf w b t) {k : Nat} (hk : k < 8) : w.cell? ⟨b, k, none⟩ = some (.int .u8 (byt t k)) := by
  rw [cell_of_row w b k _ 5 (0, 0) h]
  rcases upto8 hk with rfl | rfl | rfl | rfl | rfl | rfl | rfl | rfl <;> rfl

theorem Pf.lt {w : World} {b : Nat} {t : Int} (h : Pf w b t) : b < w.heap.size := (Array.getElem?_eq_some_iff.1 h).1
theorem Pf.q {w : World} {b : Nat} {t : Int} (h : Pf w b t) (q : Nat) : Pf (w.drewN q) b t := h
theorem grown_q {W w : World} (h : Grown W w) (q : Nat) : Grown W (w.drewN q) := h

theorem info5 : (Try.prog.info? 5).map (fun i => (i.zero, i.size, i.bytes)) = some (some (.int .u8 0), 1, 1) := by kernel_rfl
theorem size5 (w : World) : (sizeOf 5).run Try.prog w = .ok 1 w := by
  obtain ⟨i, hi, _, h1, _⟩ := info_parts info5
  simp [sizeOf, typeInfo, hi, h1]

/-- An index inside the eight bytes. -/
theorem index_run (b k : Nat) (hk : k < 8) (w : World) : (Instr.indexAt 23 (.slice (some ⟨b, 0, none⟩) 8 8) (.int .i64 k)).run Try.prog w = .ok (.pointer (some ⟨b, k, none⟩)) w := by
  have hs := size5 w
  simp [Instr.indexAt, asIntOf, run_underlying Try.underlying23, hs, Result.andThen, hk, Addr.add]
  exact fun h => h.symm

/-- What Prefix leaves. -/
def PfPost (t : Int) (w : World) (e : Ending) (w' : World) : Prop :=
  e = .returned (.slice (some ⟨w.heap.size, 0, none⟩) 8 8) ∧ Pf w' w.heap.size t ∧ Below w.heap.size w w' ∧ ∀ W, Grown W w → Grown W w'

theorem prefix_any (t : Int) (h0 : 0 ≤ t) (h1 : t < 18446744073709551616) (w : World) : Calls Try.prog 5 #[.int .u64 t] w (PfPost t w) := by
  go_enter Try.func5, Try.ntmps5
  go_wp2
  go_ret
  exact ⟨rfl, heap_alloc_new w _, (Below.refl _ _).alloc (Nat.le_refl _) _, fun W h => h.alloc _ _⟩

theorem or_sum (v x : Int) (hv : 0 ≤ v ∧ v < 72057594037927936) (hx : 0 ≤ x ∧ x < 256) : bits .or .u64 (v * 256) x = v * 256 + x := by
  obtain ⟨n, rfl⟩ := Int.eq_ofNat_of_zero_le hv.1
  obtain ⟨m, rfl⟩ := Int.eq_ofNat_of_zero_le hx.1
  have e : ((n : Int) * 256) = ((n * 256 : Nat) : Int) := by omega
  rw [e, bits_or_u64_nat (n * 256) m (by omega) (by omega)]
  have h2 : n * 256 ||| m = n * 256 + m := by
    have := Nat.shiftLeft_add_eq_or_of_lt (i := 8) (b := m) (by omega) n
    rw [Nat.shiftLeft_eq] at this
    exact this.symm
  rw [h2]
  omega

set_option maxRecDepth 100000 in
/-- beDecode reads the number back. -/
theorem decode_any (b : Nat) (t : Int) (h0 : 0 ≤ t) (h1 : t < 18446744073709551616) (w : World) (h : Pf w b t) : Calls Try.prog 6 #[.slice (some ⟨b, 0, none⟩) 8 8] w fun e w' => e = .returned (.int .u64 t) ∧ w' = w := by
  have H0 := hide h0
  have H1 := hide h1
  have HB := hide h
  clear h h0 h1
  go_enter Try.func6, Try.ntmps6
  go_wp2
  go_loopw [3, 4] (fun v i wr => ∃ k : Nat, k ≤ 8 ∧ i = .int .i64 k ∧ v = .int .u64 (top t k) ∧ wr = w) (fun _ i _ => 8 - (intOf i).toNat)
  case atStart => exact ⟨0, Nat.zero_le _, rfl, rfl, rfl⟩
  case round =>
    obtain ⟨k, hk, rfl, rfl, rfl⟩ := hrel
    by_cases hkl : (k : Int) < 8
    · have hc := (unhide HB).cell (k := k) (by omega)
      have hix := fun w => index_run b k (by omega) w
      have hv := top_range t (unhide H0) (unhide H1) (k := k) (by omega)
      have hx := byt_range t (unhide H0) (unhide H1) (k := k) (by omega)
      have hor := or_sum (top t k) (byt t k) hv hx
      have hst := hide (top_step t (k := k) (by omega))
      generalize top t k = v at *
      generalize byt t k = x at *
      go_wp2
      go_roundw
      case rel => exact ⟨k + 1, by omega, by go_num, by rw [unhide hst], trivial⟩
      case measure => simp [intOf]; omega
    · obtain rfl : k = 8 := by omega
      go_wp2
      go_ret
      exact ⟨rfl, rfl⟩

theorem two_draws (w : World) (a b : Nat) : ∃ q, (w.drewN a).drewN b = w.drewN q := ⟨a + b, by simp⟩

/-- What compareBytes says. -/
def CmpPost (t u : Int) (w : World) (e : Ending) (w' : World) : Prop :=
  ∃ c : Int, e = .returned (.int .i64 c) ∧ ((t < u ∧ c = -1) ∨ (u < t ∧ c = 1) ∨ (t = u ∧ c = 0)) ∧ ∃ q, w' = w.drewN q

set_option maxRecDepth 100000 in
/-- compareBytes orders as the numbers. -/
theorem compare_any (b1 b2 : Nat) (t u : Int) (h0 : 0 ≤ t) (h1 : t < 18446744073709551616) (h2 : 0 ≤ u) (h3 : u < 18446744073709551616) (w : World) (hb1 : Pf w b1 t) (hb2 : Pf w b2 u) :
    Calls Try.prog 7 #[.slice (some ⟨b1, 0, none⟩) 8 8, .slice (some ⟨b2, 0, none⟩) 8 8] w (CmpPost t u w) := by
  have H0 := hide h0
  have H1 := hide h1
  have H2 := hide h2
  have H3 := hide h3
  have HB1 := hide hb1
  have HB2 := hide hb2
  clear hb1 hb2 h0 h1 h2 h3
  go_enter Try.func7, Try.ntmps7
  go_wp2
  go_loopw [6] (fun i wr => ∃ k : Nat, k ≤ 8 ∧ i = .int .i64 k ∧ Hid (top t k = top u k) ∧ ∃ q, wr = w.drewN q) (fun i _ => 8 - (intOf i).toNat)
  case atStart => exact ⟨0, Nat.zero_le _, rfl, rfl, 0, rfl⟩
  case round =>
    obtain ⟨k, hk, rfl, HT, q, rfl⟩ := hrel
    by_cases hkl : (k : Int) < 8
    · have hc1 := (unhide HB1).cell (k := k) (by omega)
      have hc2 := (unhide HB2).cell (k := k) (by omega)
      have hix1 := fun w => index_run b1 k (by omega) w
      have hix2 := fun w => index_run b2 k (by omega) w
      have hx := byt_range t (unhide H0) (unhide H1) (k := k) (by omega)
      have hy := byt_range u (unhide H2) (unhide H3) (k := k) (by omega)
      have hs1 := hide (top_step t (k := k) (by omega))
      have hs2 := hide (top_step u (k := k) (by omega))
      have HTU := hide (top_lt t u (k := k) (by omega))
      have HUT := hide (top_lt u t (k := k) (by omega))
      generalize byt t k = x at *
      generalize byt u k = y at *
      by_cases hlt : x < y
      · have hp := hide (unhide HTU (by rw [unhide hs1, unhide hs2, unhide HT]; omega))
        go_wp2_with fail
        go_quiet (fail)
        go_wp2
        go_ret
        exact ⟨-1, rfl, Or.inl ⟨unhide hp, rfl⟩, two_draws _ _ _⟩
      · by_cases hgt : y < x
        · have hp := hide (unhide HUT (by rw [unhide hs1, unhide hs2, unhide HT]; omega))
          go_wp2_with fail
          go_quiet (fail)
          go_wp2_with fail
          go_quiet (fail)
          go_wp2
          go_ret
          exact ⟨1, rfl, Or.inr (Or.inl ⟨unhide hp, rfl⟩), _, by simp; rfl⟩
        · obtain rfl : x = y := by omega
          have hp := hide (show top t (k + 1) = top u (k + 1) by rw [unhide hs1, unhide hs2, unhide HT])
          go_wp2_with fail
          go_quiet (fail)
          go_wp2_with fail
          go_quiet (fail)
          go_wp2
          go_roundw
          case rel => exact ⟨k + 1, by omega, by go_num, hp, _, rfl⟩
          case measure => simp [intOf]; omega
    · obtain rfl : k = 8 := by omega
      go_wp2
      go_ret
      exact ⟨0, rfl, Or.inr (Or.inr ⟨unhide HT, rfl⟩), q, rfl⟩

end Go.Proofs.Qxb6617087a
