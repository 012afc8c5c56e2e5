/-
  The walk of zzEqualBytes (10) at equal bytes; zzBytes_.. (4) answers.
-/
import Derived.Test.Qxb6616462aCopy
namespace Go.Proofs.Qxb6616462a
open Go.RowKit

set_option maxRecDepth 100000 in
theorem equal_same (va vb : Value) (bs : List Int) (w : World) (hlen : bs.length ≤ 4194304) (h1 : Bytes w va bs) (h2 : Bytes w vb bs) :
    Calls Try.prog 10 #[va, vb] w fun e w' => e = .returned (.bool true) ∧ Below w.heap.size w w' := by
  obtain ⟨a1, cap1, b1, off1, rfl, ha1, hlt1, hc1⟩ := h1
  obtain ⟨a2, cap2, b2, off2, rfl, ha2, hlt2, hc2⟩ := h2
  generalize hn : bs.length = n at *
  clear hn
  go_enter Try.func10, Try.ntmps10
  go_wp2
  go_loopw [5] (fun i wr => ∃ k : Nat, k ≤ n ∧ i = .int .i64 k ∧ Below w.heap.size w wr) (fun i _ => n - (intOf i).toNat)
  case atStart => exact ⟨0, Nat.zero_le _, rfl, Below.refl _ _⟩
  case round =>
    obtain ⟨k, hk, rfl, hb⟩ := hrel
    by_cases hkl : k < n
    · have hix1 := fun w => index_run Try.underlying23 info5 cap1 ha1 hkl w
      have hix2 := fun w => index_run Try.underlying23 info5 cap2 ha2 hkl w
      have hcx1 : wr.cell? ⟨b1, off1 + k, none⟩ = some (.int .u8 (bs.getD k 0)) := (hb.cell (by exact hlt1 (by omega))).trans (hc1 k hkl)
      have hcx2 : wr.cell? ⟨b2, off2 + k, none⟩ = some (.int .u8 (bs.getD k 0)) := (hb.cell (by exact hlt2 (by omega))).trans (hc2 k hkl)
      generalize bs.getD k 0 = x at *
      clear hc1 hc2
      go_wp2_with fail
      go_quiet (fail)
      go_wp2
      go_roundw
      case rel => exact ⟨k + 1, by omega, by go_num, below_drewN hb _⟩
      case measure => simp [intOf]; omega
    · go_wp2
      go_ret
      exact ⟨rfl, hb⟩

end Go.Proofs.Qxb6616462a
