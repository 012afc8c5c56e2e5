/-
  The walk of zzBytes_FnCommaSeparatesKeptElements (4): it answers.
-/
import Derived.Test.Qxb6616462aComma
namespace Go.Proofs.Qxb6616462a
open Go.RowKit

/-- It returns a bool. -/
def Ans (e : Ending) : Prop := ∃ b : Bool, e = .returned (.bool b)

/-- A slice of slices of bytes. -/
def Elems (w : World) (v : Value) (es : List (List Int)) (K : Nat → Value) : Prop := Row w v es.length K ∧ ∀ j, j < es.length → Bytes w (K j) (es.getD j [])

theorem Elems.later {w w' : World} {v : Value} {es : List (List Int)} {K : Nat → Value} (h : Elems w v es K) (hb : Below w.heap.size w w') : Elems w' v es K :=
  ⟨h.1.later hb, fun j hj => (h.2 j hj).later hb⟩

set_option maxHeartbeats 400000 in
set_option maxRecDepth 100000 in
theorem within_any (a0 : Option Addr) (nk c0 : Nat) (a1 : Option Addr) (nd c1 : Nat) (ev : Value) (es : List (List Int)) (K : Nat → Value) (w : World) (h0 : nk ≤ 140737488351232) (h1 : nd ≤ 140737488351232) (h2 : es.length ≤ 140737488351232)
    (h3 : ∀ j, j < es.length → (es.getD j []).length ≤ 140737488351232) (hE : Elems w ev es K) :
    Calls Try.prog 4 #[.slice a0 nk c0, .slice a1 nd c1, ev] w fun e w' => Ans e ∧ w' = w := by
  obtain ⟨⟨a, cap, b, off, rfl, ha, hlt, hc⟩, hin⟩ := hE
  generalize hn : es.length = n at *
  clear hn
  by_cases t1 : (1048576 : Int) < nk
  · go_enter Try.func4, Try.ntmps4
    go_wp2
    go_ret
    exact ⟨⟨_, rfl⟩, rfl⟩
  by_cases t2 : (1048576 : Int) < nd
  · go_enter Try.func4, Try.ntmps4
    go_wp2
    go_ret
    exact ⟨⟨_, rfl⟩, rfl⟩
  by_cases t3 : (1048576 : Int) < (nk : Int) + nd
  · go_enter Try.func4, Try.ntmps4
    go_wp2
    go_ret
    exact ⟨⟨_, rfl⟩, rfl⟩
  by_cases t4 : (1048576 : Int) < n
  · go_enter Try.func4, Try.ntmps4
    go_wp2
    go_ret
    exact ⟨⟨_, rfl⟩, rfl⟩
  by_cases t5 : (1048576 : Int) < (nk : Int) + nd + n
  · go_enter Try.func4, Try.ntmps4
    go_wp2
    go_ret
    exact ⟨⟨_, rfl⟩, rfl⟩
  go_enter Try.func4, Try.ntmps4
  go_wp2
  go_loop [7, 8] (fun t i => ∃ (k : Nat) (q : Int), k ≤ n ∧ i = .int .i64 k ∧ t = .int .i64 q ∧ 0 ≤ q ∧ q ≤ 1048576) (fun _ i => n - (intOf i).toNat)
  case atStart => exact ⟨0, _, Nat.zero_le _, rfl, rfl, by omega, by omega⟩
  case round =>
    obtain ⟨k, q, hk, rfl, rfl, hq0, hq1⟩ := hrel
    by_cases hkl : k < n
    · have hix := fun w => index_run Try.underlying24 info23 cap ha hkl w
      have hcx := hc k hkl
      have hl := h3 k hkl
      obtain ⟨a', cap', b', off', eK, _⟩ := hin k hkl
      rw [eK] at hcx
      generalize (es.getD k []).length = m at *
      clear eK hin hc h3
      by_cases hbig : (1048576 : Int) < m
      · go_wp2
        go_ret
        exact ⟨⟨_, rfl⟩, rfl⟩
      by_cases hbig2 : (1048576 : Int) < q + m
      · go_wp2
        go_ret
        exact ⟨⟨_, rfl⟩, rfl⟩
      go_wp2
      go_round
      case rel => exact ⟨k + 1, _, by omega, by go_num, rfl, by omega, by omega⟩
      case measure => simp [intOf]; omega
    · go_wp2
      go_ret
      exact ⟨⟨_, rfl⟩, rfl⟩

end Go.Proofs.Qxb6616462a
