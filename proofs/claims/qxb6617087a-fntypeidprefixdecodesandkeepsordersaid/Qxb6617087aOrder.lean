/-
  FnTypeIDPrefixDecodesAndKeepsOrder (3): the law's walk.
-/
import Derived.Test.Qxb6617087aPrefix
namespace Go.Proofs.Qxb6617087a
open Go.RowKit

theorem of_wf {t : Int} (h : (Lit.int .u64 t).wf = true) : 0 ≤ t ∧ t < 18446744073709551616 := by
  have h' : IntKind.u64.min ≤ t ∧ t ≤ IntKind.u64.max := by simpa [Lit.wf] using h
  have e1 : IntKind.u64.min = 0 := by decide
  have e2 : IntKind.u64.max = 18446744073709551615 := by decide
  omega

set_option maxRecDepth 100000 in
theorem order_walk (t u : Int) (h0 : 0 ≤ t) (h1 : t < 18446744073709551616) (h2 : 0 ≤ u) (h3 : u < 18446744073709551616) (w : World) :
    Calls Try.prog 3 #[.int .u64 t, .int .u64 u] w fun e w' => e = .returned (.bool true) ∧ Grown w w' := by
  go_enter Try.func3, Try.ntmps3
  go_wp2_with fail
  refine (prefix_any t h0 h1 w).mono ?_
  rintro e w1 ⟨rfl, p1, b1, g1⟩
  go_wp2_with fail
  refine (prefix_any u h2 h3 w1).mono ?_
  rintro e w2 ⟨rfl, p2, b2, g2⟩
  have p1' : Pf w2 w.heap.size t := (b2.block _ p1.lt).trans p1
  have HG := hide (g2 w (g1 w (Grown.refl w)))
  have HD1 := hide (decode_any _ t h0 h1 w2 p1')
  have HD2 := hide (decode_any _ u h2 h3 w2 p2)
  have HC := hide (compare_any _ _ t u h0 h1 h2 h3 w2 p1' p2)
  clear p1 p2 b1 b2 g1 g2 p1'
  generalize w.heap.size = i1 at *
  generalize w1.heap.size = i2 at *
  go_wp2_with fail
  refine (unhide HD1).mono ?_
  rintro e w3 ⟨rfl, hw⟩
  subst hw
  go_wp2_with fail
  refine (unhide HD2).mono ?_
  rintro e w4 ⟨rfl, hw⟩
  subst hw
  go_wp2_with fail
  refine (unhide HC).mono ?_
  rintro e w5 ⟨c, rfl, hc, q, hw⟩
  subst hw
  clear HC HD1 HD2
  rcases hc with ⟨hc, rfl⟩ | ⟨hc, rfl⟩ | ⟨hc, rfl⟩
  · go_wp2
    go_ret
    exact ⟨rfl, grown_q (unhide HG) _⟩
  · have hn : ¬ t < u := by omega
    go_wp2
    go_ret
    exact ⟨rfl, grown_q (unhide HG) _⟩
  · subst hc
    go_wp2
    go_ret
    exact ⟨rfl, grown_q (unhide HG) _⟩

end Go.Proofs.Qxb6617087a
