/-
  The walk of FnInputSourcesJoinAtAnyCut (4) at no name, and the two walks under one head.
-/
import Derived.Test.Qxb6616271aLaw4
namespace Go.Proofs.Qxb6616271a
open Go.RowKit Go.Maps

theorem add_zero (a : Option Addr) : (a.map fun x => x.add 0) = a := by
  cases a with
  | none => rfl
  | some x => simp [Addr.add]

theorem cut_left (a : Option Addr) (cap : Nat) (w : World) : (Instr.slice 22 (.slice a 0 cap) none (some (.int .i64 0)) none).run Try.prog w = .ok (.slice a 0 cap) w := by
  simp [Instr.slice, Instr.sliceBounds, Instr.sliceBound, run_underlying Try.underlying22, asIntOf, Result.andThen, add_zero]
theorem cut_right (a : Option Addr) (cap : Nat) (w : World) : (Instr.slice 22 (.slice a 0 cap) (some (.int .i64 0)) none none).run Try.prog w = .ok (.slice a 0 cap) w := by
  simp [Instr.slice, Instr.sliceBounds, Instr.sliceBound, run_underlying Try.underlying22, asIntOf, Result.andThen, add_zero]

set_option maxHeartbeats 1000000 in
set_option maxRecDepth 100000 in
theorem join_none {H : Type} (a : Option Addr) (cap : Nat) (cut : Int) (gm tm : Option Nat) (g t : Lit → Bool) (ng nt : Nat) (w : World)
    (hlg : Looks w.heap.size w gm g) (hlt : Looks w.heap.size w tm t)
    (hng : ∀ ty, (Builtin.len_ #[23] ty #[.map gm]).run Try.prog w = .ok (.int .i64 ng) w) (hnt : ∀ ty, (Builtin.len_ #[23] ty #[.map tm]).run Try.prog w = .ok (.int .i64 nt) w) :
    Calls Try.prog 4 #[.slice a 0 cap, .int .i64 cut, .map gm, .map tm] w fun e w' => e = .returned (.bool true) ∧ Below w.heap.size w w' := by
  have hst : Strs w a 0 [] := ⟨rfl, by simp, fun h => absurd h (by omega)⟩
  by_cases hneg : cut < 0
  · go_enter Try.func4, Try.ntmps4
    go_wp2_with fail
    refine (within_strs _ 0 cap gm tm ng nt [] _ (by omega) hst hng hnt).mono ?_
    rintro e w' ⟨⟨ok, rfl⟩, hw⟩
    subst hw
    cases ok
    all_goals
      go_wp2_with fail
      go_ret
      exact ⟨rfl, Below.refl _ _⟩
  by_cases hbig : 0 < cut
  · go_enter Try.func4, Try.ntmps4
    go_wp2_with fail
    refine (within_strs _ 0 cap gm tm ng nt [] _ (by omega) hst hng hnt).mono ?_
    rintro e w' ⟨⟨ok, rfl⟩, hw⟩
    subst hw
    cases ok
    all_goals
      go_wp2_with fail
      go_ret
      exact ⟨rfl, Below.refl _ _⟩
  obtain rfl : cut = 0 := by omega
  clear hneg hbig
  have hcl := cut_left a cap
  have hcr := cut_right a cap
  go_enter Try.func4, Try.ntmps4
  go_wp2_with fail
  refine (within_strs _ 0 cap gm tm ng nt [] _ (by omega) hst hng hnt).mono ?_
  rintro e w' ⟨⟨ok, rfl⟩, hw⟩
  subst hw
  clear hng hnt
  cases ok
  · go_wp2_with fail
    go_ret
    exact ⟨rfl, Below.refl _ _⟩
  go_wp2_with fail
  refine (inputs_strs (H := H) _ 0 _ [] _ (by omega) hst).mono ?_
  rintro e w1 ⟨rfl, hown1, hb1⟩
  have hsz1 := hb1.size
  go_wp2_with fail
  refine (sources_any (H := H) _ 0 gm tm g t _ _ hown1 (by unfold maxLen; omega) (hlg.later hb1 hsz1) (hlt.later hb1 hsz1)).mono ?_
  rintro e w2 ⟨rfl, hownW, hb2⟩
  have hbw2 := hb1.trans (hb2.mono hsz1)
  have hsz2 := hbw2.size
  clear hown1 hb1 hb2
  go_wp2_with fail
  refine (inputs_strs (H := H) _ 0 _ [] _ (by omega) (hst.later hbw2)).mono ?_
  rintro e w3 ⟨rfl, hown3, hb3⟩
  have hbw3 := hbw2.trans (hb3.mono hsz2)
  have hsz3 := hbw3.size
  have hsz23 := hb3.size
  go_wp2_with fail
  refine (sources_any (H := H) _ 0 gm tm g t _ _ hown3 (by unfold maxLen; omega) (hlg.later hbw3 hsz3) (hlt.later hbw3 hsz3)).mono ?_
  rintro e w4 ⟨rfl, hownL, hb4⟩
  have hb24 := hb3.trans (hb4.mono hsz23)
  have hbw4 := hbw2.trans (hb24.mono hsz2)
  have hsz4 := hbw4.size
  have hownW4 := ownsMap_below hownW hb24 hownW.lt
  clear hown3 hb3 hb4 hb24 hbw3
  go_wp2_with fail
  refine (inputs_strs (H := H) _ 0 _ [] _ (by omega) (hst.later hbw4)).mono ?_
  rintro e w5 ⟨rfl, hown5, hb5⟩
  have hbw5 := hbw4.trans (hb5.mono hsz4)
  have hsz5 := hbw5.size
  have hsz45 := hb5.size
  go_wp2_with fail
  refine (sources_any (H := H) _ 0 gm tm g t _ _ hown5 (by unfold maxLen; omega) (hlg.later hbw5 hsz5) (hlt.later hbw5 hsz5)).mono ?_
  rintro e w6 ⟨rfl, hownR, hb6⟩
  have hb46 := hb5.trans (hb6.mono hsz45)
  have hbw6 := hbw4.trans (hb46.mono hsz4)
  have hownW6 := ownsMap_below hownW4 hb46 hownW4.lt
  have hownL6 := ownsMap_below hownL hb46 hownL.lt
  have e0 : Maps.size (mapVals (srcAt g t) (namesMap (H := H) [])) = 0 := by rw [size_mapVals]; rfl
  have hlW := fun ty => hownW6.len Try.underlying23 ty
  have hlL := fun ty => hownL6.len Try.underlying23 ty
  have hlR := fun ty => hownR.len Try.underlying23 ty
  rw [e0] at hlW hlL hlR
  clear e0 hown5 hb5 hb6 hb46 hbw5 hbw4 hbw2 hlg hlt hownW hownW4 hownL hst hownW6 hownL6 hownR hcl hcr
  go_wp2_with fail
  refine wp_loop_rounds 1 ?_
  rw [rounds_succ]
  go_wp2
  go_ret
  exact ⟨rfl, hbw6⟩

theorem join_strs {H : Type} (a : Option Addr) (len cap : Nat) (cut : Int) (ss : List ByteArray) (gm tm : Option Nat) (g t : Lit → Bool) (ng nt : Nat) (w : World) (hreach : len ≤ 140737488351232) (hcap : len ≤ cap) (hs : Strs w a len ss)
    (hlg : Looks w.heap.size w gm g) (hlt : Looks w.heap.size w tm t)
    (hng : ∀ ty, (Builtin.len_ #[23] ty #[.map gm]).run Try.prog w = .ok (.int .i64 ng) w) (hnt : ∀ ty, (Builtin.len_ #[23] ty #[.map tm]).run Try.prog w = .ok (.int .i64 nt) w) :
    Calls Try.prog 4 #[.slice a len cap, .int .i64 cut, .map gm, .map tm] w fun e w' => e = .returned (.bool true) ∧ Below w.heap.size w w' := by
  obtain ⟨hl, hsz, hp⟩ := hs
  by_cases h0 : len = 0
  · subst h0
    exact join_none (H := H) a cap cut gm tm g t ng nt w hlg hlt hng hnt
  · obtain ⟨b, off, rfl, hb, hc⟩ := hp (by omega)
    exact join_any (H := H) b off len cap cut ss gm tm g t ng nt w hreach hcap hl hb hc hsz hlg hlt hng hnt

end Go.Proofs.Qxb6616271a
