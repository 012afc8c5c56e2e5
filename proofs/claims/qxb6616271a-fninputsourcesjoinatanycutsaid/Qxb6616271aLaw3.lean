/-
  The walk of FnInputSourcesBySource (3).
-/
import Derived.Test.Qxb6616271aWalks
namespace Go.Proofs.Qxb6616271a
open Go.RowKit Go.Maps

theorem Looks.later {B B' : Nat} {w w1 : World} {m : Option Nat} {g : Lit → Bool} (h : Looks B w m g) (hb : Below B w w1) (hB : B ≤ B') : Looks B' w1 m g :=
  fun w' hw' s hs => h w' (hb.trans (hw'.mono hB)) s hs

theorem ownsMap_below {H : Type} {k : TypeId} {R : Value → Option (DataW H × List MemPlace)} {w w' : World} {b n B : Nat} {D : DataW H} (h : w.ownsMap Try.prog k R b n D) (hb : Below B w w') (hlt : b < B) : w'.ownsMap Try.prog k R b n D := by
  obtain ⟨es, clock, hbl, r⟩ := h
  exact ⟨es, clock, (hb.block b hlt).trans hbl, r⟩

theorem zero9 (w : World) : (zeroValue 9).run Try.prog w = .ok (.string ByteArray.empty) w := by kernel_rfl

/-- What the map of sources holds at a name that is among the inputs. -/
theorem got_look {H : Type} {b n : Nat} {g t : Lit → Bool} {D : DataW H} {w : World} (hown : w.ownsMap Try.prog 9 (plainElem Try.prog 9) b n (mapVals (srcAt g t) D)) {s : ByteArray} (hs : s.size ≤ maxLen) (hhas : Maps.has D (keyS s) = true) :
    (Instr.lookup 23 (.map (some b)) (.string s) true).run Try.prog w = .ok (.tuple #[.string { data := (srcText (g (keyS s)) (t (keyS s))).toArray }, .bool true]) w := by
  obtain ⟨v, ps, hrun, hv⟩ := hown.look_ok law Try.underlying23 (zero9 w) (plainElem_string Try.underlying9 (by decide)) (key_string hs)
  obtain ⟨sv, rfl, hz, _⟩ := plainElem_string_inv Try.underlying9 hv
  rw [has_mapVals, hhas] at hrun
  rw [atKey_mapVals _ hhas] at hz
  have e : srcText (g (keyS s)) (t (keyS s)) = sv.data.toList := by
    have := congrArg Prod.fst hz
    simpa [srcAt] using this
  rw [hrun, e]

set_option maxRecDepth 100000 in
theorem by_source {H : Type} (b off len cap : Nat) (ss : List ByteArray) (gm tm : Option Nat) (g t : Lit → Bool) (ng nt : Nat) (w : World) (hreach : len ≤ 140737488351232)
    (hz : ss.length = len) (hb : b < w.heap.size) (hc : ∀ j, j < len → w.cell? ⟨b, off + j, none⟩ = some (.string (ss.getD j ByteArray.empty))) (hsz : ∀ s ∈ ss, s.size ≤ maxLen)
    (hlg : Looks w.heap.size w gm g) (hlt : Looks w.heap.size w tm t)
    (hng : ∀ ty, (Builtin.len_ #[23] ty #[.map gm]).run Try.prog w = .ok (.int .i64 ng) w) (hnt : ∀ ty, (Builtin.len_ #[23] ty #[.map tm]).run Try.prog w = .ok (.int .i64 nt) w) :
    Calls Try.prog 3 #[.slice (some ⟨b, off, none⟩) len cap, .map gm, .map tm] w fun e w' => e = .returned (.bool true) ∧ Below w.heap.size w w' := by
  have hst : Strs w (some ⟨b, off, none⟩) len ss := ⟨hz, hsz, fun _ => ⟨b, off, rfl, hb, hc⟩⟩
  go_enter Try.func3, Try.ntmps3
  go_wp2_with fail
  refine (within_strs _ len cap gm tm ng nt ss _ hreach hst hng hnt).mono ?_
  rintro e w' ⟨⟨ok, rfl⟩, hw⟩
  subst hw
  clear hng hnt
  cases ok
  · go_wp2_with fail
    go_ret
    exact ⟨rfl, Below.refl _ _⟩
  · go_wp2_with fail
    refine (inputs_strs (H := H) _ len cap ss _ hreach hst).mono ?_
    rintro e w1 ⟨rfl, hown1, hb1⟩
    have hsz1 := hb1.size
    go_wp2_with fail
    refine (sources_any (H := H) _ len gm tm g t _ _ hown1 (by unfold maxLen; omega) (hlg.later hb1 hsz1) (hlt.later hb1 hsz1)).mono ?_
    rintro e w2 ⟨rfl, hown2, hb2⟩
    have hlt1 := hown1.lt
    have hown1' := ownsMap_below hown1 hb2 hlt1
    have hbb := hb1.trans (hb2.mono hsz1)
    have hesz : Maps.size (mapVals (srcAt g t) (namesMap (H := H) ss)) = Maps.size (namesMap (H := H) ss) := size_mapVals _ _
    have hlgw := hlg.later hbb (Nat.le_refl _)
    have hltw := hlt.later hbb (Nat.le_refl _)
    have hcw : ∀ j, j < len → w2.cell? ⟨b, off + j, none⟩ = some (.string (ss.getD j ByteArray.empty)) := fun j hj => (hbb.cell (by exact hb)).trans (hc j hj)
    clear hst hown1 hb1 hb2 hlg hlt hc
    generalize w1.heap.size = bo at *
    go_wp2_with (first
      | (at_len; refine wpList_len_own _ rfl _ 23 rfl 9 9 Try.underlying23 _ bo _ _ rfl hown2 ?_)
      | (at_len; refine wpList_len_own _ rfl _ 25 rfl 9 20 Try.underlying25 _ w'.heap.size len _ rfl hown1' ?_)
      | fail)
    clear hown1' hesz
    go_loop [9] (fun i => ∃ k : Nat, k ≤ len ∧ i = .int .i64 k) (fun i => len - (intOf i).toNat)
    case atStart => exact ⟨0, Nat.zero_le _, rfl⟩
    case round =>
      obtain ⟨k, hk, rfl⟩ := hrel
      by_cases hkl : k < len
      · obtain ⟨s, hs⟩ : ∃ s, s = ss.getD k ByteArray.empty := ⟨_, rfl⟩
        have hcx : w2.cell? ⟨b, off + k, none⟩ = some (.string s) := by rw [hs]; exact hcw k hkl
        have hmem : s = ss[k]'(by omega) := by rw [hs, List.getD, List.getElem?_eq_getElem (by omega)]; rfl
        have hin : s ∈ ss := by rw [hmem]; exact List.getElem_mem _
        have hms := hsz s hin
        have h1 := got_look hown2 hms (has_namesMap_of_mem hin)
        obtain ⟨vg, h2⟩ := hlgw w2 (Below.refl _ _) s hms
        obtain ⟨vt, h3⟩ := hltw w2 (Below.refl _ _) s hms
        clear hs hmem hin hms hcw hsz hown2 hlgw hltw
        cases hgk : g (keyS s) <;> cases htk : t (keyS s)
        all_goals
          rw [hgk, htk] at h1; rw [hgk] at h2; rw [htk] at h3
          simp only [srcText, if_true, if_false, Bool.false_eq_true] at h1
          clear hgk htk
          go_wp2
          go_round
          case rel => exact ⟨k + 1, by omega, by go_num⟩
          case measure => simp [intOf]; omega
      · go_wp2
        go_ret
        exact ⟨rfl, hbb⟩

set_option maxRecDepth 100000 in
theorem by_source_none {H : Type} (a : Option Addr) (cap : Nat) (gm tm : Option Nat) (g t : Lit → Bool) (ng nt : Nat) (w : World)
    (hlg : Looks w.heap.size w gm g) (hlt : Looks w.heap.size w tm t)
    (hng : ∀ ty, (Builtin.len_ #[23] ty #[.map gm]).run Try.prog w = .ok (.int .i64 ng) w) (hnt : ∀ ty, (Builtin.len_ #[23] ty #[.map tm]).run Try.prog w = .ok (.int .i64 nt) w) :
    Calls Try.prog 3 #[.slice a 0 cap, .map gm, .map tm] w fun e w' => e = .returned (.bool true) ∧ Below w.heap.size w w' := by
  have hst : Strs w a 0 [] := ⟨rfl, by simp, fun h => absurd h (by omega)⟩
  go_enter Try.func3, Try.ntmps3
  go_wp2_with fail
  refine (within_strs _ 0 cap gm tm ng nt [] _ (by omega) hst hng hnt).mono ?_
  rintro e w' ⟨⟨ok, rfl⟩, hw⟩
  subst hw
  clear hng hnt
  cases ok
  · go_wp2_with fail
    go_ret
    exact ⟨rfl, Below.refl _ _⟩
  · go_wp2_with fail
    refine (inputs_strs (H := H) _ 0 cap [] _ (by omega) hst).mono ?_
    rintro e w1 ⟨rfl, hown1, hb1⟩
    have hsz1 := hb1.size
    go_wp2_with fail
    refine (sources_any (H := H) _ 0 gm tm g t _ _ hown1 (by unfold maxLen; omega) (hlg.later hb1 hsz1) (hlt.later hb1 hsz1)).mono ?_
    rintro e w2 ⟨rfl, hown2, hb2⟩
    have hlt1 := hown1.lt
    have hown1' := ownsMap_below hown1 hb2 hlt1
    have hbb := hb1.trans (hb2.mono hsz1)
    have hesz : Maps.size (mapVals (srcAt g t) (namesMap (H := H) [])) = Maps.size (namesMap (H := H) []) := size_mapVals _ _
    clear hst hown1 hb1 hb2 hlg hlt
    generalize w1.heap.size = bo at *
    go_wp2_with (first
      | (at_len; refine wpList_len_own _ rfl _ 23 rfl 9 9 Try.underlying23 _ bo _ _ rfl hown2 ?_)
      | (at_len; refine wpList_len_own _ rfl _ 25 rfl 9 20 Try.underlying25 _ w'.heap.size 0 _ rfl hown1' ?_)
      | fail)
    refine wp_loop_rounds 1 ?_
    rw [rounds_succ]
    go_wp2
    go_ret
    exact ⟨rfl, hbb⟩

theorem by_source_strs {H : Type} (a : Option Addr) (len cap : Nat) (ss : List ByteArray) (gm tm : Option Nat) (g t : Lit → Bool) (ng nt : Nat) (w : World) (hreach : len ≤ 140737488351232) (hs : Strs w a len ss)
    (hlg : Looks w.heap.size w gm g) (hlt : Looks w.heap.size w tm t)
    (hng : ∀ ty, (Builtin.len_ #[23] ty #[.map gm]).run Try.prog w = .ok (.int .i64 ng) w) (hnt : ∀ ty, (Builtin.len_ #[23] ty #[.map tm]).run Try.prog w = .ok (.int .i64 nt) w) :
    Calls Try.prog 3 #[.slice a len cap, .map gm, .map tm] w fun e w' => e = .returned (.bool true) ∧ Below w.heap.size w w' := by
  obtain ⟨hl, hsz, hp⟩ := hs
  by_cases h0 : len = 0
  · subst h0
    exact by_source_none (H := H) a cap gm tm g t ng nt w hlg hlt hng hnt
  · obtain ⟨b, off, rfl, hb, hc⟩ := hp (by omega)
    exact by_source (H := H) b off len cap ss gm tm g t ng nt w hreach hl hb hc hsz hlg hlt hng hnt

end Go.Proofs.Qxb6616271a
