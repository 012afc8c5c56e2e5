/-
  The walk of FnInputSourcesJoinAtAnyCut (4).
-/
import Derived.Test.Qxb6616271aOpen
namespace Go.Proofs.Qxb6616271a
open Go.RowKit Go.Maps

theorem strs_take {w : World} {b off len : Nat} {ss : List ByteArray} (hz : ss.length = len) (hb : b < w.heap.size) (hc : ∀ j, j < len → w.cell? ⟨b, off + j, none⟩ = some (.string (ss.getD j ByteArray.empty))) (hsz : ∀ s ∈ ss, s.size ≤ maxLen)
    {c : Nat} (hcl : c ≤ len) : Strs w (some ⟨b, off, none⟩) c (ss.take c) :=
  ⟨by simp; omega, fun s hs => hsz s (List.mem_of_mem_take hs), fun _ => ⟨b, off, rfl, hb, fun j hj => by rw [hc j (by omega)]; simp [List.getD, hj]⟩⟩

theorem strs_drop {w : World} {b off len : Nat} {ss : List ByteArray} (hz : ss.length = len) (hb : b < w.heap.size) (hc : ∀ j, j < len → w.cell? ⟨b, off + j, none⟩ = some (.string (ss.getD j ByteArray.empty))) (hsz : ∀ s ∈ ss, s.size ≤ maxLen)
    {c : Nat} (hcl : c ≤ len) : Strs w (some ⟨b, off + c, none⟩) (len - c) (ss.drop c) :=
  ⟨by simp; omega, fun s hs => hsz s (List.mem_of_mem_drop hs), fun _ => ⟨b, off + c, rfl, hb, fun j hj => by rw [Nat.add_assoc, hc (c + j) (by omega)]; simp [List.getD]⟩⟩

theorem Strs.later {w w' : World} {a : Option Addr} {len : Nat} {ss : List ByteArray} (h : Strs w a len ss) (hb : Below w.heap.size w w') : Strs w' a len ss := by
  obtain ⟨h1, h2, h3⟩ := h
  refine ⟨h1, h2, fun h0 => ?_⟩
  obtain ⟨b, off, e, hlt, hc⟩ := h3 h0
  exact ⟨b, off, e, Nat.lt_of_lt_of_le hlt hb.size, fun j hj => (hb.cell (by exact hlt)).trans (hc j hj)⟩

/-- The sizes of the three maps. -/
theorem sizes {H : Type} (ss : List ByteArray) (c : Nat) (hW : Canon (namesMap (H := H) ss)) (hL : Canon (namesMap (H := H) (ss.take c))) (hR : Canon (namesMap (H := H) (ss.drop c))) :
    Maps.size (namesMap (H := H) ss) ≤ Maps.size (namesMap (H := H) (ss.take c)) + Maps.size (namesMap (H := H) (ss.drop c)) ∧
    Maps.size (namesMap (H := H) (ss.take c)) ≤ Maps.size (namesMap (H := H) ss) ∧ Maps.size (namesMap (H := H) (ss.drop c)) ≤ Maps.size (namesMap (H := H) ss) := by
  have e : ∀ k, Maps.has (namesMap (H := H) ss) k = (Maps.has (namesMap (H := H) (ss.take c)) k || Maps.has (namesMap (H := H) (ss.drop c)) k) := fun k => by
    rw [← has_namesMap_append, List.take_append_drop]
  refine ⟨size_le_add hW fun k hk => ?_, size_le_of_has hL fun k hk => ?_, size_le_of_has hR fun k hk => ?_⟩
  · rw [e] at hk; simpa using hk
  · rw [e, hk]; rfl
  · rw [e, hk]; simp

set_option maxHeartbeats 1000000 in
set_option maxRecDepth 100000 in
theorem join_any {H : Type} (b off len cap : Nat) (cut : Int) (ss : List ByteArray) (gm tm : Option Nat) (g t : Lit → Bool) (ng nt : Nat) (w : World) (hreach : len ≤ 140737488351232) (hcap : len ≤ cap)
    (hz : ss.length = len) (hb : b < w.heap.size) (hc : ∀ j, j < len → w.cell? ⟨b, off + j, none⟩ = some (.string (ss.getD j ByteArray.empty))) (hsz : ∀ s ∈ ss, s.size ≤ maxLen)
    (hlg : Looks w.heap.size w gm g) (hlt : Looks w.heap.size w tm t)
    (hng : ∀ ty, (Builtin.len_ #[23] ty #[.map gm]).run Try.prog w = .ok (.int .i64 ng) w) (hnt : ∀ ty, (Builtin.len_ #[23] ty #[.map tm]).run Try.prog w = .ok (.int .i64 nt) w) :
    Calls Try.prog 4 #[.slice (some ⟨b, off, none⟩) len cap, .int .i64 cut, .map gm, .map tm] w fun e w' => e = .returned (.bool true) ∧ Below w.heap.size w w' := by
  have hst : Strs w (some ⟨b, off, none⟩) len ss := ⟨hz, hsz, fun _ => ⟨b, off, rfl, hb, hc⟩⟩
  by_cases hneg : cut < 0
  · go_enter Try.func4, Try.ntmps4
    go_wp2_with fail
    refine (within_strs _ len cap gm tm ng nt ss _ hreach hst hng hnt).mono ?_
    rintro e w' ⟨⟨ok, rfl⟩, hw⟩
    subst hw
    cases ok
    all_goals
      go_wp2_with fail
      go_ret
      exact ⟨rfl, Below.refl _ _⟩
  by_cases hbig : (len : Int) < cut
  · go_enter Try.func4, Try.ntmps4
    go_wp2_with fail
    refine (within_strs _ len cap gm tm ng nt ss _ hreach hst hng hnt).mono ?_
    rintro e w' ⟨⟨ok, rfl⟩, hw⟩
    subst hw
    cases ok
    all_goals
      go_wp2_with fail
      go_ret
      exact ⟨rfl, Below.refl _ _⟩
  obtain ⟨c, rfl⟩ := Int.eq_ofNat_of_zero_le (show 0 ≤ cut by omega)
  have hcl : c ≤ len := by omega
  have hc0 : decide ((c : Int) < 0) = false := by simp
  clear hneg hbig
  have hstL := strs_take hz hb hc hsz hcl
  obtain ⟨aR, nR, hstR, hcc⟩ : ∃ aR nR, Strs w aR nR (ss.drop c) ∧ ((c < cap ∧ aR = some ⟨b, off + c, none⟩ ∧ nR = len - c) ∨ (c = cap ∧ aR = some ⟨b, off, none⟩ ∧ nR = 0)) := by
    rcases Nat.lt_or_ge c cap with h | h
    · exact ⟨_, _, strs_drop hz hb hc hsz hcl, Or.inl ⟨h, rfl, rfl⟩⟩
    · exact ⟨some ⟨b, off, none⟩, 0, ⟨by simp; omega, fun s hs => hsz s (List.mem_of_mem_drop hs), fun h0 => absurd h0 (by omega)⟩, Or.inr ⟨by omega, rfl, rfl⟩⟩
  rcases hcc with ⟨hcc, rfl, rfl⟩ | ⟨rfl, rfl, rfl⟩
  all_goals
    go_enter Try.func4, Try.ntmps4
    go_wp2_with fail
    refine (within_strs _ len _ gm tm ng nt ss _ hreach hst hng hnt).mono ?_
    rintro e w' ⟨⟨ok, rfl⟩, hw⟩
    subst hw
    clear hng hnt
    cases ok
    · go_wp2_with fail
      go_ret
      exact ⟨rfl, Below.refl _ _⟩
    go_wp2_with fail
    refine (inputs_strs (H := H) _ len _ ss _ hreach hst).mono ?_
    rintro e w1 ⟨rfl, hown1, hb1⟩
    have hsz1 := hb1.size
    go_wp2_with fail
    refine (sources_any (H := H) _ len gm tm g t _ _ hown1 (by unfold maxLen; omega) (hlg.later hb1 hsz1) (hlt.later hb1 hsz1)).mono ?_
    rintro e w2 ⟨rfl, hownW, hb2⟩
    have hbw2 := hb1.trans (hb2.mono hsz1)
    have hsz2 := hbw2.size
    have hcW := hown1.canon law
    have s4 := hown1.size_le
    clear hown1 hb1 hb2 hst
    go_wp2_with fail
    refine (inputs_strs (H := H) _ c _ (ss.take c) _ (by omega) (hstL.later hbw2)).mono ?_
    rintro e w3 ⟨rfl, hown3, hb3⟩
    have hbw3 := hbw2.trans (hb3.mono hsz2)
    have hsz3 := hbw3.size
    have hsz23 := hb3.size
    go_wp2_with fail
    refine (sources_any (H := H) _ c gm tm g t _ _ hown3 (by unfold maxLen; omega) (hlg.later hbw3 hsz3) (hlt.later hbw3 hsz3)).mono ?_
    rintro e w4 ⟨rfl, hownL, hb4⟩
    have hb24 := hb3.trans (hb4.mono hsz23)
    have hbw4 := hbw2.trans (hb24.mono hsz2)
    have hsz4 := hbw4.size
    have hsz24 := hb24.size
    have hltW := hownW.lt
    have hownW4 := ownsMap_below hownW hb24 hltW
    have hcL := hown3.canon law
    clear hown3 hb3 hb4 hb24 hbw3 hstL
    go_wp2_with fail
    refine (inputs_strs (H := H) _ _ _ (ss.drop c) _ (by omega) (hstR.later hbw4)).mono ?_
    rintro e w5 ⟨rfl, hown5, hb5⟩
    have hbw5 := hbw4.trans (hb5.mono hsz4)
    have hsz5 := hbw5.size
    have hsz45 := hb5.size
    go_wp2_with fail
    refine (sources_any (H := H) _ _ gm tm g t _ _ hown5 (by unfold maxLen; omega) (hlg.later hbw5 hsz5) (hlt.later hbw5 hsz5)).mono ?_
    rintro e w6 ⟨rfl, hownR, hb6⟩
    have hb46 := hb5.trans (hb6.mono hsz45)
    have hbw6 := hbw4.trans (hb46.mono hsz4)
    have hownW6 := ownsMap_below hownW4 hb46 hownW4.lt
    have hownL6 := ownsMap_below hownL hb46 hownL.lt
    have hlgw := hlg.later hbw6 (Nat.le_refl _)
    have hltw := hlt.later hbw6 (Nat.le_refl _)
    have hcw : ∀ j, j < len → w6.cell? ⟨b, off + j, none⟩ = some (.string (ss.getD j ByteArray.empty)) := fun j hj => (hbw6.cell (by exact hb)).trans (hc j hj)
    have hdW := size_mapVals (srcAt g t) (namesMap (H := H) ss)
    have hdL := size_mapVals (srcAt g t) (namesMap (H := H) (ss.take c))
    have hdR := size_mapVals (srcAt g t) (namesMap (H := H) (ss.drop c))
    obtain ⟨s1, s2, s3⟩ := sizes (H := H) ss c hcW hcL (hown5.canon law)
    have hlW := fun ty => hownW6.len Try.underlying23 ty
    have hlL := fun ty => hownL6.len Try.underlying23 ty
    have hlR := fun ty => hownR.len Try.underlying23 ty
    rw [hdW] at hlW; rw [hdL] at hlL; rw [hdR] at hlR
    generalize Maps.size (namesMap (H := H) ss) = qW at *
    generalize Maps.size (namesMap (H := H) (ss.take c)) = qL at *
    generalize Maps.size (namesMap (H := H) (ss.drop c)) = qR at *
    clear hcW hcL hdW hdL hdR hown5 hb5 hb6 hb46 hbw5 hbw4 hbw2 hlg hlt hc hownW hownW4 hownL hstR
    generalize w1.heap.size = o1 at *
    generalize w3.heap.size = o2 at *
    generalize w5.heap.size = o3 at *
    clear hsz1 hsz2 hsz3 hsz4 hsz5 hsz23 hsz24 hsz45 hltW
    have t1 : decide ((qL : Int) + qR < qW) = false := by simp; omega
    have t2 : decide (qW < qL) = false := by simp; omega
    have t3 : decide (qW < qR) = false := by simp; omega
    go_wp2_with fail
    clear t1 t2 t3 s1 s2 s3 s4 hlW hlL hlR
    go_loop [12] (fun i => ∃ k : Nat, k ≤ len ∧ i = .int .i64 k) (fun i => len - (intOf i).toNat)
    case atStart => exact ⟨0, Nat.zero_le _, rfl⟩
    case round =>
      obtain ⟨k, hk, rfl⟩ := hrel
      by_cases hkl : k < len
      · obtain ⟨s, hs⟩ : ∃ s, s = ss.getD k ByteArray.empty := ⟨_, rfl⟩
        have hcx : w6.cell? ⟨b, off + k, none⟩ = some (.string s) := by rw [hs]; exact hcw k hkl
        have hmem : s = ss[k]'(by omega) := by rw [hs, List.getD, List.getElem?_eq_getElem (by omega)]; rfl
        have hin : s ∈ ss := by rw [hmem]; exact List.getElem_mem _
        have hms := hsz s hin
        have h1 := got_look hownW6 hms (has_namesMap_of_mem hin)
        obtain ⟨vg, h2⟩ := hlgw w6 (Below.refl _ _) s hms
        by_cases hkc : k < c
        · have hinL : s ∈ ss.take c := by rw [hmem]; exact List.mem_take_iff_getElem.2 ⟨k, by omega, rfl⟩
          have h3 := got_look hownL6 hms (has_namesMap_of_mem hinL)
          clear hs hmem hin hinL hms hcw hsz hownW6 hownL6 hownR hlgw hltw
          cases hgk : g (keyS s) <;> cases htk : t (keyS s)
          all_goals
            rw [hgk, htk] at h1 h3; rw [hgk] at h2
            simp only [srcText, if_true, if_false, Bool.false_eq_true] at h1 h3
            clear hgk htk
            go_wp2
            go_round
            case rel => exact ⟨k + 1, by omega, by go_num⟩
            case measure => simp [intOf]; omega
        · have hinR : s ∈ ss.drop c := by rw [hmem]; exact List.mem_drop_iff_getElem.2 ⟨k - c, by omega, by congr 1; omega⟩
          have h3 := got_look hownR hms (has_namesMap_of_mem hinR)
          clear hs hmem hin hinR hms hcw hsz hownW6 hownL6 hownR hlgw hltw
          cases hgk : g (keyS s) <;> cases htk : t (keyS s)
          all_goals
            rw [hgk, htk] at h1 h3; rw [hgk] at h2
            simp only [srcText, if_true, if_false, Bool.false_eq_true] at h1 h3
            clear hgk htk
            go_wp2
            go_round
            case rel => exact ⟨k + 1, by omega, by go_num⟩
            case measure => simp [intOf]; omega
      · go_wp2
        go_ret
        exact ⟨rfl, hbw6⟩

end Go.Proofs.Qxb6616271a
