/-
  The walks of the three shared functions: sourcesWithin (6), ZZinputs (7), InputSources (8).
-/
import Derived.Test.Qxb6616271aRows
import Derived.Test.Qxb6616271aPlain
import Derived.WalkKit
import Derived.Maps.RangeWalk
import Derived.Maps.OwnSet
namespace Go.Proofs.Qxb6616271a
open Go.RowKit Go.Maps
open Go.WideMaps (keyOf_string_mk)

theorem law : Keyed Try.prog 9 := string_keyed Try.underlying9

theorem make25 (n : Int) (w : World) : (Instr.makeMap 25 (some (.int .i64 n))).run Try.prog w = .ok (.map (some w.heap.size)) (w.alloc (.map #[] 0)) := by
  simp [Instr.makeMap, run_underlying Try.underlying25, asInt, asIntOf, Result.andThen]
theorem make23 (n : Int) (w : World) : (Instr.makeMap 23 (some (.int .i64 n))).run Try.prog w = .ok (.map (some w.heap.size)) (w.alloc (.map #[] 0)) := by
  simp [Instr.makeMap, run_underlying Try.underlying23, asInt, asIntOf, Result.andThen]

/-- A slice of strings, as the walks take it: just its elements. -/
def Strs (w : World) (a : Option Addr) (len : Nat) (ss : List ByteArray) : Prop :=
  ss.length = len ∧ (∀ s ∈ ss, s.size ≤ maxLen) ∧ (0 < len → ∃ b off, a = some ⟨b, off, none⟩ ∧ b < w.heap.size ∧ ∀ j, j < len → w.cell? ⟨b, off + j, none⟩ = some (.string (ss.getD j ByteArray.empty)))

/-- A look-up in a map that came in, in every later world. -/
def Looks (B : Nat) (w : World) (mv : Option Nat) (g : Lit → Bool) : Prop :=
  ∀ w', Below B w w' → ∀ s : ByteArray, s.size ≤ maxLen → ∃ v : ByteArray, (Instr.lookup 23 (.map mv) (.string s) true).run Try.prog w' = .ok (.tuple #[.string v, .bool (g (keyS s))]) w'

theorem key_string {s : ByteArray} (h : s.size ≤ maxLen) : keyOf Try.prog 9 (.string s) = some (keyS s) := keyOf_string_mk Try.underlying9 h

theorem key_string_inv {key : Value} {kl : Lit} (h : keyOf Try.prog 9 key = some kl) : ∃ s, key = .string s ∧ kl = keyS s ∧ s.size ≤ maxLen := by
  have hk := Try.underlying9
  cases key <;> simp [keyOf, hk, mapKey] at h
  exact ⟨_, rfl, h.2.symm, h.1⟩

set_option maxRecDepth 100000 in
theorem inputs_none {H : Type} (a : Option Addr) (cap : Nat) (w : World) :
    Calls Try.prog 7 #[.slice a 0 cap] w fun e w' => e = .returned (.map (some w.heap.size)) ∧ w'.ownsMap Try.prog 9 (nilElem (H := H)) w.heap.size 0 (namesMap []) ∧ Below w.heap.size w w' := by
  have hmm := make25
  go_enter Try.func7, Try.ntmps7
  go_wp2
  refine wp_loop_rounds 1 ?_
  rw [rounds_succ]
  go_wp2
  go_ret
  exact ⟨rfl, World.ownsMap_made _ _ _ _, (Below.refl _ _).alloc (Nat.le_refl _) _⟩

set_option maxRecDepth 100000 in
theorem inputs_any {H : Type} (b off len cap : Nat) (ss : List ByteArray) (w : World) (hreach : len ≤ 140737488351232) (hz : ss.length = len) (hb : b < w.heap.size)
    (hc : ∀ j, j < len → w.cell? ⟨b, off + j, none⟩ = some (.string (ss.getD j ByteArray.empty))) (hsz : ∀ s ∈ ss, s.size ≤ maxLen) :
    Calls Try.prog 7 #[.slice (some ⟨b, off, none⟩) len cap] w fun e w' => e = .returned (.map (some w.heap.size)) ∧ w'.ownsMap Try.prog 9 (nilElem (H := H)) w.heap.size len (namesMap ss) ∧ Below w.heap.size w w' := by
  have hmm := make25
  go_enter Try.func7, Try.ntmps7
  go_wp2
  go_loopw [11] (fun i wr => ∃ k : Nat, k ≤ len ∧ i = .int .i64 k ∧ wr.ownsMap Try.prog 9 (nilElem (H := H)) w.heap.size k (namesMap (ss.take k)) ∧ Below w.heap.size w wr)
    (fun i _ => len - (intOf i).toNat)
  case atStart => exact ⟨0, Nat.zero_le _, rfl, World.ownsMap_made _ _ _ _, (Below.refl _ _).alloc (Nat.le_refl _) _⟩
  case round =>
    obtain ⟨k, hk, rfl, hown, hnx⟩ := hrel
    by_cases hlt : k < len
    · obtain ⟨s, hs⟩ : ∃ s, s = ss.getD k ByteArray.empty := ⟨_, rfl⟩
      have hcx : wr.cell? ⟨b, off + k, none⟩ = some (.string s) := by rw [hs]; exact (hnx.cell (by exact hb)).trans (hc k hlt)
      have hmem : s = ss[k]'(by omega) := by rw [hs, List.getD, List.getElem?_eq_getElem (by omega)]; rfl
      have hkey : keyOf Try.prog 9 (.string s) = some (keyS s) := key_string (hsz _ (by rw [hmem]; exact List.getElem_mem _))
      have HT : Hid (ss.take (k + 1) = ss.take k ++ [s]) := by
        unfold Hid; rw [List.take_succ_eq_append_getElem (by omega), hmem]
      clear hs hmem
      go_wp2_with (first
        | (at_mapUpdate; refine wpList_mapUpdate_own _ rfl _ _ _ 25 rfl 9 20 law Try.underlying25 _ w.heap.size k _ rfl hown (by unfold maxLen; omega) _ _ _ rfl rfl hkey _ [] nilElem_mk ?_)
        | go_in)
      intro w1 hown1 hgrow1
      have R1 : w1.ownsMap Try.prog 9 (nilElem (H := H)) w.heap.size (k + 1) (namesMap (ss.take (k + 1))) := by rw [HT.out, namesMap_snoc]; exact hown1
      have R2 := hnx.grown hgrow1 hnx.size (fun j hj => by cases hj; exact Nat.le_refl _)
      clear hown1 hgrow1 hown hcx hc
      go_wp2
      go_roundw
      case rel => exact ⟨k + 1, by omega, by go_num, R1, R2⟩
      case measure => simp [intOf]; omega
    · have : k = len := by omega
      subst this
      go_wp2
      go_ret
      rw [List.take_of_length_le (by omega)] at hown
      exact ⟨rfl, hown, hnx⟩

/-- A slice of strings, whatever its length: the map of its names. -/
theorem inputs_strs {H : Type} (a : Option Addr) (len cap : Nat) (ss : List ByteArray) (w : World) (hreach : len ≤ 140737488351232) (hs : Strs w a len ss) :
    Calls Try.prog 7 #[.slice a len cap] w fun e w' => e = .returned (.map (some w.heap.size)) ∧ w'.ownsMap Try.prog 9 (nilElem (H := H)) w.heap.size len (namesMap ss) ∧ Below w.heap.size w w' := by
  obtain ⟨hl, hsz, hp⟩ := hs
  by_cases h0 : len = 0
  · subst h0
    obtain rfl : ss = [] := List.eq_nil_of_length_eq_zero hl
    exact inputs_none a cap w
  · obtain ⟨b, off, rfl, hb, hc⟩ := hp (by omega)
    exact inputs_any b off len cap ss w hreach hl hb hc hsz

/-- The range's step: string keys, nil elements. -/
theorem wpList_next_sn {H : Type} (w : World) {ops : Array Oper} {rest : List Oper} {o : Oper} {a : Act} {Q : Exit → Act → World → Prop}
    (hg : o.guard = none) (it : Operand) (hop : o.op = Op.next it false)
    (b r n : Nat) (D : DataW H) (left : Lit → Bool) (cnt : Nat) (hit : a.eval it = .pointer (some ⟨r, 0, none⟩)) (h : w.ranges Try.prog 9 nilElem b r n D left cnt)
    (hDone : cnt = 0 → (∀ kl, left kl = false) → wpList Try.prog ops Q rest (a.put o.dst (.tuple #[.bool false])) w)
    (hMore : ∀ (s : ByteArray) (w' : World) (cnt' : Nat), s.size ≤ maxLen → left (keyS s) = true → Maps.has D (keyS s) = true → w'.ranges Try.prog 9 nilElem b r n D (fun z => left z && !z.sameKey (keyS s)) cnt' → cnt' < cnt →
      w.grownBy w' (some r) → w'.heap.size = w.heap.size → (Instr.entry (.pointer (some ⟨r, 0, none⟩))).run Try.prog w' = .ok (.tuple #[.string s, .nilIface]) w' → wpList Try.prog ops Q rest (a.put o.dst (.tuple #[.bool true, .string s, .nilIface])) w') :
    wpList Try.prog ops Q (o :: rest) a w :=
  wpList_next_ranges w hg it hop 9 law nilElem Value.string (fun _ : Unit => Value.nilIface) (fun key kl hkey => by obtain ⟨s, rfl, _⟩ := key_string_inv hkey; exact ⟨s, rfl⟩) (fun v y hv => by obtain ⟨rfl, _⟩ := nilElem_inv hv; exact ⟨(), rfl⟩)
    b r n D left cnt hit h hDone (fun x _ kl y w' cnt' hkey hlk _ hat hrg hlt hgr hsz hen => by
      obtain ⟨s, ex, rfl, hws⟩ := key_string_inv hkey
      cases ex
      exact hMore x w' cnt' hws hlk (has_true_of_atKey hat) hrg hlt hgr hsz hen)

theorem plain_cli {H : Type} : plainElem (H := H) Try.prog 9 (.string { data := #[99, 108, 105] }) = some (.lit (.string [99, 108, 105]), []) := plainElem_string Try.underlying9 (by decide)
theorem plain_scenario {H : Type} : plainElem (H := H) Try.prog 9 (.string { data := #[115, 99, 101, 110, 97, 114, 105, 111] }) = some (.lit (.string [115, 99, 101, 110, 97, 114, 105, 111]), []) := plainElem_string Try.underlying9 (by decide)
theorem plain_default {H : Type} : plainElem (H := H) Try.prog 9 (.string { data := #[100, 101, 102, 97, 117, 108, 116] }) = some (.lit (.string [100, 101, 102, 97, 117, 108, 116]), []) := plainElem_string Try.underlying9 (by decide)

/-- 'has' of what 'mapVals' leaves, as a function. -/
theorem has_mapVals_fun {H : Type} (f : Lit → DataW H) (D : DataW H) : Maps.has (mapVals f D) = Maps.has D := funext (has_mapVals f D)

set_option maxRecDepth 100000 in
theorem sources_any {H : Type} (bi n : Nat) (gm tm : Option Nat) (g t : Lit → Bool) (D : DataW H) (w : World) (hown : w.ownsMap Try.prog 9 nilElem bi n D) (hn : n < maxLen)
    (hlg : Looks w.heap.size w gm g) (hlt : Looks w.heap.size w tm t) :
    Calls Try.prog 8 #[.map (some bi), .map gm, .map tm] w fun e w' => e = .returned (.map (some w.heap.size)) ∧ w'.ownsMap Try.prog 9 (plainElem Try.prog 9) w.heap.size (Maps.size D) (mapVals (srcAt g t) D) ∧ Below w.heap.size w w' := by
  have hmm := make23
  have hbl := hown.lt
  have hsz := hown.size_le
  have e1 : (w.alloc (.map #[] 0)).heap.size = w.heap.size + 1 := by simp
  go_enter Try.func8, Try.ntmps8
  go_wp2_with (first
    | (at_len; refine wpList_len_own _ rfl _ 25 rfl 9 20 Try.underlying25 _ bi n D rfl hown ?_)
    | (at_range; refine wpList_range_own _ rfl _ 25 rfl 9 20 law Try.underlying25 _ bi n _ rfl (hown.alloc _) ?_; intro w0 hrg0 hg0 hs0)
    | go_in)
  go_frame
  rw [e1] at hrg0 hs0 ⊢
  go_loopw [8] (fun _ wr => ∃ (left : Lit → Bool) (cnt : Nat) (Dout : DataW H), wr.ranges Try.prog 9 nilElem bi (w.heap.size + 1) n D left cnt ∧ cnt ≤ Maps.size D ∧
      wr.ownsMap Try.prog 9 (plainElem Try.prog 9) w.heap.size (Maps.size D - cnt) Dout ∧ Agree Dout (mapVals (srcAt g t) D) left ∧ Below w.heap.size w wr)
    (fun _ wr => wr.rangeLeft bi (w.heap.size + 1))
  case atStart =>
    refine ⟨_, _, .map [], hrg0, Nat.le_refl _, ((World.ownsMap_made _ _ _ _).kept hg0 (by simp)).mono (Nat.zero_le _), ?_, ((Below.refl _ _).alloc (Nat.le_refl _) _).grown hg0 (by simp) (fun j hj => by cases hj)⟩
    rw [← has_mapVals_fun (srcAt g t) D]
    exact agree_start _
  case round =>
    obtain ⟨left, cnt, Dout, hrg, hcs, hout, hA, hnx⟩ := hrel
    go_wp2_with (first
      | (at_next; refine wpList_next_sn _ rfl _ rfl bi (w.heap.size + 1) n _ _ _ rfl hrg ?_ ?_)
      | go_in)
    · intro hc0 hl0
      go_wp2
      go_ret
      subst hc0
      have e := agree_end hA hl0 (hout.canon law) (canon_mapVals _ (hown.canon law))
      subst e
      exact ⟨rfl, by simpa using hout, hnx⟩
    · intro s w1 cnt1 hs hlx hhas hrg1 hcl hg1 hs1 hen
      have hout1 := hout.kept hg1 (by simp)
      have hnx1 := hnx.grown hg1 hnx.size (fun j hj => by cases hj; exact Nat.le_succ _)
      obtain ⟨vg, hrg'⟩ := hlg w1 hnx1 s hs
      obtain ⟨vt, hrt'⟩ := hlt w1 hnx1 s hs
      have hkey := key_string hs
      have hat : ∀ zd, (mapVals (srcAt g t) D).atKey (keyS s) zd = srcAt g t (keyS s) := fun zd => atKey_mapVals _ hhas zd
      have hbd : Maps.size D - cnt < maxLen := by omega
      have hAs := agree_step hA hout.isMap (show WideAt.IsKeyLit (keyS s) from trivial) hat
      clear hA hat hhas hlx hout
      cases hgk : g (keyS s)
      · cases htk : t (keyS s)
        · rw [hgk] at hrg'; rw [htk] at hrt'
          have HA : Hid (Agree (Dout.put (keyS s) (.lit (.string [100, 101, 102, 97, 117, 108, 116]))) (mapVals (srcAt g t) D) (fun z => left z && !z.sameKey (keyS s))) := by
            have e : srcAt (H := H) g t (keyS s) = .lit (.string [100, 101, 102, 97, 117, 108, 116]) := by simp [srcAt, hgk, htk, srcText]
            rw [e] at hAs; exact hAs
          clear hgk htk hAs
          go_wp2_with (first
            | (at_mapUpdate; refine wpList_mapUpdate_own _ rfl _ _ _ 23 rfl 9 9 law Try.underlying23 _ w.heap.size _ _ rfl hout1 hbd _ _ _ rfl rfl hkey _ [] plain_default ?_; intro w2 hout2 hg2; go_frame)
            | go_in)
          have hrg2 := hrg1.kept hg2 (fun e => by have := Option.some.inj e; omega) (fun e => by have := Option.some.inj e; omega)
          go_roundw
          case rel => exact ⟨_, cnt1, _, hrg2, by omega, hout2.mono (by omega), HA.out, hnx1.grown hg2 (by have := hnx1.size; omega) (fun j hj => by cases hj; exact Nat.le_refl _)⟩
          case measure => rw [hrg2.left_eq, hrg.left_eq]; exact hcl
        · rw [hgk] at hrg'; rw [htk] at hrt'
          have HA : Hid (Agree (Dout.put (keyS s) (.lit (.string [115, 99, 101, 110, 97, 114, 105, 111]))) (mapVals (srcAt g t) D) (fun z => left z && !z.sameKey (keyS s))) := by
            have e : srcAt (H := H) g t (keyS s) = .lit (.string [115, 99, 101, 110, 97, 114, 105, 111]) := by simp [srcAt, hgk, htk, srcText]
            rw [e] at hAs; exact hAs
          clear hgk htk hAs
          go_wp2_with (first
            | (at_mapUpdate; refine wpList_mapUpdate_own _ rfl _ _ _ 23 rfl 9 9 law Try.underlying23 _ w.heap.size _ _ rfl hout1 hbd _ _ _ rfl rfl hkey _ [] plain_scenario ?_; intro w2 hout2 hg2; go_frame)
            | go_in)
          have hrg2 := hrg1.kept hg2 (fun e => by have := Option.some.inj e; omega) (fun e => by have := Option.some.inj e; omega)
          go_roundw
          case rel => exact ⟨_, cnt1, _, hrg2, by omega, hout2.mono (by omega), HA.out, hnx1.grown hg2 (by have := hnx1.size; omega) (fun j hj => by cases hj; exact Nat.le_refl _)⟩
          case measure => rw [hrg2.left_eq, hrg.left_eq]; exact hcl
      · rw [hgk] at hrg'
        have HA : Hid (Agree (Dout.put (keyS s) (.lit (.string [99, 108, 105]))) (mapVals (srcAt g t) D) (fun z => left z && !z.sameKey (keyS s))) := by
          have e : srcAt (H := H) g t (keyS s) = .lit (.string [99, 108, 105]) := by simp [srcAt, hgk, srcText]
          rw [e] at hAs; exact hAs
        clear hgk hAs
        go_wp2_with (first
          | (at_mapUpdate; refine wpList_mapUpdate_own _ rfl _ _ _ 23 rfl 9 9 law Try.underlying23 _ w.heap.size _ _ rfl hout1 hbd _ _ _ rfl rfl hkey _ [] plain_cli ?_; intro w2 hout2 hg2; go_frame)
          | go_in)
        have hrg2 := hrg1.kept hg2 (fun e => by have := Option.some.inj e; omega) (fun e => by have := Option.some.inj e; omega)
        go_roundw
        case rel => exact ⟨_, cnt1, _, hrg2, by omega, hout2.mono (by omega), HA.out, hnx1.grown hg2 (by have := hnx1.size; omega) (fun j hj => by cases hj; exact Nat.le_refl _)⟩
        case measure => rw [hrg2.left_eq, hrg.left_eq]; exact hcl

/-- It returns a bool. -/
def Ans (e : Ending) : Prop := ∃ b : Bool, e = .returned (.bool b)

/-- sourcesWithin: it answers, and turns nothing. -/
theorem within_none (a : Option Addr) (cap : Nat) (gm tm : Option Nat) (ng nt : Nat) (w : World) (hlg : ∀ ty, (Builtin.len_ #[23] ty #[.map gm]).run Try.prog w = .ok (.int .i64 ng) w) (hlt : ∀ ty, (Builtin.len_ #[23] ty #[.map tm]).run Try.prog w = .ok (.int .i64 nt) w) :
    Calls Try.prog 6 #[.slice a 0 cap, .map gm, .map tm] w fun e w' => Ans e ∧ w' = w := by
  by_cases h1 : (65536 : Int) < ng
  · go_enter Try.func6, Try.ntmps6
    go_wp2
    go_ret
    exact ⟨⟨_, rfl⟩, rfl⟩
  · by_cases h2 : (65536 : Int) < nt
    · go_enter Try.func6, Try.ntmps6
      go_wp2
      go_ret
      exact ⟨⟨_, rfl⟩, rfl⟩
    · go_enter Try.func6, Try.ntmps6
      go_wp2
      refine wp_loop_rounds 1 ?_
      rw [rounds_succ]
      go_wp2
      go_ret
      exact ⟨⟨_, rfl⟩, rfl⟩

theorem within_any (b off len cap : Nat) (gm tm : Option Nat) (ng nt : Nat) (ss : List ByteArray) (w : World) (hreach : len ≤ 140737488351232) (hz : ss.length = len)
    (hc : ∀ j, j < len → w.cell? ⟨b, off + j, none⟩ = some (.string (ss.getD j ByteArray.empty))) (hsz : ∀ s ∈ ss, s.size ≤ maxLen)
    (hlg : ∀ ty, (Builtin.len_ #[23] ty #[.map gm]).run Try.prog w = .ok (.int .i64 ng) w) (hlt : ∀ ty, (Builtin.len_ #[23] ty #[.map tm]).run Try.prog w = .ok (.int .i64 nt) w) :
    Calls Try.prog 6 #[.slice (some ⟨b, off, none⟩) len cap, .map gm, .map tm] w fun e w' => Ans e ∧ w' = w := by
  by_cases h0 : (65536 : Int) < len
  · go_enter Try.func6, Try.ntmps6
    go_wp2
    go_ret
    exact ⟨⟨_, rfl⟩, rfl⟩
  by_cases h1 : (65536 : Int) < ng
  · go_enter Try.func6, Try.ntmps6
    go_wp2
    go_ret
    exact ⟨⟨_, rfl⟩, rfl⟩
  by_cases h2 : (65536 : Int) < nt
  · go_enter Try.func6, Try.ntmps6
    go_wp2
    go_ret
    exact ⟨⟨_, rfl⟩, rfl⟩
  go_enter Try.func6, Try.ntmps6
  go_wp2
  clear hlg hlt h1 h2
  go_loop [7, 8] (fun t i => ∃ (k : Nat) (q : Int), k ≤ len ∧ i = .int .i64 k ∧ t = .int .i64 q ∧ 0 ≤ q ∧ q ≤ 1048576) (fun _ i => len - (intOf i).toNat)
  case atStart => exact ⟨0, _, Nat.zero_le _, rfl, rfl, by omega, by omega⟩
  case round =>
    obtain ⟨k, q, hk, rfl, rfl, hq0, hq1⟩ := hrel
    by_cases hlt : k < len
    · obtain ⟨s, hs⟩ : ∃ s, s = ss.getD k ByteArray.empty := ⟨_, rfl⟩
      have hcx : w.cell? ⟨b, off + k, none⟩ = some (.string s) := by rw [hs]; exact hc k hlt
      have hmem : s = ss[k]'(by omega) := by rw [hs, List.getD, List.getElem?_eq_getElem (by omega)]; rfl
      have hms : s.size ≤ maxLen := hsz _ (by rw [hmem]; exact List.getElem_mem _)
      unfold maxLen at hms
      clear hs hmem hc hsz
      by_cases hbig : 1048576 - q < (s.size : Int)
      · go_wp2
        go_ret
        exact ⟨⟨_, rfl⟩, rfl⟩
      · go_wp2
        go_round
        case rel => exact ⟨k + 1, _, by omega, by go_num, rfl, by omega, by omega⟩
        case measure => simp [intOf]; omega
    · go_wp2
      go_ret
      exact ⟨⟨_, rfl⟩, rfl⟩

theorem within_strs (a : Option Addr) (len cap : Nat) (gm tm : Option Nat) (ng nt : Nat) (ss : List ByteArray) (w : World) (hreach : len ≤ 140737488351232) (hs : Strs w a len ss)
    (hlg : ∀ ty, (Builtin.len_ #[23] ty #[.map gm]).run Try.prog w = .ok (.int .i64 ng) w) (hlt : ∀ ty, (Builtin.len_ #[23] ty #[.map tm]).run Try.prog w = .ok (.int .i64 nt) w) :
    Calls Try.prog 6 #[.slice a len cap, .map gm, .map tm] w fun e w' => Ans e ∧ w' = w := by
  obtain ⟨hl, hsz, hp⟩ := hs
  by_cases h0 : len = 0
  · subst h0
    exact within_none a cap gm tm ng nt w hlg hlt
  · obtain ⟨b, off, rfl, _, hc⟩ := hp (by omega)
    exact within_any b off len cap gm tm ng nt ss w hreach hl hc hsz hlg hlt

end Go.Proofs.Qxb6616271a
