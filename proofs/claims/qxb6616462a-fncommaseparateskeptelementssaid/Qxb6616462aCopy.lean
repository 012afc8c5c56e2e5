/-
  The walks of zzCopyBytes (5), zzAppendBytes (8), zzEqualBytes (10).
-/
import Derived.Test.Qxb6616462aBase
namespace Go.Proofs.Qxb6616462a
open Go.RowKit

/-- What zzCopyBytes leaves. -/
def CopyPost (w : World) (bs : List Int) (e : Ending) (w' : World) : Prop := ∃ v', e = .returned v' ∧ w'.ownsRow w.heap.size 5 1 v' bs.length (u8s bs) ∧ Below w.heap.size w w'

theorem eql23 (a : Option Addr) (l c : Nat) (w : World) : (binOp .eql 23 (.slice a l c) (.slice none 0 0)).run Try.prog w = .ok (.bool a.isNone) w := Lib.run_eql_slice_nil w 23 5 a l c 0 0 Try.underlying23

/-- One more byte laid. -/
theorem take_set (L bs : List Int) (k : Nat) (hL : L.length = bs.length) (hk : k < bs.length) (h : L.take k = bs.take k) : (L.set k (bs.getD k 0)).take (k + 1) = bs.take (k + 1) := by
  rw [List.take_succ_eq_append_getElem (by simpa [hL] using hk), List.take_succ_eq_append_getElem hk]
  rw [List.take_set_of_le (Nat.le_refl _), h]
  simp [List.getD, List.getElem?_eq_getElem hk]

theorem u8s_set (L : List Int) (k : Nat) (x : Int) : (u8s L).set k (.int .u8 x) = u8s (L.set k x) := by simp [u8s]

theorem made_u8 (n : Nat) : (madeCells (Value.cells (.int .u8 0)) (n * 1)).toList = u8s (List.replicate n 0) := by
  rw [Nat.mul_one]
  exact (toList_madeCells_one (.int .u8 0) n).trans (by simp [u8s])

set_option maxRecDepth 100000 in
theorem copy_some (ad : Addr) (cap b off : Nat) (bs : List Int) (w : World) (hlen : bs.length ≤ 1048576) (ha : 0 < bs.length → some ad = some ⟨b, off, none⟩) (hlt : 0 < bs.length → b < w.heap.size)
    (hc : ∀ j, j < bs.length → w.cell? ⟨b, off + j, none⟩ = some (.int .u8 (bs.getD j 0))) :
    Calls Try.prog 5 #[.slice (some ad) bs.length cap] w (CopyPost w bs) := by
  obtain ⟨i0, hi, hz0, hz1, hz2⟩ := info_parts info5
  have hnil := fun w => eql23 (some ad) bs.length cap w
  simp only [Option.isNone_some] at hnil
  generalize hn : bs.length = n at *
  have Hn : Hid (bs.length = n) := hn
  clear hn
  go_enter Try.func5, Try.ntmps5
  go_wp2_with (first
    | (at_make; refine wpList_make_full _ rfl _ _ 23 rfl w.heap.size 5 i0 (.int .u8 0) 1 Try.underlying23 hi hz0 hz1 _ _ _ _ n rfl rfl rfl rfl (by rw [hz2]; omega) (by unfold maxLen; omega) (Nat.le_refl _) ?_; intro w1 hown1 hg1)
    | fail)
  rw [made_u8] at hown1
  clear hnil
  go_loopw [4] (fun i wr => ∃ (k : Nat) (L : List Int), k ≤ n ∧ i = .int .i64 k ∧ L.length = n ∧ L.take k = bs.take k ∧ wr.ownsRow w.heap.size 5 1 (.slice (some ⟨w.heap.size, 0, none⟩) n n) n (u8s L) ∧ Below w.heap.size w wr)
    (fun i _ => n - (intOf i).toNat)
  case atStart => exact ⟨0, List.replicate n 0, Nat.zero_le _, rfl, by simp, by simp, hown1, below_of_grown hg1⟩
  case round =>
    obtain ⟨k, L, hk, rfl, hL, hT, hown, hb⟩ := hrel
    by_cases hkl : k < n
    · have hix := fun w => index_run Try.underlying23 info5 cap ha hkl w
      have hcx : wr.cell? ⟨b, off + k, none⟩ = some (.int .u8 (bs.getD k 0)) := (hb.cell (by exact hlt (by omega))).trans (hc k hkl)
      have hdst : wr.cell? ⟨w.heap.size, k, none⟩ = some (.int .u8 (L.getD k 0)) := by rw [hown.cellAt k (by omega)]; exact u8s_getElem? L (by omega)
      have hfr := hown.frozenAt k
      have HT : Hid ((L.set k (bs.getD k 0)).take (k + 1) = bs.take (k + 1)) := take_set L bs k (by rw [hL, Hn.out]) (by rw [Hn.out]; exact hkl) hT
      have hst := hown.stored k (.int .u8 (bs.getD k 0))
      rw [u8s_set] at hst
      generalize bs.getD k 0 = x at *
      have HS := hst.1
      have HB : Below w.heap.size w (wr.setCell ⟨w.heap.size, k, none⟩ (.int .u8 x)) := hb.grown hst.2 hb.size (fun j hj => by cases hj; exact Nat.le_refl _)
      clear hst hT hown hc
      go_wp2
      go_roundw
      case rel => exact ⟨k + 1, L.set k x, by omega, by go_num, by simp [hL], HT.out, HS, HB⟩
      case measure => simp [intOf]; omega
    · have hkn : k = n := by omega
      subst hkn
      go_wp2
      go_ret
      have e : L = bs := by
        rw [List.take_of_length_le (by omega), List.take_of_length_le (by rw [Hn.out]; exact Nat.le_refl _)] at hT
        exact hT
      subst e
      exact ⟨_, rfl, by rw [Hn.out]; exact hown, hb⟩

theorem copy_any (v : Value) (bs : List Int) (w : World) (hlen : bs.length ≤ 1048576) (h : Bytes w v bs) : Calls Try.prog 5 #[v] w (CopyPost w bs) := by
  obtain ⟨a, cap, b, off, rfl, ha, hlt, hc⟩ := h
  cases a with
  | some ad => exact copy_some ad cap b off bs w hlen ha hlt hc
  | none =>
    have h0 : bs.length = 0 := by
      rcases Nat.eq_zero_or_pos bs.length with h | h
      · exact h
      · cases ha h
    obtain rfl : bs = [] := List.eq_nil_of_length_eq_zero h0
    have hnil := fun w => eql23 none 0 cap w
    simp only [Option.isNone_none] at hnil
    go_enter Try.func5, Try.ntmps5
    go_wp2
    go_ret
    exact ⟨_, rfl, World.ownsRow_nil _ _ _ _, Below.refl _ _⟩

/-- What zzAppendBytes leaves. -/
def AppPost (w : World) (B : Nat) (v : Value) (bs es : List Int) (e : Ending) (w' : World) : Prop :=
  ∃ v', e = .returned v' ∧ w'.ownsRow B 5 1 v' (bs ++ es).length (u8s (bs ++ es)) ∧ w.grownBy w' v.ownBlock ∧ Moved w v v'

/-- An append of one byte, at the operation. -/
theorem wpList_append_byte {w : World} {ops : Array Oper} {rest : List Oper} {o : Oper} {a : Act} {Q : Exit → Act → World → Prop} (hgd : o.guard = none) (s x : Operand)
    (ho : o.op = .call { callee := .builtin .append, args := #[s, x], argTypes := #[23, 23] })
    (B : Nat) (v : Value) (bs : List Int) (c : Int) (hs : a.eval s = v) (hown : w.ownsRow B 5 1 v bs.length (u8s bs)) (hx : a.eval x = .slice (some ⟨w.heap.size, 0, none⟩) 1 1)
    (hlen : bs.length ≤ 4194304) (hbase : B ≤ w.heap.size)
    (h : ∀ v' w', w'.ownsRow B 5 1 v' (bs ++ [c]).length (u8s (bs ++ [c])) → w.grownBy w' v.ownBlock → Moved w v v' → wpList Try.prog ops Q rest (a.put o.dst v') w') :
    wpList Try.prog ops Q (o :: rest) a (w.alloc (.cells #[.int .u8 c] 5)) := by
  obtain ⟨i0, hi, hz0, hz1, hz2⟩ := info_parts info5
  refine wpList_append_own_at _ hgd s x 23 ho B 5 i0 (.int .u8 0) 1 1 Try.underlying23 hi hz0 hz1 hz2 rfl (by decide) v bs.length (u8s bs) hs (hown.alloc _) ⟨w.heap.size, 0, none⟩ 1 1 [.int .u8 c] hx rfl (cell_one_new _ _ _) (ints_oneCell .u8 [c]) (by unfold maxLen; omega) (by omega) (by simp; omega) ?_
  intro v' w' h1 h2 _ h4
  refine h v' w' ?_ ((World.grownBy_alloc w _ _).trans h2) ?_
  · rw [u8s_append, List.length_append]; exact h1
  · rcases h4 with e | e
    · exact Or.inl e
    · exact Or.inr ⟨_, e, by simp⟩

set_option maxRecDepth 100000 in
theorem append_any (B : Nat) (v ev : Value) (bs es : List Int) (w : World) (hlen : bs.length + es.length ≤ 4194304) (hown : w.ownsRow B 5 1 v bs.length (u8s bs)) (hB : B ≤ w.heap.size)
    (a : Option Addr) (cap b off : Nat) (hev : ev = .slice a es.length cap) (ha : 0 < es.length → a = some ⟨b, off, none⟩) (hlt : 0 < es.length → b < w.heap.size ∧ v.ownBlock ≠ some b)
    (hc : ∀ j, j < es.length → w.cell? ⟨b, off + j, none⟩ = some (.int .u8 (es.getD j 0))) :
    Calls Try.prog 8 #[v, ev] w (AppPost w B v bs es) := by
  subst hev
  generalize hn : es.length = n at *
  have Hn : Hid (es.length = n) := hn
  clear hn
  go_enter Try.func8, Try.ntmps8
  go_wp2
  go_loopw [0, 5] (fun d i wr => ∃ k : Nat, k ≤ n ∧ i = .int .i64 k ∧ wr.ownsRow B 5 1 d (bs ++ es.take k).length (u8s (bs ++ es.take k)) ∧ w.grownBy wr v.ownBlock ∧ Moved w v d)
    (fun _ i _ => n - (intOf i).toNat)
  case atStart => exact ⟨0, Nat.zero_le _, rfl, by simpa using hown, World.grownBy.refl _ _, Or.inl rfl⟩
  case round =>
    obtain ⟨k, hk, rfl, hown', hg, hm⟩ := hrel
    by_cases hkl : k < n
    · have hix := fun w => index_run Try.underlying23 info5 cap ha hkl w
      obtain ⟨hbl, hbv⟩ := hlt (by omega)
      have hcx : wr.cell? ⟨b, off + k, none⟩ = some (.int .u8 (es.getD k 0)) := hg.cell (hc k hkl) (fun e => hbv e.symm)
      have HT : Hid (bs ++ es.take (k + 1) = (bs ++ es.take k) ++ [es.getD k 0]) := by
        have hkl' : k < es.length := by rw [Hn.out]; exact hkl
        unfold Hid
        rw [List.take_succ_eq_append_getElem hkl', List.append_assoc]
        simp [List.getD, List.getElem?_eq_getElem hkl']
      have hl2 : (bs ++ es.take k).length ≤ 4194304 := by
        have := Hn.out
        simp only [List.length_append, List.length_take]; omega
      have hws := hg.size
      generalize es.getD k 0 = x at *
      generalize hAcc : bs ++ es.take k = acc at *
      clear hc hAcc
      go_wp2_with (first
        | (at_builtin; refine wpList_append_byte rfl (.tmp 12) (.tmp 17) rfl B _ acc x rfl hown' rfl hl2 (by omega) ?_; intro v' w1 hown1 hg1 hm1)
        | fail)
      go_wp2
      go_roundw
      case rel => exact ⟨k + 1, by omega, by go_num, by rw [HT.out]; exact hown1, grown_then hg hm hg1, moved_then hm hws hm1⟩
      case measure => simp [intOf]; omega
    · have hkn : k = n := by omega
      subst hkn
      go_wp2
      go_ret
      have e : es.take k = es := List.take_of_length_le (by rw [Hn.out]; exact Nat.le_refl _)
      rw [e] at hown'
      exact ⟨_, rfl, hown', hg, hm⟩

end Go.Proofs.Qxb6616462a
