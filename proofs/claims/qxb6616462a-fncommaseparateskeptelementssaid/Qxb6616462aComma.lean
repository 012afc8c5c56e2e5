/-
  The walks of comma (11), ZZcomma (7), ZZkept (9).
-/
import Derived.Test.Qxb6616462aFilter
namespace Go.Proofs.Qxb6616462a
open Go.RowKit

/-- What comma leaves. -/
def CommaPost (w : World) (B Bf bf bw m : Nat) (ks : Nat → Bool) (v : Value) (bs : List Int) (e : Ending) (w' : World) : Prop :=
  ∃ v', e = .returned v' ∧ w'.ownsRow B 5 1 v' (bs ++ if ks m then [44] else []).length (u8s (bs ++ if ks m then [44] else [])) ∧
    Filt w' Bf bf bw (m + 1) (fun i => if i = m then true else ks i) ∧ Grown2 w w' v.ownBlock bw ∧ Moved w v v'

/-- The filter stays while another block is written and new ones are made. -/
theorem Filt.kept {w w' : World} {B bf bw nk : Nat} {ks : Nat → Bool} {r : Option Nat} (h : Filt w B bf bw nk ks) (hg : w.grownBy w' r) (h1 : r ≠ some bf) (h2 : r ≠ some bw) : Filt w' B bf bw nk ks := by
  obtain ⟨f, ⟨L, o, hl⟩, ne, lt⟩ := h
  exact ⟨hg.cell f (fun e => h1 e.symm), ⟨L, o.kept hg (Or.inr (fun e => h2 e.symm)), hl⟩, ne, Nat.lt_of_lt_of_le lt hg.size⟩

/-- The innermost flag set. -/
theorem Filt.set {w : World} {B bf bw m : Nat} {ks : Nat → Bool} (h : Filt w B bf bw (m + 1) ks) : Filt (w.setCell ⟨bw, m * 3 + 2, none⟩ (.bool true)) B bf bw (m + 1) (fun i => if i = m then true else ks i) := by
  obtain ⟨f, ⟨L, o, hl⟩, ne, lt⟩ := h
  have hlen := o.1
  refine ⟨?_, ⟨L.set (m * 3 + 2) (.bool true), (o.stored _ _).1, fun i hi => ?_⟩, ne, by rw [size_setCell]; exact lt⟩
  · rw [World.cell?_setCell_other _ _ _ _ (fun e => ne (congrArg Addr.block e).symm)]; exact f
  · by_cases e : i = m
    · subst e
      rw [show 3 * i + 2 = i * 3 + 2 by omega]
      rw [List.getElem?_set_self (by omega)]
      simp
    · rw [List.getElem?_set_ne (by omega), hl i hi]
      simp [e]

theorem Filt.cell {w : World} {B bf bw m : Nat} {ks : Nat → Bool} (h : Filt w B bf bw (m + 1) ks) {i : Nat} (hi : i < m + 1) : w.cell? ⟨bw, i * 3 + 2, none⟩ = some (.bool (ks i)) ∧ w.frozen? ⟨bw, i * 3 + 2, none⟩ = false := by
  obtain ⟨f, ⟨L, o, hl⟩, ne, lt⟩ := h
  refine ⟨?_, o.frozenAt _⟩
  rw [o.cellAt _ (by omega), show i * 3 + 2 = 3 * i + 2 by omega]
  exact hl i hi

theorem Filt.drewN {w : World} {B bf bw nk : Nat} {ks : Nat → Bool} (h : Filt w B bf bw nk ks) (q : Nat) : Filt (w.drewN q) B bf bw nk ks :=
  ⟨h.field, h.row, h.ne, h.lt⟩

theorem Grown2.set {w w1 : World} {r : Option Nat} (h : w.grownBy w1 r) (b j : Nat) (u : Value) : Grown2 w (w1.setCell ⟨b, j, none⟩ u) r b :=
  ⟨h.os, h.tape, h.output, by rw [size_setCell]; exact h.size, fun k hk h1 h2 => (Below.heap_setCell w1 ⟨b, j, none⟩ u k h2).trans (h.block k hk h1)⟩

/-- An append of one byte behind draws. -/
theorem wpList_append_byte_q {w : World} (q : Nat) {ops : Array Oper} {rest : List Oper} {o : Oper} {a : Act} {Q : Exit → Act → World → Prop} (hgd : o.guard = none) (s x : Operand)
    (ho : o.op = .call { callee := .builtin .append, args := #[s, x], argTypes := #[23, 23] })
    (B : Nat) (v : Value) (bs : List Int) (c : Int) (hs : a.eval s = v) (hown : w.ownsRow B 5 1 v bs.length (u8s bs)) (hx : a.eval x = .slice (some ⟨w.heap.size, 0, none⟩) 1 1)
    (hlen : bs.length ≤ 4194304) (hbase : B ≤ w.heap.size)
    (h : ∀ v' w', w'.ownsRow B 5 1 v' (bs ++ [c]).length (u8s (bs ++ [c])) → (w.drewN q).grownBy w' v.ownBlock → Moved (w.drewN q) v v' → wpList Try.prog ops Q rest (a.put o.dst v') w') :
    wpList Try.prog ops Q (o :: rest) a ((w.alloc (.cells #[.int .u8 c] 5)).drewN q) := by
  have h' := wpList_append_byte (w := w.drewN q) hgd s x ho B v bs c hs hown hx hlen hbase h
  exact h'

set_option maxRecDepth 100000 in
theorem comma_any (B Bf bf bw m : Nat) (ks : Nat → Bool) (v : Value) (bs : List Int) (w : World) (hm : m ≤ 1048576) (hlen : bs.length ≤ 4194304) (hF : Filt w Bf bf bw (m + 1) ks)
    (hown : w.ownsRow B 5 1 v bs.length (u8s bs)) (hB : B ≤ w.heap.size) (hv1 : v.ownBlock ≠ some bf) (hv2 : v.ownBlock ≠ some bw) :
    Calls Try.prog 11 #[.pointer (some ⟨bf, 0, none⟩), v] w (CommaPost w B Bf bf bw m ks v bs) := by
  have hfl := hF.field
  obtain ⟨hc, hfz⟩ := hF.cell (Nat.lt_succ_self m)
  cases hb : ks m
  · have HP : ∀ (nq : Nat) (w1 : World), w1 = w.drewN nq → CommaPost w B Bf bf bw m ks v bs (.returned v) (w1.setCell ⟨bw, m * 3 + 2, none⟩ (.bool true)) := by
      rintro nq w1 rfl
      refine ⟨v, rfl, ?_, (hF.drewN nq).set, Grown2.set (w := w) (w1 := w.drewN nq) ⟨rfl, rfl, rfl, Nat.le_refl _, fun _ _ _ => rfl⟩ bw _ _, Or.inl rfl⟩
      rw [hb]
      simp only [Bool.false_eq_true, if_false, List.append_nil]
      refine hown.kept (row := some bw) ⟨rfl, rfl, rfl, by rw [size_setCell]; exact Nat.le_refl _, fun k _ hk => Below.heap_setCell _ ⟨bw, _, none⟩ _ k (fun e => hk (by rw [e]))⟩ (Or.inr hv2)
    have HPh := hide HP
    rw [hb] at hc
    clear HP hF hown hb
    go_enter Try.func11, Try.ntmps11
    go_wp2_with fail
    go_quiet (fail)
    go_wp2
    go_ret
    exact unhide HPh _ _ rfl
  · have HP : ∀ (nq : Nat) (v' : Value) (w1 : World), w1.ownsRow B 5 1 v' (bs ++ [44]).length (u8s (bs ++ [44])) → (w.drewN nq).grownBy w1 v.ownBlock → Moved (w.drewN nq) v v' → CommaPost w B Bf bf bw m ks v bs (.returned v') (w1.setCell ⟨bw, m * 3 + 2, none⟩ (.bool true)) := by
      intro nq v' w1 ho hg hmv
      have hF1 := (hF.drewN nq).kept hg hv1 hv2
      have hg' : w.grownBy w1 v.ownBlock := ⟨hg.os, hg.tape, hg.output, hg.size, hg.block⟩
      refine ⟨v', rfl, ?_, hF1.set, Grown2.set hg' bw _ _, hmv⟩
      rw [hb]
      simp only [if_true]
      have hbw : bw < w.heap.size := by obtain ⟨_, ⟨L, o, _⟩, _, _⟩ := hF; exact (o.lt _ rfl).2
      have hv3 : v'.ownBlock ≠ some bw := by
        rcases hmv with e | ⟨g, e, hge⟩
        · rw [e]; exact hv2
        · rw [e]; intro h; have := Option.some.inj h; simp at hge; omega
      exact ho.kept (row := some bw) ⟨rfl, rfl, rfl, by rw [size_setCell]; exact Nat.le_refl _, fun k _ hk => Below.heap_setCell _ ⟨bw, _, none⟩ _ k (fun e => hk (by rw [e]))⟩ (Or.inr hv3)
    have HPh := hide HP
    rw [hb] at hc
    clear HP hb
    go_enter Try.func11, Try.ntmps11
    go_wp2_with fail
    go_quiet (fail)
    go_wp2_with (first
      | (at_builtin; refine wpList_append_byte_q nq rfl (.tmp 21) (.tmp 22) rfl B v bs 44 rfl hown rfl hlen hB ?_; intro v' w1 hown1 hg1 hm1; have hF1 := (hF.drewN nq).kept hg1 hv1 hv2; obtain ⟨c1, f1⟩ := hF1.cell (Nat.lt_succ_self m))
      | fail)
    go_ret
    exact unhide HPh _ _ _ hown1 hg1 hm1

theorem zzcomma_any (B Bf bf bw m : Nat) (ks : Nat → Bool) (v : Value) (bs : List Int) (w : World) (hm : m ≤ 1048576) (hlen : bs.length ≤ 4194304) (hF : Filt w Bf bf bw (m + 1) ks)
    (hown : w.ownsRow B 5 1 v bs.length (u8s bs)) (hB : B ≤ w.heap.size) (hv1 : v.ownBlock ≠ some bf) (hv2 : v.ownBlock ≠ some bw) :
    Calls Try.prog 7 #[.pointer (some ⟨bf, 0, none⟩), v] w (CommaPost w B Bf bf bw m ks v bs) := by
  go_enter Try.func7, Try.ntmps7
  go_wp2_with fail
  refine (comma_any B Bf bf bw m ks v bs _ hm hlen hF hown hB hv1 hv2).mono ?_
  rintro e w' ⟨v', rfl, r1, r2, r3, r4⟩
  have H := hide (And.intro r1 (And.intro r2 (And.intro r3 r4)))
  clear r1 r2 r3 r4 hF hown
  go_wp2
  go_ret
  obtain ⟨r1, r2, r3, r4⟩ := unhide H
  exact ⟨v', rfl, r1, r2, r3, r4⟩

/-- What ZZkept leaves. -/
def KeptPost (w : World) (nk : Nat) (ks : Nat → Bool) (e : Ending) (w' : World) : Prop :=
  e = .returned (.slice (some ⟨w.heap.size, 0, none⟩) nk nk) ∧ (∃ L, w'.ownsRow w.heap.size 4 1 (.slice (some ⟨w.heap.size, 0, none⟩) nk nk) nk L ∧ ∀ i, i < nk → L[i]? = some (.bool (ks i))) ∧ Below w.heap.size w w'

theorem set_flag (L : List Value) (k : Nat) (ks : Nat → Bool) (hl : k < L.length) (h : ∀ i, i < k → L[i]? = some (.bool (ks i))) :
    ∀ i, i < k + 1 → (L.set k (.bool (ks k)))[i]? = some (.bool (ks i)) := by
  intro i hi
  by_cases e : i = k
  · subst e
    simp [hl]
  · rw [List.getElem?_set_ne (by omega)]
    exact h i (by omega)

set_option maxRecDepth 100000 in
theorem kept_any (B bf bw m : Nat) (ks : Nat → Bool) (w : World) (hm : m ≤ 1048576) (hF : Filt w B bf bw (m + 1) ks) :
    Calls Try.prog 9 #[.pointer (some ⟨bf, 0, none⟩)] w (KeptPost w (m + 1) ks) := by
  obtain ⟨i0, hi, hz0, hz1, hz2⟩ := info_parts info4
  have hfl := hF.field
  have hlt := hF.lt
  have hbw : bw < w.heap.size := by obtain ⟨_, ⟨L, o, _⟩, _, _⟩ := hF; exact (o.lt _ rfl).2
  have hcs : ∀ i, i < m + 1 → w.cell? ⟨bw, i * 3 + 2, none⟩ = some (.bool (ks i)) := fun i hi => (hF.cell hi).1
  clear hF
  generalize hn : m + 1 = n at *
  have hn1 : n ≤ 1048577 := by omega
  clear hn hm
  go_enter Try.func9, Try.ntmps9
  go_wp2_with (first
    | (at_make; refine wpList_make_full _ rfl _ _ 22 rfl w.heap.size 4 i0 (.bool false) 1 Try.underlying22 hi hz0 hz1 _ _ _ _ n rfl rfl rfl rfl (by rw [hz2]; omega) (by unfold maxLen; omega) (Nat.le_refl _) ?_; intro w1 hown1 hg1)
    | fail)
  generalize (madeCells (Value.bool false).cells (n * 1)).toList = L1 at *
  go_loopw [4] (fun i wr => ∃ (k : Nat) (L : List Value), k ≤ n ∧ i = .int .i64 k ∧ wr.ownsRow w.heap.size 4 1 (.slice (some ⟨w.heap.size, 0, none⟩) n n) n L ∧ (∀ i, i < k → L[i]? = some (.bool (ks i))) ∧ Below w.heap.size w wr)
    (fun i _ => n - (intOf i).toNat)
  case atStart => exact ⟨0, L1, Nat.zero_le _, rfl, hown1, fun i hi => by omega, below_of_grown hg1⟩
  case round =>
    obtain ⟨k, L, hk, rfl, hown, hL, hb⟩ := hrel
    have hfr : wr.cell? ⟨bf, 21, none⟩ = some (.slice (some ⟨bw, 0, none⟩) n n) := (hb.cell (by exact hlt)).trans hfl
    by_cases hkl : k < n
    · have hcx : wr.cell? ⟨bw, k * 3 + 2, none⟩ = some (.bool (ks k)) := (hb.cell (by exact hbw)).trans (hcs k hkl)
      have hlen : L.length = n := by have := hown.1; omega
      have hdst : wr.cell? ⟨w.heap.size, k, none⟩ = some (L[k]'(by omega)) := by rw [hown.cellAt k (by omega)]; exact List.getElem?_eq_getElem _
      have hff := hown.frozenAt k
      obtain ⟨o1, g1⟩ := hown.stored k (.bool (ks k))
      have hb1 : Below w.heap.size w (wr.setCell ⟨w.heap.size, k, none⟩ (.bool (ks k))) := hb.setCell (Nat.le_refl _) _
      have H := hide (And.intro o1 (And.intro hb1 (set_flag L k ks (by omega) hL)))
      clear o1 g1 hb1 hL hown hcs
      go_wp2
      go_roundw
      case rel =>
        obtain ⟨o1, hb1, hL1⟩ := unhide H
        exact ⟨k + 1, _, by omega, by go_num, o1, hL1, hb1⟩
      case measure => simp [intOf]; omega
    · have hkn : k = n := by omega
      subst hkn
      go_wp2
      go_ret
      exact ⟨rfl, ⟨L, hown, hL⟩, hb⟩

end Go.Proofs.Qxb6616462a
