/-
  The walk of FnCommaSeparatesKeptElements (3), at a stack of at least one level.
-/
import Derived.Test.Qxb6616462aPlain
namespace Go.Proofs.Qxb6616462a
open Go.RowKit

theorem neq22 (a : Option Addr) (l c : Nat) (w : World) : (binOp .neq 22 (.slice a l c) (.slice none 0 0)).run Try.prog w = .ok (.bool (!a.isNone)) w := run_neq_slice_nil_any w 22 4 a l c 0 0 Try.underlying22

/-- The flags as cells. -/
def bools (n : Nat) (ks : Nat → Bool) : List Value := (List.range n).map (fun i => .bool (ks i))

theorem length_bools (n : Nat) (ks : Nat → Bool) : (bools n ks).length = n := by simp [bools]
theorem bools_get (n : Nat) (ks : Nat → Bool) {i : Nat} (h : i < n) : (bools n ks)[i]? = some (.bool (ks i)) := by simp [bools, h]
theorem bools_get' {n : Nat} {ks : Nat → Bool} {j : Nat} {v : Value} (h : (bools n ks)[j]? = some v) : j < n ∧ v = .bool (ks j) := by
  have hj : j < n := by
    rcases Nat.lt_or_ge j n with h' | h'
    · exact h'
    · rw [List.getElem?_eq_none (by rw [length_bools]; exact h')] at h; cases h
  rw [bools_get n ks hj] at h
  exact ⟨hj, (Option.some.inj h).symm⟩
theorem bools_one (n : Nat) (ks : Nat → Bool) : ∀ v ∈ bools n ks, v.oneCell' = true := by
  intro v hv
  obtain ⟨i, _, rfl⟩ := List.mem_map.1 hv
  rfl

/-- A whole row that is owned, as its block. -/
theorem own_block {w : World} {base : Nat} {e : TypeId} {g n : Nat} {xs : List Value} (h : w.ownsRow base e 1 (.slice (some ⟨g, 0, none⟩) n n) n xs) : w.heap[g]? = some (.cells xs.toArray e (0, 0)) := by
  rcases h.2 with ⟨h', _⟩ | ⟨g', cap', cur, h', _, hg, _, _, hs, ht⟩
  · simp at h'
  · simp only [Value.slice.injEq, Option.some.injEq, Addr.mk.injEq, and_true, true_and] at h'
    obtain ⟨rfl, rfl⟩ := h'
    rw [List.take_of_length_le (by rw [Array.length_toList]; omega)] at ht
    rw [hg, ← ht]

theorem sz4 : (Try.prog.info? 4).map (·.size) = some 1 := by kernel_rfl

/-- The copy of the flags, at the operation. -/
theorem wpList_copy_flags {w w0 : World} {ops : Array Oper} {rest : List Oper} {o : Oper} {a : Act} {Q : Exit → Act → World → Prop} (hgd : o.guard = none) (d s : Operand)
    (ho : o.op = .call { callee := .builtin .copy, args := #[d, s], argTypes := #[22, 22] })
    (g b0 off0 nk c0 : Nat) (ks : Nat → Bool) (L : List Value) (hd : a.eval d = .slice (some ⟨g, 0, none⟩) nk nk) (hs : a.eval s = .slice (some ⟨b0, off0, none⟩) nk c0)
    (hown : w.ownsRow g 4 1 (.slice (some ⟨g, 0, none⟩) nk nk) nk L) (hsrc : ∀ j, j < nk → w.cell? ⟨b0, off0 + j, none⟩ = some (.bool (ks j))) (hb : Below g w0 w)
    (h : ∀ w', (∀ j, j < nk → w'.cell? ⟨g, j, none⟩ = some (.bool (ks j))) → g < w'.heap.size → Below g w0 w' → wpList Try.prog ops Q rest (a.put o.dst (goInt nk)) w') :
    wpList Try.prog ops Q (o :: rest) a w := by
  have hl : L.length = nk := by have := hown.1; omega
  refine wpList_copy_splice hgd d s 22 22 ho 4 Try.underlying22 sz4 _ _ nk nk nk c0 hd hs g 0 L 4 (own_block hown) (bools nk ks) (by simp [length_bools]) (fun _ => ⟨rfl, _, rfl, fun j v hv => ?_⟩) (by rw [length_bools]; omega) (bools_one nk ks) g w0 hb (Nat.le_refl _) ?_
  · obtain ⟨hj, rfl⟩ := bools_get' hv
    have hadd : (⟨b0, off0, none⟩ : Addr).add j = ⟨b0, off0 + j, none⟩ := by unfold Addr.add; split <;> simp_all
    rw [hadd]
    exact hsrc j hj
  · intro w' hg' hb'
    have hg2 : w'.heap[g]? = some (.cells (bools nk ks).toArray 4 (0, 0)) := by
      have e : splice L 0 (bools nk ks) = bools nk ks := by simp [splice, length_bools, hl]
      rw [← e]; exact hg'.out
    rw [length_bools]
    exact h w' (fun j hj => by rw [cell_of_row w' g j _ 4 (0, 0) hg2]; simpa using bools_get nk ks hj) (Array.getElem?_eq_some_iff.1 hg2).1 hb'

theorem splice_whole (L cs : List Value) (h : cs.length = L.length) : splice L 0 cs = cs := by
  simp [splice, h]

/-- What holds in the loop over the elements. -/
structure L2 (w2 : World) (bf bw nk m : Nat) (ks : Nat → Bool) (ds : List Int) (es : List (List Int)) (k : Nat) (v : Value) (wr : World) : Prop where
  own : wr.ownsRow w2.heap.size 5 1 v (ds ++ joinC (ks m) (es.take k)).length (u8s (ds ++ joinC (ks m) (es.take k)))
  filt : Filt wr w2.heap.size bf bw nk (flags m ks k)
  apart : v.ownBlock ≠ some bf ∧ v.ownBlock ≠ some bw
  bw : w2.heap.size ≤ bw
  below : Below w2.heap.size w2 wr

/-- .. and between comma and append. -/
structure L2' (w2 : World) (bf bw nk m : Nat) (ks : Nat → Bool) (ds : List Int) (es : List (List Int)) (k : Nat) (v : Value) (wr : World) : Prop where
  own : wr.ownsRow w2.heap.size 5 1 v (ds ++ joinC (ks m) (es.take k) ++ if flags m ks k m then [44] else []).length (u8s (ds ++ joinC (ks m) (es.take k) ++ if flags m ks k m then [44] else []))
  filt : Filt wr w2.heap.size bf bw nk (flags m ks (k + 1))
  apart : v.ownBlock ≠ some bf ∧ v.ownBlock ≠ some bw
  bw : w2.heap.size ≤ bw
  below : Below w2.heap.size w2 wr

theorem own_ge {w : World} {base : Nat} {e : TypeId} {size : Nat} {v : Value} {n : Nat} {xs : List Value} (h : w.ownsRow base e size v n xs) {j : Nat} (hj : v.ownBlock = some j) : base ≤ j := (h.lt j hj).1

theorem Filt.lt' {w : World} {B bf bw nk : Nat} {ks : Nat → Bool} (h : Filt w B bf bw nk ks) : bw < w.heap.size := by
  obtain ⟨_, ⟨L, o, _⟩, _, _⟩ := h
  exact (o.lt _ rfl).2

theorem moved_apart {w : World} {v v' : Value} {b : Nat} (hm : Moved w v v') (hb : b < w.heap.size) (h : v.ownBlock ≠ some b) : v'.ownBlock ≠ some b := by
  rcases hm with e | ⟨g, e, hg⟩
  · rw [e]; exact h
  · rw [e]; intro h'; have := Option.some.inj h'; omega

theorem L2.comma {w2 wr w' : World} {bf bw nk m : Nat} {ks : Nat → Bool} {ds : List Int} {es : List (List Int)} {k : Nat} {v v' : Value} (h : L2 w2 bf bw nk m ks ds es k v wr)
    (h1 : w'.ownsRow w2.heap.size 5 1 v' ((ds ++ joinC (ks m) (es.take k)) ++ if flags m ks k m then [44] else []).length (u8s ((ds ++ joinC (ks m) (es.take k)) ++ if flags m ks k m then [44] else [])))
    (h2 : Filt w' w2.heap.size bf bw nk (fun i => if i = m then true else flags m ks k i)) (h3 : Grown2 wr w' v.ownBlock bw) (h4 : Moved wr v v') : L2' w2 bf bw nk m ks ds es k v' w' := by
  rw [flags_step] at h2
  refine ⟨h1, h2, ⟨moved_apart h4 h.filt.lt h.apart.1, moved_apart h4 h.filt.lt' h.apart.2⟩, h.bw, ?_⟩
  refine h.below.trans ⟨h3.os, h3.tape, h3.output, h3.size, fun j hj => h3.block j (Nat.lt_of_lt_of_le hj h.below.size) (fun e => ?_) (fun e => ?_)⟩
  · have := own_ge h.own e.symm; omega
  · have := h.bw; omega

theorem L2'.app {w2 wr w' : World} {bf bw nk m : Nat} {ks : Nat → Bool} {ds : List Int} {es : List (List Int)} {k : Nat} {v v' : Value} (h : L2' w2 bf bw nk m ks ds es k v wr) (hk : k < es.length)
    (h1 : w'.ownsRow w2.heap.size 5 1 v' ((ds ++ joinC (ks m) (es.take k) ++ if flags m ks k m then [44] else []) ++ es.getD k []).length (u8s ((ds ++ joinC (ks m) (es.take k) ++ if flags m ks k m then [44] else []) ++ es.getD k [])))
    (h3 : wr.grownBy w' v.ownBlock) (h4 : Moved wr v v') : L2 w2 bf bw nk m ks ds es (k + 1) v' w' := by
  rw [← join_step ds m ks hk] at h1
  refine ⟨h1, h.filt.kept h3 h.apart.1 h.apart.2, ⟨moved_apart h4 h.filt.lt h.apart.1, moved_apart h4 h.filt.lt' h.apart.2⟩, h.bw, ?_⟩
  exact h.below.grown h3 h.below.size (fun j hj => own_ge h.own hj)

/-- At the loop's start. -/
theorem L2_start {w2 w3 w4 : World} {bw nk m : Nat} {ks : Nat → Bool} {ds : List Int} {es : List (List Int)} {v : Value} (ho : w3.ownsRow w2.heap.size 5 1 v ds.length (u8s ds)) (hb3 : Below w2.heap.size w2 w3)
    (hF : Filt w4 w3.heap.size w3.heap.size bw nk ks) (hb4 : Below w3.heap.size w3 w4) (hbw : w3.heap.size < bw) : L2 w2 w3.heap.size bw nk m ks ds es 0 v w4 := by
  have hs := hb3.size
  refine ⟨?_, ?_, ⟨fun e => ?_, fun e => ?_⟩, by omega, hb3.trans (hb4.mono hs)⟩
  · simp only [List.take_zero, joinC, List.append_nil]
    exact own_below ho hb4
  · rw [flags_zero]
    obtain ⟨f, ⟨L, o, hl⟩, ne, lt⟩ := hF
    refine ⟨f, ⟨L, ⟨o.1, ?_⟩, hl⟩, ne, lt⟩
    rcases o.2 with h | ⟨g, cap, cur, e, hb, r⟩
    · exact Or.inl h
    · exact Or.inr ⟨g, cap, cur, e, Nat.le_trans hs hb, r⟩
  · have := (ho.lt _ e).2; omega
  · have := (ho.lt _ e).2; omega

/-- What ZZcomma leaves, nk levels. -/
def CommaPostN (w : World) (B Bf bf bw nk m : Nat) (ks : Nat → Bool) (v : Value) (bs : List Int) (e : Ending) (w' : World) : Prop :=
  ∃ v', e = .returned v' ∧ w'.ownsRow B 5 1 v' (bs ++ if ks m then [44] else []).length (u8s (bs ++ if ks m then [44] else [])) ∧
    Filt w' Bf bf bw nk (fun i => if i = m then true else ks i) ∧ Grown2 w w' v.ownBlock bw ∧ Moved w v v'

theorem zzcomma_n (B Bf bf bw nk m : Nat) (ks : Nat → Bool) (v : Value) (bs : List Int) (w : World) (hnk : nk = m + 1) (hm : nk ≤ 1048576) (hlen : bs.length ≤ 4194304) (hF : Filt w Bf bf bw nk ks)
    (hown : w.ownsRow B 5 1 v bs.length (u8s bs)) (hB : B ≤ w.heap.size) (hv1 : v.ownBlock ≠ some bf) (hv2 : v.ownBlock ≠ some bw) :
    Calls Try.prog 7 #[.pointer (some ⟨bf, 0, none⟩), v] w (CommaPostN w B Bf bf bw nk m ks v bs) := by
  subst hnk
  exact zzcomma_any B Bf bf bw m ks v bs w (by omega) hlen hF hown hB hv1 hv2

theorem kept_n (B bf bw nk m : Nat) (ks : Nat → Bool) (w : World) (hnk : nk = m + 1) (hm : nk ≤ 1048576) (hF : Filt w B bf bw nk ks) :
    Calls Try.prog 9 #[.pointer (some ⟨bf, 0, none⟩)] w (KeptPost w nk ks) := by
  subst hnk
  exact kept_any B bf bw m ks w (by omega) hF

/-- The last index. -/
theorem index_last {t e : TypeId} {z : Value} {bytes : Nat} (ht : Try.prog.underlying t = some (.slice e)) (hi : (Try.prog.info? e).map (fun i => (i.zero, i.size, i.bytes)) = some (some z, 1, bytes))
    (g nk m cap : Nat) (hnk : nk = m + 1) (w : World) : (Instr.indexAt t (.slice (some ⟨g, 0, none⟩) nk cap) (.int .i64 ((nk : Int) - 1))).run Try.prog w = .ok (.pointer (some ⟨g, m, none⟩)) w := by
  have h := index_run ht hi (a := some ⟨g, 0, none⟩) (n := nk) (b := g) (off := 0) cap (fun _ => rfl) (k := m) (by omega) w
  rw [show ((nk : Int) - 1) = (m : Int) by omega, h]
  simp

/-- What holds in the loop that builds what is wanted. -/
structure L3 (w5 : World) (pre : List Int) (es : List (List Int)) (k : Nat) (v : Value) (wr : World) : Prop where
  own : wr.ownsRow w5.heap.size 5 1 v (pre ++ joinC false (es.take k)).length (u8s (pre ++ joinC false (es.take k)))
  below : Below w5.heap.size w5 wr

theorem L3_step (pre : List Int) {es : List (List Int)} {k : Nat} (hk : k < es.length) :
    pre ++ joinC false (es.take (k + 1)) = (pre ++ joinC false (es.take k) ++ if decide (0 < k) then [44] else []) ++ es.getD k [] := by
  rw [take_snoc hk, joinC_snoc, isEmpty_take hk]
  simp

theorem L3_end (ds : List Int) (kb : Bool) (es : List (List Int)) (n : Nat) (hn : es.length = n) : ds ++ (if kb && decide (0 < n) then [44] else []) ++ joinC false (es.take n) = ds ++ joinC kb es := by
  rw [List.take_of_length_le (by omega), joinC_first kb es, List.append_assoc]
  have e : (!es.isEmpty) = decide (0 < n) := by
    subst hn
    cases es <;> simp
  rw [e]

theorem flags_last (m : Nat) (ks : Nat → Bool) (k : Nat) : flags m ks k m = (ks m || decide (0 < k)) := by simp [flags]
theorem flags_ne (m : Nat) (ks : Nat → Bool) (k : Nat) {i : Nat} (h : i ≠ m) : flags m ks k i = ks i := by simp [flags, h]

end Go.Proofs.Qxb6616462a
