/-
  The walks of ZZnewFilterKept (6), comma (11), ZZcomma (7), ZZkept (9).
-/
import Derived.Test.Qxb6616462aEqual
namespace Go.Proofs.Qxb6616462a
open Go.RowKit

/-- A filter in memory: its pointer's block bf, its walked levels' row at block bw (three cells a level), the kept flags ks. -/
structure Filt (w : World) (B bf bw nk : Nat) (ks : Nat → Bool) : Prop where
  field : w.cell? ⟨bf, 21, none⟩ = some (.slice (some ⟨bw, 0, none⟩) nk nk)
  row : ∃ L, w.ownsRow B 63 3 (.slice (some ⟨bw, 0, none⟩) nk nk) nk L ∧ ∀ i, i < nk → L[3 * i + 2]? = some (.bool (ks i))
  ne : bf ≠ bw
  lt : bf < w.heap.size

theorem flags_set (L : List Value) (k : Nat) (ks : Nat → Bool) (hl : k * 3 + 2 < L.length) (h : ∀ i, i < k → L[3 * i + 2]? = some (.bool (ks i))) :
    ∀ i, i < k + 1 → (L.set (k * 3 + 2) (.bool (ks k)))[3 * i + 2]? = some (.bool (ks i)) := by
  intro i hi
  by_cases e : i = k
  · subst e
    rw [show 3 * i + 2 = i * 3 + 2 by omega]
    simp [hl]
  · rw [List.getElem?_set_ne (by omega)]
    exact h i (by omega)

/-- What ZZnewFilterKept leaves. -/
def NewPost (w : World) (nk : Nat) (ks : Nat → Bool) (e : Ending) (w' : World) : Prop :=
  e = .returned (.pointer (some ⟨w.heap.size, 0, none⟩)) ∧ (∃ bw, w.heap.size < bw ∧ Filt w' w.heap.size w.heap.size bw nk ks) ∧ Below w.heap.size w w'

theorem size_setCell (w : World) (a : Addr) (u : Value) : (w.setCell a u).heap.size = w.heap.size := by simp [World.setCell]

theorem own_kept {w w' : World} {base : Nat} {e : TypeId} {size : Nat} {v : Value} {n : Nat} {xs : List Value} (h : w.ownsRow base e size v n xs) (hg : w.grownBy w' none) : w'.ownsRow base e size v n xs :=
  h.kept hg (by cases hv : v.ownBlock <;> simp)

/-- A store into another block. -/
theorem own_set {w : World} {base : Nat} {e : TypeId} {size g : Nat} {n cap : Nat} {xs : List Value} {ad : Addr} {u : Value} (h : w.ownsRow base e size (.slice (some ⟨g, 0, none⟩) n cap) n xs) (hne : ad.block ≠ g) : (w.setCell ad u).ownsRow base e size (.slice (some ⟨g, 0, none⟩) n cap) n xs := by
  refine h.kept (row := some ad.block) ⟨rfl, rfl, rfl, by simp [World.setCell], fun k _ hk => ?_⟩ (Or.inr ?_)
  · exact Below.heap_setCell w ad u k (fun e => hk (by rw [e]))
  · simp only [Value.ownBlock]; intro e; exact hne (Option.some.inj e).symm

/-- A cell of a block that was laid, in a later world. -/
theorem new_cell {w w1 : World} {cs : Array Value} {t : TypeId} (hg : (w.alloc (.cells cs t)).grownBy w1 none) (j : Nat) (u : Value) (h : cs[j]? = some u) : w1.cell? ⟨w.heap.size, j, none⟩ = some u ∧ w1.frozen? ⟨w.heap.size, j, none⟩ = false := by
  have hb : w1.heap[w.heap.size]? = some (.cells cs t (0, 0)) := (hg.block _ (by simp) (by simp)).trans (heap_alloc_new w _)
  exact ⟨by rw [cell_of_row w1 _ j cs t (0, 0) hb]; exact h, frozen_of_row w1 _ j cs t hb⟩

/-- .. behind a store into another cell of that block. -/
theorem set_cell {w w1 : World} {g j j' : Nat} {x u : Value} (hg : (w.setCell ⟨g, j, none⟩ x).grownBy w1 none) (hne : j ≠ j') (h : w.cell? ⟨g, j', none⟩ = some u) (hf : w.frozen? ⟨g, j', none⟩ = false) :
    w1.cell? ⟨g, j', none⟩ = some u ∧ w1.frozen? ⟨g, j', none⟩ = false := by
  have h1 : (w.setCell ⟨g, j, none⟩ x).cell? ⟨g, j', none⟩ = some u := by rw [World.cell?_setCell_other _ _ _ _ (fun e => hne (by cases e; rfl))]; exact h
  have hlt := World.block_lt_of_cell? _ _ h1
  refine ⟨hg.cell h1 (by simp), ?_⟩
  rw [World.frozen?_of_block (hg.block g hlt (by simp)), World.frozen?_setCell]
  exact hf

set_option maxHeartbeats 400000 in
set_option maxRecDepth 100000 in
theorem newFilter (kv : Value) (nk : Nat) (ks : Nat → Bool) (w : World) (hnk : nk ≤ 1048576) (hk : Row w kv nk (fun i => .bool (ks i))) :
    Calls Try.prog 6 #[kv] w (NewPost w nk ks) := by
  obtain ⟨a, cap, b, off, rfl, ha, hlt, hc⟩ := hk
  obtain ⟨i0, hi, hz0, hz1, hz2⟩ := info_parts info5
  obtain ⟨j0, hj, hy0, hy1, hy2⟩ := info_parts info63
  go_enter Try.func6, Try.ntmps6
  go_wp2_with (first
    | (at_make; refine wpList_make_full _ rfl _ _ 23 rfl w.heap.size 5 i0 (.int .u8 0) 1 Try.underlying23 hi hz0 hz1 _ _ _ _ nk rfl rfl rfl rfl (by rw [hz2]; omega) (by unfold maxLen; omega) (by simp) ?_; intro w1 hown1 hg1; obtain ⟨c20, f20⟩ := new_cell hg1 20 _ rfl; obtain ⟨c21, f21⟩ := new_cell hg1 21 _ rfl; have hs1 := hg1.size; simp only [World.size_alloc] at hs1 hown1)
    | (at_make; refine wpList_make_full _ rfl _ _ 52 rfl w.heap.size 63 j0 (.agg #[.int .u32 0, .int .u32 0, .bool false]) 3 Try.underlying52 hj hy0 hy1 _ _ _ _ nk rfl rfl rfl rfl (by rw [hy2]; omega) (by unfold maxLen; omega) (by simp; omega) ?_; intro w2 hown2 hg2; obtain ⟨d21, e21⟩ := set_cell hg2 (by decide) c21 f21)
    | fail)
  have hk1 : w.heap.size + 1 < w1.heap.size := (hown1.lt _ rfl).2
  rw [size_setCell] at hown2
  have hw2 : w1.heap.size < w2.heap.size := (hown2.lt _ rfl).2
  have hf21 : w2.frozen? ⟨w.heap.size, 21, none⟩ = false := e21
  obtain ⟨d20, _⟩ : (w2.cell? ⟨w.heap.size, 20, none⟩ = some (.slice (some ⟨w.heap.size + 1, 0, none⟩) nk nk)) ∧ True := by
    refine ⟨hg2.cell ?_ (by simp), trivial⟩
    exact World.cell?_setCell_same _ _ _ c20
  have hownK : (w2.setCell ⟨w.heap.size, 21, none⟩ (.slice (some ⟨w1.heap.size, 0, none⟩) nk nk)).ownsRow w.heap.size 5 1 (.slice (some ⟨w.heap.size + 1, 0, none⟩) nk nk) nk (madeCells (Value.int IntKind.u8 0).cells (nk * 1)).toList :=
    own_set (own_kept (own_set hown1 (by simp)) hg2) (by simp)
  have hownW : (w2.setCell ⟨w.heap.size, 21, none⟩ (.slice (some ⟨w1.heap.size, 0, none⟩) nk nk)).ownsRow w.heap.size 63 3 (.slice (some ⟨w1.heap.size, 0, none⟩) nk nk) nk (madeCells (Value.agg #[.int .u32 0, .int .u32 0, .bool false]).cells (nk * 3)).toList :=
    own_set hown2 (by simp; omega)
  have hB : Below w.heap.size w (w2.setCell ⟨w.heap.size, 21, none⟩ (.slice (some ⟨w1.heap.size, 0, none⟩) nk nk)) :=
    (((((Below.refl _ _).alloc (Nat.le_refl _) _).grown hg1 (by simp) (fun j hj => by cases hj)).setCell (p := ⟨w.heap.size, 20, none⟩) (Nat.le_refl _) _).grown hg2 (by simp; omega) (fun j hj => by cases hj)).setCell (Nat.le_refl _) _
  have g20 : (w2.setCell ⟨w.heap.size, 21, none⟩ (.slice (some ⟨w1.heap.size, 0, none⟩) nk nk)).cell? ⟨w.heap.size, 20, none⟩ = some (.slice (some ⟨w.heap.size + 1, 0, none⟩) nk nk) := by
    rw [World.cell?_setCell_other _ _ _ _ (by simp)]; exact d20
  have g21 : (w2.setCell ⟨w.heap.size, 21, none⟩ (.slice (some ⟨w1.heap.size, 0, none⟩) nk nk)).cell? ⟨w.heap.size, 21, none⟩ = some (.slice (some ⟨w1.heap.size, 0, none⟩) nk nk) := World.cell?_setCell_same _ _ _ d21
  generalize (madeCells (Value.int IntKind.u8 0).cells (nk * 1)).toList = L1 at *
  generalize (madeCells (Value.agg #[.int .u32 0, .int .u32 0, .bool false]).cells (nk * 3)).toList = L2 at *
  clear hown1 hown2 hg1 hg2 c20 f20 c21 f21 d21 e21 d20 hf21
  generalize w2.setCell ⟨w.heap.size, 21, none⟩ (.slice (some ⟨w1.heap.size, 0, none⟩) nk nk) = w3 at *
  generalize w1.heap.size = bw at *
  clear hw2 hs1
  go_loopw [4] (fun i wr => ∃ (k : Nat) (M L : List Value), k ≤ nk ∧ i = .int .i64 k ∧ wr.cell? ⟨w.heap.size, 20, none⟩ = some (.slice (some ⟨w.heap.size + 1, 0, none⟩) nk nk) ∧ wr.cell? ⟨w.heap.size, 21, none⟩ = some (.slice (some ⟨bw, 0, none⟩) nk nk) ∧
      wr.ownsRow w.heap.size 5 1 (.slice (some ⟨w.heap.size + 1, 0, none⟩) nk nk) nk M ∧ wr.ownsRow w.heap.size 63 3 (.slice (some ⟨bw, 0, none⟩) nk nk) nk L ∧ (∀ i, i < k → L[3 * i + 2]? = some (.bool (ks i))) ∧ Below w.heap.size w wr)
    (fun i _ => nk - (intOf i).toNat)
  case atStart => exact ⟨0, L1, L2, Nat.zero_le _, rfl, g20, g21, hownK, hownW, fun i hi => by omega, hB⟩
  case round =>
    obtain ⟨k, M, L, hk, rfl, q20, q21, oK, oW, hL, hb⟩ := hrel
    by_cases hkl : k < nk
    · have hix := fun w => index_run Try.underlying22 info4 cap ha hkl w
      have hbl := hlt (by omega)
      have hlenM : M.length = nk := by have := oK.1; omega
      have hlenL : L.length = nk * 3 := oW.1
      -- the kinds' cell
      have hK : wr.cell? ⟨w.heap.size + 1, k, none⟩ = some (M[k]'(by omega)) := by rw [oK.cellAt k (by omega)]; exact List.getElem?_eq_getElem _
      have hKf := oK.frozenAt k
      obtain ⟨oK1, gK1⟩ := oK.stored k (.int .u8 91)
      have oW1 : (wr.setCell ⟨w.heap.size + 1, k, none⟩ (.int .u8 91)).ownsRow w.heap.size 63 3 (.slice (some ⟨bw, 0, none⟩) nk nk) nk L := own_set oW (by simp; omega)
      have q20' : (wr.setCell ⟨w.heap.size + 1, k, none⟩ (.int .u8 91)).cell? ⟨w.heap.size, 20, none⟩ = some (.slice (some ⟨w.heap.size + 1, 0, none⟩) nk nk) := by rw [World.cell?_setCell_other _ _ _ _ (by simp)]; exact q20
      have q21' : (wr.setCell ⟨w.heap.size + 1, k, none⟩ (.int .u8 91)).cell? ⟨w.heap.size, 21, none⟩ = some (.slice (some ⟨bw, 0, none⟩) nk nk) := by rw [World.cell?_setCell_other _ _ _ _ (by simp)]; exact q21
      have hb1 : Below w.heap.size w (wr.setCell ⟨w.heap.size + 1, k, none⟩ (.int .u8 91)) := hb.setCell (Nat.le_succ _) _
      have hcx : (wr.setCell ⟨w.heap.size + 1, k, none⟩ (.int .u8 91)).cell? ⟨b, off + k, none⟩ = some (.bool (ks k)) := (hb1.cell (by exact hbl)).trans (hc k hkl)
      clear oK oW hb gK1
      go_wp2_with fail
      generalize wr.setCell ⟨w.heap.size + 1, k, none⟩ (.int .u8 91) = wq at *
      clear q20 q21 hK hKf
      have hW : wq.cell? ⟨bw, k * 3 + 2, none⟩ = some (L[k * 3 + 2]'(by omega)) := by rw [oW1.cellAt _ (by omega)]; exact List.getElem?_eq_getElem _
      have hWf := oW1.frozenAt (k * 3 + 2)
      obtain ⟨oW2, gW2⟩ := oW1.stored (k * 3 + 2) (.bool (ks k))
      have oK2 : (wq.setCell ⟨bw, k * 3 + 2, none⟩ (.bool (ks k))).ownsRow w.heap.size 5 1 (.slice (some ⟨w.heap.size + 1, 0, none⟩) nk nk) nk (M.set k (.int .u8 91)) := own_set oK1 (by simp; omega)
      have r20 : (wq.setCell ⟨bw, k * 3 + 2, none⟩ (.bool (ks k))).cell? ⟨w.heap.size, 20, none⟩ = some (.slice (some ⟨w.heap.size + 1, 0, none⟩) nk nk) := by rw [World.cell?_setCell_other _ _ _ _ (by simp)]; exact q20'
      have r21 : (wq.setCell ⟨bw, k * 3 + 2, none⟩ (.bool (ks k))).cell? ⟨w.heap.size, 21, none⟩ = some (.slice (some ⟨bw, 0, none⟩) nk nk) := by rw [World.cell?_setCell_other _ _ _ _ (by simp)]; exact q21'
      have hb2 : Below w.heap.size w (wq.setCell ⟨bw, k * 3 + 2, none⟩ (.bool (ks k))) := hb1.setCell (by exact Nat.le_of_lt (Nat.lt_of_succ_lt hk1)) _
      have hL2 : ∀ i, i < k + 1 → (L.set (k * 3 + 2) (.bool (ks k)))[3 * i + 2]? = some (.bool (ks i)) := flags_set L k ks (by omega) hL
      have HH := hide (And.intro oW2 (And.intro oK2 (And.intro r20 (And.intro r21 (And.intro hb2 hL2)))))
      clear oW2 oK2 r20 r21 hb2 hL2 gW2 hL oK1
      go_region
      all_goals go_wp2
      obtain ⟨oW2, oK2, r20, r21, hb2, hL2⟩ := unhide HH
      exact ⟨⟨k + 1, _, _, by omega, by go_num, r20, r21, oK2.drew, oW2.drew, hL2, hb2.drew⟩, by simp [intOf]; omega⟩
    · have hkn : k = nk := by omega
      subst hkn
      go_wp2
      go_ret
      exact ⟨rfl, ⟨bw, by omega, ⟨q21, ⟨L, oW, hL⟩, by omega, Nat.lt_of_lt_of_le (Nat.lt_of_succ_lt hk1) (Nat.le_of_lt (oW.lt _ rfl).2)⟩⟩, hb⟩

end Go.Proofs.Qxb6616462a
