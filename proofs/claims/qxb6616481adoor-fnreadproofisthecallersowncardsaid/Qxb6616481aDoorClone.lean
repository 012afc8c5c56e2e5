/-
  The walks of zzClone (7), zzEq (13), and the three zzBytes_.. (6, 14, 18).
-/
import Derived.Test.Qxb6616481aDoorBase
namespace Go.Proofs.Qxb6616481aDoor
open Go.RowKit

/-- What zzClone leaves. -/
def ClonePost (w : World) (bs : List Int) (e : Ending) (w' : World) : Prop := ∃ a g, e = .returned (.slice a bs.length bs.length) ∧ Vec w' w.heap.size a g bs ∧ Below w.heap.size w w'

theorem eql22 (a : Option Addr) (l c : Nat) (w : World) : (binOp .eql 22 (.slice a l c) (.slice none 0 0)).run Tryd.prog w = .ok (.bool a.isNone) w := Lib.run_eql_slice_nil w 22 5 a l c 0 0 Tryd.underlying22
theorem neq22 (a : Option Addr) (l c : Nat) (w : World) : (binOp .neq 22 (.slice a l c) (.slice none 0 0)).run Tryd.prog w = .ok (.bool (!a.isNone)) w := run_neq_slice_nil_any w 22 5 a l c 0 0 Tryd.underlying22

/-- A whole row that is owned, as its block. -/
theorem own_block {w : World} {base : Nat} {e : TypeId} {g n : Nat} {xs : List Value} (h : w.ownsRow base e 1 (.slice (some ⟨g, 0, none⟩) n n) n xs) : w.heap[g]? = some (.cells xs.toArray e (0, 0)) := by
  rcases h.2 with ⟨h', _⟩ | ⟨g', cap', cur, h', _, hg, _, _, hs, ht⟩
  · simp at h'
  · simp only [Value.slice.injEq, Option.some.injEq, Addr.mk.injEq, and_true, true_and] at h'
    obtain ⟨rfl, rfl⟩ := h'
    rw [List.take_of_length_le (by rw [Array.length_toList]; omega)] at ht
    rw [hg, ← ht]

/-- The whole copy, at the operation. -/
theorem wpList_copy_whole {w w0 : World} {ops : Array Oper} {rest : List Oper} {o : Oper} {a : Act} {Q : Exit → Act → World → Prop} (hgd : o.guard = none) (d s : Operand)
    (ho : o.op = .call { callee := .builtin .copy, args := #[d, s], argTypes := #[22, 22] })
    (g n c : Nat) (sp : Option Addr) (b off : Nat) (bs : List Int) (hbn : bs.length = n) (L : List Value) (hd : a.eval d = .slice (some ⟨g, 0, none⟩) n n) (hs : a.eval s = .slice sp n c)
    (hown : w.ownsRow g 5 1 (.slice (some ⟨g, 0, none⟩) n n) n L) (hsp : 0 < n → sp = some ⟨b, off, none⟩) (hsrc : ∀ j, j < n → w.cell? ⟨b, off + j, none⟩ = some (.int .u8 (bs.getD j 0))) (hb : Below g w0 w)
    (h : ∀ w', Blk w' g bs → Below g w0 w' → wpList Tryd.prog ops Q rest (a.put o.dst (goInt n)) w') :
    wpList Tryd.prog ops Q (o :: rest) a w := by
  have hl : L.length = n := by have := hown.1; omega
  have hcl : (u8s bs).length = n := by rw [length_u8s]; exact hbn
  refine wpList_copy_splice hgd d s 22 22 ho 5 Tryd.underlying22 sz5 _ _ n n n c hd hs g 0 L 5 (own_block hown) (u8s bs) (by simp [hcl]) (fun h0 => ⟨rfl, _, hsp (by omega), fun j v hv => ?_⟩) (by omega) (ints_oneCell .u8 _) g w0 hb (Nat.le_refl _) ?_
  · obtain ⟨hj, rfl⟩ := u8s_get' hv
    rw [add_eq]
    exact hsrc j (by omega)
  · intro w' hg' hb'
    have e : splice L 0 (u8s bs) = u8s bs := by simp [splice, hcl, hl]
    rw [hcl]
    exact h w' (by unfold Blk; rw [← e]; exact hg'.out) hb'

set_option maxRecDepth 100000 in
theorem clone_any (v : Value) (bs : List Int) (w : World) (hlen : bs.length ≤ 1048576) (h : Bytes w v bs) : Calls Tryd.prog 7 #[v] w (ClonePost w bs) := by
  obtain ⟨a, cap, b, off, rfl, ha, hc⟩ := h
  cases a with
  | none =>
    have h0 : bs.length = 0 := by
      rcases Nat.eq_zero_or_pos bs.length with h | h
      · exact h
      · cases ha h
    obtain rfl : bs = [] := List.eq_nil_of_length_eq_zero h0
    have hnil := fun w => eql22 none 0 cap w
    simp only [Option.isNone_none] at hnil
    go_enter Tryd.func7, Tryd.ntmps7
    go_wp2
    go_ret
    exact ⟨none, 0, rfl, ⟨fun h => absurd h (by simp), fun h => absurd h (by simp), fun h => absurd h (by simp)⟩, Below.refl _ _⟩
  | some ad =>
    obtain ⟨i0, hi, hz0, hz1, hz2⟩ := info_parts info5
    have hnil := fun w => eql22 (some ad) bs.length cap w
    simp only [Option.isNone_some] at hnil
    generalize hn : bs.length = n at *
    have Hn : Hid (bs.length = n) := hn
    clear hn
    go_enter Tryd.func7, Tryd.ntmps7
    go_wp2_with (first
      | (at_make; refine wpList_make_full _ rfl _ _ 22 rfl w.heap.size 5 i0 (.int .u8 0) 1 Tryd.underlying22 hi hz0 hz1 _ _ _ _ n rfl rfl rfl rfl (by rw [hz2]; omega) (by unfold maxLen; omega) (Nat.le_refl _) ?_; intro w1 hown1 hg1; have hbel : Below w.heap.size w w1 := ⟨hg1.os, hg1.tape, hg1.output, hg1.size, fun k hk => hg1.block k hk (by simp)⟩; have hk1 : ∀ j, j < n → w1.cell? ⟨b, off + j, none⟩ = some (.int .u8 (bs.getD j 0)) := fun j hj => (hbel.cell (World.block_lt_of_cell? _ _ (hc j hj))).trans (hc j hj))
      | (refine wpList_copy_whole rfl (.tmp 9) (.tmp 10) rfl w.heap.size n cap _ b off bs Hn.out _ rfl rfl hown1 ha hk1 hbel ?_; intro w2 hB2 hb2)
      | fail)
    go_ret
    exact ⟨some ⟨w.heap.size, 0, none⟩, w.heap.size, by rw [Hn.out]; rfl, ⟨fun _ => rfl, fun _ => Nat.le_refl _, fun _ => hB2⟩, hb2⟩

set_option maxRecDepth 100000 in
/-- zzEq at equal bytes. -/
theorem eq_same (va vb : Value) (bs : List Int) (w : World) (hlen : bs.length ≤ 1048576) (h1 : Bytes w va bs) (h2 : Bytes w vb bs) :
    Calls Tryd.prog 13 #[va, vb] w fun e w' => e = .returned (.bool true) ∧ ∃ q, w' = w.drewN q := by
  obtain ⟨a1, cap1, b1, off1, rfl, ha1, hc1⟩ := h1
  obtain ⟨a2, cap2, b2, off2, rfl, ha2, hc2⟩ := h2
  generalize hn : bs.length = n at *
  clear hn
  go_enter Tryd.func13, Tryd.ntmps13
  go_wp2
  go_loopw [5] (fun i wr => ∃ k : Nat, k ≤ n ∧ i = .int .i64 k ∧ ∃ q, wr = w.drewN q) (fun i _ => n - (intOf i).toNat)
  case atStart => exact ⟨0, Nat.zero_le _, rfl, 0, rfl⟩
  case round =>
    obtain ⟨k, hk, rfl, q, rfl⟩ := hrel
    by_cases hkl : k < n
    · have hix1 := fun w => index_run cap1 ha1 hkl w
      have hix2 := fun w => index_run cap2 ha2 hkl w
      have hcx1 := hc1 k hkl
      have hcx2 := hc2 k hkl
      generalize bs.getD k 0 = x at *
      clear hc1 hc2
      go_wp2_with fail
      go_quiet (fail)
      go_wp2
      go_roundw
      case rel => exact ⟨k + 1, by omega, by go_num, _, rfl⟩
      case measure => simp [intOf]; omega
    · go_wp2
      go_ret
      exact ⟨rfl, q, rfl⟩

/-- It returns a bool. -/
def Ans (e : Ending) : Prop := ∃ b : Bool, e = .returned (.bool b)

theorem within6 (a0 : Option Addr) (n0 c0 : Nat) (a1 : Option Addr) (n1 c1 : Nat) (k : Int) (f : Bool) (w : World) (h0 : n0 ≤ 140737488351232) (h1 : n1 ≤ 140737488351232) :
    Calls Tryd.prog 6 #[.slice a0 n0 c0, .slice a1 n1 c1, .int .i64 k, .bool f] w fun e w' => Ans e ∧ w' = w := by
  by_cases t1 : (1048576 : Int) < n0
  · go_enter Tryd.func6, Tryd.ntmps6
    go_wp2
    go_ret
    exact ⟨⟨_, rfl⟩, rfl⟩
  by_cases t2 : (1048576 : Int) < n1
  · go_enter Tryd.func6, Tryd.ntmps6
    go_wp2
    go_ret
    exact ⟨⟨_, rfl⟩, rfl⟩
  by_cases t3 : (1048576 : Int) < (n0 : Int) + n1
  · go_enter Tryd.func6, Tryd.ntmps6
    go_wp2
    go_ret
    exact ⟨⟨_, rfl⟩, rfl⟩
  go_enter Tryd.func6, Tryd.ntmps6
  go_wp2
  go_ret
  exact ⟨⟨_, rfl⟩, rfl⟩

theorem within14 (a0 : Option Addr) (n0 c0 : Nat) (w : World) (h0 : n0 ≤ 140737488351232) : Calls Tryd.prog 14 #[.slice a0 n0 c0] w fun e w' => Ans e ∧ w' = w := by
  by_cases t1 : (1048576 : Int) < n0
  · go_enter Tryd.func14, Tryd.ntmps14
    go_wp2
    go_ret
    exact ⟨⟨_, rfl⟩, rfl⟩
  go_enter Tryd.func14, Tryd.ntmps14
  go_wp2
  go_ret
  exact ⟨⟨_, rfl⟩, rfl⟩

theorem within18 (a0 : Option Addr) (n0 c0 : Nat) (w : World) (h0 : n0 ≤ 140737488351232) : Calls Tryd.prog 18 #[.slice a0 n0 c0] w fun e w' => Ans e ∧ w' = w := by
  by_cases t1 : (1048576 : Int) < n0
  · go_enter Tryd.func18, Tryd.ntmps18
    go_wp2
    go_ret
    exact ⟨⟨_, rfl⟩, rfl⟩
  go_enter Tryd.func18, Tryd.ntmps18
  go_wp2
  go_ret
  exact ⟨⟨_, rfl⟩, rfl⟩

end Go.Proofs.Qxb6616481aDoor
