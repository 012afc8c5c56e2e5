/-
  The walks of io.ReadAtLeast (24), io.ReadFull (23), ReadProof (21), ZZReadProof (16).
-/
import Derived.Test.Qxb6616481aDoorSource
import Derived.Deep.RegionWith
import Derived.LaidEql
namespace Go.Proofs.Qxb6616481aDoor
open Go.RowKit

theorem nil_ahead (a : Addr) (w : World) : (nilAhead 186 42 (.pointer (some a)) "Read").run Tryd.prog w = .ok (some false) w := by kernel_rfl
theorem method_read (a : Addr) (w : World) : (method 186 42 (.pointer (some a)) "Read").run Tryd.prog w = .ok (41, .pointer (some a)) w := by kernel_rfl

/-- What a full read leaves. -/
def FullPost (w : World) (rr : Nat) (bv : Value) (i g : Nat) (L : List Int) (e : Ending) (w' : World) : Prop :=
  e = .returned (.tuple #[.int .i64 64, .nilIface]) ∧ BR w' rr bv ((i + 64 : Nat) : Int) (-1) ∧ Blk w' g ((L.drop i).take 64) ∧ Upd w w' (fun j => j = rr ∨ j = g)

/-- What a read that comes to the end leaves. -/
def EndPost (w : World) (rr : Nat) (bv : Value) (n g : Nat) (e : Ending) (w' : World) : Prop :=
  (∃ r T x, e = .returned (.tuple #[.int .i64 r, .iface T x])) ∧ (∃ pr, BR w' rr bv (n : Int) pr) ∧ Upd w w' (fun j => j = rr ∨ j = g)

set_option maxRecDepth 100000 in
theorem atLeast_all (rr : Nat) (a : Option Addr) (n c : Nat) (i : Nat) (pr : Int) (g b off : Nat) (cur L : List Int) (w : World) (h : BR w rr (.slice a n c) i pr) (hi : i + 64 ≤ n) (hn : n ≤ 1048576) (hL : L.length = n) (hcur : cur.length = 64)
    (hg : Blk w g cur) (hgr : g ≠ rr) (hnc : n ≤ c) (ha : 0 < n → a = some ⟨b, off, none⟩) (hc : ∀ j, j < n → w.cell? ⟨b, off + j, none⟩ = some (.int .u8 (L.getD j 0))) (hbr : b ≠ rr) :
    Calls Tryd.prog 24 #[.iface 42 (.pointer (some ⟨rr, 0, none⟩)), .slice (some ⟨g, 0, none⟩) 64 64, .int .i64 64] w (FullPost w rr (.slice a n c) i g L) := by
  have HC := hide (read_some rr a n c i pr (some ⟨g, 0, none⟩) 64 64 g 0 64 b off cur L w.drew h (by omega) hn hL (Nat.min_eq_right (by omega)) (fun _ => rfl) (fun _ => by omega) (fun _ => hg) (fun _ => hgr) hnc ha hc hbr)
  have hna := nil_ahead
  have hme := method_read
  have hlen : ((L.drop i).take 64).length = 64 := by simp; omega
  have hsp : splice cur 0 ((L.drop i).take 64) = (L.drop i).take 64 := by simp [splice, hcur]; omega
  have Hsp := hide hsp
  clear h hg ha hc hsp hlen
  go_enter Tryd.func24, Tryd.ntmps24
  go_wp2_with fail
  refine wp_loop_rounds 2 ?_
  rw [rounds_succ]
  go_wp2_with fail
  go_region_with (go_at_call 41; refine (unhide HC).mono ?_; rintro e w1 ⟨rfl, p1, p2, p3⟩)
  all_goals
    have HP : FullPost w rr (.slice a n c) i g L (.returned (.tuple #[.int .i64 64, .nilIface])) w1 := ⟨rfl, p1, by rw [← unhide Hsp]; exact p2 (by omega), ⟨p3.os, p3.tape, p3.output, p3.size, fun k hk => p3.block k (by rintro (h | ⟨_, h⟩); exact hk (Or.inl h); exact hk (Or.inr h))⟩⟩
    have HPh := hide HP
    clear HP p1 p2 p3
    go_wp2_with fail
    rw [rounds_succ]
    go_wp2
    go_ret2
    exact unhide HPh

/-- An error of errors.New's make is equal to itself. -/
theorem eql_self (aE : Addr) (w : World) : (binOp .eql 38 (.iface 57 (.pointer (some aE))) (.iface 57 (.pointer (some aE)))).run Tryd.prog w = .ok (.bool true) w := by
  obtain ⟨i, hi⟩ : ∃ i, Tryd.prog.info? 57 = some i := Option.isSome_iff_exists.1 (by kernel_rfl)
  obtain ⟨j, hj⟩ : ∃ j, Tryd.prog.info? 77 = some j := Option.isSome_iff_exists.1 (by kernel_rfl)
  have hcomp : i.comparable = true := by
    have h : (Tryd.prog.info? 57).map (·.comparable) = some true := by kernel_rfl
    rw [hi] at h; simpa using h
  exact run_eql_iface_ptr_same w aE Tryd.underlying38 Tryd.underlying57 hi hcomp hj

set_option maxRecDepth 100000 in
/-- ReadAtLeast at the end. -/
theorem atLeast_end (rr : Nat) (a : Option Addr) (n c : Nat) (pr : Int) (g : Nat) (aE : Addr) (w : World) (h : BR w rr (.slice a n c) (n : Nat) pr) (hG : w.cell? ⟨2, 0, none⟩ = some (.iface 57 (.pointer (some aE)))) :
    Calls Tryd.prog 24 #[.iface 42 (.pointer (some ⟨rr, 0, none⟩)), .slice (some ⟨g, 0, none⟩) 64 64, .int .i64 64] w (EndPost w rr (.slice a n c) n g) := by
  have HC := hide (read_eof rr a n c n pr (.slice (some ⟨g, 0, none⟩) 64 64) 57 (.pointer (some aE)) w.drew h (Int.le_refl _) hG)
  have hna := nil_ahead
  have hme := method_read
  have HP : ∀ q, EndPost w rr (.slice a n c) n g (.returned (.tuple #[.int .i64 0, .iface 57 (.pointer (some aE))])) (w.drewN q) := fun q => ⟨⟨_, _, _, rfl⟩, ⟨pr, h⟩, ⟨rfl, rfl, rfl, rfl, fun _ _ => rfl⟩⟩
  have HPh := hide HP
  clear HP h
  go_enter Tryd.func24, Tryd.ntmps24
  go_wp2_with fail
  refine wp_loop_rounds 2 ?_
  rw [rounds_succ]
  go_wp2_with fail
  go_region_with (go_at_call 41; refine (unhide HC).mono ?_; rintro e w1 ⟨rfl, q, hw⟩)
  all_goals
    go_wp2_with fail
    rw [rounds_succ]
    go_wp2
    go_ret2
    exact unhide HPh _

set_option maxRecDepth 100000 in
/-- ReadAtLeast that comes to the end with some bytes read. -/
theorem atLeast_some (rr : Nat) (a : Option Addr) (n c : Nat) (i r : Nat) (pr : Int) (g b off : Nat) (cur L : List Int) (aE : Addr) (TU : TypeId) (xU : Value) (w : World) (h : BR w rr (.slice a n c) i pr) (hr : n - i = r) (hr0 : 0 < r) (hr64 : r < 64) (hn : n ≤ 1048576) (hL : L.length = n) (hcur : cur.length = 64)
    (hg : Blk w g cur) (hgr : g ≠ rr) (hnc : n ≤ c) (ha : 0 < n → a = some ⟨b, off, none⟩) (hc : ∀ j, j < n → w.cell? ⟨b, off + j, none⟩ = some (.int .u8 (L.getD j 0))) (hbr : b ≠ rr)
    (hG : w.cell? ⟨2, 0, none⟩ = some (.iface 57 (.pointer (some aE)))) (hG3 : w.cell? ⟨3, 0, none⟩ = some (.iface TU xU)) (hz : 3 < rr ∧ 3 < g) :
    Calls Tryd.prog 24 #[.iface 42 (.pointer (some ⟨rr, 0, none⟩)), .slice (some ⟨g, 0, none⟩) 64 64, .int .i64 64] w (EndPost w rr (.slice a n c) n g) := by
  have HC := hide (read_some rr a n c i pr (some ⟨g, 0, none⟩) 64 64 g 0 r b off cur L w.drew h (by omega) hn hL (by rw [hr]; exact Nat.min_eq_left (by omega)) (fun _ => rfl) (fun _ => by omega) (fun _ => hg) (fun _ => hgr) hnc ha hc hbr)
  have hna := nil_ahead
  have hme := method_read
  have hes := eql_self aE
  have hsl := fun w => slice_hi (some ⟨g, 0, none⟩) 64 64 r (by omega) w
  have hr0I : (0 : Int) < r := by omega
  have hr64I : (r : Int) < 64 := by omega
  have Hr := hide hr
  clear h hg ha hc hr
  go_enter Tryd.func24, Tryd.ntmps24
  go_wp2_with fail
  refine wp_loop_rounds 3 ?_
  rw [rounds_succ]
  go_wp2_with fail
  go_region_with (go_at_call 41; refine (unhide HC).mono ?_; rintro e w1 ⟨rfl, p1, p2, p3⟩)
  all_goals
    have p1' : BR w1 rr (.slice a n c) (n : Nat) (-1) := by rw [show i + r = n by have := unhide Hr; omega] at p1; exact p1
    have hG1 : w1.cell? ⟨2, 0, none⟩ = some (.iface 57 (.pointer (some aE))) := (World.cell?_of_block (p3.block 2 (by rintro (h | ⟨_, h⟩) <;> omega))).trans hG
    have hG31 : w1.cell? ⟨3, 0, none⟩ = some (.iface TU xU) := (World.cell?_of_block (p3.block 3 (by rintro (h | ⟨_, h⟩) <;> omega))).trans hG3
    have HU := hide (show Upd w w1 (fun j => j = rr ∨ j = g) from ⟨p3.os, p3.tape, p3.output, p3.size, fun k hk => p3.block k (by rintro (h | ⟨_, h⟩); exact hk (Or.inl h); exact hk (Or.inr h))⟩)
    have HC2 := hide (fun dv => read_eof rr a n c n (-1) dv 57 (.pointer (some aE)) w1.drew p1' (Int.le_refl _) hG1)
    have HPh := hide (show ∀ T x q, EndPost w rr (.slice a n c) n g (.returned (.tuple #[.int .i64 r, .iface T x])) (w1.drewN q) from fun T x q => ⟨⟨_, _, _, rfl⟩, ⟨-1, p1'⟩, ⟨(unhide HU).os, (unhide HU).tape, (unhide HU).output, (unhide HU).size, (unhide HU).block⟩⟩)
    have hG2 : ∀ q, (w1.drewN q).cell? ⟨2, 0, none⟩ = some (.iface 57 (.pointer (some aE))) := fun _ => hG1
    have hG32 : ∀ q, (w1.drewN q).cell? ⟨3, 0, none⟩ = some (.iface TU xU) := fun _ => hG31
    clear p1 p2 p3 p1' HC HU
    go_wp2_with fail
    rw [rounds_succ]
    go_wp2_with fail
    go_region_with (go_at_call 41; refine (unhide HC2 _).mono ?_; rintro e w2 ⟨rfl, q, hw⟩)
    all_goals
      go_wp2_with fail
      rw [rounds_succ]
      go_wp2
      go_ret2
      exact unhide HPh _ _ _

end Go.Proofs.Qxb6616481aDoor
