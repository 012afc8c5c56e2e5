/-
  The plain facts of the law: joining by commas; no program in sight.
-/
import Derived.Test.Qxb6616462aWithin
namespace Go.Proofs.Qxb6616462a

/-- The elements, a comma ahead of each but the first; ahead of the first where kb says so. -/
def joinC : Bool → List (List Int) → List Int
  | _, [] => []
  | kb, e :: r => (if kb then [44] else []) ++ e ++ joinC true r

theorem joinC_snoc : ∀ (kb : Bool) (l : List (List Int)) (e : List Int), joinC kb (l ++ [e]) = joinC kb l ++ (if kb || !l.isEmpty then [44] else []) ++ e
  | kb, [], e => by cases kb <;> simp [joinC]
  | kb, x :: l, e => by
    have ih := joinC_snoc true l e
    simp only [List.cons_append, joinC, ih]
    cases kb <;> simp

theorem joinC_first (kb : Bool) (l : List (List Int)) : joinC kb l = (if kb && !l.isEmpty then [44] else []) ++ joinC false l := by
  cases l with
  | nil => cases kb <;> simp [joinC]
  | cons e r => cases kb <;> simp [joinC]

/-- What the law itself counts: 24 an element and its bytes. -/
def total (l : List (List Int)) : Nat := (l.map (fun e => 24 + e.length)).sum

theorem total_snoc (l : List (List Int)) (e : List Int) : total (l ++ [e]) = total l + (24 + e.length) := by simp [total]

theorem take_snoc {es : List (List Int)} {k : Nat} (hk : k < es.length) : es.take (k + 1) = es.take k ++ [es.getD k []] := by
  rw [List.take_succ_eq_append_getElem hk]
  simp [List.getD, List.getElem?_eq_getElem hk]

theorem total_take_succ {es : List (List Int)} {k : Nat} (hk : k < es.length) : total (es.take (k + 1)) = total (es.take k) + (24 + (es.getD k []).length) := by
  rw [take_snoc hk, total_snoc]

theorem total_take_le (es : List (List Int)) (k : Nat) : total (es.take k) ≤ total es := by
  have app : ∀ a b : List (List Int), total (a ++ b) = total a + total b := fun a b => by simp [total]
  have e := app (es.take k) (es.drop k)
  rw [List.take_append_drop] at e
  omega

theorem length_joinC : ∀ (kb : Bool) (l : List (List Int)), (joinC kb l).length ≤ total l
  | _, [] => Nat.le_refl _
  | kb, e :: r => by
    have ih := length_joinC true r
    simp only [joinC, total, List.map_cons, List.sum_cons, List.length_append] at ih ⊢
    have : (if kb then [44] else ([] : List Int)).length ≤ 1 := by cases kb <;> simp
    omega

/-- The flags behind k elements. -/
def flags (m : Nat) (ks : Nat → Bool) (k : Nat) (i : Nat) : Bool := if i = m then ks m || decide (0 < k) else ks i

theorem flags_step (m : Nat) (ks : Nat → Bool) (k : Nat) : (fun i => if i = m then true else flags m ks k i) = flags m ks (k + 1) := by
  funext i
  by_cases h : i = m <;> simp [flags, h]

theorem flags_zero (m : Nat) (ks : Nat → Bool) : flags m ks 0 = ks := by
  funext i
  by_cases h : i = m
  · subst h; simp [flags]
  · simp [flags, h]

theorem isEmpty_take {es : List (List Int)} {k : Nat} (hk : k < es.length) : (es.take k).isEmpty = !decide (0 < k) := by
  cases k with
  | zero => simp
  | succ k =>
    cases es with
    | nil => simp at hk
    | cons e r => simp

/-- One element more, behind comma and append. -/
theorem join_step (ds : List Int) (m : Nat) (ks : Nat → Bool) {es : List (List Int)} {k : Nat} (hk : k < es.length) :
    ds ++ joinC (ks m) (es.take (k + 1)) = (ds ++ joinC (ks m) (es.take k)) ++ (if flags m ks k m then [44] else []) ++ es.getD k [] := by
  rw [take_snoc hk, joinC_snoc, isEmpty_take hk]
  simp [flags]

end Go.Proofs.Qxb6616462a
