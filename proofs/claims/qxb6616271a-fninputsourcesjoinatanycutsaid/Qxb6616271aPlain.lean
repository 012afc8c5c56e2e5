/-
  The plain facts of the seat: maps as data, no program in sight.
-/
import Derived.Maps.Ext
import Derived.Maps.StringElems
namespace Go.Proofs.Qxb6616271a
open Go Go.Maps Go.WideAt

section
variable {H : Type}

/-- How a nil interface value reads as a map's element. -/
def nilElem : Value → Option (DataW H × List MemPlace)
  | .nilIface => some (.nil, [])
  | _ => none

theorem nilElem_mk : nilElem (H := H) .nilIface = some (.nil, []) := rfl

theorem nilElem_inv {v : Value} {z : DataW H × List MemPlace} (h : nilElem v = some z) : v = .nilIface ∧ z = (.nil, []) := by
  unfold nilElem at h
  split at h
  · exact ⟨rfl, (Option.some.inj h).symm⟩
  · cases h

/-- Each entry's element laid anew, as a function of its key. -/
def mapVals (f : Lit → DataW H) : DataW H → DataW H
  | .map es => .map (es.map (fun p => (p.1, f p.1)))
  | d => d

theorem has_mapVals (f : Lit → DataW H) (D : DataW H) (k : Lit) : Maps.has (mapVals f D) k = Maps.has D k := by
  cases D <;> simp [mapVals, Maps.has, List.any_map, Function.comp_def]

theorem size_mapVals (f : Lit → DataW H) (D : DataW H) : Maps.size (mapVals f D) = Maps.size D := by
  cases D <;> simp [mapVals, Maps.size]

theorem canon_mapVals (f : Lit → DataW H) {D : DataW H} (h : Canon D) : Canon (mapVals f D) := by
  obtain ⟨es, rfl, h1, h2⟩ := h
  refine ⟨es.map (fun p => (p.1, f p.1)), rfl, ?_, ?_⟩
  · rw [List.pairwise_map]; exact h1
  · intro p hp
    obtain ⟨q, hq, rfl⟩ := List.mem_map.1 hp
    exact h2 q hq

theorem atKey_list (f : Lit → DataW H) (k : Lit) (z : DataW H) : ∀ es : List (Lit × DataW H), es.any (fun p => p.1.sameKey k) = true →
    (DataW.map (es.map (fun p => (p.1, f p.1)))).atKey k z = f k
  | [], h => by simp at h
  | p :: r, h => by
    by_cases hp : p.1.sameKey k = true
    · have e := sameKey_eq hp
      have hk : k.sameKey k = true := by rw [e] at hp; exact hp
      simp [DataW.atKey, e, hk]
    · have hp' : p.1.sameKey k = false := by simpa using hp
      have hr : r.any (fun p => p.1.sameKey k) = true := by simpa [hp'] using h
      have ih := atKey_list f k z r hr
      simpa [DataW.atKey, hp'] using ih

theorem atKey_mapVals (f : Lit → DataW H) {D : DataW H} {k : Lit} (h : Maps.has D k = true) (z : DataW H) : (mapVals f D).atKey k z = f k := by
  cases D <;> simp only [Maps.has, Bool.false_eq_true] at h
  exact atKey_list f k z _ h

/-! ### sizes -/
theorem length_le_of_sub {α : Type} : ∀ (l₁ l₂ : List α), l₁.Pairwise (fun x y => x ≠ y) → (∀ x ∈ l₁, x ∈ l₂) → l₁.length ≤ l₂.length
  | [], l₂, _, _ => Nat.zero_le _
  | a :: l, l₂, hn, hs => by
    obtain ⟨s, t, rfl⟩ := List.append_of_mem (hs a (by simp))
    have hn' := List.pairwise_cons.1 hn
    have ih := length_le_of_sub l (s ++ t) hn'.2 (fun x hx => by
      have hne : x ≠ a := fun e => hn'.1 x hx e.symm
      have := hs x (by simp [hx])
      simp only [List.mem_append, List.mem_cons] at this ⊢
      rcases this with h | h | h
      · exact Or.inl h
      · exact absurd h hne
      · exact Or.inr h)
    simp only [List.length_cons, List.length_append] at ih ⊢
    omega

/-- A map whose keys all stand on the list L has at most L's length of entries. -/
theorem size_le_of_keys {D : DataW H} (hD : Canon D) (L : List Lit) (h : ∀ k, IsKeyLit k → Maps.has D k = true → k ∈ L) : Maps.size D ≤ L.length := by
  obtain ⟨es, rfl, h1, h2⟩ := hD
  have hap := apart_of_rising h1
  have e : Maps.size (.map es : DataW H) = (es.map (·.1)).length := by simp [Maps.size]
  rw [e]
  refine length_le_of_sub _ L ?_ ?_
  · rw [List.pairwise_map]; exact hap
  · intro x hx
    obtain ⟨p, hp, rfl⟩ := List.mem_map.1 hx
    refine h p.1 (h2 p hp) ?_
    exact List.any_eq_true.2 ⟨p, hp, sameKey_self (h2 p hp)⟩

/-- The keys of a map that is read. -/
def keysOf : DataW H → List Lit
  | .map es => es.map (·.1)
  | _ => []

theorem length_keysOf (D : DataW H) : (keysOf D).length = Maps.size D := by cases D <;> simp [keysOf, Maps.size]

theorem mem_keysOf {D : DataW H} {k : Lit} (h : Maps.has D k = true) : k ∈ keysOf D := by
  cases D <;> simp only [Maps.has, Bool.false_eq_true] at h
  obtain ⟨p, hp, hs⟩ := List.any_eq_true.1 h
  exact List.mem_map.2 ⟨p, hp, sameKey_eq hs⟩

theorem size_le_of_has {D₁ D₂ : DataW H} (h₁ : Canon D₁) (h : ∀ k, Maps.has D₁ k = true → Maps.has D₂ k = true) : Maps.size D₁ ≤ Maps.size D₂ := by
  rw [← length_keysOf D₂]
  exact size_le_of_keys h₁ _ (fun k _ hk => mem_keysOf (h k hk))

theorem size_le_add {D D₁ D₂ : DataW H} (hD : Canon D) (h : ∀ k, Maps.has D k = true → Maps.has D₁ k = true ∨ Maps.has D₂ k = true) : Maps.size D ≤ Maps.size D₁ + Maps.size D₂ := by
  rw [← length_keysOf D₁, ← length_keysOf D₂, ← List.length_append]
  refine size_le_of_keys hD _ (fun k _ hk => List.mem_append.2 ?_)
  rcases h k hk with h | h
  · exact Or.inl (mem_keysOf h)
  · exact Or.inr (mem_keysOf h)

/-! ### the set of names -/
/-- A string as a key. -/
def keyS (s : ByteArray) : Lit := .string s.data.toList

/-- The map that 'ZZinputs' makes out of a list of names. -/
def namesMap (ss : List ByteArray) : DataW H := Maps.setOf .nil (ss.map keyS)

theorem isKey_names (ss : List ByteArray) : ∀ x ∈ ss.map keyS, IsKeyLit x := by
  intro x hx
  obtain ⟨s, _, rfl⟩ := List.mem_map.1 hx
  trivial

theorem namesMap_snoc (ss : List ByteArray) (s : ByteArray) : (namesMap (ss ++ [s]) : DataW H) = (namesMap ss).put (keyS s) .nil := by
  simp [namesMap, Maps.setOf_snoc]

theorem has_namesMap (ss : List ByteArray) (k : Lit) : Maps.has (namesMap ss : DataW H) k = (ss.map keyS).any (fun x => x.sameKey k) :=
  Maps.has_setOf _ _ _ (isKey_names ss)

theorem has_namesMap_of_mem {ss : List ByteArray} {s : ByteArray} (h : s ∈ ss) : Maps.has (namesMap ss : DataW H) (keyS s) = true := by
  rw [has_namesMap]
  exact List.any_eq_true.2 ⟨keyS s, List.mem_map_of_mem h, sameKey_self trivial⟩

theorem has_namesMap_append (xs ys : List ByteArray) (k : Lit) : Maps.has (namesMap (xs ++ ys) : DataW H) k = (Maps.has (namesMap xs : DataW H) k || Maps.has (namesMap ys : DataW H) k) := by
  rw [has_namesMap, has_namesMap, has_namesMap, List.map_append, List.any_append]

/-- Where an input got its value: the three texts. -/
def srcText (g t : Bool) : List UInt8 := if g then [99, 108, 105] else if t then [115, 99, 101, 110, 97, 114, 105, 111] else [100, 101, 102, 97, 117, 108, 116]

/-- .. as data, by the key. -/
def srcAt (g t : Lit → Bool) (k : Lit) : DataW H := .lit (.string (srcText (g k) (t k)))

end
end Go.Proofs.Qxb6616271a
