/- Plain lists: the rows that spec.Match fills tell where the pieces so far can end. -/
import Derived.Test.YtbfellfegdapdaaFmtGlob
namespace Go.Proofs.YtbfellfegdapdaaFmt
namespace Glob

/-- A row tells, of each place of a text, whether the pieces p can end there. -/
structure RowInv (s : Bytes) (p : List (Bool × Bytes)) (nb : List Bool) : Prop where
  len : nb.length = s.length + 1
  ok : ∀ m, m ≤ s.length → (nb[m]? = some true ↔ M p (s.take m))

theorem row_start (s : Bytes) : RowInv s [] ((List.replicate (s.length + 1) false).set 0 true) := by
  refine ⟨by simp, fun m hm => ?_⟩
  show _ ↔ s.take m = []
  rw [List.getElem?_set]
  by_cases h : m = 0
  · subst h
    simp
  · rw [if_neg (fun e => h e.symm)]
    rw [List.getElem?_replicate, if_pos (by omega)]
    constructor
    · intro e; cases e
    · intro e
      have := congrArg List.length e
      rw [List.length_take, List.length_nil] at this
      omega

/-- A wildcard, at place j. -/
structure AnyInv (nb xb : List Bool) (j : Nat) (op : Bool) : Prop where
  len : xb.length = nb.length
  opened : op = true ↔ ∃ i, i < j ∧ nb[i]? = some true
  ok : ∀ m, m < j → (xb[m]? = some true ↔ ∃ i, i ≤ m ∧ nb[i]? = some true)

theorem any_start (nb : List Bool) : AnyInv nb (List.replicate nb.length false) 0 false :=
  ⟨by simp, ⟨fun h => absurd h (by decide), fun ⟨i, hi, _⟩ => absurd hi (by omega)⟩, fun m hm => absurd hm (by omega)⟩
theorem any_step {nb xb : List Bool} {j : Nat} {op b : Bool} (h : AnyInv nb xb j op) (hb : nb[j]? = some b) : AnyInv nb (xb.set j (op || b)) (j + 1) (op || b) := by
  have hj : j < nb.length := (List.getElem?_eq_some_iff.1 hb).1
  have ho : (op || b) = true ↔ ∃ i, i < j + 1 ∧ nb[i]? = some true := by
    rw [Bool.or_eq_true, h.opened]
    constructor
    · rintro (⟨i, hi, he⟩ | hbt)
      · exact ⟨i, by omega, he⟩
      · subst hbt; exact ⟨j, by omega, hb⟩
    · rintro ⟨i, hi, he⟩
      by_cases hij : i = j
      · subst hij
        rw [hb] at he
        injection he with he
        exact Or.inr he
      · exact Or.inl ⟨i, by omega, he⟩
  refine ⟨by rw [List.length_set]; exact h.len, ho, fun m hm => ?_⟩
  rw [List.getElem?_set]
  by_cases hmj : j = m
  · subst hmj
    rw [if_pos rfl, if_pos (by rw [h.len]; exact hj)]
    rw [Option.some.injEq, ho]
    constructor
    · rintro ⟨i, hi, he⟩; exact ⟨i, by omega, he⟩
    · rintro ⟨i, hi, he⟩; exact ⟨i, by omega, he⟩
  · rw [if_neg hmj]
    exact h.ok m (by omega)
theorem take_split {s a b : Bytes} {m : Nat} (h : s.take m = a ++ b) : a.length ≤ m ∧ s.take a.length = a := by
  have hl := congrArg List.length h
  rw [List.length_take, List.length_append] at hl
  refine ⟨by omega, ?_⟩
  have e : (s.take m).take a.length = a := by rw [h]; simp
  rw [List.take_take, Nat.min_eq_left (by omega)] at e
  exact e
theorem any_end {s : Bytes} {p : List (Bool × Bytes)} {nb xb : List Bool} {op : Bool} {t : Bytes} (hr : RowInv s p nb) (h : AnyInv nb xb (s.length + 1) op) : RowInv s (p ++ [(true, t)]) xb := by
  refine ⟨by rw [h.len, hr.len], fun m hm => ?_⟩
  rw [h.ok m (by omega), M_append]
  constructor
  · rintro ⟨i, hi, he⟩
    have hmi := (hr.ok i (by omega)).1 he
    refine ⟨s.take i, (s.take m).drop i, ?_, hmi, M_any _ _⟩
    have e : (s.take m).take i = s.take i := by rw [List.take_take, Nat.min_eq_left hi]
    rw [← e, List.take_append_drop]
  · rintro ⟨a, b, hab, ha, _⟩
    obtain ⟨h1, h2⟩ := take_split hab
    refine ⟨a.length, h1, (hr.ok a.length (by omega)).2 ?_⟩
    rw [h2]; exact ha

/-- A text, at place j. -/
structure LitInv (s t : Bytes) (nb xb : List Bool) (j : Nat) : Prop where
  len : xb.length = nb.length
  ok : ∀ m, xb[m]? = some true ↔ ∃ i, i < j ∧ nb[i]? = some true ∧ m = i + t.length ∧ i + t.length ≤ s.length ∧ (s.drop i).take t.length = t

theorem lit_start (s t : Bytes) (nb : List Bool) : LitInv s t nb (List.replicate nb.length false) 0 := by
  refine ⟨by simp, fun m => ?_⟩
  constructor
  · intro h
    rw [List.getElem?_replicate] at h
    split at h
    · cases h
    · cases h
  · rintro ⟨i, hi, _⟩; omega
theorem lit_skip {s t : Bytes} {nb xb : List Bool} {j : Nat} (h : LitInv s t nb xb j) (hn : ¬ (nb[j]? = some true ∧ j + t.length ≤ s.length ∧ (s.drop j).take t.length = t)) : LitInv s t nb xb (j + 1) := by
  refine ⟨h.len, fun m => ?_⟩
  rw [h.ok m]
  constructor
  · rintro ⟨i, hi, r⟩; exact ⟨i, by omega, r⟩
  · rintro ⟨i, hi, h1, h2, h3, h4⟩
    by_cases hij : i = j
    · subst hij; exact absurd ⟨h1, h3, h4⟩ hn
    · exact ⟨i, by omega, h1, h2, h3, h4⟩
theorem lit_hit {s t : Bytes} {nb xb : List Bool} {j : Nat} (h : LitInv s t nb xb j) (hlen : nb.length = s.length + 1) (h1 : nb[j]? = some true) (h3 : j + t.length ≤ s.length) (h4 : (s.drop j).take t.length = t) : LitInv s t nb (xb.set (j + t.length) true) (j + 1) := by
  refine ⟨by rw [List.length_set]; exact h.len, fun m => ?_⟩
  rw [List.getElem?_set]
  by_cases hm : j + t.length = m
  · rw [if_pos hm, if_pos (by rw [h.len]; omega)]
    constructor
    · intro _; exact ⟨j, by omega, h1, hm.symm, h3, h4⟩
    · intro _; rfl
  · rw [if_neg hm, h.ok m]
    constructor
    · rintro ⟨i, hi, r⟩; exact ⟨i, by omega, r⟩
    · rintro ⟨i, hi, h1', h2', h3', h4'⟩
      have : i ≠ j := by rintro rfl; exact hm h2'.symm
      exact ⟨i, by omega, h1', h2', h3', h4'⟩
theorem lit_end {s t : Bytes} {p : List (Bool × Bytes)} {nb xb : List Bool} (hr : RowInv s p nb) (h : LitInv s t nb xb (s.length + 1)) : RowInv s (p ++ [(false, t)]) xb := by
  refine ⟨by rw [h.len, hr.len], fun m hm => ?_⟩
  rw [h.ok m, M_append]
  constructor
  · rintro ⟨i, hi, h1, h2, h3, h4⟩
    have hmi := (hr.ok i (by omega)).1 h1
    refine ⟨s.take i, t, ?_, hmi, M_lit.2 rfl⟩
    rw [h2, List.take_add, h4]
  · rintro ⟨a, b, hab, ha, hb⟩
    have hb' := M_lit.1 hb
    subst hb'
    obtain ⟨h1, h2⟩ := take_split hab
    have hl := congrArg List.length hab
    rw [List.length_take, List.length_append] at hl
    refine ⟨a.length, by omega, (hr.ok a.length (by omega)).2 (by rw [h2]; exact ha), by omega, by omega, ?_⟩
    have hm2 : m = a.length + b.length := by omega
    have e : (s.take m).drop a.length = b := by rw [hab]; simp
    rw [List.drop_take, hm2, Nat.add_sub_cancel_left] at e
    exact e
end Glob
end Go.Proofs.YtbfellfegdapdaaFmt
