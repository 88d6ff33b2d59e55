/- What holds of the pieces that are no empty texts: they match what all pieces match, and they are no longer. -/
import Derived.Test.YtbfellfegdapdaaFmtPieces
namespace Go.Proofs.YtbfellfegdapdaaFmt
open Go.RowKit Glob

theorem kept_full (l : List (Bool × ByteArray)) : Full ((kept l).map toL) := by
  intro x hx hw
  obtain ⟨y, hy, rfl⟩ := List.mem_map.1 hx
  have hk := (List.mem_filter.1 hy).2
  have hw' : y.1 = false := hw
  unfold keepB at hk
  rw [hw', empty_list] at hk
  intro e
  have e' : y.2.data.toList = [] := e
  rw [e'] at hk
  cases hk
theorem kept_M : ∀ (l : List (Bool × ByteArray)) (s : Bytes), M ((kept l).map toL) s ↔ M (l.map toL) s := by
  intro l
  induction l with
  | nil => intro s; exact Iff.rfl
  | cons x l ih =>
    obtain ⟨xw, xl⟩ := x
    intro s
    cases hk : keepB (xw, xl) with
    | true =>
      have e : kept ((xw, xl) :: l) = (xw, xl) :: kept l := by simp [kept, hk]
      rw [e]
      cases xw with
      | true =>
        constructor
        · rintro ⟨a, b, rfl, h⟩; exact ⟨a, b, rfl, (ih b).1 h⟩
        · rintro ⟨a, b, rfl, h⟩; exact ⟨a, b, rfl, (ih b).2 h⟩
      | false =>
        constructor
        · rintro ⟨b, rfl, h⟩; exact ⟨b, rfl, (ih b).1 h⟩
        · rintro ⟨b, rfl, h⟩; exact ⟨b, rfl, (ih b).2 h⟩
    | false =>
      have e : kept ((xw, xl) :: l) = kept l := by simp [kept, hk]
      rw [e]
      unfold keepB at hk
      rw [Bool.or_eq_false_iff] at hk
      obtain ⟨h1, h2⟩ := hk
      have h1' : xw = false := h1
      subst h1'
      have h3 : xl.data.toList = [] := by
        rw [empty_list] at h2
        simpa using h2
      rw [ih]
      constructor
      · intro h
        refine ⟨s, ?_, h⟩
        show s = xl.data.toList ++ s
        rw [h3]; rfl
      · rintro ⟨b, hs, h⟩
        have hs' : s = xl.data.toList ++ b := hs
        rw [h3] at hs'
        have : s = b := hs'
        rw [this]; exact h
theorem total_bound {c : Nat} : ∀ {l : List (Bool × ByteArray)}, (∀ x ∈ l, x.2.size ≤ c) → total l ≤ l.length * c := by
  intro l
  induction l with
  | nil => intro _; exact Nat.zero_le _
  | cons x l ih =>
    intro h
    have e : total (x :: l) = x.2.size + total l := by simp [total]
    rw [e, List.length_cons, Nat.succ_mul]
    have h1 := h x (by simp)
    have h2 := ih (fun y hy => h y (by simp [hy]))
    omega
theorem kept_total {l : List (Bool × ByteArray)} (hn : l.length ≤ 2147483647) (h : ∀ x ∈ l, x.2.size ≤ 2147483647) : total (kept l) ≤ 4611686018427387904 := by
  have h1 := total_bound (l := kept l) (c := 2147483647) (fun x hx => h x (List.mem_filter.1 hx |>.1))
  have h2 : (kept l).length * 2147483647 ≤ 2147483647 * 2147483647 := Nat.mul_le_mul_right _ (Nat.le_trans (kept_le l) hn)
  have h3 : 2147483647 * 2147483647 ≤ 4611686018427387904 := by decide
  exact Nat.le_trans h1 (Nat.le_trans h2 h3)
end Go.Proofs.YtbfellfegdapdaaFmt
