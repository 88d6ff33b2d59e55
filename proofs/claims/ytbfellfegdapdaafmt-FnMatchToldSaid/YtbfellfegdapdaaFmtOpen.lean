/- A slice of pieces, and a slice of texts, that came in: each reads as a list, and its cells lie in memory. -/
import Derived.Test.YtbfellfegdapdaaFmtJoined
import Derived.Deep.Slices
import Derived.Deep.Fields
import Derived.ChangeSame
import Derived.ChangeArms
import Derived.ProofKit
namespace Go.Proofs.YtbfellfegdapdaaFmt
open Go.RowKit Glob Go.Deep Go.ChangeShapes Go.WideShapes

section
variable {H : Type} {enc : TypeId × Value → H} {w : World} {base : Nat} {spare : Nat → Bool} {held : Bool}

theorem cells37 : Tryf.prog.cellsOf 37 = 2 := by kernel_rfl
theorem cells9 : Tryf.prog.cellsOf 9 = 1 := by kernel_rfl
theorem cells4 : Tryf.prog.cellsOf 4 = 1 := by kernel_rfl
theorem field37 : ∃ fs : Array Field, Tryf.prog.underlying 37 = some (.struct fs) ∧ (∃ f, fs[0]? = some f ∧ f.offset = 0 ∧ f.type = 4) ∧ (∃ f, fs[1]? = some f ∧ f.offset = 1 ∧ f.type = 9) :=
  ⟨_, Tryf.underlying37, ⟨_, rfl, rfl, rfl⟩, ⟨_, rfl, rfl, rfl⟩⟩

/-- A list out of a fact for each index. -/
theorem list_of {α : Type} {n : Nat} {p : Nat → α → Prop} (h : ∀ i, i < n → ∃ x, p i x) : ∃ l : List α, l.length = n ∧ ∀ i x, l[i]? = some x → p i x := by
  induction n with
  | zero => exact ⟨[], rfl, fun i x hx => by simp at hx⟩
  | succ n ih =>
    obtain ⟨l, hl, hp⟩ := ih (fun i hi => h i (by omega))
    obtain ⟨y, hy⟩ := h n (by omega)
    refine ⟨l ++ [y], by simp [hl], fun i x hx => ?_⟩
    by_cases hi : i < n
    · rw [List.getElem?_append_left (by omega)] at hx
      exact hp i x hx
    · rw [List.getElem?_append_right (by omega)] at hx
      have hi0 : i - l.length = 0 := by
        rcases Nat.eq_zero_or_pos (i - l.length) with h0 | h0
        · exact h0
        · rw [List.getElem?_eq_none (by simp; omega)] at hx; cases hx
      rw [hi0] at hx
      simp at hx
      subst hx
      have : i = n := by omega
      subst this
      exact hy

theorem cell_lt {a : Addr} {u : Value} (h : w.cell? a = some u) : a.block < w.heap.size := World.block_lt_of_cell? w a h

theorem in_of_trod {A : Option Addr} {n cap fuel : Nat} {x : DataW H × List MemPlace} (h : DataW.trod enc Tryf.prog w base spare held fuel 22 [.slice A n cap] = some x) :
    ∃ l : List (Bool × ByteArray), l.length = n ∧ InAt w A l := by
  rcases open_slice Tryf.underlying22 h with ⟨h0, _⟩ | ⟨a, len, cap', m, n', D, Pl, hcs, _, hl, _, hm, _, hi⟩
  · simp only [List.cons.injEq, and_true, Value.slice.injEq] at h0
    obtain ⟨rfl, rfl, rfl⟩ := h0
    exact ⟨[], rfl, fun k x hx => by simp at hx⟩
  · simp only [List.cons.injEq, and_true, Value.slice.injEq] at hcs
    obtain ⟨rfl, rfl, rfl⟩ := hcs
    have hmn : n ≤ m := by rw [hm]; split <;> omega
    have each : ∀ i, i < n → ∃ y : Bool × ByteArray, w.cell? (a.add (i * 2)) = some (.bool y.1) ∧ w.cell? ⟨(a.add (i * 2)).block, (a.add (i * 2)).off + 1, none⟩ = some (.string y.2) := by
      intro i hin
      obtain ⟨cs', hc, ht⟩ := hi i (by omega)
      rw [cells37] at hc
      obtain ⟨_, hcl, hat⟩ := World.cells?_some hc
      obtain ⟨fs, hfs, ⟨f0, hf0, ho0, ht0⟩, ⟨f1, hf1, ho1, ht1⟩⟩ := field37
      obtain ⟨xs, n1, _, _, _, hxl, hf⟩ := DataW.trod_struct hfs ht
      have g0 := hf 0 f0 hf0
      have g1 := hf 1 f1 hf1
      rw [ho0, ht0, cells4] at g0
      rw [ho1, ht1, cells9] at g1
      match cs', hcl with
      | [c0, c1], _ =>
        have hx0 : ∃ z, xs[0]? = some z := ⟨_, List.getElem?_eq_getElem (by rw [hxl]; exact (Array.getElem?_eq_some_iff.1 hf0).1)⟩
        have hx1 : ∃ z, xs[1]? = some z := ⟨_, List.getElem?_eq_getElem (by rw [hxl]; exact (Array.getElem?_eq_some_iff.1 hf1).1)⟩
        obtain ⟨z0, hz0⟩ := hx0
        obtain ⟨z1, hz1⟩ := hx1
        obtain ⟨b, hb, _⟩ := DataW.trod_bool Tryf.underlying4 (g0.trans hz0)
        obtain ⟨s, hs, _⟩ := DataW.trod_string Tryf.underlying9 (g1.trans hz1)
        simp at hb hs
        subst hb
        subst hs
        refine ⟨(b, s), ?_, ?_⟩
        · have := hat 0 (by omega)
          simpa [Addr.add] using this
        · have := hat 1 (by omega)
          have e : (a.add (i * 2)).add 1 = ⟨(a.add (i * 2)).block, (a.add (i * 2)).off + 1, none⟩ := by
            show (if (1 : Nat) = 0 then _ else _) = _
            rw [if_neg (by decide)]
          rw [e] at this
          simpa using this
    obtain ⟨l, hl1, hl2⟩ := list_of each
    refine ⟨l, hl1, fun k x hx => ?_⟩
    obtain ⟨h1, h2⟩ := hl2 k x hx
    have hb := cell_lt h1
    rw [add_block] at hb
    exact ⟨a, rfl, hb, h1, h2⟩

theorem strs_of_trod {A : Option Addr} {n cap fuel : Nat} {x : DataW H × List MemPlace} (h : DataW.trod enc Tryf.prog w base spare held fuel 31 [.slice A n cap] = some x) :
    ∃ ss : List ByteArray, ss.length = n ∧ StrsAt w A ss := by
  rcases open_slice Tryf.underlying31 h with ⟨h0, _⟩ | ⟨a, len, cap', m, n', D, Pl, hcs, _, hl, _, hm, _, hi⟩
  · simp only [List.cons.injEq, and_true, Value.slice.injEq] at h0
    obtain ⟨rfl, rfl, rfl⟩ := h0
    exact ⟨[], rfl, fun k x hx => by simp at hx⟩
  · simp only [List.cons.injEq, and_true, Value.slice.injEq] at hcs
    obtain ⟨rfl, rfl, rfl⟩ := hcs
    have hmn : n ≤ m := by rw [hm]; split <;> omega
    have each : ∀ i, i < n → ∃ y : ByteArray, w.cell? (a.add i) = some (.string y) := by
      intro i hin
      obtain ⟨cs', hc, ht⟩ := hi i (by omega)
      rw [cells9, Nat.mul_one] at hc
      obtain ⟨_, hcl, hat⟩ := World.cells?_some hc
      obtain ⟨s, hs, _⟩ := DataW.trod_string Tryf.underlying9 ht
      subst hs
      refine ⟨s, ?_⟩
      have := hat 0 (by omega)
      simpa [Addr.add] using this
    obtain ⟨l, hl1, hl2⟩ := list_of each
    refine ⟨l, hl1, fun k x hx => ?_⟩
    have h1 := hl2 k x hx
    have hb := cell_lt h1
    rw [add_block] at hb
    exact ⟨a, rfl, hb, h1⟩
end
end Go.Proofs.YtbfellfegdapdaaFmt
