/- What the walk of NewPattern needs and what has no walk in it: rows of components in memory, and how the next piece turns them. -/
import Derived.Test.YtbfellfegdapdaaFmtPMatch
import Derived.Deep.AppendLies
import Derived.Maps.AppendAt
import Derived.OwnWalk
namespace Go.Proofs.YtbfellfegdapdaaFmt
open Go.RowKit Glob

/-- A piece as NewPattern takes it: a wildcard, or a text, as an interface value. -/
def itemV (x : Bool × ByteArray) : Value := if x.1 = true then .iface 41 (.agg #[]) else .iface 9 (.string x.2)
def ItemsAt (w : World) (A : Option Addr) (l : List (Bool × ByteArray)) : Prop :=
  ∀ (k : Nat) x, l[k]? = some x → ∃ b, A = some ⟨b, 0, none⟩ ∧ b < w.heap.size ∧ w.cell? ⟨b, k, none⟩ = some (itemV x)
/-- A component's cells. -/
def compCells (c : Bool × ByteArray) : List Value := [.bool c.1, .string c.2]
def rowCells (cs : List (Bool × ByteArray)) : List Value := cs.flatMap compCells
def total (l : List (Bool × ByteArray)) : Nat := (l.map fun x => x.2.size).sum

theorem a9_9 (v : Value) (W : World) : (Instr.typeAssert (.iface 9 v) 20 9 true).run Tryf.prog W = .ok (.tuple #[v, .bool true]) W := by kernel_rfl
theorem a9_41 (v : Value) (W : World) : (Instr.typeAssert (.iface 41 v) 20 9 true).run Tryf.prog W = .ok (.tuple #[.string ⟨#[]⟩, .bool false]) W := by kernel_rfl
theorem a47_41 (v : Value) (W : World) : (Instr.typeAssert (.iface 41 v) 20 47 true).run Tryf.prog W = .ok (.tuple #[.string ⟨#[]⟩, .bool false]) W := by kernel_rfl
theorem a41_41 (v : Value) (W : World) : (Instr.typeAssert (.iface 41 v) 20 41 true).run Tryf.prog W = .ok (.tuple #[v, .bool true]) W := by kernel_rfl
theorem info50 : (Tryf.prog.info? 50).map (fun i => (i.zero, i.size, i.bytes)) = some (some (.agg #[.bool false, .string ⟨#[]⟩]), 2, 24) := by kernel_rfl

theorem own_shape {w : World} {base : Nat} {e : TypeId} {size : Nat} {v : Value} {n : Nat} {xs : List Value} (h : w.ownsRow base e size v n xs) : ∃ a c, v = .slice a n c := by
  rcases h.2 with ⟨rfl, rfl⟩ | ⟨g, cap, cur, rfl, _⟩
  · exact ⟨none, 0, rfl⟩
  · exact ⟨_, _, rfl⟩
theorem block_cell {w : World} {g i : Nat} {cs : Array Value} {t : TypeId} (h : w.heap[g]? = some (.cells cs t (0, 0))) : w.cell? ⟨g, i, none⟩ = cs[i]? := cell_of_row w g i cs t (0, 0) h
theorem block_frozen {w : World} {g i : Nat} {cs : Array Value} {t : TypeId} (h : w.heap[g]? = some (.cells cs t (0, 0))) : w.frozen? ⟨g, i, none⟩ = false := frozen_of_row w g i cs t h

/-- What NewPattern's own memory keeps round by round: the cell of the result, and all that was there before. -/
structure Kept (w wx : World) : Prop where
  res : wx.heap[w.heap.size]? = some (.cells #[.slice none 0 0] 44 (0, 0))
  below : Below w.heap.size w wx
theorem Kept.lt {w wx : World} (h : Kept w wx) : w.heap.size < wx.heap.size := by
  rcases Nat.lt_or_ge w.heap.size wx.heap.size with hlt | hge
  · exact hlt
  · have := h.res; rw [Array.getElem?_eq_none hge] at this; cases this
theorem Kept.alloc {w wx : World} (h : Kept w wx) (o : Obj) : Kept w (wx.alloc o) :=
  ⟨(Below.heap_alloc wx o _ h.lt).trans h.res, h.below.alloc h.below.size o⟩
theorem Kept.grown {w wx w1 : World} {row : Option Nat} (h : Kept w wx) (hg : wx.grownBy w1 row) (hr : ∀ k, row = some k → w.heap.size + 1 ≤ k) : Kept w w1 :=
  ⟨(hg.block _ h.lt (fun e => by have := hr _ e.symm; omega)).trans h.res, h.below.grown hg h.below.size (fun k hk => by have := hr k hk; omega)⟩

theorem rowCells_snoc (ds : List (Bool × ByteArray)) (c : Bool × ByteArray) : rowCells (ds ++ [c]) = rowCells ds ++ compCells c := by simp [rowCells]
theorem rowCells_len (cs : List (Bool × ByteArray)) : (rowCells cs).length = cs.length * 2 := by
  induction cs with
  | nil => rfl
  | cons c cs ih =>
    have : rowCells (c :: cs) = compCells c ++ rowCells cs := by simp [rowCells]
    rw [this, List.length_append, ih]
    simp [compCells]
    omega
theorem rowCells_at {cs : List (Bool × ByteArray)} {k : Nat} {x : Bool × ByteArray} (h : cs[k]? = some x) : (rowCells cs)[k * 2]? = some (.bool x.1) ∧ (rowCells cs)[k * 2 + 1]? = some (.string x.2) := by
  obtain ⟨hlt, he⟩ := List.getElem?_eq_some_iff.1 h
  have e : cs = cs.take k ++ (x :: cs.drop (k + 1)) := by
    conv => lhs; rw [← List.take_append_drop k cs]
    rw [List.drop_eq_getElem_cons hlt, he]
  have e2 : rowCells cs = rowCells (cs.take k) ++ ([.bool x.1, .string x.2] ++ rowCells (cs.drop (k + 1))) := by
    conv => lhs; rw [e]
    simp [rowCells, compCells]
  have hl : (rowCells (cs.take k)).length = k * 2 := by
    rw [rowCells_len, List.length_take]
    congr 1
    omega
  rw [e2]
  constructor
  · rw [List.getElem?_append_right (by omega), hl, Nat.sub_self]; rfl
  · rw [List.getElem?_append_right (by omega), hl]
    have : k * 2 + 1 - k * 2 = 1 := by omega
    rw [this]; rfl
theorem rowCells_set (ds : List (Bool × ByteArray)) (c : Bool × ByteArray) (y : ByteArray) : (rowCells (ds ++ [c])).set (ds.length * 2 + 1) (.string y) = rowCells (ds ++ [(c.1, y)]) := by
  rw [rowCells_snoc, rowCells_snoc, List.set_append_right _ _ (by rw [rowCells_len]; omega), rowCells_len]
  have : ds.length * 2 + 1 - ds.length * 2 = 1 := by omega
  rw [this]; rfl

section
variable {w : World} {base g cap : Nat} {ds : List (Bool × ByteArray)} {c : Bool × ByteArray}
theorem row_last (h : w.ownsRow base 50 2 (.slice (some ⟨g, 0, none⟩) (ds.length + 1) cap) (ds.length + 1) (rowCells (ds ++ [c]))) :
    w.cell? ⟨g, ds.length * 2, none⟩ = some (.bool c.1) ∧ w.cell? ⟨g, ds.length * 2 + 1, none⟩ = some (.string c.2) := by
  have hx : (ds ++ [c])[ds.length]? = some c := by simp
  obtain ⟨h1, h2⟩ := rowCells_at hx
  exact ⟨(h.cellAt _ (by omega)).trans h1, (h.cellAt _ (by omega)).trans h2⟩
theorem row_add (h : w.ownsRow base 50 2 (.slice (some ⟨g, 0, none⟩) (ds.length + 1) cap) (ds.length + 1) (rowCells (ds ++ [c]))) (y : ByteArray) :
    (w.setCell ⟨g, ds.length * 2 + 1, none⟩ (.string y)).ownsRow base 50 2 (.slice (some ⟨g, 0, none⟩) (ds.length + 1) cap) (ds.length + 1) (rowCells (ds ++ [(c.1, y)])) ∧
      w.grownBy (w.setCell ⟨g, ds.length * 2 + 1, none⟩ (.string y)) (some g) := by
  obtain ⟨h1, h2⟩ := h.stored (ds.length * 2 + 1) (.string y)
  rw [rowCells_set] at h1
  exact ⟨h1, h2⟩
theorem row_len (h : w.ownsRow base 50 2 (.slice (some ⟨g, 0, none⟩) (ds.length + 1) cap) (ds.length + 1) (rowCells (ds ++ [c]))) :
    w.ownsRow base 50 2 (.slice (some ⟨g, 0, none⟩) (ds.length + 1) cap) (ds ++ [c]).length (rowCells (ds ++ [c])) := by
  rw [List.length_append]; exact h
theorem slice_len (a : Option Addr) (cap : Nat) : (.slice a (ds.length + 1) cap : Value) = .slice a (ds ++ [c]).length cap := by rw [List.length_append]; rfl
theorem row_more {cs : List (Bool × ByteArray)} {a : Option Addr} (h : w.ownsRow base 50 2 (.slice a (cs.length + 1) cap) (cs.length + 1) (rowCells cs ++ [.bool true, .string ByteArray.empty])) :
    w.ownsRow base 50 2 (.slice a (cs.length + 1) cap) (cs ++ [(true, ByteArray.empty)]).length (rowCells (cs ++ [(true, ByteArray.empty)])) := by
  rw [rowCells_snoc, List.length_append]; exact h
theorem row_first {a : Option Addr} (h : w.ownsRow base 50 2 (.slice a 1 cap) 1 [.bool true, .string ByteArray.empty]) :
    w.ownsRow base 50 2 (.slice a 1 cap) [(true, ByteArray.empty)].length (rowCells [(true, ByteArray.empty)]) := h
theorem news_two (w : World) (x y : Value) : ∀ j u, [x, y][j]? = some u → ((w.alloc (.cells #[] 41)).alloc (.cells #[x, y] 50)).cell? ((⟨w.heap.size + 1, 0, none⟩ : Addr).add j) = some u := by
  have h := World.news_of_block (cs := #[x, y]) (t := 50) (fr := (0, 0)) (heap_alloc_new (w.alloc (.cells #[] 41)) _)
  rw [World.size_alloc] at h
  exact h
theorem two_one (b : Bool) (s : ByteArray) : ∀ u ∈ [Value.bool b, Value.string s], u.oneCell' = true := by
  intro u hu
  simp at hu
  rcases hu with rfl | rfl <;> rfl
end
theorem comps_of_row {w : World} {base : Nat} {a : Option Addr} {c : Nat} {cs : List (Bool × ByteArray)} (h : w.ownsRow base 50 2 (.slice a cs.length c) cs.length (rowCells cs)) : CompsAt w a cs := by
  intro k x hx
  have hlt := (List.getElem?_eq_some_iff.1 hx).1
  obtain ⟨g, cap, hv, _, hgl⟩ := h.form (by omega)
  injection hv with h1 _ h2
  subst h1
  subst h2
  obtain ⟨e1, e2⟩ := rowCells_at hx
  exact ⟨g, rfl, hgl, (h.cellAt _ (by omega)).trans e1, (h.cellAt _ (by omega)).trans e2⟩

theorem data_add (a b : ByteArray) : (a ++ b).data.toList = a.data.toList ++ b.data.toList := by
  rw [ByteArray.data_append, Array.toList_append]
theorem size_add (a b : ByteArray) : (a ++ b).size = a.size + b.size := by simp

section
variable {l : List (Bool × ByteArray)} {k : Nat} {xw : Bool} {xl : ByteArray}
theorem take_next {x : Bool × ByteArray} (h : l[k]? = some x) : l.take (k + 1) = l.take k ++ [x] := by
  obtain ⟨hlt, he⟩ := List.getElem?_eq_some_iff.1 h
  rw [List.take_succ_eq_append_getElem hlt, he]
theorem total_next (h : l[k]? = some (xw, xl)) : total (l.take (k + 1)) = total (l.take k) + xl.size := by
  rw [take_next h]
  simp [total]
theorem total_le (k : Nat) : total (l.take k) ≤ total l := by
  have : total l = total (l.take k) + total (l.drop k) := by
    conv => lhs; rw [← List.take_append_drop k l]
    unfold total
    rw [List.map_append, List.sum_append]
  omega
theorem comps_next (h : l[k]? = some (xw, xl)) : comps ((l.take (k + 1)).map toL) = Glob.step (comps ((l.take k).map toL)) (xw, xl.data.toList) := by
  rw [take_next h, List.map_append, List.map_cons, List.map_nil, comps_snoc]
  rfl
theorem next_nil_any (h : l[k]? = some (true, xl)) (hi : ([] : List (Bool × ByteArray)).map toL = comps ((l.take k).map toL)) : [(true, ByteArray.empty)].map toL = comps ((l.take (k + 1)).map toL) := by
  rw [comps_next h, ← hi]
  rfl
theorem next_nil_lit (h : l[k]? = some (false, xl)) (hi : ([] : List (Bool × ByteArray)).map toL = comps ((l.take k).map toL)) : [(false, xl)].map toL = comps ((l.take (k + 1)).map toL) := by
  rw [comps_next h, ← hi]
  rfl
variable {ds : List (Bool × ByteArray)} {c : Bool × ByteArray}
theorem next_any (h : l[k]? = some (true, xl)) (hi : (ds ++ [c]).map toL = comps ((l.take k).map toL)) (he : c.2.toList.isEmpty = false) :
    ((ds ++ [c]) ++ [(true, ByteArray.empty)]).map toL = comps ((l.take (k + 1)).map toL) := by
  rw [comps_next h, ← hi]
  rw [empty_list] at he
  have hc : ¬ (toL c).2 = [] := by
    intro e
    have : c.2.data.toList = [] := e
    rw [this] at he
    cases he
  rw [List.map_append, List.map_append (l₁ := ds)]
  simp [Glob.step, hc]
  rfl
theorem next_skip (h : l[k]? = some (true, xl)) (hi : (ds ++ [c]).map toL = comps ((l.take k).map toL)) (he : c.2.toList.isEmpty = true) :
    (ds ++ [c]).map toL = comps ((l.take (k + 1)).map toL) := by
  rw [comps_next h, ← hi]
  rw [empty_list] at he
  have hc : (toL c).2 = [] := List.isEmpty_iff.1 he
  rw [List.map_append]
  simp [Glob.step, hc]
theorem next_lit (h : l[k]? = some (false, xl)) (hi : (ds ++ [c]).map toL = comps ((l.take k).map toL)) :
    (ds ++ [(c.1, c.2 ++ xl)]).map toL = comps ((l.take (k + 1)).map toL) := by
  rw [comps_next h, ← hi]
  rw [List.map_append, List.map_append]
  simp [Glob.step, toL]
end

end Go.Proofs.YtbfellfegdapdaaFmt
