/- The calls of impl.Match that FnMatchAround makes: each returns true. -/
import Derived.Test.YtbfellfegdapdaaFmtImpl
namespace Go.Proofs.YtbfellfegdapdaaFmt
open Go.RowKit Glob

/-- Pieces in a block that the call has just made. -/
theorem lit_at (w : World) (l : List (Bool × ByteArray)) (cs : Array Value) (e : TypeId) (h : cs.toList = rowCells l) : CompsAt (w.alloc (.cells cs e)) (some ⟨w.heap.size, 0, none⟩) l := by
  intro k x hx
  obtain ⟨h1, h2⟩ := rowCells_at hx
  have hb : (w.alloc (.cells cs e)).heap[w.heap.size]? = some (.cells cs e (0, 0)) := heap_alloc_new w _
  refine ⟨w.heap.size, rfl, by simp, ?_, ?_⟩
  · rw [block_cell hb, ← h1, ← h, Array.getElem?_toList]
  · rw [block_cell hb, ← h2, ← h, Array.getElem?_toList]
theorem CompsAt.below {w w1 : World} {A : Option Addr} {l : List (Bool × ByteArray)} (h : CompsAt w A l) (hb : Below w.heap.size w w1) : CompsAt w1 A l := by
  intro k x hx
  obtain ⟨b, e, hlt, h1, h2⟩ := h k x hx
  exact ⟨b, e, Nat.lt_of_lt_of_le hlt hb.size, (hb.cell (p := ⟨b, k * 2, none⟩) hlt).trans h1, (hb.cell (p := ⟨b, k * 2 + 1, none⟩) hlt).trans h2⟩

/-- impl.Match where the text is the pieces. -/
theorem im_true (A : Option Addr) (n cap : Nat) (l : List (Bool × ByteArray)) (s : ByteArray) (w : World) (hn : l.length = n) (hn2 : n ≤ 2147483647) (hl : CompsAt w A l) (ht : total l ≤ 4611686018427387904) (hs : s.size ≤ 4611686018427387904)
    (hf : Full (l.map toL)) (hM : M (l.map toL) s.data.toList) :
    Calls Tryf.prog 8 #[.slice A n cap, .string s] w fun e w' => e = .returned (.bool true) ∧ Below w.heap.size w w' := by
  refine (im_any A n cap l s w hn hn2 hl ht hs).mono ?_
  rintro e w' ⟨rfl, hb⟩
  rw [(go_comps hf s.data.toList).2 hM]
  exact ⟨rfl, hb⟩

theorem ne_of_size {s : ByteArray} (h : 0 < s.size) : s.data.toList ≠ [] := by
  intro e
  have := congrArg List.length e
  rw [Array.length_toList] at this
  have h2 : s.data.size = 0 := this
  have h3 : s.size = s.data.size := rfl
  omega

theorem full_aba {s : ByteArray} (h : 0 < s.size) : Full ([(true, ⟨#[]⟩), (false, s), (true, ⟨#[]⟩)].map toL) := by
  intro x hx hw
  simp [toL] at hx
  rcases hx with rfl | rfl | rfl
  · cases hw
  · exact ne_of_size h
  · cases hw
theorem full_ab {s : ByteArray} (h : 0 < s.size) : Full ([(true, ⟨#[]⟩), (false, s)].map toL) := by
  intro x hx hw
  simp [toL] at hx
  rcases hx with rfl | rfl
  · cases hw
  · exact ne_of_size h
theorem full_ba {s : ByteArray} (h : 0 < s.size) : Full ([(false, s), (true, ⟨#[]⟩)].map toL) := by
  intro x hx hw
  simp [toL] at hx
  rcases hx with rfl | rfl
  · exact ne_of_size h
  · cases hw
theorem m_aba (f s b : ByteArray) : M ([(true, ⟨#[]⟩), (false, s), (true, ⟨#[]⟩)].map toL) (f ++ s ++ b).data.toList := by
  rw [data_add, data_add]
  exact ⟨f.data.toList, s.data.toList ++ b.data.toList, by simp, b.data.toList, rfl, b.data.toList, [], by simp, rfl⟩
theorem m_ab (f s : ByteArray) : M ([(true, ⟨#[]⟩), (false, s)].map toL) (f ++ s).data.toList := by
  rw [data_add]
  exact ⟨f.data.toList, s.data.toList, rfl, [], by simp, rfl⟩
theorem m_ba (s b : ByteArray) : M ([(false, s), (true, ⟨#[]⟩)].map toL) (s ++ b).data.toList := by
  rw [data_add]
  exact ⟨b.data.toList, rfl, b.data.toList, [], by simp, rfl⟩

theorem after_alloc {w w' : World} {o : Obj} (h : Below (w.alloc o).heap.size (w.alloc o) w') : Below w.heap.size w w' :=
  ((Below.refl w.heap.size w).alloc (Nat.le_refl _) o).trans (h.mono (by simp))
theorem total3 {a b c : Bool × ByteArray} : total [a, b, c] = a.2.size + (b.2.size + (c.2.size + 0)) := rfl
theorem total2 {a b : Bool × ByteArray} : total [a, b] = a.2.size + (b.2.size + 0) := rfl

theorem call_aba (f y b : ByteArray) (w : World) (hf : f.size ≤ 2147483648) (hy0 : 0 < y.size) (hy : y.size ≤ 2147483648) (hb : b.size ≤ 2147483648) :
    Calls Tryf.prog 8 #[.slice (some ⟨w.heap.size, 0, none⟩) 3 3, .string (f ++ y ++ b)] (w.alloc (.cells #[.bool true, .string ⟨#[]⟩, .bool false, .string y, .bool true, .string ⟨#[]⟩] 29))
      fun e w' => e = .returned (.bool true) ∧ Below w.heap.size w w' := by
  have hl := lit_at w [(true, ⟨#[]⟩), (false, y), (true, ⟨#[]⟩)] #[.bool true, .string ⟨#[]⟩, .bool false, .string y, .bool true, .string ⟨#[]⟩] 29 rfl
  have ht : total [(true, ⟨#[]⟩), (false, y), (true, ⟨#[]⟩)] ≤ 4611686018427387904 := by
    rw [total3]
    show 0 + (y.size + (0 + 0)) ≤ _
    omega
  have hs : (f ++ y ++ b).size ≤ 4611686018427387904 := by rw [size_add, size_add]; omega
  exact (im_true _ 3 3 _ _ _ rfl (by decide) hl ht hs (full_aba hy0) (m_aba f y b)).mono fun e w' h => ⟨h.1, after_alloc h.2⟩
theorem call_ab (f y : ByteArray) (w : World) (hf : f.size ≤ 2147483648) (hy0 : 0 < y.size) (hy : y.size ≤ 2147483648) :
    Calls Tryf.prog 8 #[.slice (some ⟨w.heap.size, 0, none⟩) 2 2, .string (f ++ y)] (w.alloc (.cells #[.bool true, .string ⟨#[]⟩, .bool false, .string y] 29))
      fun e w' => e = .returned (.bool true) ∧ Below w.heap.size w w' := by
  have hl := lit_at w [(true, ⟨#[]⟩), (false, y)] #[.bool true, .string ⟨#[]⟩, .bool false, .string y] 29 rfl
  have ht : total [(true, ⟨#[]⟩), (false, y)] ≤ 4611686018427387904 := by
    rw [total2]
    show 0 + (y.size + 0) ≤ _
    omega
  have hs : (f ++ y).size ≤ 4611686018427387904 := by rw [size_add]; omega
  exact (im_true _ 2 2 _ _ _ rfl (by decide) hl ht hs (full_ab hy0) (m_ab f y)).mono fun e w' h => ⟨h.1, after_alloc h.2⟩
theorem call_ba (y b : ByteArray) (w : World) (hb : b.size ≤ 2147483648) (hy0 : 0 < y.size) (hy : y.size ≤ 2147483648) :
    Calls Tryf.prog 8 #[.slice (some ⟨w.heap.size, 0, none⟩) 2 2, .string (y ++ b)] (w.alloc (.cells #[.bool false, .string y, .bool true, .string ⟨#[]⟩] 29))
      fun e w' => e = .returned (.bool true) ∧ Below w.heap.size w w' := by
  have hl := lit_at w [(false, y), (true, ⟨#[]⟩)] #[.bool false, .string y, .bool true, .string ⟨#[]⟩] 29 rfl
  have ht : total [(false, y), (true, ⟨#[]⟩)] ≤ 4611686018427387904 := by
    rw [total2]
    show y.size + (0 + 0) ≤ _
    omega
  have hs : (y ++ b).size ≤ 4611686018427387904 := by rw [size_add]; omega
  exact (im_true _ 2 2 _ _ _ rfl (by decide) hl ht hs (full_ba hy0) (m_ba y b)).mono fun e w' h => ⟨h.1, after_alloc h.2⟩

end Go.Proofs.YtbfellfegdapdaaFmt
