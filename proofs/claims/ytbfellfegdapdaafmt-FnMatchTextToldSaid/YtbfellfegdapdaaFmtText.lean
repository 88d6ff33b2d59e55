/- FnMatchText: the walk of the law, for every two texts and every number, over impl.Match's contract. -/
import Derived.Test.YtbfellfegdapdaaFmtAroundA
import Derived.RegionTactic
import Derived.BigRegion
namespace Go.Proofs.YtbfellfegdapdaaFmt
open Go.RowKit Glob

/-- A number's rest from 0 on. -/
def placeOf (n k : Int) : Int := (n.tmod k + k).tmod k
theorem placeOf_lo {n k : Int} (hk : 0 < k) : 0 ≤ placeOf n k := by
  unfold placeOf
  have h1 : -k < n.tmod k := Int.lt_tmod_of_pos n hk
  exact Int.tmod_nonneg _ (by omega)
theorem placeOf_hi {n k : Int} (hk : 0 < k) : placeOf n k < k := by
  unfold placeOf
  exact Int.tmod_lt_of_pos _ hk

theorem ret_num {a b : Int} (h : a = b) : Ending.returned (.int .i64 a) = .returned (.int .i64 b) := by rw [h]
theorem place_any (n k : Int) (w : World) (hk : 0 < k) (hk2 : k ≤ 4611686018427387904) :
    Calls Tryf.prog 13 #[.int .i64 n, .int .i64 k] w fun e w' => e = .returned (.int .i64 (placeOf n k)) ∧ w = w' := by
  have hb : (k == 0) = false := by rw [beq_eq_false_iff_ne]; omega
  go_enter Tryf.func13, Tryf.ntmps13
  go_wp2
  go_ret
  have h1 : -k < n.tmod k := Int.lt_tmod_of_pos n hk
  have h2 : n.tmod k < k := Int.tmod_lt_of_pos n hk
  have h3 : wrap64 (n.tmod k + k) = n.tmod k + k := by unfold wrap64; omega
  exact ⟨ret_num (by rw [h3]; rfl), rfl⟩

theorem full_two {a b : ByteArray} (ha : 0 < a.size) (hb : 0 < b.size) : Full ([(false, a), (false, b)].map toL) := by
  intro x hx hw
  simp [toL] at hx
  rcases hx with rfl | rfl
  · exact ne_of_size ha
  · exact ne_of_size hb
theorem m_two (a b : ByteArray) (x : Bytes) : M ([(false, a), (false, b)].map toL) x ↔ x = a.data.toList ++ b.data.toList := by
  constructor
  · rintro ⟨c, rfl, d, rfl, h⟩
    have : d = [] := h
    subst this
    simp
  · rintro rfl
    exact ⟨b.data.toList, rfl, [], by simp, rfl⟩

/-- impl.Match of two texts that make one: it is that one alone. -/
theorem call_two (a b s x : ByteArray) (A : Option Addr) (c : Nat) (w : World) (hl : CompsAt w A [(false, a), (false, b)]) (hs : s.data.toList = a.data.toList ++ b.data.toList) (ha : 0 < a.size) (hb : 0 < b.size) (hs2 : s.size ≤ 4611686018427387904) (hx : x.size ≤ 4611686018427387904) :
    Calls Tryf.prog 8 #[.slice A 2 c, .string x] w fun e w' => e = .returned (.bool (s.toList == x.toList)) ∧ Below w.heap.size w w' := by
  have hsz : a.size + b.size = s.size := by
    have := congrArg List.length hs
    rw [List.length_append, Array.length_toList, Array.length_toList, Array.length_toList] at this
    exact this.symm
  have ht : total [(false, a), (false, b)] ≤ 4611686018427387904 := by
    rw [total2]
    show a.size + (b.size + 0) ≤ _
    omega
  refine (im_any A 2 c _ x w rfl (by decide) hl ht hx).mono ?_
  rintro e w' ⟨rfl, hb⟩
  have e1 : go (comps ([(false, a), (false, b)].map toL)) x.data.toList = (s.toList == x.toList) := by
    rw [Bool.eq_iff_iff, go_comps (full_two ha ‹_›), m_two, ← hs, beq_iff_eq, ByteArray.toList_eq, ByteArray.toList_eq]
    exact eq_comm
  rw [e1]
  exact ⟨rfl, hb⟩

theorem cut_two (y : ByteArray) (k : Nat) (hk : k ≤ y.size) : y.data.toList = (y.extract 0 k).data.toList ++ (y.extract k y.size).data.toList := by
  rw [ByteArray.data_extract, ByteArray.data_extract, Array.toList_extract, Array.toList_extract, List.extract_eq_take_drop, List.extract_eq_take_drop]
  have h : y.data.toList.length = y.size := Array.length_toList
  rw [List.take_of_length_le (l := y.data.toList.drop k) (by rw [List.length_drop]; omega)]
  simp

set_option maxHeartbeats 400000 in
set_option maxRecDepth 100000 in
theorem text_walk (s t : ByteArray) (n : Int) (w : World) (hs : s.size ≤ 2147483647) (ht : t.size ≤ 2147483647) :
    Calls Tryf.prog 6 #[.string s, .string t, .int .i64 n] w fun e w' => e = .returned (.bool true) ∧ Below w.heap.size w w' := by
  have h1 : ¬ (2147483647 : Int) < (s.size : Int) := by omega
  have h2 : ¬ (2147483647 : Int) < (t.size : Int) := by omega
  have hp : (0 : Int) < (s.size : Int) + 2 - 1 := by omega
  obtain ⟨q, hq⟩ : ∃ q : Nat, placeOf n ((s.size : Int) + 2 - 1) = (q : Int) := ⟨_, (Int.toNat_of_nonneg (placeOf_lo hp)).symm⟩
  have hq2 : (q : Int) < (s.size : Int) + 2 - 1 := by rw [← hq]; exact placeOf_hi hp
  have c0 := place_any n ((s.size : Int) + 2 - 1) w hp (by omega)
  rw [hq] at c0
  clear hq hp
  have hys : (s ++ (⟨#[97, 98]⟩ : ByteArray)).size = s.size + 2 := size_add _ _
  have HY := Lib.hid hys
  clear hys
  go_enter Tryf.func6, Tryf.ntmps6
  go_wp2_with fail
  refine c0.mono ?_
  clear c0
  rintro e w' ⟨rfl, rfl⟩
  generalize hy : s ++ (⟨#[97, 98]⟩ : ByteArray) = y at HY ⊢
  have HZ := Lib.hid hy
  clear hy
  have hq3 : q + 1 ≤ y.size := by have := HY.out; omega
  have HQ := Lib.hid (show 1 + q < y.size by have := HY.out; omega)
  have hq4 : (1 : Int) + (q : Int) ≤ (y.size : Int) := by omega
  have hq5 : ((1 : Int) + (q : Int)).toNat = 1 + q := by omega
  have hyb : (y.size : Int) ≤ 2147483650 := by have := HY.out; omega
  go_wp2_with fail
  go_region
  go_wp2_with fail
  obtain ⟨W, hW⟩ : ∃ W, W = (w.alloc (.cells #[.bool false, .string (y.extract 0 (1 + q)), .bool false, .string (y.extract (1 + q) y.size)] 29)).drew := ⟨_, rfl⟩
  have hl : CompsAt W (some ⟨w.heap.size, 0, none⟩) [(false, y.extract 0 (1 + q)), (false, y.extract (1 + q) y.size)] := by
    rw [hW]
    exact lit_at w [(false, y.extract 0 (1 + q)), (false, y.extract (1 + q) y.size)] #[.bool false, .string (y.extract 0 (1 + q)), .bool false, .string (y.extract (1 + q) y.size)] 29 rfl
  have hbW : Below w.heap.size w W := by
    rw [hW]
    exact ((Below.refl w.heap.size w).alloc (Nat.le_refl _) _).drew
  rw [← hW]
  have ha : 0 < (y.extract 0 (1 + q)).size := by have := HQ.out; rw [ByteArray.size_extract, Nat.min_eq_left (by omega)]; omega
  have hb : 0 < (y.extract (1 + q) y.size).size := by have := HQ.out; rw [ByteArray.size_extract, Nat.min_self]; omega
  have hc := cut_two y (1 + q) (Nat.le_of_lt HQ.out)
  have hy4 : y.size ≤ 4611686018427387904 := by omega
  have hts : (t ++ (⟨#[97, 98]⟩ : ByteArray)).size = t.size + 2 := size_add _ _
  have ht4 : (t ++ (⟨#[97, 98]⟩ : ByteArray)).size ≤ 4611686018427387904 := by omega
  have C := Lib.hid (fun (W1 : World) (hl1 : CompsAt W1 (some ⟨w.heap.size, 0, none⟩) [(false, y.extract 0 (1 + q)), (false, y.extract (1 + q) y.size)]) (x : ByteArray) (hx : x.size ≤ 4611686018427387904) => call_two _ _ y x _ 2 W1 hl1 hc ha hb hy4 hx)
  have HL := Lib.hid (And.intro hl (And.intro hbW (And.intro hy4 ht4)))
  clear ha hb hc hy4 ht4 hts hW hl hbW
  have c1 := C.out W HL.out.1 y HL.out.2.2.1
  rw [beq_self_eq_true] at c1
  refine c1.mono ?_
  clear c1
  rintro e w1 ⟨rfl, hb1⟩
  have HB1 := Lib.hid hb1
  clear hb1
  go_wp2_with fail
  have c2 := C.out w1 (HL.out.1.below HB1.out) t (by omega)
  refine c2.mono ?_
  clear c2
  rintro e w2 ⟨rfl, hb2⟩
  have HB2 := Lib.hid hb2
  clear hb2
  go_wp2_with fail
  have c3 := C.out w2 ((HL.out.1.below HB1.out).below HB2.out) (t ++ ⟨#[97, 98]⟩) HL.out.2.2.2
  refine c3.mono ?_
  clear c3
  rintro e w3 ⟨rfl, hb3⟩
  have HB3 := Lib.hid hb3
  clear hb3
  go_wp2
  go_ret
  have z0 := HL.out.2.1.size
  have z1 := HB1.out.size
  have z2 := HB2.out.size
  exact ⟨rfl, ((HL.out.2.1.trans (HB1.out.mono z0)).trans (HB2.out.mono (Nat.le_trans z0 z1))).trans (HB3.out.mono (Nat.le_trans z0 (Nat.le_trans z1 z2)))⟩

theorem text_any (s t : ByteArray) (n : Int) (w : World) : Calls Tryf.prog 6 #[.string s, .string t, .int .i64 n] w fun e w' => e = .returned (.bool true) ∧ Below w.heap.size w w' := by
  by_cases h1 : (2147483647 : Int) < (s.size : Int)
  · go_enter Tryf.func6, Tryf.ntmps6
    go_wp2
    go_ret
    exact ⟨rfl, Below.refl _ _⟩
  · by_cases h2 : (2147483647 : Int) < (t.size : Int)
    · go_enter Tryf.func6, Tryf.ntmps6
      go_wp2
      go_ret
      exact ⟨rfl, Below.refl _ _⟩
    · exact text_walk s t n w (by omega) (by omega)
#print axioms text_any
end Go.Proofs.YtbfellfegdapdaaFmt
