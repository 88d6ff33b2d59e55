/- FnMatch: the walk of the law, for every list of pieces and every text. -/
import Derived.Test.YtbfellfegdapdaaFmtKept
import Derived.Test.YtbfellfegdapdaaFmtSpec
namespace Go.Proofs.YtbfellfegdapdaaFmt
open Go.RowKit Glob

/-- What impl.Match answers of pieces that came in. -/
def matchB (l : List (Bool × ByteArray)) (s : ByteArray) : Bool := go (comps ((kept l).map toL)) s.data.toList
theorem matchB_iff (l : List (Bool × ByteArray)) (s : ByteArray) : matchB l s = true ↔ M (l.map toL) s.data.toList :=
  (go_comps (kept_full l) s.data.toList).trans (kept_M l _)

theorem impl_kept (A : Option Addr) (cap : Nat) (l : List (Bool × ByteArray)) (s : ByteArray) (w : World) (hf : fitsAll l = true) (hl : CompsAt w A (kept l)) (hs : s.size ≤ 2147483647) :
    Calls Tryf.prog 8 #[.slice A (kept l).length cap, .string s] w fun e w' => e = .returned (.bool (matchB l s)) ∧ Below w.heap.size w w' := by
  have h1 := (fits_short hf).1
  have h2 := kept_le l
  exact im_any A (kept l).length cap (kept l) s w rfl (by omega) hl (kept_total h1 (fits_short hf).2) (by omega)
theorem spec_is (A : Option Addr) (n cap : Nat) (l : List (Bool × ByteArray)) (s : ByteArray) (w : World) (hn : l.length = n) (hf : fitsAll l = true) (hl : InAt w A l) (hs : s.size ≤ 2147483647) :
    Calls Tryf.prog 10 #[.slice A n cap, .string s] w fun e w' => e = .returned (.bool (matchB l s)) ∧ Below w.heap.size w w' := by
  have h1 := (fits_short hf).1
  refine (spec_any A n cap l s w hn (by omega) hl (fits_short hf).2 hs).mono ?_
  rintro e w' ⟨b, rfl, hb, hw⟩
  have e1 : b = matchB l s := by rw [Bool.eq_iff_iff, hb, matchB_iff]
  rw [e1]
  exact ⟨rfl, hw⟩
theorem full_star : Full ([((true : Bool), (⟨#[]⟩ : ByteArray))].map toL) := by
  intro x hx hw
  simp [toL] at hx
  subst hx
  cases hw
theorem call_star (s : ByteArray) (w : World) (hs : s.size ≤ 2147483647) :
    Calls Tryf.prog 8 #[.slice (some ⟨w.heap.size, 0, none⟩) 1 1, .string s] (w.alloc (.cells #[.bool true, .string ⟨#[]⟩] 29)) fun e w' => e = .returned (.bool true) ∧ Below w.heap.size w w' := by
  have hl := lit_at w [(true, ⟨#[]⟩)] #[.bool true, .string ⟨#[]⟩] 29 rfl
  have ht : total [((true : Bool), (⟨#[]⟩ : ByteArray))] ≤ 4611686018427387904 := Nat.zero_le _
  have hs2 : s.size ≤ 4611686018427387904 := by omega
  exact (im_true _ 1 1 _ _ _ rfl (by decide) hl ht hs2 full_star (M_any _ _)).mono fun e w' h => ⟨h.1, after_alloc h.2⟩

set_option maxHeartbeats 400000 in
set_option maxRecDepth 100000 in
theorem match_any (A : Option Addr) (n cap : Nat) (l : List (Bool × ByteArray)) (s : ByteArray) (w : World) (hn : l.length = n) (hl : InAt w A l) :
    Calls Tryf.prog 3 #[.slice A n cap, .string s] w fun e w' => e = .returned (.bool true) ∧ Below w.heap.size w w' := by
  have c1 := fits1_any A n cap l w hn hl
  have HC := Lib.hid (And.intro hl hn)
  clear hl hn
  cases hf : fitsAll l
  · rw [hf] at c1
    have C := Lib.hid c1
    clear c1 hf
    go_enter Tryf.func3, Tryf.ntmps3
    go_wp2_with fail
    refine C.out.mono ?_
    rintro e w1 ⟨rfl, hb1⟩
    have HB := Lib.hid hb1
    clear hb1
    go_wp2
    go_ret
    exact ⟨rfl, HB.out⟩
  · rw [hf] at c1
    have C := Lib.hid c1
    have HF := Lib.hid hf
    clear c1 hf
    by_cases hs : (2147483647 : Int) < (s.size : Int)
    · go_enter Tryf.func3, Tryf.ntmps3
      go_wp2_with fail
      refine C.out.mono ?_
      rintro e w1 ⟨rfl, hb1⟩
      have HB := Lib.hid hb1
      clear hb1
      go_wp2
      go_ret
      exact ⟨rfl, HB.out⟩
    · have hs2 : s.size ≤ 2147483647 := by omega
      go_enter Tryf.func3, Tryf.ntmps3
      go_wp2_with fail
      refine C.out.mono ?_
      rintro e w1 ⟨rfl, hb1⟩
      have HB := Lib.hid hb1
      clear hb1
      have hn2 : n ≤ 2147483647 := by rw [← HC.out.2]; exact (fits_short HF.out).1
      go_wp2_with fail
      have c3 := pieces_any A n cap l w1 HC.out.2 hn2 (HC.out.1.below HB.out)
      refine c3.mono ?_
      clear c3
      rintro e w3 ⟨a, c, rfl, hca, hb3⟩
      have H3 := Lib.hid (And.intro hca (HB.out.trans (hb3.mono HB.out.size)))
      clear hca hb3
      go_wp2_with fail
      have c4 := impl_kept a c l s w3 HF.out H3.out.1 hs2
      refine c4.mono ?_
      clear c4
      rintro e w4 ⟨rfl, hb4⟩
      have H4 := Lib.hid (H3.out.2.trans (hb4.mono H3.out.2.size))
      clear hb4
      go_wp2_with fail
      have c5 := spec_is A n cap l s w4 HC.out.2 HF.out (HC.out.1.below H4.out) hs2
      refine c5.mono ?_
      clear c5
      rintro e w5 ⟨rfl, hb5⟩
      have H5 := Lib.hid (H4.out.trans (hb5.mono H4.out.size))
      clear hb5
      go_wp2_with fail
      have c6 := call_star s w5 hs2
      refine c6.mono ?_
      clear c6
      rintro e w6 ⟨rfl, hb6⟩
      have H6 := Lib.hid (H5.out.trans (hb6.mono H5.out.size))
      clear hb6
      go_wp2
      go_ret
      exact ⟨rfl, H6.out⟩
#print axioms match_any
end Go.Proofs.YtbfellfegdapdaaFmt
