/- The contracts of zzFits2, zzFits1 and pieces, for every list of pieces that came in. -/
import Derived.Test.YtbfellfegdapdaaFmtAroundA
namespace Go.Proofs.YtbfellfegdapdaaFmt
open Go.RowKit Glob

/-- Pieces that came in: two cells each, from an address on. -/
def InAt (w : World) (A : Option Addr) (l : List (Bool × ByteArray)) : Prop :=
  ∀ (k : Nat) x, l[k]? = some x → ∃ ad, A = some ad ∧ ad.block < w.heap.size ∧ w.cell? (ad.add (k * 2)) = some (.bool x.1) ∧ w.cell? ⟨(ad.add (k * 2)).block, (ad.add (k * 2)).off + 1, none⟩ = some (.string x.2)
theorem add_block (a : Addr) (n : Nat) : (a.add n).block = a.block := by unfold Addr.add; split <;> rfl
theorem InAt.below {w w1 : World} {A : Option Addr} {l : List (Bool × ByteArray)} (h : InAt w A l) (hb : Below w.heap.size w w1) : InAt w1 A l := by
  intro k x hx
  obtain ⟨ad, e, hlt, h1, h2⟩ := h k x hx
  exact ⟨ad, e, Nat.lt_of_lt_of_le hlt hb.size, (hb.cell (p := ad.add (k * 2)) (by rw [add_block]; exact hlt)).trans h1,
    (hb.cell (p := ⟨(ad.add (k * 2)).block, (ad.add (k * 2)).off + 1, none⟩) (by show (ad.add (k * 2)).block < _; rw [add_block]; exact hlt)).trans h2⟩

def shortB (s : ByteArray) : Bool := !(decide ((2147483647 : Int) < (s.size : Int)))
def fitsB (l : List (Bool × ByteArray)) : Bool := l.all fun x => shortB x.2

theorem fits_cons {l : List (Bool × ByteArray)} {k : Nat} {xw : Bool} {xl : ByteArray} (h : l[k]? = some (xw, xl)) : fitsB (l.drop k) = (shortB xl && fitsB (l.drop (k + 1))) := by
  obtain ⟨hlt, he⟩ := List.getElem?_eq_some_iff.1 h
  rw [List.drop_eq_getElem_cons hlt, he]
  rfl
theorem fits2_any (xw : Bool) (xl : ByteArray) (w : World) : Calls Tryf.prog 14 #[.agg #[.bool xw, .string xl]] w fun e w' => e = .returned (.bool (shortB xl)) ∧ Below w.heap.size w w' := by
  by_cases h : (2147483647 : Int) < (xl.size : Int)
  · have hs : shortB xl = false := by unfold shortB; simp; omega
    go_enter Tryf.func14, Tryf.ntmps14
    go_wp2
    go_ret
    exact ⟨by first | rfl | (rw [hs]; rfl), (Below.refl _ _).alloc (Nat.le_refl _) _⟩
  · have hs : shortB xl = true := by unfold shortB; simp; omega
    go_enter Tryf.func14, Tryf.ntmps14
    go_wp2
    go_ret
    exact ⟨by first | rfl | (rw [hs]; rfl), (Below.refl _ _).alloc (Nat.le_refl _) _⟩

set_option maxHeartbeats 400000 in
set_option maxRecDepth 100000 in
theorem fits1_walk (A : Option Addr) (n cap : Nat) (l : List (Bool × ByteArray)) (w : World) (hn : l.length = n) (hn2 : n ≤ 2147483647) (hl : InAt w A l) :
    Calls Tryf.prog 7 #[.slice A n cap] w fun e w' => e = .returned (.bool (fitsB l)) ∧ Below w.heap.size w w' := by
  have HC : Aside (InAt w A l ∧ l.length = n) := ⟨hl, hn⟩
  clear hl hn
  have h0 : ¬ (2147483647 : Int) < (n : Int) := by omega
  go_enter Tryf.func7, Tryf.ntmps7
  go_wp2
  go_loopg [10] n (fun g s10 wx => ∃ k : Nat, k + g = n ∧ s10 = .int .i64 k ∧ Aside (fitsB (l.drop k) = fitsB l) ∧ Below w.heap.size w wx)
  case atStart => exact ⟨0, by omega, rfl, rfl, Below.refl _ _⟩
  case round =>
    obtain ⟨k, hkg, rfl, HI, hbx⟩ := hrel
    cases gk with
    | zero =>
      have hkz : ¬ ((k : Int) < (n : Int)) := by omega
      have HK := Lib.hid hkg
      clear hkg
      go_wp2
      go_ret
      refine ⟨?_, hbx⟩
      rw [← HI.out, List.drop_eq_nil_of_le (by have := HK.out; have := HC.out.2; omega)]
      rfl
    | succ g =>
      have hkz : (k : Int) < (n : Int) := by omega
      obtain ⟨x, hx⟩ : ∃ x, l[k]? = some x := ⟨_, List.getElem?_eq_getElem (by have := HC.out.2; omega)⟩
      obtain ⟨ad, rfl, hlt, hc0, hc1⟩ := (HC.out.1.below hbx) k x hx
      obtain ⟨xw, xl⟩ := x
      have HX : Aside (l[k]? = some (xw, xl)) := hx
      have HK := Lib.hid hkg
      have hbs := hbx.size
      clear hx hkg
      cases hs : shortB xl
      · have c1 := fits2_any xw xl (wr.alloc (.cells #[.bool xw, .string xl] 37))
        rw [hs] at c1
        have C := Lib.hid c1
        clear c1
        go_wp2_with fail
        refine C.out.mono ?_
        rintro e w1 ⟨rfl, hb1⟩
        have HB := Lib.hid hb1
        clear hb1
        go_wp2
        go_ret
        refine ⟨?_, hbx.trans ((after_alloc HB.out).mono hbs)⟩
        rw [← HI.out, fits_cons HX.out, hs]
        rfl
      · have c1 := fits2_any xw xl (wr.alloc (.cells #[.bool xw, .string xl] 37))
        rw [hs] at c1
        have C := Lib.hid c1
        clear c1
        go_wp2_with fail
        refine C.out.mono ?_
        rintro e w1 ⟨rfl, hb1⟩
        have HB := Lib.hid hb1
        clear hb1
        go_wp2
        go_roundg g
        case measure => omega
        case rel => exact ⟨k + 1, by have := HK.out; omega, by go_num, by show _ = _; rw [← HI.out, fits_cons HX.out, hs, Bool.true_and], hbx.trans ((after_alloc HB.out).mono hbs)⟩

/-- Whether pieces are of a size that the law speaks of. -/
def fitsAll (l : List (Bool × ByteArray)) : Bool := !(decide ((2147483647 : Int) < (l.length : Int))) && fitsB l

theorem fits1_any (A : Option Addr) (n cap : Nat) (l : List (Bool × ByteArray)) (w : World) (hn : l.length = n) (hl : InAt w A l) :
    Calls Tryf.prog 7 #[.slice A n cap] w fun e w' => e = .returned (.bool (fitsAll l)) ∧ Below w.heap.size w w' := by
  by_cases h : (2147483647 : Int) < (n : Int)
  · have hs : fitsAll l = false := by unfold fitsAll; simp; omega
    have HS := Lib.hid hs
    clear hs hn
    go_enter Tryf.func7, Tryf.ntmps7
    go_wp2
    go_ret
    exact ⟨by rw [HS.out]; rfl, Below.refl _ _⟩
  · have hs : fitsAll l = fitsB l := by
      unfold fitsAll
      have : ¬ (2147483647 : Int) < (l.length : Int) := by omega
      simp only [this, decide_false, Bool.not_false, Bool.true_and]
    rw [hs]
    exact fits1_walk A n cap l w hn (by omega) hl
theorem fits_short {l : List (Bool × ByteArray)} (h : fitsAll l = true) : l.length ≤ 2147483647 ∧ ∀ x ∈ l, x.2.size ≤ 2147483647 := by
  unfold fitsAll at h
  rw [Bool.and_eq_true] at h
  refine ⟨by have := h.1; simp at this; omega, fun x hx => ?_⟩
  have := List.all_eq_true.1 h.2 x hx
  unfold shortB at this
  simp at this
  omega
#print axioms fits1_any
end Go.Proofs.YtbfellfegdapdaaFmt
