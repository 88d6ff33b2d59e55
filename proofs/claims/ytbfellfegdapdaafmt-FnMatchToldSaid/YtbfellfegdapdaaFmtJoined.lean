/- The contracts of zzFits3 and Joined, for every list of pieces and every list of texts that came in: the text that Joined makes is the pieces. -/
import Derived.Test.YtbfellfegdapdaaFmtPieces
namespace Go.Proofs.YtbfellfegdapdaaFmt
open Go.RowKit Glob

/-- Texts that came in. -/
def StrsAt (w : World) (A : Option Addr) (ss : List ByteArray) : Prop :=
  ∀ (k : Nat) s, ss[k]? = some s → ∃ ad, A = some ad ∧ ad.block < w.heap.size ∧ w.cell? (ad.add k) = some (.string s)
theorem StrsAt.below {w w1 : World} {A : Option Addr} {ss : List ByteArray} (h : StrsAt w A ss) (hb : Below w.heap.size w w1) : StrsAt w1 A ss := by
  intro k s hx
  obtain ⟨ad, e, hlt, h1⟩ := h k s hx
  exact ⟨ad, e, Nat.lt_of_lt_of_le hlt hb.size, (hb.cell (p := ad.add k) (by rw [add_block]; exact hlt)).trans h1⟩
def shortAll (ss : List ByteArray) : Bool := ss.all shortB
theorem short_cons {ss : List ByteArray} {k : Nat} {s : ByteArray} (h : ss[k]? = some s) : shortAll (ss.drop k) = (shortB s && shortAll (ss.drop (k + 1))) := by
  obtain ⟨hlt, he⟩ := List.getElem?_eq_some_iff.1 h
  rw [List.drop_eq_getElem_cons hlt, he]
  rfl

set_option maxHeartbeats 400000 in
set_option maxRecDepth 100000 in
theorem fits3_walk (A : Option Addr) (n cap : Nat) (ss : List ByteArray) (w : World) (hn : ss.length = n) (hn2 : n ≤ 2147483647) (hl : StrsAt w A ss) :
    Calls Tryf.prog 11 #[.slice A n cap] w fun e w' => e = .returned (.bool (shortAll ss)) ∧ Below w.heap.size w w' := by
  have HC : Aside (StrsAt w A ss ∧ ss.length = n) := ⟨hl, hn⟩
  clear hl hn
  have h0 : ¬ (2147483647 : Int) < (n : Int) := by omega
  go_enter Tryf.func11, Tryf.ntmps11
  go_wp2
  go_loopg [10] n (fun g s10 wx => ∃ k : Nat, k + g = n ∧ s10 = .int .i64 k ∧ Aside (shortAll (ss.drop k) = shortAll ss) ∧ Below w.heap.size w wx)
  case atStart => exact ⟨0, by omega, rfl, rfl, Below.refl _ _⟩
  case round =>
    obtain ⟨k, hkg, rfl, HI, hbx⟩ := hrel
    cases gk with
    | zero =>
      have hkz : ¬ ((k : Int) < (n : Int)) := by omega
      have HK := Lib.hid hkg
      clear hkg
      go_wp2
      go_ret
      refine ⟨?_, hbx⟩
      rw [← HI.out, List.drop_eq_nil_of_le (by have := HK.out; have := HC.out.2; omega)]
      rfl
    | succ g =>
      have hkz : (k : Int) < (n : Int) := by omega
      obtain ⟨x, hx⟩ : ∃ x, ss[k]? = some x := ⟨_, List.getElem?_eq_getElem (by have := HC.out.2; omega)⟩
      obtain ⟨ad, rfl, hlt, hc0⟩ := (HC.out.1.below hbx) k x hx
      have HX : Aside (ss[k]? = some x) := hx
      have HK := Lib.hid hkg
      clear hx hkg
      by_cases h : (2147483647 : Int) < (x.size : Int)
      · go_wp2
        go_ret
        refine ⟨?_, hbx⟩
        have hs : shortB x = false := by unfold shortB; simp; omega
        rw [← HI.out, short_cons HX.out, hs]
        rfl
      · go_wp2
        have hs : shortB x = true := by unfold shortB; simp; omega
        go_roundg g
        case measure => omega
        case rel => exact ⟨k + 1, by have := HK.out; omega, by go_num, by show _ = _; rw [← HI.out, short_cons HX.out, hs, Bool.true_and], hbx⟩

/-- Whether texts are of a size that the law speaks of. -/
def shortFits (ss : List ByteArray) : Bool := !(decide ((2147483647 : Int) < (ss.length : Int))) && shortAll ss

theorem fits3_any (A : Option Addr) (n cap : Nat) (ss : List ByteArray) (w : World) (hn : ss.length = n) (hl : StrsAt w A ss) :
    Calls Tryf.prog 11 #[.slice A n cap] w fun e w' => e = .returned (.bool (shortFits ss)) ∧ Below w.heap.size w w' := by
  by_cases h : (2147483647 : Int) < (n : Int)
  · have hs : shortFits ss = false := by unfold shortFits; simp; omega
    have HS := Lib.hid hs
    clear hs hn
    go_enter Tryf.func11, Tryf.ntmps11
    go_wp2
    go_ret
    exact ⟨by rw [HS.out]; rfl, Below.refl _ _⟩
  · have hs : shortFits ss = shortAll ss := by
      unfold shortFits
      have : ¬ (2147483647 : Int) < (ss.length : Int) := by omega
      simp only [this, decide_false, Bool.not_false, Bool.true_and]
    rw [hs]
    exact fits3_walk A n cap ss w hn (by omega) hl
theorem short_fits {ss : List ByteArray} (h : shortFits ss = true) : ss.length ≤ 2147483647 ∧ ∀ s ∈ ss, s.size ≤ 2147483647 := by
  unfold shortFits at h
  rw [Bool.and_eq_true] at h
  refine ⟨by have := h.1; simp at this; omega, fun x hx => ?_⟩
  have := List.all_eq_true.1 h.2 x hx
  unfold shortB at this
  simp at this
  omega

/-! ### Joined -/
theorem M_snoc_lit {p : List (Bool × ByteArray)} {a t : ByteArray} (h : M (p.map toL) a.data.toList) : M ((p ++ [(false, t)]).map toL) (a ++ t).data.toList := by
  rw [List.map_append, M_append, data_add]
  exact ⟨_, _, rfl, h, M_lit.2 rfl⟩
theorem M_snoc_any {p : List (Bool × ByteArray)} {a t x : ByteArray} (h : M (p.map toL) a.data.toList) : M ((p ++ [(true, x)]).map toL) (a ++ t).data.toList := by
  rw [List.map_append, M_append, data_add]
  exact ⟨_, _, rfl, h, M_any _ _⟩
theorem M_snoc_none {p : List (Bool × ByteArray)} {a x : ByteArray} (h : M (p.map toL) a.data.toList) : M ((p ++ [(true, x)]).map toL) a.data.toList := by
  rw [List.map_append, M_append]
  exact ⟨_, [], by simp, h, M_any _ _⟩

/-- What Joined leaves. -/
def JoinedPost (l : List (Bool × ByteArray)) (w : World) (e : Ending) (w' : World) : Prop :=
  ∃ r : ByteArray, e = .returned (.string r) ∧ M (l.map toL) r.data.toList ∧ r.size ≤ 4611686018427387904 ∧ Below w.heap.size w w'

set_option maxHeartbeats 400000 in
set_option maxRecDepth 100000 in
theorem joined_any (A : Option Addr) (n cap : Nat) (l : List (Bool × ByteArray)) (B : Option Addr) (m cap2 : Nat) (ss : List ByteArray) (w : World) (hn : l.length = n) (hn2 : n ≤ 2147483647) (hl : InAt w A l) (hls : ∀ x ∈ l, x.2.size ≤ 2147483647)
    (hm : ss.length = m) (hm2 : m ≤ 2147483647) (hs : StrsAt w B ss) (hss : ∀ s ∈ ss, s.size ≤ 2147483647) :
    Calls Tryf.prog 12 #[.slice A n cap, .slice B m cap2] w (JoinedPost l w) := by
  have HC : Aside (InAt w A l ∧ l.length = n ∧ ∀ x ∈ l, x.2.size ≤ 2147483647) := ⟨hl, hn, hls⟩
  have HD : Aside (StrsAt w B ss ∧ ss.length = m ∧ ∀ s ∈ ss, s.size ≤ 2147483647) := ⟨hs, hm, hss⟩
  clear hl hn hls hs hm hss
  go_enter Tryf.func12, Tryf.ntmps12
  go_wp2
  go_loopg [5, 6, 11] n (fun g s5 s6 s11 wx => ∃ (k q : Nat) (o : ByteArray), k + g = n ∧ s11 = .int .i64 k ∧ s6 = .int .i64 q ∧ s5 = .string o ∧ q ≤ k ∧ o.size ≤ k * 2147483647 ∧ Aside (M ((l.take k).map toL) o.data.toList) ∧ Below w.heap.size w wx)
  case atStart => exact ⟨0, 0, ⟨#[]⟩, by omega, rfl, rfl, rfl, Nat.le_refl _, Nat.le_refl _, rfl, Below.refl _ _⟩
  case round =>
    obtain ⟨k, q, o, hkg, rfl, rfl, rfl, hqk, hos, HI, hbx⟩ := hrel
    cases gk with
    | zero =>
      have hkz : ¬ ((k : Int) < (n : Int)) := by omega
      have hos2 : o.size ≤ 4611686018427387904 := by
        have : k * 2147483647 ≤ 2147483647 * 2147483647 := Nat.mul_le_mul_right _ (by omega)
        omega
      have HK := Lib.hid (And.intro hkg hos2)
      clear hkg hos hos2
      go_wp2
      go_ret
      refine ⟨o, rfl, ?_, HK.out.2, hbx⟩
      have h := HI.out
      rw [List.take_of_length_le (by have := HK.out.1; have := HC.out.2.1; omega)] at h
      exact h
    | succ g =>
      have hkz : (k : Int) < (n : Int) := by omega
      obtain ⟨x, hx⟩ : ∃ x, l[k]? = some x := ⟨_, List.getElem?_eq_getElem (by have := HC.out.2.1; omega)⟩
      obtain ⟨ad, rfl, hlt, hc0, hc1⟩ := (HC.out.1.below hbx) k x hx
      obtain ⟨xw, xl⟩ := x
      have hxl : xl.size ≤ 2147483647 := HC.out.2.2 _ (List.mem_of_getElem? hx)
      have hkn : k ≤ 2147483647 := by omega
      have hos2 : o.size ≤ 4611686014132420609 := by
        have : k * 2147483647 ≤ 2147483647 * 2147483647 := Nat.mul_le_mul_right _ hkn
        omega
      have hbs := hbx.size
      have HX : Aside (l[k]? = some (xw, xl)) := hx
      have HK := Lib.hid (And.intro hkg hos)
      clear hx hkg hos
      cases xw with
      | false =>
        go_wp2
        go_roundg g
        case measure => omega
        case rel => exact ⟨k + 1, q, o ++ xl, by have := HK.out.1; omega, by go_num, rfl, rfl, by omega, by have := HK.out.2; rw [size_add]; omega, by show M _ _; rw [take_next HX.out]; exact M_snoc_lit HI.out, hbx.alloc hbs _⟩
      | true =>
        have hstep : k * 2147483647 ≤ (k + 1) * 2147483647 := Nat.mul_le_mul_right _ (Nat.le_succ k)
        have HS := Lib.hid (And.intro hstep (Nat.le_succ_of_le hqk))
        clear hstep
        by_cases hm0 : (0 : Int) < (m : Int)
        · have hmod : q % m < m := Nat.mod_lt _ (by omega)
          obtain ⟨y, hy⟩ : ∃ y, ss[q % m]? = some y := ⟨_, List.getElem?_eq_getElem (by have := HD.out.2.1; omega)⟩
          obtain ⟨ae, rfl, hlt2, hs0⟩ := (HD.out.1.below hbx) (q % m) y hy
          have hyl : y.size ≤ 2147483647 := HD.out.2.2 _ (List.mem_of_getElem? hy)
          have hmb : ((m : Int) == 0) = false := by rw [beq_eq_false_iff_ne]; omega
          clear hy
          have hs1 : ∀ ob, (wr.alloc ob).cell? (ae.add (q % m)) = some (.string y) := fun ob => (World.cell?_alloc_lt wr ob (ae.add (q % m)) (by rw [add_block]; exact hlt2)).trans hs0
          go_wp2
          go_roundg g
          case measure => omega
          case rel => exact ⟨k + 1, q + 1, o ++ y, by have := HK.out.1; omega, by go_num, by go_num, rfl, Nat.succ_le_succ hqk, by have := HK.out.2; rw [size_add, Nat.succ_mul]; omega, by show M _ _; rw [take_next HX.out]; exact M_snoc_any HI.out, hbx.alloc hbs _⟩
        · go_wp2
          go_roundg g
          case measure => omega
          case rel => exact ⟨k + 1, q, o, by have := HK.out.1; omega, by go_num, rfl, rfl, HS.out.2, Nat.le_trans HK.out.2 HS.out.1, by show M _ _; rw [take_next HX.out]; exact M_snoc_none HI.out, hbx.alloc hbs _⟩
#print axioms joined_any
end Go.Proofs.YtbfellfegdapdaaFmt
