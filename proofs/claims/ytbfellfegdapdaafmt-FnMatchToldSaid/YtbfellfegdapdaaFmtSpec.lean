/- The contract of spec.Match, for every list of pieces that came in and every text: it returns whether the text is the pieces. -/
import Derived.Test.YtbfellfegdapdaaFmtIn
import Derived.Test.YtbfellfegdapdaaFmtDp
import Derived.IntWalk
namespace Go.Proofs.YtbfellfegdapdaaFmt
open Go.RowKit Glob

theorem info4 : (Tryf.prog.info? 4).map (fun i => (i.zero, i.size, i.bytes)) = some (some (.bool false), 1, 1) := by kernel_rfl
def bools (nb : List Bool) : List Value := nb.map Value.bool
theorem bools_at {nb : List Bool} {j : Nat} {b : Bool} (h : nb[j]? = some b) : (bools nb)[j]? = some (.bool b) := by
  unfold bools; rw [List.getElem?_map, h]; rfl
theorem bools_set (nb : List Bool) (j : Nat) (b : Bool) : (bools nb).set j (.bool b) = bools (nb.set j b) := by
  unfold bools; rw [List.map_set]
theorem bools_zero (n : Nat) : (madeCells (Value.bool false).cells (n * 1)).toList = bools (List.replicate n false) := by
  show (madeCells #[Value.bool false] (n * 1)).toList = _
  rw [toList_madeCells_one, Nat.mul_one]
  unfold bools
  rw [List.map_replicate]

section
variable {w : World} {base g n c : Nat} {nb : List Bool}
theorem own_bool (h : w.ownsRow base 4 1 (.slice (some ⟨g, 0, none⟩) n c) n (bools nb)) {j : Nat} {b : Bool} (hb : nb[j]? = some b) : w.cell? ⟨g, j, none⟩ = some (.bool b) := by
  have hl : (bools nb).length = n * 1 := h.1
  have hj : j < n := by
    have := (List.getElem?_eq_some_iff.1 hb).1
    unfold bools at hl
    rw [List.length_map] at hl
    omega
  exact (h.cellAt j (by omega)).trans (bools_at hb)
theorem own_set (h : w.ownsRow base 4 1 (.slice (some ⟨g, 0, none⟩) n c) n (bools nb)) (j : Nat) (b : Bool) :
    (w.setCell ⟨g, j, none⟩ (.bool b)).ownsRow base 4 1 (.slice (some ⟨g, 0, none⟩) n c) n (bools (nb.set j b)) ∧ w.grownBy (w.setCell ⟨g, j, none⟩ (.bool b)) (some g) := by
  obtain ⟨h1, h2⟩ := h.stored j (.bool b)
  rw [bools_set] at h1
  exact ⟨h1, h2⟩
theorem own_far {g' : Nat} {v : Value} (h : w.ownsRow base 4 1 (.slice (some ⟨g, 0, none⟩) n c) n (bools nb)) (hne : g ≠ g') (j : Nat) :
    (w.setCell ⟨g', j, none⟩ v).ownsRow base 4 1 (.slice (some ⟨g, 0, none⟩) n c) n (bools nb) := by
  refine h.kept (row := some g') ⟨rfl, rfl, rfl, by simp [World.setCell], fun k hk hn => Below.heap_setCell w ⟨g', j, none⟩ v k (fun e => hn (by rw [e]))⟩ (Or.inr ?_)
  intro e
  have e' : g = g' := by simpa [Value.ownBlock] using e
  exact hne e'
end

theorem row_lt {s : ByteArray} {p : List (Bool × Bytes)} {nb : List Bool} (h : RowInv s.data.toList p nb) {j : Nat} (hj : j ≤ s.size) : j < nb.length := by
  have h1 := h.len
  have h2 : s.data.toList.length = s.size := Array.length_toList
  omega

/-- What spec.Match leaves. -/
def SpecPost (l : List (Bool × ByteArray)) (s : ByteArray) (w : World) (e : Ending) (w' : World) : Prop :=
  ∃ b : Bool, e = .returned (.bool b) ∧ (b = true ↔ M (l.map toL) s.data.toList) ∧ Below w.heap.size w w'

theorem cell_far {w : World} {g i q : Nat} {v : Value} (h : g ≠ q) (j : Nat) : (w.setCell ⟨q, j, none⟩ v).cell? ⟨g, i, none⟩ = w.cell? ⟨g, i, none⟩ :=
  World.cell?_setCell_other w ⟨q, j, none⟩ ⟨g, i, none⟩ v (fun e => h (by injection e with e1; exact e1.symm))
theorem row_any {l : List (Bool × ByteArray)} {k : Nat} {xl s : ByteArray} {nb xb : List Bool} {op : Bool} (hx : l[k]? = some (true, xl)) (hr : RowInv s.data.toList ((l.take k).map toL) nb) (h : AnyInv nb xb (s.size + 1) op) :
    RowInv s.data.toList ((l.take (k + 1)).map toL) xb := by
  rw [take_next hx, List.map_append]
  exact any_end (t := xl.data.toList) (op := op) hr (by rw [Array.length_toList]; exact h)
theorem row_lit {l : List (Bool × ByteArray)} {k : Nat} {xl s : ByteArray} {nb xb : List Bool} (hx : l[k]? = some (false, xl)) (hr : RowInv s.data.toList ((l.take k).map toL) nb) (h : LitInv s.data.toList xl.data.toList nb xb (s.size + 1)) :
    RowInv s.data.toList ((l.take (k + 1)).map toL) xb := by
  rw [take_next hx, List.map_append]
  exact lit_end hr (by rw [Array.length_toList]; exact h)
theorem any_next {nb xb : List Bool} {j : Nat} {op b : Bool} (h : AnyInv nb xb j op) (hb : nb[j]? = some b) : AnyInv nb (xb.set j (op || b)) (j + 1) (op || b) := any_step h hb

theorem piece_list (s : ByteArray) (j n : Nat) : (s.extract j (j + n)).data.toList = (s.data.toList.drop j).take n := by
  rw [ByteArray.data_extract, Array.toList_extract, List.extract_eq_take_drop, Nat.add_sub_cancel_left]
theorem no_match {s xl : ByteArray} {j : Nat} (he : ((s.extract j (j + xl.size)).toList == xl.toList) = false) (h : (s.data.toList.drop j).take xl.data.toList.length = xl.data.toList) : False := by
  have hl : xl.data.toList.length = xl.size := Array.length_toList
  rw [hl, ← piece_list] at h
  rw [ByteArray.toList_eq, ByteArray.toList_eq, h, beq_self_eq_true] at he
  cases he
theorem lit_next {s xl : ByteArray} {nb xb : List Bool} {j : Nat} (h : LitInv s.data.toList xl.data.toList nb xb j) (hl : nb.length = s.size + 1) (hb : nb[j]? = some true) (hf : j + xl.size ≤ s.size) (he : ((s.extract j (j + xl.size)).toList == xl.toList) = true) :
    LitInv s.data.toList xl.data.toList nb (xb.set (j + xl.size) true) (j + 1) := by
  have hl1 : xl.data.toList.length = xl.size := Array.length_toList
  have hl2 : s.data.toList.length = s.size := Array.length_toList
  have e := beq_iff_eq.1 he
  rw [ByteArray.toList_eq, ByteArray.toList_eq, piece_list] at e
  have h2 := lit_hit h (by rw [hl2]; exact hl) hb (by rw [hl1, hl2]; exact hf) (by rw [hl1]; exact e)
  rw [hl1] at h2
  exact h2
theorem quiet_set {w wy : World} {n g j : Nat} {v : Value} (h : Below w.heap.size w wy) (hg : w.heap.size ≤ g) : Below w.heap.size w ((wy.setCell ⟨g, j, none⟩ v).drewN n) := by
  have h2 := h.setCell (p := ⟨g, j, none⟩) hg v
  exact ⟨h2.os, h2.tape, h2.output, h2.size, h2.block⟩

set_option maxHeartbeats 2000000 in
set_option maxRecDepth 100000 in
theorem spec_any (A : Option Addr) (n cap : Nat) (l : List (Bool × ByteArray)) (s : ByteArray) (w : World) (hn : l.length = n) (hn2 : n ≤ 2147483647) (hl : InAt w A l) (hls : ∀ x ∈ l, x.2.size ≤ 2147483647) (hs : s.size ≤ 2147483647) :
    Calls Tryf.prog 10 #[.slice A n cap, .string s] w (SpecPost l s w) := by
  have HC : Aside (InAt w A l ∧ l.length = n ∧ ∀ x ∈ l, x.2.size ≤ 2147483647) := ⟨hl, hn, hls⟩
  clear hl hn hls
  obtain ⟨i0, hi, hz0, hz1, hz2⟩ := info_parts info4
  go_enter Tryf.func10, Tryf.ntmps10
  go_wp2_with (at_make; refine wpList_make_full _ rfl _ _ 48 rfl w.heap.size 4 i0 (.bool false) 1 Tryf.underlying48 hi hz0 hz1 _ _ _ _ (s.size + 1) rfl rfl (by omega) (by omega) (by rw [hz2]; omega) (by unfold maxLen; omega) (Nat.le_refl _) ?_; intro w1 hown1 hg1; rw [bools_zero] at hown1; have hc1 := own_bool (j := 0) hown1 (by rw [List.getElem?_replicate, if_pos (Nat.succ_pos _)]); have hf1 := hown1.frozenAt 0)
  obtain ⟨hown0, hg0⟩ := own_set hown1 0 true
  have hb0 : Below w.heap.size w (w1.setCell ⟨w.heap.size, 0, none⟩ (.bool true)) :=
    ((Below.refl w.heap.size w).grown hg1 (Nat.le_refl _) (by simp)).setCell (Nat.le_refl _) _
  obtain ⟨w2, hw2⟩ : ∃ w2, w2 = w1.setCell ⟨w.heap.size, 0, none⟩ (.bool true) := ⟨_, rfl⟩
  rw [← hw2] at hown0 hb0 ⊢
  have hrow : RowInv s.data.toList ((l.take 0).map toL) ((List.replicate (s.size + 1) false).set 0 true) := by
    have h := row_start s.data.toList
    rw [Array.length_toList] at h
    exact h
  have HS := Lib.hid (And.intro hown0 (And.intro hb0 hrow))
  clear hown0 hb0 hrow hw2 hg0 hown1 hg1 hc1 hf1
  go_loopg [5, 19] n (fun g s5 s19 wx => ∃ (k g1 c1 : Nat) (nb : List Bool), k + g = n ∧ s19 = .int .i64 k ∧ s5 = .slice (some ⟨g1, 0, none⟩) (s.size + 1) c1 ∧
    wx.ownsRow w.heap.size 4 1 (.slice (some ⟨g1, 0, none⟩) (s.size + 1) c1) (s.size + 1) (bools nb) ∧ Aside (RowInv s.data.toList ((l.take k).map toL) nb) ∧ Below w.heap.size w wx)
  case atStart => exact ⟨0, w.heap.size, s.size + 1, _, by omega, rfl, rfl, HS.out.1, HS.out.2.2, HS.out.2.1⟩
  case round =>
    clear HS
    obtain ⟨k, g1, c1, nb, hkg, rfl, rfl, hown, HI, hbx⟩ := hrel
    have hg1l := (hown.lt g1 rfl).2
    have hg1b := (hown.lt g1 rfl).1
    cases gk with
    | zero =>
      have hkz : ¬ ((k : Int) < (n : Int)) := by omega
      obtain ⟨b, hb⟩ : ∃ b, nb[s.size]? = some b := ⟨_, List.getElem?_eq_getElem (row_lt HI.out (Nat.le_refl _))⟩
      have hc := own_bool hown hb
      have HK := Lib.hid (And.intro hkg (And.intro hb hbx))
      clear hkg hb hown
      go_wp2
      go_ret
      refine ⟨b, rfl, ?_, HK.out.2.2⟩
      have h := HI.out
      rw [List.take_of_length_le (by have := HK.out.1; have := HC.out.2.1; omega)] at h
      have h2 := h.ok s.size (by rw [Array.length_toList]; exact Nat.le_refl _)
      rw [HK.out.2.1, List.take_of_length_le (by rw [Array.length_toList]; exact Nat.le_refl _)] at h2
      rw [← h2]
      simp
    | succ g =>
      have hkz : (k : Int) < (n : Int) := by omega
      obtain ⟨x, hx⟩ : ∃ x, l[k]? = some x := ⟨_, List.getElem?_eq_getElem (by have := HC.out.2.1; omega)⟩
      obtain ⟨ad, rfl, hlt, hc0, hc1⟩ := (HC.out.1.below hbx) k x hx
      obtain ⟨xw, xl⟩ := x
      have hxl : xl.size ≤ 2147483647 := HC.out.2.2 _ (List.mem_of_getElem? hx)
      have hbs := hbx.size
      have HX : Aside (l[k]? = some (xw, xl)) := hx
      have HK := Lib.hid hkg
      have HO := Lib.hid (And.intro hown hbx)
      clear hx hkg hown
      cases xw with
      | true =>
        go_wp2_with (at_make; refine wpList_make_full _ rfl _ _ 48 rfl w.heap.size 4 i0 (.bool false) 1 Tryf.underlying48 hi hz0 hz1 _ _ _ _ (s.size + 1) rfl rfl (by omega) (by omega) (by rw [hz2]; omega) (by unfold maxLen; omega) (by simp; omega) ?_; intro w3 hown3 hg3; rw [bools_zero] at hown3)
        rw [World.size_alloc] at hown3
        have hnow3 := (HO.out.1.alloc (.cells #[.bool true, .string xl] 37)).kept hg3 (Or.inr (by simp [Value.ownBlock]))
        have hp0 : w3.cell? ⟨wr.heap.size, 0, none⟩ = some (.bool true) := hg3.cell (by simp) (by simp)
        have hp1 : w3.cell? ⟨wr.heap.size, 1, none⟩ = some (.string xl) := hg3.cell (by simp) (by simp)
        have hb3 : Below w.heap.size w w3 := (hbx.alloc hbs (.cells #[.bool true, .string xl] 37)).grown hg3 (by simp; omega) (by simp)
        have HW := Lib.hid (And.intro hown3 (And.intro hnow3 (And.intro hp0 (And.intro hp1 hb3))))
        clear hown3 hnow3 hp0 hp1 hb3 hg3 hbx hlt hc0 hc1 HO
        generalize wr.heap.size = P at hbs hg1l HW ⊢
        have hnl : nb.length = s.size + 1 := by have h := HI.out.len; rw [Array.length_toList] at h; exact h
        have hst : AnyInv nb (List.replicate (s.size + 1) false) 0 false := by have h := any_start nb; rw [hnl] at h; exact h
        have HB := Lib.hid (And.intro hnl hst)
        clear hnl hst
        go_loopg [9, 29] (s.size + 1) (fun g2 s9 s29 wy => ∃ (j : Nat) (op : Bool) (xb : List Bool), j + g2 = s.size + 1 ∧ s29 = .int .i64 j ∧ s9 = .bool op ∧ Aside (AnyInv nb xb j op) ∧
          wy.ownsRow w.heap.size 4 1 (.slice (some ⟨g1, 0, none⟩) (s.size + 1) c1) (s.size + 1) (bools nb) ∧ wy.ownsRow w.heap.size 4 1 (.slice (some ⟨P + 1, 0, none⟩) (s.size + 1) (s.size + 1)) (s.size + 1) (bools xb) ∧
          wy.cell? ⟨P, 0, none⟩ = some (.bool true) ∧ wy.cell? ⟨P, 1, none⟩ = some (.string xl) ∧ Below w.heap.size w wy)
        case atStart => exact ⟨0, false, _, by omega, rfl, rfl, HB.out.2, HW.out.2.1, HW.out.1, HW.out.2.2.1, HW.out.2.2.2.1, HW.out.2.2.2.2⟩
        case round =>
          clear HW
          obtain ⟨j, op, xb, hjg, rfl, rfl, HJ, hnow, hnext, hp0, hp1, hby⟩ := hrel
          cases gk with
          | zero =>
            have hjz : ¬ ((j : Int) < (s.size : Int) + 1) := by omega
            have hje : j = s.size + 1 := by omega
            have HE := Lib.hid (And.intro hje (And.intro hnext hby))
            clear hjg hje hnow hnext
            go_wp2
            go_roundg g
            case measure => omega
            case rel => exact ⟨k + 1, P + 1, s.size + 1, xb, by have := HK.out; omega, by go_num, rfl, HE.out.2.1, row_any HX.out HI.out (HE.out.1 ▸ HJ.out), HE.out.2.2⟩
          | succ g2 =>
            have hjz : (j : Int) < (s.size : Int) + 1 := by omega
            have hjl : j < nb.length := by have := HB.out.1; omega
            obtain ⟨b, hb⟩ : ∃ b, nb[j]? = some b := ⟨_, List.getElem?_eq_getElem hjl⟩
            obtain ⟨y, hy⟩ : ∃ y, xb[j]? = some y := ⟨_, List.getElem?_eq_getElem (by have := HJ.out.len; omega)⟩
            have hcb := own_bool hnow hb
            have hcy := own_bool hnext hy
            have hfy := hnext.frozenAt j
            have HE := Lib.hid (And.intro hjg (And.intro hb (And.intro hnow hnext)))
            clear hjg hb hy hnow hnext hjl
            cases op
            · cases b
              · go_wp2
                go_roundg g2
                case measure => omega
                case rel => exact ⟨j + 1, false, xb.set j (false), by have := HE.out.1; omega, by go_num, rfl, any_next (op := false) (b := false) HJ.out HE.out.2.1, own_far HE.out.2.2.1 (by omega) j, (own_set HE.out.2.2.2 j false).1, (cell_far (by simp) j).trans hp0, (cell_far (by simp) j).trans hp1, hby.setCell (by show w.heap.size ≤ P + 1; omega) _⟩
              · go_wp2
                go_roundg g2
                case measure => omega
                case rel => exact ⟨j + 1, true, xb.set j (true), by have := HE.out.1; omega, by go_num, rfl, any_next (op := false) (b := true) HJ.out HE.out.2.1, own_far HE.out.2.2.1 (by omega) j, (own_set HE.out.2.2.2 j true).1, (cell_far (by simp) j).trans hp0, (cell_far (by simp) j).trans hp1, hby.setCell (by show w.heap.size ≤ P + 1; omega) _⟩
            · go_wp2
              go_roundg g2
              case measure => omega
              case rel => exact ⟨j + 1, true, xb.set j (true), by have := HE.out.1; omega, by go_num, rfl, any_next (op := true) (b := b) HJ.out HE.out.2.1, own_far HE.out.2.2.1 (by omega) j, (own_set HE.out.2.2.2 j true).1, (cell_far (by simp) j).trans hp0, (cell_far (by simp) j).trans hp1, hby.setCell (by show w.heap.size ≤ P + 1; omega) _⟩
      | false =>
        go_wp2_with (at_make; refine wpList_make_full _ rfl _ _ 48 rfl w.heap.size 4 i0 (.bool false) 1 Tryf.underlying48 hi hz0 hz1 _ _ _ _ (s.size + 1) rfl rfl (by omega) (by omega) (by rw [hz2]; omega) (by unfold maxLen; omega) (by simp; omega) ?_; intro w3 hown3 hg3; rw [bools_zero] at hown3)
        rw [World.size_alloc] at hown3
        have hnow3 := (HO.out.1.alloc (.cells #[.bool false, .string xl] 37)).kept hg3 (Or.inr (by simp [Value.ownBlock]))
        have hp0 : w3.cell? ⟨wr.heap.size, 0, none⟩ = some (.bool false) := hg3.cell (by simp) (by simp)
        have hp1 : w3.cell? ⟨wr.heap.size, 1, none⟩ = some (.string xl) := hg3.cell (by simp) (by simp)
        have hb3 : Below w.heap.size w w3 := (hbx.alloc hbs (.cells #[.bool false, .string xl] 37)).grown hg3 (by simp; omega) (by simp)
        have HW := Lib.hid (And.intro hown3 (And.intro hnow3 (And.intro hp0 (And.intro hp1 hb3))))
        clear hown3 hnow3 hp0 hp1 hb3 hg3 hbx hlt hc0 hc1 HO
        generalize wr.heap.size = P at hbs hg1l HW ⊢
        have hnl : nb.length = s.size + 1 := by have h := HI.out.len; rw [Array.length_toList] at h; exact h
        have hst : LitInv s.data.toList xl.data.toList nb (List.replicate (s.size + 1) false) 0 := by have h := lit_start s.data.toList xl.data.toList nb; rw [hnl] at h; exact h
        have HB := Lib.hid (And.intro hnl hst)
        clear hnl hst
        go_loopg [9, 29] (s.size + 1) (fun g2 _ s29 wy => ∃ (j : Nat) (xb : List Bool), j + g2 = s.size + 1 ∧ s29 = .int .i64 j ∧ Aside (LitInv s.data.toList xl.data.toList nb xb j) ∧
          wy.ownsRow w.heap.size 4 1 (.slice (some ⟨g1, 0, none⟩) (s.size + 1) c1) (s.size + 1) (bools nb) ∧ wy.ownsRow w.heap.size 4 1 (.slice (some ⟨P + 1, 0, none⟩) (s.size + 1) (s.size + 1)) (s.size + 1) (bools xb) ∧
          wy.cell? ⟨P, 0, none⟩ = some (.bool false) ∧ wy.cell? ⟨P, 1, none⟩ = some (.string xl) ∧ Below w.heap.size w wy)
        case atStart => exact ⟨0, _, by omega, rfl, HB.out.2, HW.out.2.1, HW.out.1, HW.out.2.2.1, HW.out.2.2.2.1, HW.out.2.2.2.2⟩
        case round =>
          clear HW
          obtain ⟨j, xb, hjg, rfl, HJ, hnow, hnext, hp0, hp1, hby⟩ := hrel
          cases gk with
          | zero =>
            have hjz : ¬ ((j : Int) < (s.size : Int) + 1) := by omega
            have hje : j = s.size + 1 := by omega
            have HE := Lib.hid (And.intro hje (And.intro hnext hby))
            clear hjg hje hnow hnext
            go_wp2
            go_roundg g
            case measure => omega
            case rel => exact ⟨k + 1, P + 1, s.size + 1, xb, by have := HK.out; omega, by go_num, rfl, HE.out.2.1, row_lit HX.out HI.out (HE.out.1 ▸ HJ.out), HE.out.2.2⟩
          | succ g2 =>
            have hjz : (j : Int) < (s.size : Int) + 1 := by omega
            have hjl : j < nb.length := by have := HB.out.1; omega
            obtain ⟨b, hb⟩ : ∃ b, nb[j]? = some b := ⟨_, List.getElem?_eq_getElem hjl⟩
            have hcb := own_bool hnow hb
            cases b with
            | false =>
              have HE := Lib.hid (And.intro hjg (And.intro hb (And.intro hnow hnext)))
              clear hjg hb hnow hnext hjl
              go_wp2_with fail
              go_quiet (fail)
              go_wp2
              go_roundg g2
              case measure => omega
              case rel => exact ⟨j + 1, xb, by have := HE.out.1; omega, by go_num, lit_skip HJ.out (fun h => by have e := h.1; rw [HE.out.2.1] at e; cases e), HE.out.2.2.1, HE.out.2.2.2, hp0, hp1, hby.os, hby.tape, hby.output, hby.size, hby.block⟩
            | true =>
              have hjs : j ≤ s.size := by omega
              have w1 : IntKind.i64.wrap ((j : Int) + (xl.size : Int)) = (j : Int) + (xl.size : Int) := IntWalk.i64_in _ (by omega)
              have w2 : (0 : Int) ≤ (j : Int) + (xl.size : Int) := by omega
              have w3 : ((j : Int) + (xl.size : Int)).toNat = j + xl.size := by omega
              by_cases hfit : (j : Int) + (xl.size : Int) ≤ (s.size : Int)
              · have hyl : j + xl.size < xb.length := by have := HJ.out.len; have := HB.out.1; omega
                obtain ⟨y, hy⟩ : ∃ y, xb[j + xl.size]? = some y := ⟨_, List.getElem?_eq_getElem hyl⟩
                have hcy := own_bool hnext hy
                have hfy := hnext.frozenAt (j + xl.size)
                have hfn : j + xl.size ≤ s.size := by omega
                have HE := Lib.hid (And.intro hjg (And.intro hb (And.intro hnow (And.intro hnext hfn))))
                clear hjg hb hnow hnext hjl hy hyl hfn
                cases he : ((s.extract j (j + xl.size)).toList == xl.toList)
                · go_wp2_with fail
                  go_quiet (fail)
                  clear w1 w2 w3
                  go_wp2
                  go_roundg g2
                  case measure => omega
                  case rel => exact ⟨j + 1, xb, by have := HE.out.1; omega, by go_num, lit_skip HJ.out (fun h => no_match he h.2.2), HE.out.2.2.1, HE.out.2.2.2.1, hp0, hp1, hby.os, hby.tape, hby.output, hby.size, hby.block⟩
                · go_wp2_with fail
                  go_quiet (fail)
                  go_wp2
                  clear w1 w2 w3
                  go_roundg g2
                  case measure => omega
                  case rel => exact ⟨j + 1, xb.set (j + xl.size) true, by have := HE.out.1; omega, by go_num, lit_next HJ.out HB.out.1 HE.out.2.1 HE.out.2.2.2.2 he, own_far HE.out.2.2.1 (by omega) _, (own_set HE.out.2.2.2.1 _ true).1, (cell_far (by simp) _).trans hp0, (cell_far (by simp) _).trans hp1, quiet_set hby (by omega)⟩
              · have HE := Lib.hid (And.intro hjg (And.intro hb (And.intro hnow hnext)))
                have hnf : ¬ j + xl.size ≤ s.size := by omega
                have HF := Lib.hid hnf
                have hd1 : decide ((j : Int) + (xl.size : Int) ≤ (s.size : Int)) = false := decide_eq_false hfit
                have hd2 : decide (j + xl.size ≤ s.size) = false := decide_eq_false hnf
                clear hjg hb hnow hnext hjl hnf hfit
                go_wp2_with fail
                go_quiet (fail)
                clear w1 w2 w3 hd1 hd2
                go_wp2
                go_roundg g2
                case measure => omega
                case rel => exact ⟨j + 1, xb, by have := HE.out.1; omega, by go_num, lit_skip HJ.out (fun h => HF.out (by have := h.2.1; rw [Array.length_toList, Array.length_toList] at this; exact this)), HE.out.2.2.1, HE.out.2.2.2, hp0, hp1, hby.os, hby.tape, hby.output, hby.size, hby.block⟩
#print axioms spec_any
end Go.Proofs.YtbfellfegdapdaaFmt
