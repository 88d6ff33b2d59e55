/- The contract of NewPattern, for every list of texts and wildcards that lies in memory: it makes the components that Glob.comps tells. -/
import Derived.Test.YtbfellfegdapdaaFmtRow
namespace Go.Proofs.YtbfellfegdapdaaFmt
open Go.RowKit Glob

set_option maxHeartbeats 2000000 in
set_option maxRecDepth 100000 in
theorem np_any (A : Option Addr) (n cap : Nat) (l : List (Bool × ByteArray)) (w : World) (hn : l.length = n) (hn2 : n ≤ 2147483647) (hl : ItemsAt w A l) (ht : total l ≤ 4611686018427387904) :
    Calls Tryf.prog 15 #[.slice A n cap] w fun e w' => ∃ A' c' cs, e = .returned (.agg #[.slice A' cs.length c']) ∧ cs.map toL = comps (l.map toL) ∧ total cs ≤ total l ∧ cs.length ≤ n ∧ CompsAt w' A' cs ∧ Below w.heap.size w w' := by
  have HC : Aside (ItemsAt w A l ∧ l.length = n ∧ total l ≤ 4611686018427387904) := ⟨hl, hn, ht⟩
  clear hl hn ht
  obtain ⟨i0, hi, hz0, hz1, hz2⟩ := info_parts info50
  go_enter Tryf.func15, Tryf.ntmps15
  go_wp2
  go_loopg [3, 12] n (fun g s3 s12 wx => ∃ (k : Nat) (cs : List (Bool × ByteArray)), k + g = n ∧ s12 = .int .i64 k ∧ Aside (cs.map toL = comps ((l.take k).map toL)) ∧ cs.length ≤ k ∧ total cs ≤ total (l.take k) ∧
    (∃ a3 c3, s3 = .slice a3 cs.length c3) ∧ wx.ownsRow (w.heap.size + 1) 50 2 s3 cs.length (rowCells cs) ∧ (cs = [] → s3 = .slice none 0 0) ∧ Kept w wx)
  case atStart => exact ⟨0, [], by omega, rfl, rfl, Nat.le_refl _, Nat.le_refl _, ⟨none, 0, rfl⟩, World.ownsRow_nil _ _ _ _, fun _ => rfl, heap_alloc_new w _, (Below.refl _ _).alloc (Nat.le_refl _) _⟩
  case round =>
    obtain ⟨k, cs, hkg, rfl, HI, hlen, htot, ⟨a3, c3, rfl⟩, hown, hnil, hkept⟩ := hrel
    have hr0 : wr.cell? ⟨w.heap.size, 0, none⟩ = some (.slice none 0 0) := block_cell hkept.res
    have hrf : wr.frozen? ⟨w.heap.size, 0, none⟩ = false := block_frozen hkept.res
    have HN : Aside (cs = [] → (.slice a3 cs.length c3 : Value) = .slice none 0 0) := hnil
    clear hnil
    cases gk with
    | zero =>
      have hkz : ¬ ((k : Int) < (n : Int)) := by omega
      have HK := Lib.hid hkg
      have HO := Lib.hid hown
      have HP := Lib.hid hkept
      have HT := Lib.hid htot
      have hcl : cs.length ≤ n := by omega
      clear hkg hown hkept htot
      go_wp2
      refine bodyPost_ret (v := .agg #[.slice a3 cs.length c3]) (by simp [results, Tryf.results15, go_sem, hr0]) rfl ?_
      have hown2 := ownsRow_setCell_below (a := ⟨w.heap.size, 0, none⟩) HO.out (by simp) (.slice a3 cs.length c3)
      have hle : l.length ≤ k := by have := HK.out; have := HC.out.2.1; omega
      refine ⟨a3, c3, cs, rfl, ?_, ?_, hcl, comps_of_row hown2, HP.out.below.setCell (Nat.le_refl _) _⟩
      · rw [HI.out, List.take_of_length_le hle]
      · have := HT.out; rw [List.take_of_length_le hle] at this; exact this
    | succ g =>
      have hkz : (k : Int) < (n : Int) := by omega
      obtain ⟨x, hx⟩ : ∃ x, l[k]? = some x := ⟨_, List.getElem?_eq_getElem (by have := HC.out.2.1; omega)⟩
      obtain ⟨b, rfl, hbl, hw0⟩ := HC.out.1 k x hx
      obtain ⟨xw, xl⟩ := x
      have hc0 : wr.cell? ⟨b, k, none⟩ = some (itemV (xw, xl)) := (hkept.below.cell (p := ⟨b, k, none⟩) hbl).trans hw0
      have htn := total_next hx
      have htl := total_le (l := l) (k + 1)
      have hxl : total cs + xl.size ≤ 4611686018427387904 := by have := HC.out.2.2; omega
      have hT2 : total cs + xl.size ≤ total (l.take (k + 1)) := by omega
      have HX : Aside (l[k]? = some (xw, xl)) := hx
      have HK := Lib.hid hkg
      have HT := Lib.hid hT2
      clear hx hw0 hkg htn htl htot hT2
      have hkl : k ≤ 2147483647 := by omega
      rcases nil_or_snoc cs with hcs | ⟨ds, c, hcs⟩
      · -- no component yet
        have hv := HN.out hcs
        subst hcs
        injection hv with hv1 _ hv2
        subst hv1
        subst hv2
        cases xw with
        | true =>
          have hc1 : wr.cell? ⟨b, k, none⟩ = some (.iface 41 (.agg #[])) := hc0
          clear hc0
          have t1 := a9_41
          have t2 := a47_41
          have t3 := a41_41
          have hbase := hkept.lt
          go_wp2_with (at_builtin; refine wpList_append_own _ rfl (.tmp 75) (.tmp 77) 42 rfl (w.heap.size + 1) 50 i0 _ 2 24 Tryf.underlying42 hi hz0 hz1 hz2 rfl (by decide) (.slice none 0 0) 0 [] rfl ((hown.alloc (.cells #[] 41)).alloc (.cells #[.bool true, .string ByteArray.empty] 50)) ⟨wr.heap.size + 1, 0, none⟩ 1 1 [.bool true, .string ByteArray.empty] rfl rfl (news_two wr _ _) (two_one _ _) (by decide) (by decide) (by simp; omega) ?_; intro v' w1 hown' hgrow _)
          obtain ⟨a', c', rfl⟩ := own_shape hown'
          have hk' := ((hkept.alloc (.cells #[] 41)).alloc (.cells #[.bool true, .string ByteArray.empty] 50)).grown hgrow (fun k hk => by simp [Value.ownBlock] at hk)
          have HG := Lib.hid (And.intro hown' hk')
          clear hown' hgrow hown hkept hk' hr0 hrf
          go_wp2
          go_roundg g
          case measure => omega
          case rel => exact ⟨k + 1, [(true, ByteArray.empty)], by have := HK.out; omega, by go_num, next_nil_any HX.out HI.out, by simp, by have := HT.out; simp [total] at this ⊢, ⟨a', c', rfl⟩, row_first HG.out.1, fun h => absurd h (by simp), HG.out.2⟩
        | false =>
          have hc1 : wr.cell? ⟨b, k, none⟩ = some (.iface 9 (.string xl)) := hc0
          clear hc0
          have t1 := a9_9
          have hx2 : xl.size ≤ 4611686018427387904 := by omega
          have HG := Lib.hid (And.intro hown hkept)
          have hbase := hkept.lt
          clear hown hkept hr0 hrf
          go_wp2
          go_roundg g
          case measure => omega
          case rel => exact ⟨k + 1, [(false, xl)], by have := HK.out; omega, by go_num, next_nil_lit HX.out HI.out, by simp, by have := HT.out; simp [total] at this ⊢; exact this, ⟨some ⟨wr.heap.size, 0, none⟩, 1, rfl⟩, World.ownsRow_lit (base := w.heap.size + 1) wr _ 1 (by omega) (by decide) rfl, fun h => absurd h (by simp), HG.out.2.alloc _⟩
      · subst hcs
        obtain ⟨g3, cap3, hv, hg3, hg3l⟩ := hown.form (by simp)
        injection hv with hv1 _ hv2
        subst hv1
        subst hv2
        have hown : wr.ownsRow (w.heap.size + 1) 50 2 (.slice (some ⟨g3, 0, none⟩) (ds.length + 1) c3) (ds.length + 1) (rowCells (ds ++ [c])) := by
          have h := hown
          rw [List.length_append] at h
          exact h
        obtain ⟨hd0, hd1⟩ := row_last hown
        have hd2 : wr.frozen? ⟨g3, ds.length * 2 + 1, none⟩ = false := hown.frozenAt _
        have hd3 : ∀ o, (wr.alloc o).cell? ⟨g3, ds.length * 2 + 1, none⟩ = some (.string c.2) := fun o => (World.cell?_alloc_lt wr o ⟨g3, ds.length * 2 + 1, none⟩ hg3l).trans hd1
        have hcz : c.2.size ≤ total (ds ++ [c]) := by simp [total]
        have hcs2 : c.2.size + xl.size ≤ 4611686018427387904 := by omega
        have hdl : ds.length ≤ 2147483647 := by simp at hlen; omega
        cases xw with
        | true =>
          have hc1 : wr.cell? ⟨b, k, none⟩ = some (.iface 41 (.agg #[])) := hc0
          clear hc0
          have t1 := a9_41
          have t2 := a47_41
          have t3 := a41_41
          cases he : c.2.toList.isEmpty
          · have hbase := hkept.lt
            go_wp2_with (at_builtin; refine wpList_append_own _ rfl (.tmp 75) (.tmp 77) 42 rfl (w.heap.size + 1) 50 i0 _ 2 24 Tryf.underlying42 hi hz0 hz1 hz2 rfl (by decide) (.slice (some ⟨g3, 0, none⟩) (ds.length + 1) c3) (ds.length + 1) (rowCells (ds ++ [c])) rfl ((hown.alloc (.cells #[] 41)).alloc (.cells #[.bool true, .string ByteArray.empty] 50)) ⟨wr.heap.size + 1, 0, none⟩ 1 1 [.bool true, .string ByteArray.empty] rfl rfl (news_two wr _ _) (two_one _ _) (by unfold maxLen; omega) (by omega) (by simp; omega) ?_; intro v' w1 hown' hgrow _)
            obtain ⟨a', c', rfl⟩ := own_shape hown'
            have hk' := ((hkept.alloc (.cells #[] 41)).alloc (.cells #[.bool true, .string ByteArray.empty] 50)).grown hgrow (fun k hk => by cases hk; exact hg3)
            have hown2 : w1.ownsRow (w.heap.size + 1) 50 2 (.slice a' (ds.length + 1 + 1) c') ((ds ++ [c]) ++ [(true, ByteArray.empty)]).length (rowCells ((ds ++ [c]) ++ [(true, ByteArray.empty)])) := by
              have h := row_more (cs := ds ++ [c]) (by rw [List.length_append]; exact hown')
              rw [show (ds ++ [c]).length = ds.length + 1 from by simp] at h
              exact h
            have HG := Lib.hid (And.intro hown2 hk')
            clear hown' hgrow hown hkept hk' hown2 hr0 hrf
            go_wp2
            go_roundg g
            case measure => omega
            case rel => exact ⟨k + 1, (ds ++ [c]) ++ [(true, ByteArray.empty)], by have := HK.out; omega, by go_num, next_any HX.out HI.out he, by simp at hlen ⊢; omega, by have := HT.out; simp [total] at this ⊢; omega, ⟨a', c', by simp⟩, HG.out.1, fun h => absurd h (by simp), HG.out.2⟩
          · have HG := Lib.hid (And.intro hown hkept)
            clear hown hkept hr0 hrf
            go_wp2
            go_roundg g
            case measure => omega
            case rel => exact ⟨k + 1, ds ++ [c], by have := HK.out; omega, by go_num, next_skip HX.out HI.out he, by omega, by have := HT.out; omega, ⟨_, _, slice_len _ _⟩, row_len (HG.out.1.alloc _), fun h => absurd h (by simp), HG.out.2.alloc _⟩
        | false =>
          have hc1 : wr.cell? ⟨b, k, none⟩ = some (.iface 9 (.string xl)) := hc0
          clear hc0
          have t1 := a9_9
          have HG := Lib.hid (And.intro hown hkept)
          clear hown hkept hr0 hrf
          go_wp2
          have hadd := row_add HG.out.1 (c.2 ++ xl)
          have hk2 := HG.out.2.grown hadd.2 (fun k hk => by cases hk; exact hg3)
          go_roundg g
          case measure => omega
          case rel => exact ⟨k + 1, ds ++ [(c.1, c.2 ++ xl)], by have := HK.out; omega, by go_num, next_lit HX.out HI.out, by simp at hlen ⊢; omega, by have := HT.out; simp [total] at this ⊢; omega, ⟨_, _, slice_len _ _⟩, row_len hadd.1, fun h => absurd h (by simp), hk2⟩
#print axioms np_any
end Go.Proofs.YtbfellfegdapdaaFmt
