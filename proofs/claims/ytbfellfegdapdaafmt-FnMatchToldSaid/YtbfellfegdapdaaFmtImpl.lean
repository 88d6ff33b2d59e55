/- The contract of impl.Match, for every list of pieces that lies in memory and every text: it returns whether the text is the pieces. -/
import Derived.Test.YtbfellfegdapdaaFmtNewPat
namespace Go.Proofs.YtbfellfegdapdaaFmt
open Go.RowKit Glob

theorem info20 : (Tryf.prog.info? 20).map (fun i => (i.zero, i.size, i.bytes)) = some (some .nilIface, 1, 16) := by kernel_rfl
theorem mk41 (x : Value) (w : World) : (Instr.makeInterface 41 x).run Tryf.prog w = .ok (.iface 41 x) w := run_makeInterface w 41 x (by kernel_rfl)
theorem mk9 (x : Value) (w : World) : (Instr.makeInterface 9 x).run Tryf.prog w = .ok (.iface 9 x) w := run_makeInterface w 9 x (by kernel_rfl)

theorem items_of_row {w : World} {base : Nat} {a : Option Addr} {n c : Nat} {l : List (Bool × ByteArray)} (hn : l.length = n) (h : w.ownsRow base 20 1 (.slice a n c) n (l.map itemV)) : ItemsAt w a l := by
  intro k x hx
  have hlt := (List.getElem?_eq_some_iff.1 hx).1
  obtain ⟨g, cap, hv, _, hgl⟩ := h.form (by omega)
  injection hv with h1 _ h2
  subst h1
  subst h2
  have e := h.cellAt k (by omega)
  rw [List.getElem?_map, hx] at e
  exact ⟨g, rfl, hgl, e⟩

theorem total_ge {l : List (Bool × ByteArray)} {x : Bool × ByteArray} (h : x ∈ l) : x.2.size ≤ total l := by
  induction l with
  | nil => cases h
  | cons y l ih =>
    have e : total (y :: l) = y.2.size + total l := by simp [total]
    rw [e]
    rcases List.mem_cons.1 h with h | h
    · subst h; omega
    · have := ih h; omega

theorem news_one (w : World) (o : Obj) (x : Value) : ∀ j u, [x][j]? = some u → ((w.alloc o).alloc (.cells #[x] 20)).cell? ((⟨w.heap.size + 1, 0, none⟩ : Addr).add j) = some u := by
  have h := cell_one_new (w.alloc o) x 20
  rw [World.size_alloc] at h
  exact h
theorem one_one (x : Value) (h : x.oneCell' = true) : ∀ u ∈ [x], u.oneCell' = true := by
  intro u hu
  simp at hu
  subst hu
  exact h
theorem row_next {w : World} {base : Nat} {v : Value} {k : Nat} {l : List (Bool × ByteArray)} {x : Bool × ByteArray} (hx : l[k]? = some x) (h : w.ownsRow base 20 1 v (k + 1) ((l.take k).map itemV ++ [itemV x])) :
    w.ownsRow base 20 1 v (k + 1) ((l.take (k + 1)).map itemV) := by
  rw [take_next hx, List.map_append]
  exact h

set_option maxHeartbeats 2000000 in
set_option maxRecDepth 100000 in
theorem im_any (A : Option Addr) (n cap : Nat) (l : List (Bool × ByteArray)) (s : ByteArray) (w : World) (hn : l.length = n) (hn2 : n ≤ 2147483647) (hl : CompsAt w A l) (ht : total l ≤ 4611686018427387904) (hs : s.size ≤ 4611686018427387904) :
    Calls Tryf.prog 8 #[.slice A n cap, .string s] w fun e w' => e = .returned (.bool (go (comps (l.map toL)) s.data.toList)) ∧ Below w.heap.size w w' := by
  have HC : Aside (CompsAt w A l ∧ l.length = n ∧ total l ≤ 4611686018427387904) := ⟨hl, hn, ht⟩
  clear hl hn ht
  obtain ⟨i0, hi, hz0, hz1, hz2⟩ := info_parts info20
  have m1 := mk41
  have m2 := mk9
  go_enter Tryf.func8, Tryf.ntmps8
  go_wp2
  go_loopg [5, 10] n (fun g s5 s10 wx => ∃ (k : Nat), k + g = n ∧ s10 = .int .i64 k ∧ (∃ a5 c5, s5 = .slice a5 k c5) ∧ wx.ownsRow w.heap.size 20 1 s5 k ((l.take k).map itemV) ∧ Below w.heap.size w wx)
  case atStart => exact ⟨0, by omega, rfl, ⟨none, 0, rfl⟩, World.ownsRow_nil _ _ _ _, Below.refl _ _⟩
  case round =>
    obtain ⟨k, hkg, rfl, ⟨a5, c5, rfl⟩, hown, hbx⟩ := hrel
    cases gk with
    | zero =>
      have hkz : ¬ ((k : Int) < (n : Int)) := by omega
      have hle : l.length = k := by have := HC.out.2.1; omega
      have hit : ItemsAt wr a5 l := by
        have h := hown
        rw [← hle, List.take_length] at h
        exact items_of_row rfl h
      have HK := Lib.hid (And.intro hkg (And.intro hle hit))
      clear hkg hle hit hown
      go_wp2_with fail
      refine (np_any a5 k c5 l wr HK.out.2.1 (by have := HK.out.1; omega) HK.out.2.2 HC.out.2.2).mono ?_
      rintro e w1 ⟨A', c', cs, rfl, h1, h2, h3, h4, h5⟩
      have H1 := Lib.hid (And.intro h1 (And.intro h2 (And.intro h3 (And.intro h4 h5))))
      clear h1 h2 h3 h4 h5
      go_wp2_with fail
      refine (pm_any A' cs.length c' cs s w1 rfl (by have := H1.out.2.2.1; have := HK.out.1; omega) H1.out.2.2.2.1 (fun x hx => by have := total_ge hx; have := H1.out.2.1; have := HC.out.2.2; omega) hs).mono ?_
      rintro e w2 ⟨rfl, hb2⟩
      have H2 := Lib.hid hb2
      clear hb2
      go_wp2
      go_ret
      refine ⟨?_, ?_⟩
      · rw [← H1.out.1]; rfl
      · have hb1 := H1.out.2.2.2.2
        have hs1 := hbx.size
        exact (hbx.trans (hb1.mono hs1)).trans (H2.out.mono (Nat.le_trans hs1 hb1.size))
    | succ g =>
      have hkz : (k : Int) < (n : Int) := by omega
      obtain ⟨x, hx⟩ : ∃ x, l[k]? = some x := ⟨_, List.getElem?_eq_getElem (by have := HC.out.2.1; omega)⟩
      obtain ⟨b, rfl, hbl, hw0, hw1⟩ := HC.out.1 k x hx
      obtain ⟨xw, xl⟩ := x
      have hc0 : wr.cell? ⟨b, k * 2, none⟩ = some (.bool xw) := (hbx.cell (p := ⟨b, k * 2, none⟩) hbl).trans hw0
      have hc1 : wr.cell? ⟨b, k * 2 + 1, none⟩ = some (.string xl) := (hbx.cell (p := ⟨b, k * 2 + 1, none⟩) hbl).trans hw1
      have HX : Aside (l[k]? = some (xw, xl)) := hx
      have HK := Lib.hid hkg
      have hkl : k ≤ 2147483647 := by omega
      have hbs := hbx.size
      clear hx hw0 hw1 hkg
      cases xw with
      | true =>
        go_wp2_with (at_builtin; refine wpList_append_own _ rfl (.tmp 16) (.tmp 19) 39 rfl w.heap.size 20 i0 _ 1 16 Tryf.underlying39 hi hz0 hz1 hz2 rfl (by decide) (.slice a5 k c5) k ((l.take k).map itemV) rfl ((hown.alloc (.cells #[.bool true, .string xl] 29)).alloc (.cells #[.iface 41 (.agg #[])] 20)) ⟨wr.heap.size + 1, 0, none⟩ 1 1 [.iface 41 (.agg #[])] rfl rfl (news_one wr _ _) (one_one _ rfl) (by unfold maxLen; omega) (by omega) (by simp; omega) ?_; intro v' w1 hown' hgrow _)
        obtain ⟨a', c', rfl⟩ := own_shape hown'
        have hb' := ((hbx.alloc hbs (.cells #[.bool true, .string xl] 29)).alloc (by simp; omega) (.cells #[.iface 41 (.agg #[])] 20)).grown hgrow (by simp; omega) (fun q hq => (hown.lt q hq).1)
        have HG := Lib.hid (And.intro hown' hb')
        clear hown' hb' hgrow hown hbx
        go_wp2
        go_roundg g
        case measure => omega
        case rel => exact ⟨k + 1, by have := HK.out; omega, by go_num, ⟨a', c', rfl⟩, row_next HX.out HG.out.1, HG.out.2⟩
      | false =>
        go_wp2_with (at_builtin; refine wpList_append_own _ rfl (.tmp 21) (.tmp 25) 39 rfl w.heap.size 20 i0 _ 1 16 Tryf.underlying39 hi hz0 hz1 hz2 rfl (by decide) (.slice a5 k c5) k ((l.take k).map itemV) rfl ((hown.alloc (.cells #[.bool false, .string xl] 29)).alloc (.cells #[.iface 9 (.string xl)] 20)) ⟨wr.heap.size + 1, 0, none⟩ 1 1 [.iface 9 (.string xl)] rfl rfl (news_one wr _ _) (one_one _ rfl) (by unfold maxLen; omega) (by omega) (by simp; omega) ?_; intro v' w1 hown' hgrow _)
        obtain ⟨a', c', rfl⟩ := own_shape hown'
        have hb' := ((hbx.alloc hbs (.cells #[.bool false, .string xl] 29)).alloc (by simp; omega) (.cells #[.iface 9 (.string xl)] 20)).grown hgrow (by simp; omega) (fun q hq => (hown.lt q hq).1)
        have HG := Lib.hid (And.intro hown' hb')
        clear hown' hb' hgrow hown hbx
        go_wp2
        go_roundg g
        case measure => omega
        case rel => exact ⟨k + 1, by have := HK.out; omega, by go_num, ⟨a', c', rfl⟩, row_next HX.out HG.out.1, HG.out.2⟩
#print axioms im_any
end Go.Proofs.YtbfellfegdapdaaFmt
