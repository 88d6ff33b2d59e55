/- The contract of pieces, for every list of pieces that came in: it makes those that are no empty texts. -/
import Derived.Test.YtbfellfegdapdaaFmtIn
namespace Go.Proofs.YtbfellfegdapdaaFmt
open Go.RowKit Glob

theorem info29 : (Tryf.prog.info? 29).map (fun i => (i.zero, i.size, i.bytes)) = some (some (.agg #[.bool false, .string ⟨#[]⟩]), 2, 24) := by kernel_rfl
def keepB (x : Bool × ByteArray) : Bool := x.1 || !x.2.toList.isEmpty
def kept (l : List (Bool × ByteArray)) : List (Bool × ByteArray) := l.filter keepB
theorem kept_le (l : List (Bool × ByteArray)) : (kept l).length ≤ l.length := List.length_filter_le _ _
theorem kept_yes {l : List (Bool × ByteArray)} {k : Nat} {x : Bool × ByteArray} (h : l[k]? = some x) (hk : keepB x = true) : kept (l.take (k + 1)) = kept (l.take k) ++ [x] := by
  rw [take_next h]
  simp [kept, hk]
theorem kept_no {l : List (Bool × ByteArray)} {k : Nat} {x : Bool × ByteArray} (h : l[k]? = some x) (hk : keepB x = false) : kept (l.take (k + 1)) = kept (l.take k) := by
  rw [take_next h]
  simp [kept, hk]
theorem kept_len (l : List (Bool × ByteArray)) (k : Nat) : (kept (l.take k)).length ≤ k := Nat.le_trans (kept_le _) (by rw [List.length_take]; omega)

theorem news_in (w : World) (o : Obj) (x y : Value) : ∀ j u, [x, y][j]? = some u → ((w.alloc o).alloc (.cells #[x, y] 29)).cell? ((⟨w.heap.size + 1, 0, none⟩ : Addr).add j) = some u := by
  have h := World.news_of_block (cs := #[x, y]) (t := 29) (fr := (0, 0)) (heap_alloc_new (w.alloc o) _)
  rw [World.size_alloc] at h
  exact h
theorem comps_of_own {w : World} {base e : Nat} {a : Option Addr} {c : Nat} {cs : List (Bool × ByteArray)} (h : w.ownsRow base e 2 (.slice a cs.length c) cs.length (rowCells cs)) : CompsAt w a cs := by
  intro k x hx
  have hlt := (List.getElem?_eq_some_iff.1 hx).1
  obtain ⟨g, cap, hv, _, hgl⟩ := h.form (by omega)
  injection hv with h1 _ h2
  subst h1
  subst h2
  obtain ⟨e1, e2⟩ := rowCells_at hx
  exact ⟨g, rfl, hgl, (h.cellAt _ (by omega)).trans e1, (h.cellAt _ (by omega)).trans e2⟩
theorem own_yes {w : World} {base : Nat} {v : Value} {l : List (Bool × ByteArray)} {k : Nat} {xw : Bool} {xl : ByteArray} (h : l[k]? = some (xw, xl)) (hk : keepB (xw, xl) = true)
    (ho : w.ownsRow base 29 2 v ((kept (l.take k)).length + 1) (rowCells (kept (l.take k)) ++ [.bool xw, .string xl])) :
    w.ownsRow base 29 2 v (kept (l.take (k + 1))).length (rowCells (kept (l.take (k + 1)))) := by
  rw [kept_yes h hk, rowCells_snoc, List.length_append]
  exact ho
theorem own_no {w : World} {base : Nat} {v : Value} {l : List (Bool × ByteArray)} {k : Nat} {xw : Bool} {xl : ByteArray} (h : l[k]? = some (xw, xl)) (hk : keepB (xw, xl) = false)
    (ho : w.ownsRow base 29 2 v (kept (l.take k)).length (rowCells (kept (l.take k)))) :
    w.ownsRow base 29 2 v (kept (l.take (k + 1))).length (rowCells (kept (l.take (k + 1)))) := by
  rw [kept_no h hk]
  exact ho

/-- What pieces leaves. -/
def PiecesPost (l : List (Bool × ByteArray)) (w : World) (e : Ending) (w' : World) : Prop :=
  ∃ a c, e = .returned (.slice a (kept l).length c) ∧ CompsAt w' a (kept l) ∧ Below w.heap.size w w'

set_option maxHeartbeats 400000 in
set_option maxRecDepth 100000 in
theorem pieces_any (A : Option Addr) (n cap : Nat) (l : List (Bool × ByteArray)) (w : World) (hn : l.length = n) (hn2 : n ≤ 2147483647) (hl : InAt w A l) :
    Calls Tryf.prog 9 #[.slice A n cap] w (PiecesPost l w) := by
  have HC : Aside (InAt w A l ∧ l.length = n) := ⟨hl, hn⟩
  clear hl hn
  obtain ⟨i0, hi, hz0, hz1, hz2⟩ := info_parts info29
  go_enter Tryf.func9, Tryf.ntmps9
  go_wp2
  go_loopg [3, 8] n (fun g s3 s8 wx => ∃ k : Nat, k + g = n ∧ s8 = .int .i64 k ∧ wx.ownsRow w.heap.size 29 2 s3 (kept (l.take k)).length (rowCells (kept (l.take k))) ∧ Below w.heap.size w wx)
  case atStart => exact ⟨0, by omega, rfl, World.ownsRow_nil _ _ _ _, Below.refl _ _⟩
  case round =>
    obtain ⟨k, hkg, rfl, hown, hbx⟩ := hrel
    obtain ⟨a5, c5, rfl⟩ := own_shape hown
    cases gk with
    | zero =>
      have hkz : ¬ ((k : Int) < (n : Int)) := by omega
      have HK := Lib.hid hkg
      have HO := Lib.hid hown
      clear hkg hown
      go_wp2
      go_ret
      have e1 : l.take k = l := List.take_of_length_le (by have := HK.out; have := HC.out.2; omega)
      have h := HO.out
      rw [e1] at h
      exact ⟨a5, c5, by rw [e1]; rfl, comps_of_own h, hbx⟩
    | succ g =>
      have hkz : (k : Int) < (n : Int) := by omega
      obtain ⟨x, hx⟩ : ∃ x, l[k]? = some x := ⟨_, List.getElem?_eq_getElem (by have := HC.out.2; omega)⟩
      obtain ⟨ad, rfl, hlt, hc0, hc1⟩ := (HC.out.1.below hbx) k x hx
      obtain ⟨xw, xl⟩ := x
      have HX : Aside (l[k]? = some (xw, xl)) := hx
      have HK := Lib.hid hkg
      have hbs := hbx.size
      have hkl := kept_len l k
      have hkn : k ≤ 2147483647 := by omega
      clear hx hkg
      cases xw with
      | true =>
        go_wp2_with (at_builtin; refine wpList_append_own _ rfl (.tmp 20) (.tmp 26) 25 rfl w.heap.size 29 i0 _ 2 24 Tryf.underlying25 hi hz0 hz1 hz2 rfl (by decide) (.slice a5 (kept (l.take k)).length c5) (kept (l.take k)).length (rowCells (kept (l.take k))) rfl ((hown.alloc (.cells #[.bool true, .string xl] 37)).alloc (.cells #[.bool true, .string xl] 29)) ⟨wr.heap.size + 1, 0, none⟩ 1 1 [.bool true, .string xl] rfl rfl (news_in wr _ _ _) (two_one _ _) (by unfold maxLen; omega) (by omega) (by simp; omega) ?_; intro v' w1 hown' hgrow _)
        have hb' := ((hbx.alloc hbs (.cells #[.bool true, .string xl] 37)).alloc (by simp; omega) (.cells #[.bool true, .string xl] 29)).grown hgrow (by simp; omega) (fun q hq => (hown.lt q hq).1)
        have HG := Lib.hid (And.intro hown' hb')
        clear hown' hb' hgrow hown hbx
        go_wp2
        go_roundg g
        case measure => omega
        case rel => exact ⟨k + 1, by have := HK.out; omega, by go_num, own_yes HX.out rfl HG.out.1, HG.out.2⟩
      | false =>
        cases he : xl.toList.isEmpty
        · have hkp : keepB (false, xl) = true := by unfold keepB; rw [he]; rfl
          have HP := Lib.hid hkp
          clear hkp
          go_wp2_with (at_builtin; refine wpList_append_own _ rfl (.tmp 20) (.tmp 26) 25 rfl w.heap.size 29 i0 _ 2 24 Tryf.underlying25 hi hz0 hz1 hz2 rfl (by decide) (.slice a5 (kept (l.take k)).length c5) (kept (l.take k)).length (rowCells (kept (l.take k))) rfl ((hown.alloc (.cells #[.bool false, .string xl] 37)).alloc (.cells #[.bool false, .string xl] 29)) ⟨wr.heap.size + 1, 0, none⟩ 1 1 [.bool false, .string xl] rfl rfl (news_in wr _ _ _) (two_one _ _) (by unfold maxLen; omega) (by omega) (by simp; omega) ?_; intro v' w1 hown' hgrow _)
          have hb' := ((hbx.alloc hbs (.cells #[.bool false, .string xl] 37)).alloc (by simp; omega) (.cells #[.bool false, .string xl] 29)).grown hgrow (by simp; omega) (fun q hq => (hown.lt q hq).1)
          have HG := Lib.hid (And.intro hown' hb')
          clear hown' hb' hgrow hown hbx
          go_wp2
          go_roundg g
          case measure => omega
          case rel => exact ⟨k + 1, by have := HK.out; omega, by go_num, own_yes HX.out HP.out HG.out.1, HG.out.2⟩
        · have hkp : keepB (false, xl) = false := by unfold keepB; rw [he]; rfl
          have HG := Lib.hid (And.intro hown (And.intro hbx hkp))
          clear hown hbx hkp
          go_wp2
          go_roundg g
          case measure => omega
          case rel => exact ⟨k + 1, by have := HK.out; omega, by go_num, own_no HX.out HG.out.2.2 (HG.out.1.alloc _), HG.out.2.1.alloc hbs _⟩
#print axioms pieces_any
end Go.Proofs.YtbfellfegdapdaaFmt
