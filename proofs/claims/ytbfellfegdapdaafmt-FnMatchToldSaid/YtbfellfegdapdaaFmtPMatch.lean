/- The contract of Pattern.Match, for every pattern whose components lie in memory and every text: it returns what Glob.go says. -/
import Derived.Test.YtbfellfegdapdaaFmtChunk
import Derived.IntWalk
namespace Go.Proofs.YtbfellfegdapdaaFmt
open Go.RowKit Glob

def toL (c : Bool × ByteArray) : Bool × Bytes := (c.1, c.2.data.toList)

/-- The components lie in a row at the head of a block. -/
def CompsAt (w : World) (A : Option Addr) (cs : List (Bool × ByteArray)) : Prop :=
  ∀ (k : Nat) x, cs[k]? = some x → ∃ b, A = some ⟨b, 0, none⟩ ∧ b < w.heap.size ∧ w.cell? ⟨b, k * 2, none⟩ = some (.bool x.1) ∧ w.cell? ⟨b, k * 2 + 1, none⟩ = some (.string x.2)

/-! ### What a round comes to, without the walk -/
theorem drop_end {cs : List (Bool × ByteArray)} {k n : Nat} (h : cs.length = n) (hk : n ≤ k) (a : Bytes) : go ((cs.map toL).drop k) a = a.isEmpty := by
  rw [List.drop_eq_nil_of_le (by simp; omega)]
  rfl
theorem drop_round {cs : List (Bool × ByteArray)} {k : Nat} {x : Bool × ByteArray} (h : cs[k]? = some x) : (cs.map toL).drop k = toL x :: (cs.map toL).drop (k + 1) := by
  have h1 : (cs.map toL)[k]? = some (toL x) := by rw [List.getElem?_map, h]; rfl
  obtain ⟨hlt, he⟩ := List.getElem?_eq_some_iff.1 h1
  rw [List.drop_eq_getElem_cons hlt, he]
/-- Whether it is the last one. -/
def lastB (n k : Nat) : Bool := ((k : Int) == (n : Int) - 1)
theorem drop_last {cs : List (Bool × ByteArray)} {k n : Nat} (h : cs.length = n) (hk : k < n) : ((cs.map toL).drop (k + 1)).isEmpty = lastB n k := by
  unfold lastB
  rw [Bool.eq_iff_iff, List.isEmpty_iff, List.drop_eq_nil_iff, beq_iff_eq]
  simp
  omega
theorem size_zero {r : ByteArray} : r.data.toList.isEmpty = (((r.size : Nat) : Int) == 0) := by
  rw [Bool.eq_iff_iff, List.isEmpty_iff, beq_iff_eq]
  constructor
  · intro h
    have := congrArg List.length h
    simp at this
    have : r.size = 0 := by show r.data.size = 0; simpa using this
    omega
  · intro h
    have : r.data.toList.length = 0 := by rw [Array.length_toList]; show r.size = 0; omega
    exact List.eq_nil_of_length_eq_zero this
theorem empty_list {r : ByteArray} : r.toList.isEmpty = r.data.toList.isEmpty := by rw [ByteArray.toList_eq]

section
variable {cs : List (Bool × ByteArray)} {k n : Nat} {xw : Bool} {xl : ByteArray}
/-- A wildcard without a text: all is matched. -/
theorem go_all (h : cs[k]? = some (true, xl)) (he : xl.toList.isEmpty = true) (a : Bytes) : go ((cs.map toL).drop k) a = true := by
  rw [drop_round h]
  rw [empty_list] at he
  simp [toL, go, he]
theorem here_of (h : cs[k]? = some (xw, xl)) (hn : cs.length = n) (hne : xw = true → xl.toList.isEmpty = false) (a : Bytes) :
    go ((cs.map toL).drop k) a = match here xl.data.toList (lastB n k) a with
      | some t => go ((cs.map toL).drop (k + 1)) t
      | none => if xw then (match scan xl.data.toList (lastB n k) a with
          | some t => go ((cs.map toL).drop (k + 1)) t
          | none => false) else false := by
  have hk : k < n := by rw [← hn]; exact (List.getElem?_eq_some_iff.1 h).1
  rw [drop_round h]
  show (if (xw && xl.data.toList.isEmpty) = true then true else _) = _
  have h0 : ¬ (xw && xl.data.toList.isEmpty) = true := by
    rw [← empty_list]
    cases xw with
    | false => simp
    | true => simp [hne rfl]
  rw [if_neg h0, drop_last hn hk]
  rfl
/-- The chunk stands at the begin. -/
theorem go_here (h : cs[k]? = some (xw, xl)) (hn : cs.length = n) (hne : xw = true → xl.toList.isEmpty = false) {a : ByteArray} (hb : chunkB xl a = true)
    (ht : ((((chunkR xl a).size : Nat) : Int) == 0) = true ∨ lastB n k = false) : go ((cs.map toL).drop k) a.data.toList = go ((cs.map toL).drop (k + 1)) (chunkR xl a).data.toList := by
  rw [here_of h hn hne]
  have : here xl.data.toList (lastB n k) a.data.toList = some (chunkR xl a).data.toList := by
    unfold here
    rw [chunkB_true hb]
    simp only
    rw [if_pos]
    rw [size_zero]
    rcases ht with ht | ht <;> simp [ht]
  rw [this]
theorem chunkR_none {xl a : ByteArray} (ht : ((((chunkR xl a).size : Nat) : Int) == 0) = true) : chunkR xl a = ByteArray.empty := by
  have h : (chunkR xl a).data.toList = [] := by
    rw [← List.isEmpty_iff, size_zero]; exact ht
  have h2 : (chunkR xl a).data = #[] := by
    rw [← Array.toArray_toList (xs := (chunkR xl a).data), h]
  show (⟨(chunkR xl a).data⟩ : ByteArray) = ⟨#[]⟩
  rw [h2]
/-- It does not. -/
def NotHere (n k : Nat) (xl a : ByteArray) : Prop := here xl.data.toList (lastB n k) a.data.toList = none
theorem not_here1 {a : ByteArray} (hb : chunkB xl a = false) : NotHere n k xl a := by
  unfold NotHere here
  rw [chunkB_false hb]
theorem not_here2 {a : ByteArray} (hb : chunkB xl a = true) (ht : ((((chunkR xl a).size : Nat) : Int) == 0) = false) (hl : lastB n k = true) : NotHere n k xl a := by
  unfold NotHere here
  rw [chunkB_true hb]
  simp only
  rw [if_neg]
  rw [size_zero, ht, hl]
  simp
theorem go_no (h : cs[k]? = some (false, xl)) (hn : cs.length = n) {a : ByteArray} (hh : NotHere n k xl a) : go ((cs.map toL).drop k) a.data.toList = false := by
  rw [here_of h hn (fun h => absurd h (by decide))]
  unfold NotHere at hh
  rw [hh]
  rfl
theorem go_scan (h : cs[k]? = some (true, xl)) (hn : cs.length = n) (hne : xl.toList.isEmpty = false) {a : ByteArray} (hh : NotHere n k xl a) :
    go ((cs.map toL).drop k) a.data.toList = match scan xl.data.toList (lastB n k) a.data.toList with
          | some t => go ((cs.map toL).drop (k + 1)) t
          | none => false := by
  rw [here_of h hn (fun _ => hne)]
  unfold NotHere at hh
  rw [hh]
  rfl
/-- The search stands at place j. -/
def ScanAt (n k : Nat) (xl a : ByteArray) (j : Nat) : Prop := scan xl.data.toList (lastB n k) (a.data.toList.drop j) = scan xl.data.toList (lastB n k) a.data.toList
theorem cut_list (a : ByteArray) (j : Nat) : (a.extract j a.size).data.toList = a.data.toList.drop j := by
  rw [ByteArray.data_extract, Array.toList_extract, List.extract_eq_take_drop]
  apply List.take_of_length_le
  rw [List.length_drop, Array.length_toList]
  exact Nat.le_refl _
theorem scan_step {a : ByteArray} {j : Nat} (hj : j < a.size) : scan xl.data.toList (lastB n k) (a.data.toList.drop j) =
    match chunk xl.data.toList (a.extract (j + 1) a.size).data.toList with
    | some t => if (lastB n k && !t.isEmpty) = true then scan xl.data.toList (lastB n k) (a.data.toList.drop (j + 1)) else some t
    | none => scan xl.data.toList (lastB n k) (a.data.toList.drop (j + 1)) := by
  rw [cut_list]
  have hlt : j < a.data.toList.length := by rw [Array.length_toList]; exact hj
  rw [List.drop_eq_getElem_cons hlt]
  rfl
theorem scan_miss {a : ByteArray} {j : Nat} (hj : j < a.size) (hs : ScanAt n k xl a j) (hb : chunkB xl (a.extract (j + 1) a.size) = false) : ScanAt n k xl a (j + 1) := by
  unfold ScanAt at hs ⊢
  rw [← hs, scan_step hj, chunkB_false hb]
theorem scan_more {a : ByteArray} {j : Nat} (hj : j < a.size) (hs : ScanAt n k xl a j) (hb : chunkB xl (a.extract (j + 1) a.size) = true)
    (hl : lastB n k = true) (ht : ((((chunkR xl (a.extract (j + 1) a.size)).size : Nat) : Int) == 0) = false) : ScanAt n k xl a (j + 1) := by
  unfold ScanAt at hs ⊢
  rw [← hs, scan_step hj, chunkB_true hb]
  simp only
  rw [if_pos]
  rw [size_zero, hl, ht]
  rfl
theorem scan_hit {a : ByteArray} {j : Nat} (hj : j < a.size) (hs : ScanAt n k xl a j) (hb : chunkB xl (a.extract (j + 1) a.size) = true)
    (ht : lastB n k = false ∨ ((((chunkR xl (a.extract (j + 1) a.size)).size : Nat) : Int) == 0) = true) : scan xl.data.toList (lastB n k) a.data.toList = some (chunkR xl (a.extract (j + 1) a.size)).data.toList := by
  unfold ScanAt at hs
  rw [← hs, scan_step hj, chunkB_true hb]
  simp only
  rw [if_neg]
  rw [size_zero]
  rcases ht with ht | ht <;> simp [ht]
theorem scan_end {a : ByteArray} {j : Nat} (hj : a.size ≤ j) (hs : ScanAt n k xl a j) : scan xl.data.toList (lastB n k) a.data.toList = none := by
  unfold ScanAt at hs
  rw [← hs, List.drop_eq_nil_of_le (by rw [Array.length_toList]; exact hj)]
  rfl
end

set_option maxHeartbeats 2000000 in
set_option maxRecDepth 100000 in
theorem pm_any (A : Option Addr) (n cap : Nat) (cs : List (Bool × ByteArray)) (s : ByteArray) (w : World) (hn : cs.length = n) (hn2 : n ≤ 4611686018427387904)
    (hc : CompsAt w A cs) (hcs : ∀ x ∈ cs, x.2.size ≤ 4611686018427387904) (hs : s.size ≤ 4611686018427387904) :
    Calls Tryf.prog 16 #[.agg #[.slice A n cap], .string s] w fun e w' => e = .returned (.bool (go (cs.map toL) s.data.toList)) ∧ Below w.heap.size w w' := by
  have HC : Aside (CompsAt w A cs ∧ (∀ x ∈ cs, x.2.size ≤ 4611686018427387904) ∧ cs.length = n) := ⟨hc, hcs, hn⟩
  clear hc hcs hn
  go_enter Tryf.func16, Tryf.ntmps16
  go_wp2
  go_step3
  go_wp2
  go_step3
  go_wp2
  go_loopg [1, 16] n (fun g s1 s16 wx => ∃ (k : Nat) (a : ByteArray), k + g = n ∧ s16 = .int .i64 k ∧ s1 = .string a ∧ a.size ≤ 4611686018427387904 ∧ Aside (go ((cs.map toL).drop k) a.data.toList = go (cs.map toL) s.data.toList) ∧
    wx.cell? ⟨w.heap.size, 0, none⟩ = some (.slice A n cap) ∧ Below w.heap.size w wx)
  case atStart => exact ⟨0, s, by omega, rfl, rfl, hs, rfl, by simp, (Below.refl _ _).alloc (Nat.le_refl _) _⟩
  case round =>
    obtain ⟨k, a, hkg, rfl, rfl, ha, HI, hbox, hbx⟩ := hrel
    cases gk with
    | zero =>
      have hkz : ¬ ((k : Int) < (n : Int)) := by omega
      have HK := Lib.hid hkg
      clear hkg
      cases hz : (((a.size : Nat) : Int) == 0)
      all_goals
        go_wp2
        go_ret
        refine ⟨?_, hbx⟩
        rw [← HI.out, drop_end HC.out.2.2 (by have := HK.out; omega), size_zero, hz]
        rfl
    | succ g =>
      have hkz : (k : Int) < (n : Int) := by omega
      obtain ⟨x, hx⟩ : ∃ x, cs[k]? = some x := ⟨_, List.getElem?_eq_getElem (by have := HC.out.2.2; omega)⟩
      obtain ⟨b, rfl, hbl, hw0, hw1⟩ := HC.out.1 k x hx
      obtain ⟨xw, xl⟩ := x
      have hc0 : wr.cell? ⟨b, k * 2, none⟩ = some (.bool xw) := (hbx.cell (p := ⟨b, k * 2, none⟩) hbl).trans hw0
      have hc1 : wr.cell? ⟨b, k * 2 + 1, none⟩ = some (.string xl) := (hbx.cell (p := ⟨b, k * 2 + 1, none⟩) hbl).trans hw1
      have hxl : xl.size ≤ 4611686018427387904 := HC.out.2.1 _ (List.mem_of_getElem? hx)
      have HX : Aside (cs[k]? = some (xw, xl)) := hx
      have HK := Lib.hid hkg
      clear hx hw0 hw1 hkg
      have hsz := World.block_lt_of_cell? wr _ hbox
      have hbox2 : ∀ o, (wr.alloc o).cell? ⟨w.heap.size, 0, none⟩ = some (.slice (some ⟨b, 0, none⟩) n cap) := fun o => (World.cell?_alloc_lt wr o ⟨w.heap.size, 0, none⟩ hsz).trans hbox
      have hrs : (chunkR xl a).size ≤ 4611686018427387904 := Nat.le_trans (chunkR_size xl a) ha
      -- the tests
      obtain ⟨lb, hlb⟩ : ∃ lb, ((k : Int) == (n : Int) - 1) = lb := ⟨_, rfl⟩
      have hlb' : lastB n k = lb := hlb
      have HL := Lib.hid hlb'
      clear hlb'
      have away : ∀ (m : Nat), Below w.heap.size w ((wr.alloc (.cells #[.bool xw, .string xl] 50)).drewN m) := fun m => by
        have h := hbx.alloc (Nat.le_of_lt hsz) (.cells #[.bool xw, .string xl] 50)
        exact ⟨h.os, h.tape, h.output, h.size, h.block⟩
      have HA := Lib.hid away
      clear away
      cases xw with
      | true =>
        cases he : xl.toList.isEmpty
        · cases hb : chunkB xl a
          · go_wp2_with (go_at_call 18; refine (chunk_any xl a _ hxl ha).mono ?_; rintro e w' ⟨rfl, m, rfl⟩)
            have HN := Lib.hid (not_here1 hb : NotHere n k xl a)
            obtain ⟨W2, hW2⟩ : ∃ W2, W2 = (wr.alloc (.cells #[.bool true, .string xl] 50)).drewN m := ⟨_, rfl⟩
            have c0 : W2.cell? ⟨wr.heap.size, 0, none⟩ = some (.bool true) := by rw [hW2]; simp
            have c1 : W2.cell? ⟨wr.heap.size, 1, none⟩ = some (.string xl) := by rw [hW2]; simp
            have cb : W2.cell? ⟨w.heap.size, 0, none⟩ = some (.slice (some ⟨b, 0, none⟩) n cap) := by rw [hW2]; exact hbox2 _
            have hby : Below w.heap.size w W2 := by rw [hW2]; exact HA.out m
            rw [← hW2]
            clear hW2 hbox2 hbox hc0 hc1
            go_loopg [1, 10] a.size (fun g2 s1 s10 wy => ∃ j : Nat, j + g2 = a.size ∧ s10 = .int .i64 j ∧ s1 = .string a ∧ Aside (ScanAt n k xl a j) ∧ wy.cell? ⟨wr.heap.size, 0, none⟩ = some (.bool true) ∧ wy.cell? ⟨wr.heap.size, 1, none⟩ = some (.string xl) ∧
              wy.cell? ⟨w.heap.size, 0, none⟩ = some (.slice (some ⟨b, 0, none⟩) n cap) ∧ Below w.heap.size w wy)
            case atStart => exact ⟨0, by omega, rfl, rfl, rfl, c0, c1, cb, hby⟩
            case round =>
              clear c0 c1 cb hby
              obtain ⟨j, hjg, rfl, rfl, HS, c0, c1, cb, hby⟩ := hrel
              cases gk with
              | zero =>
                have hjz : ¬ ((j : Int) < (a.size : Int)) := by omega
                have HJ := Lib.hid hjg
                clear hjg
                go_wp2
                try rw [Exit.noGoto_ret]
                go_ret
                refine ⟨?_, hby⟩
                rw [← HI.out, go_scan HX.out HC.out.2.2 he HN.out, scan_end (by have := HJ.out; omega) HS.out]
                rfl
              | succ g2 =>
                have hjz : (j : Int) < (a.size : Int) := by omega
                have hj1 : ((j : Int) + 1) ≤ (a.size : Int) := by omega
                have HJ := Lib.hid hjg
                clear hjg
                have i0 : (0 : Int) ≤ (j : Int) + 1 := by omega
                have i2 : IntKind.i64.wrap ((j : Int) + 1) = (j : Int) + 1 := IntWalk.i64_in _ (by omega)
                have i3 : ((j : Int) + 1).toNat = j + 1 := by omega
                go_wp2_with fail
                go_quiet ((go_at_call 18; exact Calls.quiet_of (chunk_any _ _ _ hxl (by simp; omega))))
                clear i0 i2 i3
                have hqs : (chunkR xl (a.extract (j + 1) a.size)).size ≤ 4611686018427387904 := Nat.le_trans (chunkR_size _ _) (by simp; omega)
                cases hb2 : chunkB xl (a.extract (j + 1) a.size)
                · go_wp2
                  go_roundg g2
                  case measure => omega
                  case rel => exact ⟨j + 1, by have := HJ.out; omega, by go_num, rfl, scan_miss (by omega) HS.out hb2, c0, c1, cb, hby.os, hby.tape, hby.output, hby.size, hby.block⟩
                · cases ht2 : ((((chunkR xl (a.extract (j + 1) a.size)).size : Nat) : Int) == 0)
                  · have hp2 : (0 : Int) < (((chunkR xl (a.extract (j + 1) a.size)).size : Nat) : Int) := by
                      have := beq_eq_false_iff_ne.1 ht2
                      omega
                    cases lb with
                    | true =>
                      go_wp2
                      go_roundg g2
                      case measure => omega
                      case rel => exact ⟨j + 1, by have := HJ.out; omega, by go_num, rfl, scan_more (by omega) HS.out hb2 HL.out ht2, c0, c1, cb, hby.os, hby.tape, hby.output, hby.size, hby.block⟩
                    | false =>
                      go_wp2
                      go_roundg g
                      case measure => omega
                      case rel => exact ⟨k + 1, chunkR xl (a.extract (j + 1) a.size), by have := HK.out; omega, by go_num, rfl, hqs, by show _ = _; rw [← HI.out, go_scan HX.out HC.out.2.2 he HN.out, scan_hit (by omega) HS.out hb2 (Or.inl HL.out)], cb, hby.os, hby.tape, hby.output, hby.size, hby.block⟩
                  · have hp2 : ¬ (0 : Int) < (((chunkR xl (a.extract (j + 1) a.size)).size : Nat) : Int) := by
                      have := beq_iff_eq.1 ht2
                      omega
                    go_wp2
                    all_goals
                      go_roundg g
                      case measure => omega
                      case rel => exact ⟨k + 1, chunkR xl (a.extract (j + 1) a.size), by have := HK.out; omega, by go_num, rfl, hqs, by show _ = _; rw [← HI.out, go_scan HX.out HC.out.2.2 he HN.out, scan_hit (by omega) HS.out hb2 (Or.inr ht2)], cb, hby.os, hby.tape, hby.output, hby.size, hby.block⟩
          · cases ht : ((((chunkR xl a).size : Nat) : Int) == 0)
            · cases lb with
              | false =>
                go_wp2_with (go_at_call 18; refine (chunk_any xl a _ hxl ha).mono ?_; rintro e w' ⟨rfl, m, rfl⟩)
                go_roundg g
                case measure => omega
                case rel => exact ⟨k + 1, chunkR xl a, by have := HK.out; omega, by go_num, rfl, hrs, by show _ = _; rw [← HI.out, go_here HX.out HC.out.2.2 (fun _ => he) hb (Or.inr HL.out)], by simp [hbox2], HA.out m⟩
              | true =>
                go_wp2_with (go_at_call 18; refine (chunk_any xl a _ hxl ha).mono ?_; rintro e w' ⟨rfl, m, rfl⟩)
                have HN := Lib.hid (not_here2 hb ht HL.out : NotHere n k xl a)
                obtain ⟨W2, hW2⟩ : ∃ W2, W2 = (wr.alloc (.cells #[.bool true, .string xl] 50)).drewN m := ⟨_, rfl⟩
                have c0 : W2.cell? ⟨wr.heap.size, 0, none⟩ = some (.bool true) := by rw [hW2]; simp
                have c1 : W2.cell? ⟨wr.heap.size, 1, none⟩ = some (.string xl) := by rw [hW2]; simp
                have cb : W2.cell? ⟨w.heap.size, 0, none⟩ = some (.slice (some ⟨b, 0, none⟩) n cap) := by rw [hW2]; exact hbox2 _
                have hby : Below w.heap.size w W2 := by rw [hW2]; exact HA.out m
                rw [← hW2]
                clear hW2 hbox2 hbox hc0 hc1
                go_loopg [1, 10] a.size (fun g2 s1 s10 wy => ∃ j : Nat, j + g2 = a.size ∧ s10 = .int .i64 j ∧ s1 = .string a ∧ Aside (ScanAt n k xl a j) ∧ wy.cell? ⟨wr.heap.size, 0, none⟩ = some (.bool true) ∧ wy.cell? ⟨wr.heap.size, 1, none⟩ = some (.string xl) ∧
                  wy.cell? ⟨w.heap.size, 0, none⟩ = some (.slice (some ⟨b, 0, none⟩) n cap) ∧ Below w.heap.size w wy)
                case atStart => exact ⟨0, by omega, rfl, rfl, rfl, c0, c1, cb, hby⟩
                case round =>
                  clear c0 c1 cb hby
                  obtain ⟨j, hjg, rfl, rfl, HS, c0, c1, cb, hby⟩ := hrel
                  cases gk with
                  | zero =>
                    have hjz : ¬ ((j : Int) < (a.size : Int)) := by omega
                    have HJ := Lib.hid hjg
                    clear hjg
                    go_wp2
                    try rw [Exit.noGoto_ret]
                    go_ret
                    refine ⟨?_, hby⟩
                    rw [← HI.out, go_scan HX.out HC.out.2.2 he HN.out, scan_end (by have := HJ.out; omega) HS.out]
                    rfl
                  | succ g2 =>
                    have hjz : (j : Int) < (a.size : Int) := by omega
                    have hj1 : ((j : Int) + 1) ≤ (a.size : Int) := by omega
                    have HJ := Lib.hid hjg
                    clear hjg
                    have i0 : (0 : Int) ≤ (j : Int) + 1 := by omega
                    have i2 : IntKind.i64.wrap ((j : Int) + 1) = (j : Int) + 1 := IntWalk.i64_in _ (by omega)
                    have i3 : ((j : Int) + 1).toNat = j + 1 := by omega
                    go_wp2_with fail
                    go_quiet ((go_at_call 18; exact Calls.quiet_of (chunk_any _ _ _ hxl (by simp; omega))))
                    clear i0 i2 i3
                    have hqs : (chunkR xl (a.extract (j + 1) a.size)).size ≤ 4611686018427387904 := Nat.le_trans (chunkR_size _ _) (by simp; omega)
                    cases hb2 : chunkB xl (a.extract (j + 1) a.size)
                    · go_wp2
                      go_roundg g2
                      case measure => omega
                      case rel => exact ⟨j + 1, by have := HJ.out; omega, by go_num, rfl, scan_miss (by omega) HS.out hb2, c0, c1, cb, hby.os, hby.tape, hby.output, hby.size, hby.block⟩
                    · cases ht2 : ((((chunkR xl (a.extract (j + 1) a.size)).size : Nat) : Int) == 0)
                      · have hp2 : (0 : Int) < (((chunkR xl (a.extract (j + 1) a.size)).size : Nat) : Int) := by
                          have := beq_eq_false_iff_ne.1 ht2
                          omega
                        go_wp2
                        go_roundg g2
                        case measure => omega
                        case rel => exact ⟨j + 1, by have := HJ.out; omega, by go_num, rfl, scan_more (by omega) HS.out hb2 HL.out ht2, c0, c1, cb, hby.os, hby.tape, hby.output, hby.size, hby.block⟩
                      · have hp2 : ¬ (0 : Int) < (((chunkR xl (a.extract (j + 1) a.size)).size : Nat) : Int) := by
                          have := beq_iff_eq.1 ht2
                          omega
                        go_wp2
                        go_roundg g
                        case measure => omega
                        case rel => exact ⟨k + 1, chunkR xl (a.extract (j + 1) a.size), by have := HK.out; omega, by go_num, rfl, hqs, by show _ = _; rw [← HI.out, go_scan HX.out HC.out.2.2 he HN.out, scan_hit (by omega) HS.out hb2 (Or.inr ht2)], cb, hby.os, hby.tape, hby.output, hby.size, hby.block⟩
            · go_wp2_with (go_at_call 18; refine (chunk_any xl a _ hxl ha).mono ?_; rintro e w' ⟨rfl, m, rfl⟩)
              go_roundg g
              case measure => omega
              case rel => exact ⟨k + 1, chunkR xl a, by have := HK.out; omega, by go_num, rfl, hrs, by show _ = _; rw [← HI.out, go_here HX.out HC.out.2.2 (fun _ => he) hb (Or.inl ht)], by simp [hbox2], HA.out m⟩
        · go_wp2
          go_ret
          refine ⟨?_, ?_⟩
          · rw [← HI.out, go_all HX.out he]; rfl
          · exact HA.out 0
      | false =>
        cases hb : chunkB xl a
        · go_wp2_with (go_at_call 18; refine (chunk_any xl a _ hxl ha).mono ?_; rintro e w' ⟨rfl, m, rfl⟩)
          try rw [Exit.noGoto_ret]
          go_ret
          refine ⟨?_, HA.out m⟩
          rw [← HI.out, go_no HX.out HC.out.2.2 (not_here1 hb)]; rfl
        · cases ht : ((((chunkR xl a).size : Nat) : Int) == 0)
          · cases lb with
            | false =>
              go_wp2_with (go_at_call 18; refine (chunk_any xl a _ hxl ha).mono ?_; rintro e w' ⟨rfl, m, rfl⟩)
              go_roundg g
              case measure => omega
              case rel => exact ⟨k + 1, chunkR xl a, by have := HK.out; omega, by go_num, rfl, hrs, by show _ = _; rw [← HI.out, go_here HX.out HC.out.2.2 (fun h => absurd h (by decide)) hb (Or.inr HL.out)], by simp [hbox2], HA.out m⟩
            | true =>
              go_wp2_with (go_at_call 18; refine (chunk_any xl a _ hxl ha).mono ?_; rintro e w' ⟨rfl, m, rfl⟩)
              try rw [Exit.noGoto_ret]
              go_ret
              refine ⟨?_, HA.out m⟩
              rw [← HI.out, go_no HX.out HC.out.2.2 (not_here2 hb ht HL.out)]; rfl
          · go_wp2_with (go_at_call 18; refine (chunk_any xl a _ hxl ha).mono ?_; rintro e w' ⟨rfl, m, rfl⟩)
            go_roundg g
            case measure => omega
            case rel => exact ⟨k + 1, chunkR xl a, by have := HK.out; omega, by go_num, rfl, hrs, by show _ = _; rw [← HI.out, go_here HX.out HC.out.2.2 (fun h => absurd h (by decide)) hb (Or.inl ht)], by simp [hbox2], HA.out m⟩
#print axioms pm_any
end Go.Proofs.YtbfellfegdapdaaFmt
