/- FnMatchFilled: the walk of the law, for every list of pieces and every list of texts. -/
import Derived.Test.YtbfellfegdapdaaFmtKept
import Derived.Test.YtbfellfegdapdaaFmtJoined
namespace Go.Proofs.YtbfellfegdapdaaFmt
open Go.RowKit Glob

set_option maxHeartbeats 400000 in
set_option maxRecDepth 100000 in
theorem filled_any (A : Option Addr) (n cap : Nat) (l : List (Bool × ByteArray)) (B : Option Addr) (m cap2 : Nat) (ss : List ByteArray) (w : World) (hn : l.length = n) (hl : InAt w A l) (hm : ss.length = m) (hs : StrsAt w B ss) :
    Calls Tryf.prog 5 #[.slice A n cap, .slice B m cap2] w fun e w' => e = .returned (.bool true) ∧ Below w.heap.size w w' := by
  have c1 := fits1_any A n cap l w hn hl
  have HC := Lib.hid (And.intro hl (And.intro hn (And.intro hs hm)))
  clear hl hn hs hm
  cases hf : fitsAll l
  · rw [hf] at c1
    have C := Lib.hid c1
    clear c1 hf
    go_enter Tryf.func5, Tryf.ntmps5
    go_wp2_with fail
    refine C.out.mono ?_
    rintro e w1 ⟨rfl, hb1⟩
    have HB := Lib.hid hb1
    clear hb1
    go_wp2
    go_ret
    exact ⟨rfl, HB.out⟩
  · rw [hf] at c1
    have C := Lib.hid c1
    have HF := Lib.hid hf
    clear c1 hf
    cases hf3 : shortFits ss
    · go_enter Tryf.func5, Tryf.ntmps5
      have HF3 := Lib.hid hf3
      clear hf3
      go_wp2_with fail
      refine C.out.mono ?_
      rintro e w1 ⟨rfl, hb1⟩
      have HB := Lib.hid hb1
      clear hb1
      go_wp2_with fail
      have c2 := fits3_any B m cap2 ss w1 HC.out.2.2.2 (HC.out.2.2.1.below HB.out)
      rw [HF3.out] at c2
      refine c2.mono ?_
      clear c2
      rintro e w2 ⟨rfl, hb2⟩
      have HB2 := Lib.hid hb2
      clear hb2
      go_wp2
      go_ret
      exact ⟨rfl, HB.out.trans (HB2.out.mono HB.out.size)⟩
    · go_enter Tryf.func5, Tryf.ntmps5
      have HF3 := Lib.hid hf3
      clear hf3
      go_wp2_with fail
      refine C.out.mono ?_
      rintro e w1 ⟨rfl, hb1⟩
      have HB := Lib.hid hb1
      clear hb1
      go_wp2_with fail
      have c2 := fits3_any B m cap2 ss w1 HC.out.2.2.2 (HC.out.2.2.1.below HB.out)
      rw [HF3.out] at c2
      refine c2.mono ?_
      clear c2
      rintro e w2 ⟨rfl, hb2⟩
      have HB2 := Lib.hid (HB.out.trans (hb2.mono HB.out.size))
      clear hb2
      have hn2 : n ≤ 2147483647 := by rw [← HC.out.2.1]; exact (fits_short HF.out).1
      have hm2 : m ≤ 2147483647 := by rw [← HC.out.2.2.2]; exact (short_fits HF3.out).1
      go_wp2_with fail
      have c3 := pieces_any A n cap l w2 HC.out.2.1 hn2 (HC.out.1.below HB2.out)
      refine c3.mono ?_
      clear c3
      rintro e w3 ⟨a, c, rfl, hca, hb3⟩
      have H3 := Lib.hid (And.intro hca (HB2.out.trans (hb3.mono HB2.out.size)))
      clear hca hb3
      go_wp2_with fail
      have c4 := joined_any A n cap l B m cap2 ss w3 HC.out.2.1 hn2 (HC.out.1.below H3.out.2) (fits_short HF.out).2 HC.out.2.2.2 hm2 (HC.out.2.2.1.below H3.out.2) (short_fits HF3.out).2
      refine c4.mono ?_
      clear c4
      rintro e w4 ⟨r, rfl, hM, hr, hb4⟩
      have H4 := Lib.hid (And.intro hM (And.intro hr hb4))
      clear hM hr hb4
      go_wp2_with fail
      have hk : (kept l).length ≤ 2147483647 := by have := kept_le l; have := HC.out.2.1; omega
      have c5 := im_true a (kept l).length c (kept l) r w4 rfl hk (H3.out.1.below H4.out.2.2) (kept_total (fits_short HF.out).1 (fits_short HF.out).2) H4.out.2.1 (kept_full l) ((kept_M l _).2 H4.out.1)
      refine c5.mono ?_
      clear c5
      rintro e w5 ⟨rfl, hb5⟩
      have HB5 := Lib.hid hb5
      clear hb5
      go_wp2
      go_ret
      have z3 := H3.out.2.size
      have z4 := H4.out.2.2.size
      exact ⟨rfl, (H3.out.2.trans (H4.out.2.2.mono z3)).trans (HB5.out.mono (Nat.le_trans z3 z4))⟩
#print axioms filled_any
end Go.Proofs.YtbfellfegdapdaaFmt
