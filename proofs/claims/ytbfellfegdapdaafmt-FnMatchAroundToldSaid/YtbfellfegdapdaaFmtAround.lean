/- FnMatchAround: the walk of the law, for every three texts, over impl.Match's contract. -/
import Derived.Test.YtbfellfegdapdaaFmtAroundA
import Derived.Deep.DeepFit
namespace Go.Proofs.YtbfellfegdapdaaFmt
open Go.RowKit Glob

set_option maxHeartbeats 400000 in
set_option maxRecDepth 100000 in
theorem around_walk (f s b : ByteArray) (w : World) (hf : f.size ≤ 2147483647) (hs : s.size ≤ 2147483647) (hb : b.size ≤ 2147483647) :
    Calls Tryf.prog 4 #[.string f, .string s, .string b] w fun e w' => e = .returned (.bool true) ∧ Below w.heap.size w w' := by
  have h1 : ¬ (2147483647 : Int) < (f.size : Int) := by omega
  have h2 : ¬ (2147483647 : Int) < (s.size : Int) := by omega
  have h3 : ¬ (2147483647 : Int) < (b.size : Int) := by omega
  have hy1 : 0 < (s ++ (⟨#[97]⟩ : ByteArray)).size := by rw [size_add]; exact Nat.lt_of_lt_of_le (show 0 < 1 by decide) (Nat.le_add_left _ _)
  have hy2 : (s ++ (⟨#[97]⟩ : ByteArray)).size ≤ 2147483648 := by rw [size_add]; exact Nat.add_le_add_right hs 1
  have HY := Lib.hid (And.intro hy1 hy2)
  clear hy1 hy2
  go_enter Tryf.func4, Tryf.ntmps4
  go_wp2_with fail
  have c1 := call_aba f (s ++ ⟨#[97]⟩) b w (by omega) HY.out.1 HY.out.2 (by omega)
  refine c1.mono ?_
  clear c1
  rintro e w1 ⟨rfl, hb1⟩
  have HB1 := Lib.hid hb1
  clear hb1
  go_wp2_with fail
  have c2 := call_ab f (s ++ ⟨#[97]⟩) w1 (by omega) HY.out.1 HY.out.2
  refine c2.mono ?_
  clear c2
  rintro e w2 ⟨rfl, hb2⟩
  have HB2 := Lib.hid hb2
  clear hb2
  go_wp2_with fail
  have c3 := call_ba (s ++ ⟨#[97]⟩) b w2 (by omega) HY.out.1 HY.out.2
  refine c3.mono ?_
  clear c3
  rintro e w3 ⟨rfl, hb3⟩
  have HB3 := Lib.hid hb3
  clear hb3
  go_wp2
  go_ret
  have z1 := HB1.out.size
  have z2 := HB2.out.size
  exact ⟨rfl, (HB1.out.trans (HB2.out.mono z1)).trans (HB3.out.mono (Nat.le_trans z1 z2))⟩

theorem around_any (f s b : ByteArray) (w : World) : Calls Tryf.prog 4 #[.string f, .string s, .string b] w fun e w' => e = .returned (.bool true) ∧ Below w.heap.size w w' := by
  by_cases h1 : (2147483647 : Int) < (f.size : Int)
  · go_enter Tryf.func4, Tryf.ntmps4
    go_wp2
    go_ret
    exact ⟨rfl, Below.refl _ _⟩
  · by_cases h2 : (2147483647 : Int) < (s.size : Int)
    · go_enter Tryf.func4, Tryf.ntmps4
      go_wp2
      go_ret
      exact ⟨rfl, Below.refl _ _⟩
    · by_cases h3 : (2147483647 : Int) < (b.size : Int)
      · go_enter Tryf.func4, Tryf.ntmps4
        go_wp2
        go_ret
        exact ⟨rfl, Below.refl _ _⟩
      · exact around_walk f s b w (by omega) (by omega) (by omega)
#print axioms around_any
end Go.Proofs.YtbfellfegdapdaaFmt
