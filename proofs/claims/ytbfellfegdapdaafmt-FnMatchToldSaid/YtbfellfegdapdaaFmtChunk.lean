/- The contract of matchChunk, for every two texts: it returns the rest behind the chunk, or nothing and false. -/
import Derived.Test.YtbfellfegdapdaaFmtChecked
import Derived.Test.YtbfellfegdapdaaFmtGlob
import Derived.WalkKit
import Derived.WalkSpells
import Derived.WalkLawsBesides
import Derived.Outline
import Derived.KernelRfl
import Derived.Deep.QuietTactic
import Derived.BigQuiet
import Derived.Deep.LoopGhost
import Derived.Lib.Hide
namespace Go.Proofs.YtbfellfegdapdaaFmt
open Go.RowKit Glob

/-- What matchChunk leaves. -/
def ChunkPost (c s : List UInt8) (W : World) (e : Ending) (w' : World) : Prop :=
  ∃ (r : ByteArray) (b : Bool), e = .returned (.tuple #[.string r, .bool b]) ∧ chunk c s = (if b then some r.data.toList else none) ∧ (b = false → r = ⟨#[]⟩) ∧ ∃ n, w' = W.drewN n

theorem tail_list (c : ByteArray) (h : 0 < c.size) : c.data.toList = c[0] :: (c.extract 1 c.size).data.toList := by
  obtain ⟨⟨l⟩⟩ := c
  cases l with
  | nil => exact absurd h (by decide)
  | cons a l =>
    have h2 : ((⟨⟨a :: l⟩⟩ : ByteArray).extract 1 (⟨⟨a :: l⟩⟩ : ByteArray).size).data.toList = l := by
      rw [ByteArray.data_extract, Array.toList_extract, List.extract_eq_take_drop]
      show (l.take (l.length + 1 - 1)) = l
      rw [Nat.add_sub_cancel, List.take_length]
    rw [h2]
    rfl

theorem chunk_eq (c s : ByteArray) (h1 : 0 < c.size) (h2 : 0 < s.size) (e : (((c[0].toNat : Nat) : Int) != ((s[0].toNat : Nat) : Int)) = false) :
    chunk (c.extract 1 c.size).data.toList (s.extract 1 s.size).data.toList = chunk c.data.toList s.data.toList := by
  have e' : c[0] = s[0] := by
    have : c[0].toNat = s[0].toNat := by
      have := (bne_eq_false_iff_eq.1 e)
      omega
    exact UInt8.toNat_inj.1 this
  rw [tail_list c h1, tail_list s h2]
  show _ = if c[0] = s[0] then _ else _
  rw [if_pos e']

theorem chunk_ne (c s : ByteArray) (h1 : 0 < c.size) (h2 : 0 < s.size) (e : (((c[0].toNat : Nat) : Int) != ((s[0].toNat : Nat) : Int)) = true) :
    chunk c.data.toList s.data.toList = none := by
  have e' : ¬ c[0] = s[0] := by
    intro h
    rw [h] at e
    simp at e
  rw [tail_list c h1, tail_list s h2]
  show (if c[0] = s[0] then _ else _) = _
  rw [if_neg e']

theorem chunk_out (c s : ByteArray) (h1 : 0 < c.size) (h2 : s.size = 0) : chunk c.data.toList s.data.toList = none := by
  have : s.data.toList = [] := List.eq_nil_of_length_eq_zero (by simpa using h2)
  rw [tail_list c h1, this]
  rfl

theorem chunk_end (c s : ByteArray) (h1 : c.size = 0) : chunk c.data.toList s.data.toList = some s.data.toList := by
  have : c.data.toList = [] := List.eq_nil_of_length_eq_zero (by simpa using h1)
  rw [this]
  cases s.data.toList <;> rfl

theorem size_tail (c : ByteArray) : (c.extract 1 c.size).size = c.size - 1 := by simp

set_option maxHeartbeats 400000 in
theorem chunk_calls (c s : ByteArray) (W : World) (hc : c.size ≤ 4611686018427387904) (hs : s.size ≤ 4611686018427387904) :
    Calls Tryf.prog 18 #[.string c, .string s] W (ChunkPost c.data.toList s.data.toList W) := by
  go_enter Tryf.func18, Tryf.ntmps18
  go_wp2
  go_loopw [0, 1] (fun x y wr => ∃ c' s' : ByteArray, x = .string c' ∧ y = .string s' ∧ chunk c'.data.toList s'.data.toList = chunk c.data.toList s.data.toList ∧ c'.size ≤ 4611686018427387904 ∧ s'.size ≤ 4611686018427387904 ∧ ∃ n, wr = W.drewN n)
    (fun x _ _ => match x with | .string c' => c'.size | _ => 0)
  case atStart => exact ⟨c, s, rfl, rfl, rfl, hc, hs, 0, rfl⟩
  case round =>
    obtain ⟨c', s', rfl, rfl, hch, hc', hs', n, rfl⟩ := hrel
    have HC := Lib.hid hch
    clear hch
    by_cases h1 : 0 < c'.size
    · by_cases h2 : 0 < s'.size
      · have b2 : (((s'.size : Nat) : Int) == 0) = false := by rw [beq_eq_false_iff_ne]; omega
        have i1 : (0 : Int) < (c'.size : Int) := by omega
        have i2 : (0 : Int) < (s'.size : Int) := by omega
        go_wp2
        go_quiet (fail)
        go_wp2
        · go_ret2
          exact ⟨⟨#[]⟩, false, rfl, by rw [← HC.out]; exact chunk_ne c' s' h1 h2 (by assumption), fun _ => rfl, n + nq, World.drewN_drewN _ _ _⟩
        · refine ⟨⟨_, _, rfl, rfl, ?_, ?_, ?_, n + nq, rfl⟩, ?_⟩
          · rw [← HC.out]; exact chunk_eq c' s' h1 h2 (by assumption)
          · rw [size_tail]; omega
          · rw [size_tail]; omega
          · show (c'.extract 1 c'.size).size < c'.size
            rw [size_tail]; omega
      · have b2 : (((s'.size : Nat) : Int) == 0) = true := by rw [beq_iff_eq]; omega
        go_wp2
        go_ret2
        exact ⟨⟨#[]⟩, false, rfl, by rw [← HC.out]; exact chunk_out c' s' h1 (by omega), fun _ => rfl, n, rfl⟩
    · have h1' : ¬ (0 : Int) < (c'.size : Int) := by omega
      go_wp2
      go_ret2
      exact ⟨s', true, rfl, by rw [← HC.out]; exact chunk_end c' s' (by omega), fun h => absurd h (by decide), n, rfl⟩

/-- What matchChunk returns: the rest, and whether the text begins with the chunk. -/
def chunkR (c s : ByteArray) : ByteArray := ⟨((chunk c.data.toList s.data.toList).getD []).toArray⟩
def chunkB (c s : ByteArray) : Bool := (chunk c.data.toList s.data.toList).isSome

theorem chunk_any (c s : ByteArray) (W : World) (hc : c.size ≤ 4611686018427387904) (hs : s.size ≤ 4611686018427387904) :
    Calls Tryf.prog 18 #[.string c, .string s] W fun e w' => e = .returned (.tuple #[.string (chunkR c s), .bool (chunkB c s)]) ∧ ∃ n, w' = W.drewN n := by
  refine (chunk_calls c s W hc hs).mono ?_
  rintro e w' ⟨r, b, rfl, h, hr, hw⟩
  refine ⟨?_, hw⟩
  unfold chunkR chunkB
  rw [h]
  cases b
  · rw [hr rfl]; rfl
  · simp

theorem chunkB_true {c s : ByteArray} (h : chunkB c s = true) : chunk c.data.toList s.data.toList = some (chunkR c s).data.toList := by
  unfold chunkB at h
  unfold chunkR
  obtain ⟨t, ht⟩ := Option.isSome_iff_exists.1 h
  rw [ht]
  simp
theorem chunkB_false {c s : ByteArray} (h : chunkB c s = false) : chunk c.data.toList s.data.toList = none := by
  unfold chunkB at h
  simpa using h
theorem chunkR_size (c s : ByteArray) : (chunkR c s).size ≤ s.size := by
  cases h : chunkB c s with
  | false =>
    unfold chunkR
    rw [chunkB_false h]
    exact Nat.zero_le _
  | true =>
    have := congrArg List.length (chunk_some.1 (chunkB_true h))
    rw [List.length_append] at this
    simp only [Array.length_toList] at this
    show (chunkR c s).data.size ≤ s.data.size
    omega
#print axioms chunk_any
end Go.Proofs.YtbfellfegdapdaaFmt
