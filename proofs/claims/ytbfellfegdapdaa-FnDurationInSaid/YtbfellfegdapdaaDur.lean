/- The law FnDurationIn holds for every input: the walk of the program and of the statement, with no condition. -/
import Derived.Test.YtbfellfegdapdaaRows
import Derived.WalkKit
import Derived.ProofKit
import Derived.OpenShut
import Derived.ChangeKeysEq
import Derived.Deep.RegionHeld3
namespace Go.Proofs.Ytbfellfegdapdaa.fnDurationIn
open Go.ChangeShapes Go.WideShapes Go.ChangeAt Go.RowKit
set_option linter.unusedVariables false

theorem eq_items_run (W : World) (xs ys : Array Value) :
    (binOp .eql 22 (.agg xs) (.agg ys)).run Try.prog W = ((Op.eqItems 9999 2 1 xs ys (List.range 5)).run Try.prog W).andThen fun b w' => .ok (.bool b) w' := by
  have hi : ∃ i, Try.prog.info? 2 = some i := by
    have h : (Try.prog.info? 2).isSome = true := by kernel_rfl
    exact Option.isSome_iff_exists.1 h
  obtain ⟨i, hi⟩ := hi
  have hc : Try.prog.cellsOf 2 = 1 := by kernel_rfl
  have h := run_equalIn_array (P := Try.prog) W 9999 (t := 22) (e := 2) (n := 5) xs ys Try.underlying22 hi
  rw [hc] at h
  rw [← h]
  simp only [binOp]
  simp [Op.equal, Op.maxDepth]

theorem eq5 (W : World) (a b c d e : Int) :
    (binOp .eql 22 (.agg #[.int .i64 a, .int .i64 b, .int .i64 c, .int .i64 d, .int .i64 e]) (.agg #[.int .i64 a, .int .i64 b, .int .i64 c, .int .i64 d, .int .i64 e])).run Try.prog W = .ok (.bool true) W := by
  rw [eq_items_run]
  have hr : List.range 5 = [0, 1, 2, 3, 4] := by decide
  have hp : ∀ (k : Nat) (v : Int) (xs : Array Value), xs[k]? = some (.int .i64 v) → ∀ w : World, (part 2 xs (k * 1)).run Try.prog w = .ok (.int .i64 v) w := by
    intro k v xs h w
    rw [Nat.mul_one]
    exact run_part_plain (P := Try.prog) w (by kernel_rfl) h
  have h0 := hp 0 a #[.int .i64 a, .int .i64 b, .int .i64 c, .int .i64 d, .int .i64 e] rfl
  have h1 := hp 1 b #[.int .i64 a, .int .i64 b, .int .i64 c, .int .i64 d, .int .i64 e] rfl
  have h2 := hp 2 c #[.int .i64 a, .int .i64 b, .int .i64 c, .int .i64 d, .int .i64 e] rfl
  have h3 := hp 3 d #[.int .i64 a, .int .i64 b, .int .i64 c, .int .i64 d, .int .i64 e] rfl
  have h4 := hp 4 e #[.int .i64 a, .int .i64 b, .int .i64 c, .int .i64 d, .int .i64 e] rfl
  have he : ∀ (x : Int) (w : World), (Op.equalIn 9999 2 (.int .i64 x) (.int .i64 x)).run Try.prog w = .ok true w := fun x w => by
    rw [run_equalIn_int w 9998 2 .i64 .i64 x x Try.underlying2]; simp
  rw [hr]
  simp only [Op.eqItems, Sem.run_bind, h0, h1, h2, h3, h4, he, Result.andThen_ok, Bool.not_true, Bool.false_eq_true, if_false, Sem.run_pure]

def V1 (n : Int) : Value := .agg #[.int .i64 n]
theorem new_any (n : Int) (w : World) : Calls Try.prog 5 #[.int .i64 n] w fun e w' => e = .returned (.agg #[.int .i64 n]) ∧ w.alloc (.cells #[.int .i64 n] 26) = w' := by
  go_enter Try.func5, Try.ntmps5
  go_wp2
  exact bodyPost_ret (v := .agg #[.int .i64 n]) (by simp [results, Try.results5, go_sem]) rfl ⟨rfl, rfl⟩

theorem days_any (n : Int) (w : World) : Calls Try.prog 6 #[.agg #[.int .i64 n]] w fun e w' => e = .returned (.int .i64 (wrap64 (n.tdiv 86400000))) ∧ w.alloc (.cells #[.int .i64 n] 26) = w' := by
  go_enter Try.func6, Try.ntmps6
  go_wp2
  go_ret
  exact ⟨rfl, rfl⟩
theorem hours_any (n : Int) (w : World) : Calls Try.prog 7 #[.agg #[.int .i64 n]] w fun e w' => e = .returned (.int .i64 (wrap64 (n.tdiv 3600000))) ∧ w.alloc (.cells #[.int .i64 n] 26) = w' := by
  go_enter Try.func7, Try.ntmps7
  go_wp2
  go_ret
  exact ⟨rfl, rfl⟩
theorem mins_any (n : Int) (w : World) : Calls Try.prog 8 #[.agg #[.int .i64 n]] w fun e w' => e = .returned (.int .i64 (wrap64 (n.tdiv 60000))) ∧ w.alloc (.cells #[.int .i64 n] 26) = w' := by
  go_enter Try.func8, Try.ntmps8
  go_wp2
  go_ret
  exact ⟨rfl, rfl⟩
theorem secs_any (n : Int) (w : World) : Calls Try.prog 9 #[.agg #[.int .i64 n]] w fun e w' => e = .returned (.int .i64 (wrap64 (n.tdiv 1000))) ∧ w.alloc (.cells #[.int .i64 n] 26) = w' := by
  go_enter Try.func9, Try.ntmps9
  go_wp2
  go_ret
  exact ⟨rfl, rfl⟩
theorem millis_any (n : Int) (w : World) : Calls Try.prog 10 #[.agg #[.int .i64 n]] w fun e w' => e = .returned (.int .i64 n) ∧ w.alloc (.cells #[.int .i64 n] 26) = w' := by
  go_enter Try.func10, Try.ntmps10
  go_wp2
  go_ret
  exact ⟨rfl, rfl⟩

theorem dur_any (n : Int) (w : World) : Calls Try.prog 4 #[.int .i64 n] w fun e w' => e = .returned (.agg #[.int .i64 (wrap64 (n.tdiv 86400000)), .int .i64 (wrap64 (n.tdiv 3600000)), .int .i64 (wrap64 (n.tdiv 60000)), .int .i64 (wrap64 (n.tdiv 1000)), .int .i64 n]) ∧ Grown w w' := by
  go_enter Try.func4, Try.ntmps4
  go_wp2_with (first | (go_at_call 5; refine (new_any _ _).mono ?_; rintro e w' ⟨rfl, rfl⟩))
  go_region_held3 (fun w' => w'.cell? ⟨w.heap.size + 1 + 1, 0, none⟩ = some (.int .i64 n)) (go_simp)
    (first | (go_at_call 6; refine (days_any _ _).mono ?_; rintro e w' ⟨rfl, rfl⟩) | (go_at_call 7; refine (hours_any _ _).mono ?_; rintro e w' ⟨rfl, rfl⟩) | (go_at_call 8; refine (mins_any _ _).mono ?_; rintro e w' ⟨rfl, rfl⟩) | (go_at_call 9; refine (secs_any _ _).mono ?_; rintro e w' ⟨rfl, rfl⟩) | (go_at_call 10; refine (millis_any _ _).mono ?_; rintro e w' ⟨rfl, rfl⟩))
  go_wp2
  exact bodyPost_ret (v := .agg #[.int .i64 (wrap64 (n.tdiv 86400000)), .int .i64 (wrap64 (n.tdiv 3600000)), .int .i64 (wrap64 (n.tdiv 60000)), .int .i64 (wrap64 (n.tdiv 1000)), .int .i64 n]) (by simp [results, Try.results4, go_sem]) rfl
    ⟨rfl, by repeat (first | exact Grown.refl _ | apply Grown.drew | apply Grown.alloc)⟩

theorem dur_minus (w : World) : Calls Try.prog 4 #[.int .i64 (-1000)] w fun e w' => e = .returned (.agg #[.int .i64 0, .int .i64 0, .int .i64 0, .int .i64 (-1), .int .i64 (-1000)]) ∧ Grown w w' := by
  have h := dur_any (-1000) w
  have e1 : wrap64 ((-1000 : Int).tdiv 86400000) = 0 := by decide +kernel
  have e2 : wrap64 ((-1000 : Int).tdiv 3600000) = 0 := by decide +kernel
  have e3 : wrap64 ((-1000 : Int).tdiv 60000) = 0 := by decide +kernel
  have e4 : wrap64 ((-1000 : Int).tdiv 1000) = -1 := by decide +kernel
  rw [e1, e2, e3, e4] at h
  exact h

theorem index3 (w : World) : (Instr.index 22 (.agg #[.int .i64 0, .int .i64 0, .int .i64 0, .int .i64 (-1), .int .i64 (-1000)]) (.int .i64 3)).run Try.prog w = .ok (.int .i64 (-1)) w := by kernel_rfl

theorem walk (a0 : Int) (w0 : (Lit.int .i64 a0).wf = true) (w : World) :
    Calls Try.prog 3 #[.int .i64 a0] w fun e w' => e = .returned (.bool true) ∧ Grown w w' := by
  have heq := fun W : World => eq5 W (wrap64 (a0.tdiv 86400000)) (wrap64 (a0.tdiv 3600000)) (wrap64 (a0.tdiv 60000)) (wrap64 (a0.tdiv 1000)) a0
  have hix := index3
  go_enter Try.func3, Try.ntmps3
  go_wp2_with fail
  refine (dur_any _ _).mono ?_
  rintro e w1 ⟨rfl, hg1⟩
  go_wp2_with fail
  refine (dur_minus _).mono ?_
  rintro e w2 ⟨rfl, hg2⟩
  go_wp2
  go_ret
  exact ⟨rfl, ⟨World.keptBut_trans hg1.1 hg2.1, fun x => (hg2.2.1 x).trans (hg1.2.1 x), Nat.le_trans hg1.2.2 hg2.2.2⟩⟩

/-! ### The row's step -/
theorem own : ownKnob Try.prog.godebug = none := by kernel_rfl

set_option maxRecDepth 100000 in
theorem lifted (os : Os) (started : os.Started) (H : Type) (enc : TypeId × Value → H) :
    ReturnsInHanded {} Try.checked os 3 .any (Rows.fnDurationInSpec.pre6 enc Try.prog Try.f3 Rows.fnDurationInRow.domain false) (Rows.fnDurationInSpec.post enc Try.prog Try.f3 false true false false) := by
  refine returnsInHanded_of_change (C := Try.checked) own started (by kernel_rfl) Try.func3
    (ChangeSpec.witness6 (enc := enc) (C := Try.checked) false ⟨#[], #[.int .i64 0], []⟩ 8 (by kernel_rfl) (by kernel_rfl) (by kernel_rfl) (by kernel_rfl)) ?_
  intro W base args ds gs before hval0 hW hcnd _
  have hval : ∀ (j : Nat) t v, Try.f3.params[j]? = some t → args[j]? = some v → Value.okWide Try.prog W .any base t v := hval0
  have hW' := hW
  obtain ⟨p, q, hA0, hV, rfl, hfz, hnd⟩ := hW
  have hA : DataW.TrodAll enc Try.prog W 0 (fun _ => true) true Try.f3.params.toList args.toList ds p := hA0
  rw [Try.params3] at hA hval
  obtain ⟨v0, vs0, d0, ds0, p0, q0, hargs, rfl, rfl, h0, r0⟩ := trodAll_cons hA
  obtain ⟨rfl, rfl, rfl⟩ := trodAll_nil r0
  obtain rfl : args = #[v0] := by cases args; simp_all
  obtain ⟨rfl, rfl⟩ := trodVars_none hV
  obtain ⟨a0, rfl, rfl, rfl, w0⟩ := open_int Try.underlying2 (hval 0 2 v0 rfl rfl) h0
  clear hA0 hval0
  simp only [List.append_nil] at hW'
  refine (walk a0 w0 W).mono fun e W' ⟨he, hg⟩ => ?_
  subst he
  exact ⟨_, rfl, post_of_same (pa := []) (pv := []) hW' (fun _ _ _ => (trodAll_cons_mk (shut_bool Try.underlying4 _) trodAll_mk0)) (fun sp _ => (trodAll_cons_mk (shut_int Try.underlying2 w0) trodAll_mk0)) (fun _ _ => rfl) rfl
    (hg.frame _) hg.2.1 (ok_one (by kernel_rfl) rfl (okWide_bool_mk Try.underlying4 _))⟩

theorem over : Rows.fnDurationInRow.holds Try.pinned (OpenSpec.ofChange Rows.fnDurationInSpec) :=
  OpenClaim.holds_of_wide 3 Try.f3 rfl rfl rfl rfl rfl rfl rfl ⟨rfl, rfl, rfl, rfl, rfl⟩ rfl rfl rfl rfl rfl (by kernel_rfl) Try.func3 (by kernel_rfl)
    (of_decide_eq_true (by kernel_rfl)) (by unfold Func.isWrapper; first | (rw [if_pos (by decide +kernel)]; kernel_rfl) | (rw [if_neg (by decide +kernel)]; exact ⟨rfl, rfl⟩))
    (fun os started H enc _ => lifted os started H enc)

/-- ████ THE STATEMENT ████ -/
theorem proved : Rows.FnDurationInSaid :=
  over
#print axioms proved
end Go.Proofs.Ytbfellfegdapdaa.fnDurationIn
