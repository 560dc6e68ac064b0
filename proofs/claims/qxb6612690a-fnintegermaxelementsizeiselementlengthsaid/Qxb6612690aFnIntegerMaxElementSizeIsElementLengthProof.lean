/-
  A proof of 'Rows.FnIntegerMaxElementSizeIsElementLengthSaid' (frame: the kit's skeleton tool; the frame's end in the form for slices, by 'Below').
-/
import Derived.Test.Qxb6612690aRows
import Derived.WalkKit
import Derived.ProofKit
import Derived.OpenShut
import Derived.ShutString
import Derived.ChangeOld
import Derived.Below
import Derived.Test.Qxb6612690aInt
namespace Go.Proofs.Qxb6612690a.fnIntegerMaxElementSizeIsElementLength
open Go.ChangeShapes Go.WideShapes Go.ChangeAt Go.RowKit
open Go.ChangeMaps (open_string shut_string)
open Go.Proofs.Qxb6612690a.Int
set_option linter.unusedVariables false      -- a walk need not use every 'w<i>' (that an integer argument fits its kind)

theorem own : ownKnob Try.prog.godebug = none := by kernel_rfl

theorem ret_true {p : Prop} [Decidable p] (h : p) : Ending.returned (.bool (decide p)) = .returned (.bool true) := by rw [decide_eq_true h]

/-! ### THE WALK -/
set_option maxHeartbeats 1000000 in
theorem walk (a0 : Int) (a1 : Int) (a2 : Bool) (a3 : ByteArray) (a4 : Int) (a5 : Int) (w0 : (Lit.int .i64 a0).wf = true) (w3 : a3.size ≤ maxLen) (w : World) :
    Calls Try.prog 3 #[.int .i64 a0, .int .u64 a1, .bool a2, .string a3, .int .i32 a4, .int .i64 a5] w fun e w' => e = .returned (.bool true) ∧ Below w.heap.size w w' := by
  have b0 := bounds_i64 w0
  by_cases hk : a3.size ≤ 1048576
  · cases a2
    all_goals
      go_enter Try.func3, Try.ntmps3
      go_wp2_with (first
        | (go_at_call 9; refine (bytes3 _ _ _ _ _ _ _ w3).mono ?_; rintro e w' ⟨rfl, rfl⟩; rw [decide_eq_true hk])
        | (go_at_call 10; refine (reach_any _ _ _ b0 _).mono ?_; rintro e w' ⟨⟨b, rfl⟩, rfl⟩; cases b)
        | (go_at_call 11; refine (intMax_any _ _ _ _ _ hk).mono ?_; rintro e w1 ⟨rfl, hb1⟩; simp only [width])
        | (go_at_call 12; refine (appendI64_nil _ _ _ hk).mono ?_; rintro e w2 ⟨g, cap, rfl, hb2⟩)
        | (go_at_call 13; refine (appendI32_nil _ _ _ hk).mono ?_; rintro e w2 ⟨g, cap, rfl, hb2⟩))
      all_goals
        go_ret
        first
          | exact ⟨rfl, Below.refl _ _⟩
          | exact ⟨rfl, hb1.trans (hb2.mono hb1.size)⟩
          | exact ⟨ret_true (by omega), hb1.trans (hb2.mono hb1.size)⟩
  · go_enter Try.func3, Try.ntmps3
    go_wp2_with (go_at_call 9; refine (bytes3 _ _ _ _ _ _ _ w3).mono ?_; rintro e w' ⟨rfl, rfl⟩; rw [decide_eq_false hk])
    go_ret
    exact ⟨rfl, Below.refl _ _⟩

/-! ### THE ROW's STEP: WRITTEN OUT: LEAVE IT -/
set_option maxRecDepth 100000 in
theorem lifted (os : Os) (started : os.Started) (H : Type) (enc : TypeId × Value → H) :
    ReturnsInHanded {} Try.checked os 3 .any (Rows.fnIntegerMaxElementSizeIsElementLengthSpec.pre6 enc Try.prog Try.f3 Rows.fnIntegerMaxElementSizeIsElementLengthRow.domain false) (Rows.fnIntegerMaxElementSizeIsElementLengthSpec.post enc Try.prog Try.f3 false true false false) := by
  refine returnsInHanded_of_change (C := Try.checked) own started (by kernel_rfl) Try.func3
    (ChangeSpec.witness6 (enc := enc) (C := Try.checked) false ⟨#[], #[.int .i64 0, .int .u64 0, .bool false, .string ByteArray.empty, .int .i32 0, .int .i64 0], []⟩ 8 (by kernel_rfl) (by kernel_rfl) (by kernel_rfl) (by kernel_rfl)) ?_
  intro W base args ds gs before hval0 hW hcnd _
  have hval : ∀ (j : Nat) t v, Try.f3.params[j]? = some t → args[j]? = some v → Value.okWide Try.prog W .any base t v := hval0
  have hW' := hW
  obtain ⟨p, q, hA0, hV, rfl, hfz, hnd⟩ := hW
  have hA : DataW.TrodAll enc Try.prog W 0 (fun _ => true) true Try.f3.params.toList args.toList ds p := hA0
  rw [Try.params3] at hA hval
  obtain ⟨v0, vs0, d0, ds0, p0, q0, hargs, rfl, rfl, h0, r0⟩ := trodAll_cons hA
  obtain ⟨v1, vs1, d1, ds1, p1, q1, rfl, rfl, rfl, h1, r1⟩ := trodAll_cons r0
  obtain ⟨v2, vs2, d2, ds2, p2, q2, rfl, rfl, rfl, h2, r2⟩ := trodAll_cons r1
  obtain ⟨v3, vs3, d3, ds3, p3, q3, rfl, rfl, rfl, h3, r3⟩ := trodAll_cons r2
  obtain ⟨v4, vs4, d4, ds4, p4, q4, rfl, rfl, rfl, h4, r4⟩ := trodAll_cons r3
  obtain ⟨v5, vs5, d5, ds5, p5, q5, rfl, rfl, rfl, h5, r5⟩ := trodAll_cons r4
  obtain ⟨rfl, rfl, rfl⟩ := trodAll_nil r5
  obtain rfl : args = #[v0, v1, v2, v3, v4, v5] := by cases args; simp_all
  obtain ⟨rfl, rfl⟩ := trodVars_none hV
  obtain ⟨a0, rfl, rfl, rfl, w0⟩ := open_int Try.underlying2 (hval 0 2 v0 rfl rfl) h0
  obtain ⟨a1, rfl, rfl, rfl, w1⟩ := open_int Try.underlying22 (hval 1 22 v1 rfl rfl) h1
  obtain ⟨a2, rfl, rfl, rfl⟩ := open_bool Try.underlying4 (hval 2 4 v2 rfl rfl) h2
  obtain ⟨a3, rfl, rfl, rfl, w3⟩ := open_string Try.underlying9 (hval 3 9 v3 rfl rfl) h3
  obtain ⟨a4, rfl, rfl, rfl, w4⟩ := open_int Try.underlying21 (hval 4 21 v4 rfl rfl) h4
  obtain ⟨a5, rfl, rfl, rfl, w5⟩ := open_int Try.underlying2 (hval 5 2 v5 rfl rfl) h5
  clear hA0 hval0
  refine (walk a0 a1 a2 a3 a4 a5 w0 w3 W).mono fun e W' ⟨he, bel⟩ => ?_
  subst he
  exact ⟨_, rfl, _, _, _, [], _, [], hW', trodAll_mk1 (shut_bool Try.underlying4 _), (trodAll_cons_mk (shut_int Try.underlying2 w0) (trodAll_cons_mk (shut_int Try.underlying22 w1) (trodAll_cons_mk (shut_bool Try.underlying4 _) (trodAll_cons_mk (shut_string Try.underlying9 w3) (trodAll_cons_mk (shut_int Try.underlying21 w4) (trodAll_cons_mk (shut_int Try.underlying2 w5) trodAll_mk0)))))), rfl, bel.frame _, fun h => by cases h⟩

theorem over : Rows.fnIntegerMaxElementSizeIsElementLengthRow.holds Try.pinned (OpenSpec.ofChange Rows.fnIntegerMaxElementSizeIsElementLengthSpec) :=
  OpenClaim.holds_of_wide 3 Try.f3 rfl rfl rfl rfl rfl rfl rfl ⟨rfl, rfl, rfl, rfl, rfl⟩ rfl rfl rfl rfl rfl (by kernel_rfl) Try.func3 (by kernel_rfl)
    (of_decide_eq_true (by kernel_rfl)) (by unfold Func.isWrapper; first | (rw [if_pos (by decide +kernel)]; kernel_rfl) | (rw [if_neg (by decide +kernel)]; exact ⟨rfl, rfl⟩))
    (fun os started H enc _ => lifted os started H enc)

/-- ████ THE STATEMENT ████ -/
theorem proved : Rows.FnIntegerMaxElementSizeIsElementLengthSaid :=
  over
#print axioms proved
end Go.Proofs.Qxb6612690a.fnIntegerMaxElementSizeIsElementLength
