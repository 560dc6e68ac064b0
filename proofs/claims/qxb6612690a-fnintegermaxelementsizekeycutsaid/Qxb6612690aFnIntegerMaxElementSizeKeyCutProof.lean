/-
  A proof of 'Rows.FnIntegerMaxElementSizeKeyCutSaid' (frame: the kit's skeleton tool; the frame's end in the form for slices, by 'Below').
-/
import Derived.Test.Qxb6612690aRows
import Derived.WalkKit
import Derived.ProofKit
import Derived.OpenShut
import Derived.ShutString
import Derived.ChangeOld
import Derived.Below
import Derived.Test.Qxb6612690aInt
namespace Go.Proofs.Qxb6612690a.fnIntegerMaxElementSizeKeyCut
open Go.ChangeShapes Go.WideShapes Go.ChangeAt Go.RowKit
open Go.ChangeMaps (open_string shut_string)
open Go.Proofs.Qxb6612690a.Int
set_option linter.unusedVariables false      -- a walk need not use every 'w<i>' (that an integer argument fits its kind)

theorem own : ownKnob Try.prog.godebug = none := by kernel_rfl

theorem ret_true {p : Prop} [Decidable p] (h : p) : Ending.returned (.bool (decide p)) = .returned (.bool true) := by rw [decide_eq_true h]

/-- zzBytes_..: it computes a bool, nothing else -/
theorem bytes4 (lo span : Int) (long : Bool) (a b : ByteArray) (w : World) (ha : a.size ≤ maxLen) (hb : b.size ≤ maxLen) :
    Calls Try.prog 14 #[.int .i64 lo, .int .u64 span, .bool long, .string a, .string b] w fun e w' => e = .returned (.bool (decide (a.size + b.size ≤ 1048576))) ∧ w' = w := by
  unfold maxLen at ha hb
  by_cases h : a.size + b.size ≤ 1048576
  · rw [decide_eq_true h]
    have h1 : a.size ≤ 1048576 := by omega
    have h2 : b.size ≤ 1048576 := by omega
    go_enter Try.func14, Try.ntmps14
    go_wp2
    go_ret
    exact ⟨rfl, rfl⟩
  · rw [decide_eq_false h]
    go_enter Try.func14, Try.ntmps14
    go_wp2
    all_goals
      go_ret
      exact ⟨rfl, rfl⟩

theorem elemSize_any (key : ByteArray) (n : Int) (w : World) (hk : key.size ≤ 1048576) (hn : 0 ≤ n ∧ n ≤ 8) :
    Calls Try.prog 15 #[.string key, .int .i64 n] w fun e w' => e = .returned (.int .i64 (1 + key.size + 1 + n)) ∧ w = w' := by
  go_enter Try.func15, Try.ntmps15
  go_wp2
  go_ret
  exact ⟨rfl, rfl⟩

/-! ### THE WALK -/
set_option maxHeartbeats 1000000 in
theorem walk (a0 : Int) (a1 : Int) (a2 : Bool) (a3 : ByteArray) (a4 : ByteArray) (w0 : (Lit.int .i64 a0).wf = true) (w3 : a3.size ≤ maxLen) (w4 : a4.size ≤ maxLen) (w : World) :
    Calls Try.prog 4 #[.int .i64 a0, .int .u64 a1, .bool a2, .string a3, .string a4] w fun e w' => e = .returned (.bool true) ∧ Below w.heap.size w w' := by
  have b0 := bounds_i64 w0
  by_cases hk : a3.size + a4.size ≤ 1048576
  · have h1 : a3.size ≤ 1048576 := by omega
    have h2 : a4.size ≤ 1048576 := by omega
    have h3 : (a3 ++ a4).size ≤ 1048576 := by rw [ByteArray.size_append]; exact hk
    cases a2
    all_goals
      go_enter Try.func4, Try.ntmps4
      go_wp2_with (first
        | (go_at_call 14; refine (bytes4 _ _ _ _ _ _ w3 w4).mono ?_; rintro e w' ⟨rfl, rfl⟩; rw [decide_eq_true hk])
        | (go_at_call 10; refine (reach_any _ _ _ b0 _).mono ?_; rintro e w' ⟨⟨b, rfl⟩, rfl⟩; cases b)
        | fail)
      · go_ret
        exact ⟨rfl, Below.refl _ _⟩
      · refine (intMax_any _ _ _ _ _ h3).mono ?_
        rintro e w1 ⟨rfl, hb1⟩
        clear h3
        simp only [width, ByteArray.size_append]
        go_wp2_with fail
        refine (intMax_any _ _ _ _ _ h1).mono ?_
        rintro e w2 ⟨rfl, hb2⟩
        simp only [width]
        go_wp2_with fail
        refine (elemSize_any _ _ _ h1 (by decide)).mono ?_
        rintro e w3 ⟨rfl, rfl⟩
        go_wp2
        all_goals
          go_ret
          first
            | exact ⟨rfl, hb1.trans (hb2.mono hb1.size)⟩
            | exact ⟨ret_true (by omega), hb1.trans (hb2.mono hb1.size)⟩
  · go_enter Try.func4, Try.ntmps4
    go_wp2_with (go_at_call 14; refine (bytes4 _ _ _ _ _ _ w3 w4).mono ?_; rintro e w' ⟨rfl, rfl⟩; rw [decide_eq_false hk])
    go_ret
    exact ⟨rfl, Below.refl _ _⟩

/-! ### THE ROW's STEP: WRITTEN OUT: LEAVE IT -/
set_option maxRecDepth 100000 in
theorem lifted (os : Os) (started : os.Started) (H : Type) (enc : TypeId × Value → H) :
    ReturnsInHanded {} Try.checked os 4 .any (Rows.fnIntegerMaxElementSizeKeyCutSpec.pre6 enc Try.prog Try.f4 Rows.fnIntegerMaxElementSizeKeyCutRow.domain false) (Rows.fnIntegerMaxElementSizeKeyCutSpec.post enc Try.prog Try.f4 false true false false) := by
  refine returnsInHanded_of_change (C := Try.checked) own started (by kernel_rfl) Try.func4
    (ChangeSpec.witness6 (enc := enc) (C := Try.checked) false ⟨#[], #[.int .i64 0, .int .u64 0, .bool false, .string ByteArray.empty, .string ByteArray.empty], []⟩ 8 (by kernel_rfl) (by kernel_rfl) (by kernel_rfl) (by kernel_rfl)) ?_
  intro W base args ds gs before hval0 hW hcnd _
  have hval : ∀ (j : Nat) t v, Try.f4.params[j]? = some t → args[j]? = some v → Value.okWide Try.prog W .any base t v := hval0
  have hW' := hW
  obtain ⟨p, q, hA0, hV, rfl, hfz, hnd⟩ := hW
  have hA : DataW.TrodAll enc Try.prog W 0 (fun _ => true) true Try.f4.params.toList args.toList ds p := hA0
  rw [Try.params4] at hA hval
  obtain ⟨v0, vs0, d0, ds0, p0, q0, hargs, rfl, rfl, h0, r0⟩ := trodAll_cons hA
  obtain ⟨v1, vs1, d1, ds1, p1, q1, rfl, rfl, rfl, h1, r1⟩ := trodAll_cons r0
  obtain ⟨v2, vs2, d2, ds2, p2, q2, rfl, rfl, rfl, h2, r2⟩ := trodAll_cons r1
  obtain ⟨v3, vs3, d3, ds3, p3, q3, rfl, rfl, rfl, h3, r3⟩ := trodAll_cons r2
  obtain ⟨v4, vs4, d4, ds4, p4, q4, rfl, rfl, rfl, h4, r4⟩ := trodAll_cons r3
  obtain ⟨rfl, rfl, rfl⟩ := trodAll_nil r4
  obtain rfl : args = #[v0, v1, v2, v3, v4] := by cases args; simp_all
  obtain ⟨rfl, rfl⟩ := trodVars_none hV
  obtain ⟨a0, rfl, rfl, rfl, w0⟩ := open_int Try.underlying2 (hval 0 2 v0 rfl rfl) h0
  obtain ⟨a1, rfl, rfl, rfl, w1⟩ := open_int Try.underlying22 (hval 1 22 v1 rfl rfl) h1
  obtain ⟨a2, rfl, rfl, rfl⟩ := open_bool Try.underlying4 (hval 2 4 v2 rfl rfl) h2
  obtain ⟨a3, rfl, rfl, rfl, w3⟩ := open_string Try.underlying9 (hval 3 9 v3 rfl rfl) h3
  obtain ⟨a4, rfl, rfl, rfl, w4⟩ := open_string Try.underlying9 (hval 4 9 v4 rfl rfl) h4
  clear hA0 hval0
  refine (walk a0 a1 a2 a3 a4 w0 w3 w4 W).mono fun e W' ⟨he, bel⟩ => ?_
  subst he
  exact ⟨_, rfl, _, _, _, [], _, [], hW', trodAll_mk1 (shut_bool Try.underlying4 _), (trodAll_cons_mk (shut_int Try.underlying2 w0) (trodAll_cons_mk (shut_int Try.underlying22 w1) (trodAll_cons_mk (shut_bool Try.underlying4 _) (trodAll_cons_mk (shut_string Try.underlying9 w3) (trodAll_cons_mk (shut_string Try.underlying9 w4) trodAll_mk0))))), rfl, bel.frame _, fun h => by cases h⟩

theorem over : Rows.fnIntegerMaxElementSizeKeyCutRow.holds Try.pinned (OpenSpec.ofChange Rows.fnIntegerMaxElementSizeKeyCutSpec) :=
  OpenClaim.holds_of_wide 4 Try.f4 rfl rfl rfl rfl rfl rfl rfl ⟨rfl, rfl, rfl, rfl, rfl⟩ rfl rfl rfl rfl rfl (by kernel_rfl) Try.func4 (by kernel_rfl)
    (of_decide_eq_true (by kernel_rfl)) (by unfold Func.isWrapper; first | (rw [if_pos (by decide +kernel)]; kernel_rfl) | (rw [if_neg (by decide +kernel)]; exact ⟨rfl, rfl⟩))
    (fun os started H enc _ => lifted os started H enc)

/-- ████ THE STATEMENT ████ -/
theorem proved : Rows.FnIntegerMaxElementSizeKeyCutSaid :=
  over
#print axioms proved
end Go.Proofs.Qxb6612690a.fnIntegerMaxElementSizeKeyCut
