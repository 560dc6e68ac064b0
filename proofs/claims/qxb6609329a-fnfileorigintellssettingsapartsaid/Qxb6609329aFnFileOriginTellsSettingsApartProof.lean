/-
  THE PROOF of Rows.FnFileOriginTellsSettingsApartSaid, laid on the shell that the kit printed for it.
-/
import Derived.Test.Qxb6609329aRows
import Derived.WalkKit
import Derived.ProofKit
import Derived.OpenShut
import Derived.ShutString
namespace Go.Proofs.Qxb6609329a.fnFileOriginTellsSettingsApart
open Go.ChangeShapes Go.WideShapes Go.ChangeAt Go.RowKit
open Go.ChangeMaps (open_string shut_string)
set_option linter.unusedVariables false      -- a walk need not use every 'w<i>' (that an integer argument fits its kind)

theorem own : ownKnob Try.prog.godebug = none := by kernel_rfl

/-! ### STEP 1: THE WALK. -/

/-- 'fileOrigin': one new block; the struct of the path and of the line cut to 32 bits. -/
theorem origin17 (a : ByteArray) (l : Int) (w : World) :
    Calls Try.prog 17 #[.string a, .int .i64 l] w fun e w' => e = .returned (.agg #[.string a, .int .i32 (wrap32 l), .int .i32 0]) ∧ w' = w.alloc (.cells #[.string a, .int .i32 (wrap32 l), .int .i32 0] 24) := by
  go_enter Try.func17, Try.ntmps17
  go_wp2
  refine bodyPost_ret (v := .agg #[.string a, .int .i32 (wrap32 l), .int .i32 0]) (by simp [results, Try.results17, go_sem]) rfl ⟨rfl, ?_⟩
  rfl

/-- 'ZZfileOrigin' hands it on. -/
theorem origin7 (a : ByteArray) (l : Int) (w : World) :
    Calls Try.prog 7 #[.string a, .int .i64 l] w fun e w' => e = .returned (.agg #[.string a, .int .i32 (wrap32 l), .int .i32 0]) ∧ w' = (w.alloc (.cells #[.string a, .int .i32 (wrap32 l), .int .i32 0] 24)).alloc (.cells #[.string a, .int .i32 (wrap32 l), .int .i32 0] 24) := by
  go_enter Try.func7, Try.ntmps7
  go_wp2_with fail
  refine (origin17 _ _ _).mono ?_
  rintro e w1 ⟨rfl, rfl⟩
  go_wp2
  refine bodyPost_ret (v := .agg #[.string a, .int .i32 (wrap32 l), .int .i32 0]) (by simp [results, Try.results7, go_sem]) rfl ⟨rfl, ?_⟩
  rfl

def SomeBool (e : Ending) : Prop := ∃ b : Bool, e = .returned (.bool b)

/-- The bound on the total length: it answers, and turns nothing. -/
theorem bytes6 (a : ByteArray) (l : Int) (a' : ByteArray) (l' : Int) (h : a.size ≤ maxLen) (h' : a'.size ≤ maxLen) (w : World) :
    Calls Try.prog 6 #[.string a, .int .i64 l, .string a', .int .i64 l'] w fun e w' => SomeBool e ∧ w = w' := by
  go_enter Try.func6, Try.ntmps6
  go_wp2
  all_goals (go_ret; exact ⟨⟨_, rfl⟩, rfl⟩)

theorem wrap_in {l : Int} (h : -2147483648 ≤ l) (h' : l ≤ 2147483647) : wrap32 l = l := by
  unfold wrap32
  omega

theorem ret_bool {a b : Bool} (h : a = b) : Ending.returned (.bool a) = .returned (.bool b) := by rw [h]

theorem walk (a0 : ByteArray) (a1 : Int) (a2 : ByteArray) (a3 : Int) (w0 : a0.size ≤ maxLen) (w1 : (Lit.int .i64 a1).wf = true) (w2 : a2.size ≤ maxLen) (w3 : (Lit.int .i64 a3).wf = true) (w : World) :
    Calls Try.prog 3 #[.string a0, .int .i64 a1, .string a2, .int .i64 a3] w fun e w' => e = .returned (.bool true) ∧ Grown w w' := by
  go_enter Try.func3, Try.ntmps3
  go_wp2_with fail
  refine (bytes6 _ _ _ _ w0 w2 _).mono ?_
  rintro e w1 ⟨⟨b, rfl⟩, rfl⟩
  cases b
  · go_wp2
    go_ret
    exact ⟨rfl, Grown.refl _⟩
  · go_wp2_with fail
    all_goals try (go_ret; exact ⟨rfl, Grown.refl _⟩)
    all_goals (refine (origin7 _ _ _).mono ?_; rintro e wa ⟨rfl, rfl⟩)
    all_goals go_wp2_with fail
    all_goals (refine (origin7 _ _ _).mono ?_; rintro e wb ⟨rfl, rfl⟩)
    all_goals rw [wrap_in (by omega) (by omega), wrap_in (by omega) (by omega)]
    all_goals go_wp2
    all_goals go_ret
    all_goals exact ⟨ret_bool (by simp_all), ((((Grown.refl _).alloc _ _).alloc _ _).alloc _ _).alloc _ _⟩

/-! ### THE ROW's STEP: WRITTEN OUT: LEAVE IT -/
set_option maxRecDepth 100000 in
theorem lifted (os : Os) (started : os.Started) (H : Type) (enc : TypeId × Value → H) :
    ReturnsInHanded {} Try.checked os 3 .any (Rows.fnFileOriginTellsSettingsApartSpec.pre6 enc Try.prog Try.f3 Rows.fnFileOriginTellsSettingsApartRow.domain false) (Rows.fnFileOriginTellsSettingsApartSpec.post enc Try.prog Try.f3 false true false false) := by
  refine returnsInHanded_of_change (C := Try.checked) own started (by kernel_rfl) Try.func3
    (ChangeSpec.witness6 (enc := enc) (C := Try.checked) false ⟨#[], #[.string ByteArray.empty, .int .i64 0, .string ByteArray.empty, .int .i64 0], []⟩ 8 (by kernel_rfl) (by kernel_rfl) (by kernel_rfl) (by kernel_rfl)) ?_
  intro W base args ds gs before hval0 hW hcnd _
  have hval : ∀ (j : Nat) t v, Try.f3.params[j]? = some t → args[j]? = some v → Value.okWide Try.prog W .any base t v := hval0
  have hW' := hW
  obtain ⟨p, q, hA0, hV, rfl, hfz, hnd⟩ := hW
  have hA : DataW.TrodAll enc Try.prog W 0 (fun _ => true) true Try.f3.params.toList args.toList ds p := hA0
  rw [Try.params3] at hA hval
  obtain ⟨v0, vs0, d0, ds0, p0, q0, hargs, rfl, rfl, h0, r0⟩ := trodAll_cons hA
  obtain ⟨v1, vs1, d1, ds1, p1, q1, rfl, rfl, rfl, h1, r1⟩ := trodAll_cons r0
  obtain ⟨v2, vs2, d2, ds2, p2, q2, rfl, rfl, rfl, h2, r2⟩ := trodAll_cons r1
  obtain ⟨v3, vs3, d3, ds3, p3, q3, rfl, rfl, rfl, h3, r3⟩ := trodAll_cons r2
  obtain ⟨rfl, rfl, rfl⟩ := trodAll_nil r3
  obtain rfl : args = #[v0, v1, v2, v3] := by cases args; simp_all
  obtain ⟨rfl, rfl⟩ := trodVars_none hV
  obtain ⟨a0, rfl, rfl, rfl, w0⟩ := open_string Try.underlying9 (hval 0 9 v0 rfl rfl) h0
  obtain ⟨a1, rfl, rfl, rfl, w1⟩ := open_int Try.underlying3 (hval 1 3 v1 rfl rfl) h1
  obtain ⟨a2, rfl, rfl, rfl, w2⟩ := open_string Try.underlying9 (hval 2 9 v2 rfl rfl) h2
  obtain ⟨a3, rfl, rfl, rfl, w3⟩ := open_int Try.underlying3 (hval 3 3 v3 rfl rfl) h3
  clear hA0 hval0
  simp only [List.append_nil] at hW'
  refine (walk a0 a1 a2 a3 w0 w1 w2 w3 W).mono fun e W' ⟨he, hg⟩ => ?_
  subst he
  exact ⟨_, rfl, post_of_same (pa := []) (pv := []) hW' (fun _ _ _ => (trodAll_cons_mk (shut_bool Try.underlying4 _) trodAll_mk0)) (fun sp _ => (trodAll_cons_mk (shut_string Try.underlying9 w0) (trodAll_cons_mk (shut_int Try.underlying3 w1) (trodAll_cons_mk (shut_string Try.underlying9 w2) (trodAll_cons_mk (shut_int Try.underlying3 w3) trodAll_mk0))))) (fun _ _ => rfl) rfl
    (hg.frame _) hg.2.1 (ok_one (by kernel_rfl) rfl (okWide_bool_mk Try.underlying4 _))⟩

theorem over : Rows.fnFileOriginTellsSettingsApartRow.holds Try.pinned (OpenSpec.ofChange Rows.fnFileOriginTellsSettingsApartSpec) :=
  OpenClaim.holds_of_wide 3 Try.f3 rfl rfl rfl rfl rfl rfl rfl ⟨rfl, rfl, rfl, rfl, rfl⟩ rfl rfl rfl rfl rfl (by kernel_rfl) Try.func3 (by kernel_rfl)
    (of_decide_eq_true (by kernel_rfl)) (by unfold Func.isWrapper; first | (rw [if_pos (by decide +kernel)]; kernel_rfl) | (rw [if_neg (by decide +kernel)]; exact ⟨rfl, rfl⟩))
    (fun os started H enc _ => lifted os started H enc)

/-- ████ THE STATEMENT ████ -/
theorem proved : Rows.FnFileOriginTellsSettingsApartSaid :=
  over
#print axioms proved
end Go.Proofs.Qxb6609329a.fnFileOriginTellsSettingsApart
