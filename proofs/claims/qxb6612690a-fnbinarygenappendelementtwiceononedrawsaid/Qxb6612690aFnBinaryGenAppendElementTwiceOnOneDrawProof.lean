/-
  A proof of 'Rows.FnBinaryGenAppendElementTwiceOnOneDrawSaid' (frame: the kit's skeleton tool).
-/
import Derived.Test.Qxb6612690aRows
import Derived.WalkKit
import Derived.ProofKit
import Derived.OpenShut
import Derived.ShutString
import Derived.ChangeOld
import Derived.Below
import Derived.Test.Qxb6612690aTwice
namespace Go.Proofs.Qxb6612690a.fnBinaryGenAppendElementTwiceOnOneDraw
open Go.ChangeShapes Go.WideShapes Go.ChangeAt Go.RowKit
open Go.ChangeMaps (open_string shut_string)
set_option linter.unusedVariables false

theorem own : ownKnob Try.prog.godebug = none := by kernel_rfl
theorem laidOut : laidOutB Try.prog = true := by kernel_rfl

/-- WHAT THE WALK IS TOLD OF A SLICE OF INTEGERS THAT CAME IN: it is nil; or it leads to a row of 'cap' cells, the numbers 'zs' (the first 'len' are its elements, the rest its spare room), each fitting its kind. -/
def IsRow (k : IntKind) (w : World) (a : Option Addr) (len cap : Nat) (zs : List Int) : Prop :=
  (a = none ∧ len = 0 ∧ cap = 0 ∧ zs = []) ∨
  ∃ x, a = some x ∧ len ≤ cap ∧ cap ≤ maxLen ∧ zs.length = cap ∧ (∀ i, i < zs.length → w.cell? (x.add i) = some (.int k (zs.getD i 0))) ∧ ∀ n ∈ zs, (Lit.int k n).wf = true

open Go.Proofs.Qxb6612690a.Bin Go.Proofs.Qxb6612690a.Help Go.Proofs.Qxb6612690a.Lay Go.Proofs.Qxb6612690a.Twice

/-- A slice of bytes that came in, as bytes. -/
theorem row_bytes {w : World} {a : Option Addr} {len cap : Nat} {zs : List Int} (h : IsRow .u8 w a len cap zs) : len ≤ maxLen ∧ ∃ bs : List UInt8, bs.length = len ∧ Rd w a bs := by
  rcases h with ⟨rfl, rfl, _, _⟩ | ⟨x, rfl, hl, hm, hz, hc, hw⟩
  · exact ⟨Nat.zero_le _, [], rfl, ⟨fun h => absurd rfl h⟩⟩
  · refine ⟨Nat.le_trans hl hm, (zs.take len).map (fun z => z.toNat.toUInt8), by simp; omega, ⟨fun hne => ?_⟩⟩
    have hpos : 0 < len := by
      rcases Nat.eq_zero_or_pos len with h0 | h0
      · subst h0; simp at hne
      · exact h0
    obtain ⟨b, off, spot⟩ := x
    have hspot : spot = none := by simpa [Addr.add] using World.cell?_spot (hc 0 (by omega))
    subst hspot
    refine ⟨b, off, rfl, fun j u hj => ?_⟩
    unfold Lib.byteCells at hj
    rw [List.getElem?_map, List.getElem?_map] at hj
    by_cases hjl : j < len
    · rw [List.getElem?_take, if_pos hjl, List.getElem?_eq_getElem (by omega)] at hj
      simp only [Option.map_some, Option.some.injEq] at hj
      have hwj := hw zs[j] (List.getElem_mem _)
      have hb := bounds_u8 hwj
      have hcj := hc j (by omega)
      rw [add_plain] at hcj
      rw [hcj, ← hj]
      have e : zs.getD j 0 = zs[j]'(by omega) := by simp [show j < zs.length from by omega]
      rw [e]
      congr 2
      have := Lib.toUInt8_mod (zs[j]'(by omega)).toNat
      rw [Nat.mod_eq_of_lt (by omega)] at this
      rw [this]
      omega
    · rw [List.getElem?_take, if_neg hjl] at hj
      cases hj

/-! ### THE WALK -/
set_option maxHeartbeats 2000000 in
set_option maxRecDepth 10000 in
theorem walk (a0 : Int) (a1 : Int) (a2 : Option Addr) (len2 cap2 : Nat) (z2 : List Int) (a3 : ByteArray) (a4 : ByteArray) (a5 : Int) (a6 : Int) (a7 : Option Addr) (len7 cap7 : Nat) (z7 : List Int) (w : World) (w0 : (Lit.int .i64 a0).wf = true) (w1 : (Lit.int .i64 a1).wf = true) (w2 : IsRow .u8 w a2 len2 cap2 z2) (w3 : a3.size ≤ maxLen) (w4 : a4.size ≤ maxLen) (w5 : (Lit.int .u64 a5).wf = true) (w6 : (Lit.int .u64 a6).wf = true) (w7 : IsRow .u8 w a7 len7 cap7 z7) :
    Calls Try.prog 8 #[.int .i64 a0, .int .i64 a1, .slice a2 len2 cap2, .string a3, .string a4, .int .u64 a5, .int .u64 a6, .slice a7 len7 cap7] w fun e w' => e = .returned (.bool true) ∧ Below w.heap.size w w' := by
  have b0 := bounds_i64 w0
  have b1 := bounds_i64 w1
  have b5 := bounds_u64 w5
  have b6 := bounds_u64 w6
  obtain ⟨l2, D, hD, rD⟩ := row_bytes w2
  obtain ⟨l7, Bf, hBf, rB⟩ := row_bytes w7
  by_cases hs : len2 + a3.size + a4.size + len7 ≤ 1048576
  · by_cases hr : 0 ≤ a0 ∧ a0 ≤ a1 ∧ a1 ≤ 65536
    · obtain ⟨lo, rfl⟩ := Int.eq_ofNat_of_zero_le hr.1
      obtain ⟨hi, rfl⟩ := Int.eq_ofNat_of_zero_le (show 0 ≤ a1 by omega)
      obtain ⟨s1, rfl⟩ := Int.eq_ofNat_of_zero_le (show 0 ≤ a5 by omega)
      obtain ⟨s2, rfl⟩ := Int.eq_ofNat_of_zero_le (show 0 ≤ a6 by omega)
      exact twice_good lo hi s1 s2 a2 a7 len2 cap2 len7 cap7 D Bf a3 a4 w (by omega) (by omega) hD hBf rD rB hs (by omega) (by omega)
    · have HD : Hid (D.length = len2) := hD
      have HB : Hid (Bf.length = len7) := hBf
      clear hD hBf w2 w7
      go_enter Try.func8, Try.ntmps8
      go_wp2_with fail
      refine (bytes26 a0 a1 a5 a6 a2 a7 len2 cap2 len7 cap7 a3 a4 w l2 w3 w4 l7).mono ?_
      rintro e w0 ⟨rfl, rfl⟩
      rw [decide_eq_true hs]
      go_wp2_with fail
      all_goals
        go_ret
        exact ⟨rfl, Below.refl _ _⟩
  · have HD : Hid (D.length = len2) := hD
    have HB : Hid (Bf.length = len7) := hBf
    clear hD hBf w2 w7
    go_enter Try.func8, Try.ntmps8
    go_wp2_with fail
    refine (bytes26 a0 a1 a5 a6 a2 a7 len2 cap2 len7 cap7 a3 a4 w l2 w3 w4 l7).mono ?_
    rintro e w0 ⟨rfl, rfl⟩
    rw [decide_eq_false hs]
    go_wp2_with fail
    go_ret
    exact ⟨rfl, Below.refl _ _⟩

/-! ### THE ROW's STEP: WRITTEN OUT: LEAVE IT -/
set_option maxRecDepth 100000 in
theorem lifted (os : Os) (started : os.Started) (H : Type) (enc : TypeId × Value → H) :
    ReturnsInHanded {} Try.checked os 8 .any (Rows.fnBinaryGenAppendElementTwiceOnOneDrawSpec.pre6 enc Try.prog Try.f8 Rows.fnBinaryGenAppendElementTwiceOnOneDrawRow.domain false) (Rows.fnBinaryGenAppendElementTwiceOnOneDrawSpec.post enc Try.prog Try.f8 false true false false) := by
  refine returnsInHanded_of_change (C := Try.checked) own started (by kernel_rfl) Try.func8
    (ChangeSpec.witness6 (enc := enc) (C := Try.checked) false ⟨#[], #[.int .i64 0, .int .i64 0, .slice none 0 0, .string ByteArray.empty, .string ByteArray.empty, .int .u64 0, .int .u64 0, .slice none 0 0], []⟩ 8 (by kernel_rfl) (by kernel_rfl) (by kernel_rfl) (by kernel_rfl)) ?_
  intro W base args ds gs before hval0 hW hcnd _
  have hval : ∀ (j : Nat) t v, Try.f8.params[j]? = some t → args[j]? = some v → Value.okWide Try.prog W .any base t v := hval0
  have hW' := hW
  obtain ⟨p, q, hA0, hV, rfl, hfz, hnd⟩ := hW
  have hA : DataW.TrodAll enc Try.prog W 0 (fun _ => true) true Try.f8.params.toList args.toList ds p := hA0
  rw [Try.params8] at hA hval
  obtain ⟨v0, vs0, d0, ds0, p0, q0, hargs, rfl, rfl, h0, r0⟩ := trodAll_cons hA
  obtain ⟨v1, vs1, d1, ds1, p1, q1, rfl, rfl, rfl, h1, r1⟩ := trodAll_cons r0
  obtain ⟨v2, vs2, d2, ds2, p2, q2, rfl, rfl, rfl, h2, r2⟩ := trodAll_cons r1
  obtain ⟨v3, vs3, d3, ds3, p3, q3, rfl, rfl, rfl, h3, r3⟩ := trodAll_cons r2
  obtain ⟨v4, vs4, d4, ds4, p4, q4, rfl, rfl, rfl, h4, r4⟩ := trodAll_cons r3
  obtain ⟨v5, vs5, d5, ds5, p5, q5, rfl, rfl, rfl, h5, r5⟩ := trodAll_cons r4
  obtain ⟨v6, vs6, d6, ds6, p6, q6, rfl, rfl, rfl, h6, r6⟩ := trodAll_cons r5
  obtain ⟨v7, vs7, d7, ds7, p7, q7, rfl, rfl, rfl, h7, r7⟩ := trodAll_cons r6
  obtain ⟨rfl, rfl, rfl⟩ := trodAll_nil r7
  obtain rfl : args = #[v0, v1, v2, v3, v4, v5, v6, v7] := by cases args; simp_all
  obtain ⟨rfl, rfl⟩ := trodVars_none hV
  obtain ⟨a0, rfl, rfl, rfl, w0⟩ := open_int Try.underlying3 (hval 0 3 v0 rfl rfl) h0
  obtain ⟨a1, rfl, rfl, rfl, w1⟩ := open_int Try.underlying3 (hval 1 3 v1 rfl rfl) h1
  obtain ⟨a2, len2, cap2, rfl⟩ := okWide_slice Try.underlying26 (hval 2 26 v2 rfl rfl)
  have k2 := h2
  have lt2 : ∀ x ∈ p2, x.block < W.heap.size := by obtain ⟨m, hm⟩ := k2; exact DataW.trod_lt m _ _ _ hm
  obtain ⟨z2, w2⟩ : ∃ zs, IsRow .u8 W a2 len2 cap2 zs := by
    obtain ⟨fuel, hf⟩ := h2
    rcases open_ints Try.underlying26 Try.underlying5 (by kernel_rfl) hf with ⟨hcs, _⟩ | ⟨x, l, c, zs, hcs, _, hl, hm, hz, _, hcell, hwz⟩
    · simp [Value.cells] at hcs
      obtain ⟨rfl, rfl, rfl⟩ := hcs
      exact ⟨[], .inl ⟨rfl, rfl, rfl, rfl⟩⟩
    · simp [Value.cells] at hcs
      obtain ⟨rfl, rfl, rfl⟩ := hcs
      exact ⟨zs, .inr ⟨_, rfl, hl, hm, by simpa using hz, hcell, hwz⟩⟩
  obtain ⟨a3, rfl, rfl, rfl, w3⟩ := open_string Try.underlying9 (hval 3 9 v3 rfl rfl) h3
  obtain ⟨a4, rfl, rfl, rfl, w4⟩ := open_string Try.underlying9 (hval 4 9 v4 rfl rfl) h4
  obtain ⟨a5, rfl, rfl, rfl, w5⟩ := open_int Try.underlying22 (hval 5 22 v5 rfl rfl) h5
  obtain ⟨a6, rfl, rfl, rfl, w6⟩ := open_int Try.underlying22 (hval 6 22 v6 rfl rfl) h6
  obtain ⟨a7, len7, cap7, rfl⟩ := okWide_slice Try.underlying26 (hval 7 26 v7 rfl rfl)
  have k7 := h7
  have lt7 : ∀ x ∈ p7, x.block < W.heap.size := by obtain ⟨m, hm⟩ := k7; exact DataW.trod_lt m _ _ _ hm
  obtain ⟨z7, w7⟩ : ∃ zs, IsRow .u8 W a7 len7 cap7 zs := by
    obtain ⟨fuel, hf⟩ := h7
    rcases open_ints Try.underlying26 Try.underlying5 (by kernel_rfl) hf with ⟨hcs, _⟩ | ⟨x, l, c, zs, hcs, _, hl, hm, hz, _, hcell, hwz⟩
    · simp [Value.cells] at hcs
      obtain ⟨rfl, rfl, rfl⟩ := hcs
      exact ⟨[], .inl ⟨rfl, rfl, rfl, rfl⟩⟩
    · simp [Value.cells] at hcs
      obtain ⟨rfl, rfl, rfl⟩ := hcs
      exact ⟨zs, .inr ⟨_, rfl, hl, hm, by simpa using hz, hcell, hwz⟩⟩
  clear hA0 hval0
  refine (walk a0 a1 a2 len2 cap2 z2 a3 a4 a5 a6 a7 len7 cap7 z7 W w0 w1 w2 w3 w4 w5 w6 w7).mono fun e W' ⟨he, bel⟩ => ?_
  subst he
  exact ⟨_, rfl, _, _, _, [], _, [], hW', trodAll_mk1 (shut_bool Try.underlying4 _), (trodAll_cons_mk (shut_int Try.underlying3 w0) (trodAll_cons_mk (shut_int Try.underlying3 w1) (trodAll_cons_mk (Below.trod laidOut (by kernel_rfl) (of_decide_eq_true (by kernel_rfl)) k2 bel lt2) (trodAll_cons_mk (shut_string Try.underlying9 w3) (trodAll_cons_mk (shut_string Try.underlying9 w4) (trodAll_cons_mk (shut_int Try.underlying22 w5) (trodAll_cons_mk (shut_int Try.underlying22 w6) (trodAll_cons_mk (Below.trod laidOut (by kernel_rfl) (of_decide_eq_true (by kernel_rfl)) k7 bel lt7) trodAll_mk0)))))))), rfl, bel.frame _, fun h => by cases h⟩

theorem over : Rows.fnBinaryGenAppendElementTwiceOnOneDrawRow.holds Try.pinned (OpenSpec.ofChange Rows.fnBinaryGenAppendElementTwiceOnOneDrawSpec) :=
  OpenClaim.holds_of_wide 8 Try.f8 rfl rfl rfl rfl rfl rfl rfl ⟨rfl, rfl, rfl, rfl, rfl⟩ rfl rfl rfl rfl rfl (by kernel_rfl) Try.func8 (by kernel_rfl)
    (of_decide_eq_true (by kernel_rfl)) (by unfold Func.isWrapper; first | (rw [if_pos (by decide +kernel)]; kernel_rfl) | (rw [if_neg (by decide +kernel)]; exact ⟨rfl, rfl⟩))
    (fun os started H enc _ => lifted os started H enc)

/-- ████ THE STATEMENT ████ -/
theorem proved : Rows.FnBinaryGenAppendElementTwiceOnOneDrawSaid := over
#print axioms proved
end Go.Proofs.Qxb6612690a.fnBinaryGenAppendElementTwiceOnOneDraw
