import Derived.Test.Qxb6612690aApp
import Derived.Below
namespace Go.Proofs.Qxb6612690a.Int
open Go.RowKit Go.Lib Go.Proofs.Qxb6612690a.App

theorem Put.below {w w' : World} {o : Option Nat} (h : Put w w' none o) : Below w.heap.size w w' :=
  ⟨h.grow.os, h.grow.tape, h.grow.output, h.grow.size, fun k hk => h.grow.block k hk (by simp)⟩

theorem u64_nat (v : Int) : ∃ u : Nat, IntKind.u64.wrap v = (u : Int) ∧ u < 18446744073709551616 := by
  have : IntKind.u64.wrap v = v % 18446744073709551616 := by simp [IntKind.wrap, IntKind.bits, IntKind.signed]
  exact ⟨(v % 18446744073709551616).toNat, by rw [this]; omega, by omega⟩

theorem u32_nat (v : Int) : ∃ u : Nat, v % 4294967296 = (u : Int) ∧ u < 4294967296 :=
  ⟨(v % 4294967296).toNat, by omega, by omega⟩

-- bson.AppendInt64 onto nil
set_option maxHeartbeats 1000000 in
theorem appendI64_nil (key : ByteArray) (v : Int) (w : World) (hlim : key.size ≤ 1048576) :
    Calls Try.prog 12 #[.slice none 0 0, .string key, .int .i64 v] w fun e w' => ∃ g cap, e = .returned (.slice (some ⟨g, 0, none⟩) (1 + key.size + 1 + 8) cap) ∧ Below w.heap.size w w' := by
  go_enter Try.func12, Try.ntmps12
  go_wp2_with fail
  refine (appendKey_own w.heap.size 0 18 key _ [] w (World.ownsRow_nil w _ 5 1) (Nat.le_refl _) (by omega)).mono ?_
  rintro e w1 ⟨g, cap, rfl, hown, hput, hlt⟩
  simp only [Nat.zero_add] at hown
  go_wp2_with fail
  obtain ⟨u, hu, hu2⟩ := u64_nat v
  rw [hu]
  refine (appendU64_own w.heap.size _ u hu2 _ _ w1 hown hput.grow.size (by omega)).mono ?_
  rintro e w2 ⟨g2, cap2, rfl, hown2, hput2, hlt2⟩
  clear hu
  go_wp2
  go_ret
  exact ⟨g2, cap2, rfl, Put.below (hput.trans hput2)⟩

-- bson.AppendInt32 onto nil
set_option maxHeartbeats 1000000 in
theorem appendI32_nil (key : ByteArray) (v : Int) (w : World) (hlim : key.size ≤ 1048576) :
    Calls Try.prog 13 #[.slice none 0 0, .string key, .int .i32 v] w fun e w' => ∃ g cap, e = .returned (.slice (some ⟨g, 0, none⟩) (1 + key.size + 1 + 4) cap) ∧ Below w.heap.size w w' := by
  go_enter Try.func13, Try.ntmps13
  go_wp2_with fail
  refine (appendKey_own w.heap.size 0 16 key _ [] w (World.ownsRow_nil w _ 5 1) (Nat.le_refl _) (by omega)).mono ?_
  rintro e w1 ⟨g, cap, rfl, hown, hput, hlt⟩
  simp only [Nat.zero_add] at hown
  go_wp2_with fail
  obtain ⟨u, hu, hu2⟩ := u32_nat v
  rw [hu]
  refine (appendU32_own w.heap.size _ u hu2 _ _ w1 hown hput.grow.size (by omega)).mono ?_
  rintro e w2 ⟨g2, cap2, rfl, hown2, hput2, hlt2⟩
  clear hu
  go_wp2
  go_ret
  exact ⟨g2, cap2, rfl, Put.below (hput.trans hput2)⟩

theorem ret_int {k : IntKind} {a b : Int} (h : a = b) : Ending.returned (.int k a) = .returned (.int k b) := by rw [h]

/-- The width of an integer's value. -/
def width (long : Bool) : Nat := if long then 8 else 4

-- generate.ZZintegerMaxElementSize
set_option maxHeartbeats 1000000 in
theorem intMax_any (lo span : Int) (long : Bool) (key : ByteArray) (w : World) (hlim : key.size ≤ 1048576) :
    Calls Try.prog 11 #[.int .i64 lo, .int .u64 span, .bool long, .string key] w fun e w' => e = .returned (.int .i64 (((1 + key.size + 1 + width long : Nat)) : Int)) ∧ Below w.heap.size w w' := by
  cases long
  all_goals
    go_enter Try.func11, Try.ntmps11
    go_wp2_with (first | (go_at_call 12; refine (appendI64_nil _ _ _ hlim).mono ?_; rintro e w1 ⟨g, cap, rfl, hb⟩) | (go_at_call 13; refine (appendI32_nil _ _ _ hlim).mono ?_; rintro e w1 ⟨g, cap, rfl, hb⟩) | go_in)
    go_ret
    exact ⟨ret_int (by simp [width]), ((Below.refl _ _).alloc (Nat.le_refl _) _).trans (hb.mono (by simp))⟩

def SomeBool (e : Ending) : Prop := ∃ b : Bool, e = .returned (.bool b)

-- zzIntegerReachable: it computes a bool, nothing else
set_option maxHeartbeats 1000000 in
theorem reach_any (lo span : Int) (long : Bool) (hl : -9223372036854775808 ≤ lo ∧ lo ≤ 9223372036854775807) (w : World) :
    Calls Try.prog 10 #[.int .i64 lo, .int .u64 span, .bool long] w fun e w' => SomeBool e ∧ w' = w := by
  cases long
  all_goals
    go_enter Try.func10, Try.ntmps10
    go_wp2
    all_goals
      go_ret
      exact ⟨⟨_, rfl⟩, rfl⟩

-- zzBytes_..: it computes a bool, nothing else
set_option maxHeartbeats 1000000 in
theorem bytes3 (lo span v32 v64 : Int) (long : Bool) (key : ByteArray) (w : World) (hk : key.size ≤ maxLen) :
    Calls Try.prog 9 #[.int .i64 lo, .int .u64 span, .bool long, .string key, .int .i32 v32, .int .i64 v64] w fun e w' => e = .returned (.bool (decide (key.size ≤ 1048576))) ∧ w' = w := by
  unfold maxLen at hk
  by_cases h : key.size ≤ 1048576
  · rw [decide_eq_true h]
    go_enter Try.func9, Try.ntmps9
    go_wp2
    go_ret
    exact ⟨rfl, rfl⟩
  · rw [decide_eq_false h]
    go_enter Try.func9, Try.ntmps9
    go_wp2
    go_ret
    exact ⟨rfl, rfl⟩

end Go.Proofs.Qxb6612690a.Int
