import Derived.Test.Qxb6609262aProg
import Derived.WalkKit
import Derived.WalkSpells
import Derived.Laws.Bits64
import Derived.Laws.Bits64b
import Derived.Laws.Externs
import Derived.Deep.RegionHeld3
import Derived.Outline
namespace Go.Proofs.Qxb6609262a.Sum
open Go.RowKit

/-! ### A number of cents as two words -/
def hiOf (z : Int) : Int := z / 18446744073709551616
def loOf (z : Int) : Int := z % 18446744073709551616
def carry (z a : Int) : Int := (loOf z + a % 18446744073709551616) / 18446744073709551616

theorem lo_bd (z : Int) : 0 ≤ loOf z ∧ loOf z < 18446744073709551616 := by unfold loOf; omega
theorem carry_bd (z a : Int) : 0 ≤ carry z a ∧ carry z a ≤ 1 := by unfold carry loOf; omega
theorem lo_add (z a : Int) : (loOf z + a % 18446744073709551616) % 18446744073709551616 = loOf (z + a) := by unfold loOf; omega
theorem hi_pos (z a : Int) (h0 : 0 ≤ a) (h1 : a < 18446744073709551616) : hiOf z + carry z a = hiOf (z + a) := by unfold carry hiOf loOf; omega
theorem hi_neg (z a : Int) (h0 : a < 0) (h1 : -18446744073709551616 ≤ a) : hiOf z + carry z a - 1 = hiOf (z + a) := by unfold carry hiOf loOf; omega
theorem hi_bd (z : Int) (h0 : -1267650600228229401496703205376 ≤ z) (h1 : z ≤ 1267650600228229401496703205376) : -68719476737 ≤ hiOf z ∧ hiOf z ≤ 68719476737 := by unfold hiOf; omega

theorem add64 (x y : Int) (hx : 0 ≤ x) (hy : 0 ≤ y) (w : World) : (callFunc 22 #[.int .u64 x, .int .u64 y, .int .u64 0]).run Try.prog w =
    .ok (.value (.tuple #[.int .u64 ((x + y) % 18446744073709551616), .int .u64 ((x + y) / 18446744073709551616)])) w := by
  rw [run_callFunc_extern Try.func22 (by kernel_rfl) (by kernel_rfl) (by kernel_rfl) (e := add64Entry) (by kernel_rfl), run_add64 x y 0 hx hy (by omega) (by omega)]
  simp only [Result.andThen, Int.add_zero]

theorem addZ (z a : Int) (w : World) : (callFunc 22 #[.int .u64 (loOf z), .int .u64 (IntKind.u64.wrap a), .int .u64 0]).run Try.prog w =
    .ok (.value (.tuple #[.int .u64 (loOf (z + a)), .int .u64 (carry z a)])) w := by
  rw [IntKind.wrap_u64, add64 (loOf z) (a % 18446744073709551616) (lo_bd z).1 (by omega) w, lo_add]
  rfl

theorem addP (z a : Int) (h : 0 ≤ a) (h1 : a < 18446744073709551616) (w : World) : (callFunc 22 #[.int .u64 (loOf z), .int .u64 a, .int .u64 0]).run Try.prog w =
    .ok (.value (.tuple #[.int .u64 (loOf (z + a)), .int .u64 (carry z a)])) w := by
  have e : IntKind.u64.wrap a = a := by rw [IntKind.wrap_u64]; omega
  have := addZ z a w
  rw [e] at this
  exact this

/-- The Sum at (b, o) holds z. -/
def putSum (w : World) (b o : Nat) (z : Int) : World := (w.setCell ⟨b, o + 1, none⟩ (.int .u64 (loOf z))).setCell ⟨b, o, none⟩ (.int .i64 (hiOf z))

theorem setCell_again (w : World) (a : Addr) (u v : Value) : (w.setCell a u).setCell a v = w.setCell a v := by
  unfold World.setCell
  congr 1
  apply Array.ext_getElem?
  intro i
  simp only [Array.getElem?_modify]
  by_cases h : a.block = i
  · subst h
    simp only [if_true]
    cases w.heap[a.block]? with
    | none => rfl
    | some o =>
      cases o with
      | cells c e f =>
        by_cases hs : a.spot.isSome
        · simp [hs]
        · simp [hs]
      | _ => rfl
  · simp [h]

set_option maxHeartbeats 400000 in
theorem add_any (b o : Nat) (z a : Int) (w : World) (hz0 : -1267650600228229401496703205376 ≤ z) (hz1 : z ≤ 1267650600228229401496703205376) (ha0 : -9223372036854775808 ≤ a) (ha1 : a ≤ 9223372036854775807)
    (c0 : w.cell? ⟨b, o, none⟩ = some (.int .i64 (hiOf z))) (c1 : w.cell? ⟨b, o + 1, none⟩ = some (.int .u64 (loOf z))) (f0 : w.frozen? ⟨b, o, none⟩ = false) (f1 : w.frozen? ⟨b, o + 1, none⟩ = false) :
    Calls Try.prog 21 #[.pointer (some ⟨b, o, none⟩), .int .i64 a] w fun e w' => e = .returned (.tuple #[]) ∧ putSum w b o (z + a) = w' := by
  have hb := hi_bd z hz0 hz1
  have hcb := carry_bd z a
  clear hz0 hz1
  by_cases h : a < 0
  · have E := hi_neg z a h (by omega)
    have HE : Hid (hiOf z + carry z a - 1 = hiOf (z + a)) := E
    clear E
    go_enter Try.func21, Try.ntmps21
    go_wp2_with (simp only [addZ])
    go_end0
    refine ⟨rfl, ?_⟩
    rw [setCell_again, HE.out]
    rfl
  · have E := hi_pos z a (by omega) (by omega)
    have HE : Hid (hiOf z + carry z a = hiOf (z + a)) := E
    clear E
    have h0 : 0 ≤ a := by omega
    have h1 : a < 18446744073709551616 := by omega
    go_enter Try.func21, Try.ntmps21
    go_wp2_with (simp only [addP z a h0 h1])
    go_end0
    refine ⟨rfl, ?_⟩
    rw [HE.out]
    rfl

end Go.Proofs.Qxb6609262a.Sum
