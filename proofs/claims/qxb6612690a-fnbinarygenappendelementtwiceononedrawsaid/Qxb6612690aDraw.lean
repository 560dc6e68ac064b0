import Derived.Test.Qxb6612690aLen
import Derived.Deep.RegionWith
import Derived.Deep.RegionHeld3
import Derived.IntWalk
import Derived.Outline
namespace Go.Proofs.Qxb6612690a.Draw
open Go.IntWalk Go.RowKit Go.Lib Go.Proofs.Qxb6612690a.Pcg Go.Proofs.Qxb6612690a.Rnd Go.Proofs.Qxb6612690a.Len

theorem Gen.of_below {w w' : World} {r b o : Nat} {s : Nat × Nat} (h : Gen w r b o s) (hb : Below w.heap.size w w') : Gen w' r b o s := by
  have hr : r < w.heap.size := World.block_lt_of_cell? w _ h.src
  have hbb : b < w.heap.size := World.block_lt_of_cell? w _ h.hi
  exact ⟨(hb.cell (p := ⟨r, 0, none⟩) hr).trans h.src, (hb.cell (p := ⟨b, o, none⟩) hbb).trans h.hi, (hb.cell (p := ⟨b, o + 1, none⟩) hbb).trans h.lo, (hb.frozen (p := ⟨b, o, none⟩) hbb).trans h.f0, (hb.frozen (p := ⟨b, o + 1, none⟩) hbb).trans h.f1, h.ok, h.ne⟩

theorem Moved.of_below {w w0 w1 : World} {b o : Nat} {s : Nat × Nat} (h : Moved w0 w1 b o s) (hb : Below w.heap.size w w0) (hlt : b < w.heap.size) : Moved w w1 b o s := by
  have g0 : w.grownBy w0 (some b) := ⟨hb.os, hb.tape, hb.output, hb.size, fun k hk _ => hb.block k hk⟩
  exact ⟨g0.trans h.grow, h.hi, h.lo, fun j h1 h2 => (h.other j h1 h2).trans (hb.cell (p := ⟨b, j, none⟩) hlt), fun j => (h.frozen j).trans (hb.frozen (p := ⟨b, j, none⟩) hlt)⟩

theorem ret_int {k : IntKind} {a b : Int} (h : a = b) : Ending.returned (.int k a) = .returned (.int k b) := by rw [h]

set_option maxHeartbeats 400000 in
theorem draw_any (gd r lo hi : Nat) (s : Nat × Nat) (w : World) (hg : Gen w r gd 5 s) (hrnd : w.cell? ⟨gd, 7, none⟩ = some (.pointer (some ⟨r, 0, none⟩))) (h1 : lo ≤ hi) (h2 : hi ≤ 65536) :
    Calls Try.prog 37 #[.agg #[.int .i64 lo, .int .i64 hi], .pointer (some ⟨gd, 0, none⟩)] w fun e w' => ∃ (v : Nat) (s' : Nat × Nat), e = .returned (.int .i64 ((lo + v : Nat) : Int)) ∧ Drawn (hi - lo + 1) s v s' ∧ Moved w w' gd 5 s' := by
  have hgd : gd < w.heap.size := World.block_lt_of_cell? w _ hrnd
  have ew : IntKind.i64.wrap (IntKind.i64.wrap ((hi : Int) - lo) + 1) = ((hi - lo + 1 : Nat) : Int) := by
    rw [i64_in ((hi : Int) - lo) (by omega), i64_in _ (by omega)]
    omega
  have key := intN_any r gd 5 (hi - lo + 1) s ((w.alloc (.cells #[.int .i64 lo, .int .i64 hi] 68)).drew) (Gen.of_below hg (((Below.refl _ _).alloc (Nat.le_refl _) _).drew)) (by omega) (by omega)
  have c0 : ((w.alloc (.cells #[.int .i64 lo, .int .i64 hi] 68)).drew).cell? ⟨w.heap.size, 0, none⟩ = some (.int .i64 lo) := by simp
  have c1 : ((w.alloc (.cells #[.int .i64 lo, .int .i64 hi] 68)).drew).cell? ⟨w.heap.size, 1, none⟩ = some (.int .i64 hi) := by simp
  have c7 : ((w.alloc (.cells #[.int .i64 lo, .int .i64 hi] 68)).drew).cell? ⟨gd, 7, none⟩ = some (.pointer (some ⟨r, 0, none⟩)) := (((Below.refl _ _).alloc (Nat.le_refl _) _).drew.cell (p := ⟨gd, 7, none⟩) hgd).trans hrnd
  have KEY : Hid (Calls Try.prog 41 #[.pointer (some ⟨r, 0, none⟩), .int .i64 ((hi - lo + 1 : Nat) : Int)] ((w.alloc (.cells #[.int .i64 lo, .int .i64 hi] 68)).drew) fun e w' => ∃ (v : Nat) (s' : Nat × Nat), e = .returned (.int .i64 (v : Int)) ∧ Drawn (hi - lo + 1) s v s' ∧ Moved ((w.alloc (.cells #[.int .i64 lo, .int .i64 hi] 68)).drew) w' gd 5 s') := key
  have EW : Hid (IntKind.i64.wrap (IntKind.i64.wrap ((hi : Int) - lo) + 1) = ((hi - lo + 1 : Nat) : Int)) := ew
  clear key ew
  go_enter Try.func37, Try.ntmps37
  go_wp2
  go_region_held3 (fun w' => w'.cell? ⟨w.heap.size, 0, none⟩ = some (.int .i64 lo) ∧ w'.cell? ⟨w.heap.size, 1, none⟩ = some (.int .i64 hi) ∧ w'.cell? ⟨gd, 7, none⟩ = some (.pointer (some ⟨r, 0, none⟩)))
    (first | (go_keep; done) | exact ⟨hm.grow.cell c0 (by simp; omega), hm.grow.cell c1 (by simp; omega), (hm.other 7 (by decide) (by decide)).trans c7⟩)
    (first | (go_at_call 41; rw [EW.out]; refine KEY.out.mono ?_; rintro e w1 ⟨v, s', rfl, hd, hm⟩))
  have hv := hd.lt (by omega)
  clear KEY EW
  go_wp2
  go_ret
  exact ⟨v, s', ret_int (by rw [i64_in _ (by omega)]; omega), hd, Moved.of_below hm (((Below.refl _ _).alloc (Nat.le_refl _) _).drew) hgd⟩

end Go.Proofs.Qxb6612690a.Draw
