import Derived.Test.Qxb6612690aMem
import Derived.WalkLawsBesides
import Derived.Outline
namespace Go.Proofs.Qxb6612690a.New
open Go.RowKit Go.Lib Go.Proofs.Qxb6612690a.App Go.Proofs.Qxb6612690a.Pcg Go.Proofs.Qxb6612690a.Rnd Go.Proofs.Qxb6612690a.Bin Go.Proofs.Qxb6612690a.Mem

theorem seed_any (b o s1 s2 : Nat) (u v : Value) (w : World) (c0 : w.cell? ⟨b, o, none⟩ = some u) (c1 : w.cell? ⟨b, o + 1, none⟩ = some v) (f0 : w.frozen? ⟨b, o, none⟩ = false) (f1 : w.frozen? ⟨b, o + 1, none⟩ = false) :
    Calls Try.prog 32 #[.pointer (some ⟨b, o, none⟩), .int .u64 s1, .int .u64 s2] w fun e w' => e = .returned (.tuple #[]) ∧ (w.setCell ⟨b, o, none⟩ (.int .u64 s1)).setCell ⟨b, o + 1, none⟩ (.int .u64 s2) = w' := by
  go_enter Try.func32, Try.ntmps32
  go_wp2
  go_end0
  exact ⟨rfl, rfl⟩

theorem new_dr (w : World) (s1 s2 : Nat) (a : Option Addr) (n c : Nat) (h1 : s1 < 18446744073709551616) (h2 : s2 < 18446744073709551616) :
    Dr ((w.alloc (.cells #[.int .i64 0, .int .u64 0, .int .u32 0, .int .u64 0, .int .u64 0, .int .u64 s1, .int .u64 s2, .pointer (some ⟨w.heap.size + 1, 0, none⟩), .pointer none, .int .i64 0, .slice a n c] 63)).alloc (.cells #[.iface 66 (.pointer (some ⟨w.heap.size, 5, none⟩))] 78))
      w.heap.size (w.heap.size + 1) (s1, s2) (.slice a n c) := by
  refine ⟨⟨?_, ?_, ?_, ?_, ?_, ⟨h1, h2⟩, by omega⟩, ?_, ?_, ?_⟩
  all_goals simp [go_sem]

set_option maxHeartbeats 1000000 in
theorem new_any (s1 s2 : Nat) (a : Option Addr) (n c : Nat) (w : World) (h1 : s1 < 18446744073709551616) (h2 : s2 < 18446744073709551616) :
    Calls Try.prog 21 #[.int .u64 s1, .int .u64 s2, .slice a n c] w fun e w' => ∃ gd gr, e = .returned (.pointer (some ⟨gd, 0, none⟩)) ∧ gd = w.heap.size ∧ gr = w.heap.size + 1 ∧ Dr w' gd gr (s1, s2) (.slice a n c) ∧ Below w.heap.size w w' := by
  go_enter Try.func21, Try.ntmps21
  go_wp2_with fail
  refine (seed_any w.heap.size 5 s1 s2 (.int .u64 0) (.int .u64 0) _ (by simp) (by simp) (by simp) (by simp)).mono ?_
  rintro e w1 ⟨rfl, rfl⟩
  go_wp2
  go_ret
  exact ⟨_, _, rfl, rfl, rfl, new_dr w s1 s2 a n c h1 h2, ((Below.refl _ _).alloc (Nat.le_refl _) _).alloc (by simp) _⟩

set_option maxHeartbeats 1000000 in
theorem buf_any (gd gr : Nat) (s : Nat × Nat) (bv : Value) (w : World) (hd : Dr w gd gr s bv) :
    Calls Try.prog 23 #[.pointer (some ⟨gd, 0, none⟩)] w fun e w' => e = .returned bv ∧ w = w' := by
  have hb := hd.buf
  go_enter Try.func23, Try.ntmps23
  go_wp2
  go_ret
  exact ⟨rfl, rfl⟩

end Go.Proofs.Qxb6612690a.New
