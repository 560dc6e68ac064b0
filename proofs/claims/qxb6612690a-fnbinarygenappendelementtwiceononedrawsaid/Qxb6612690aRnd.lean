import Derived.Test.Qxb6612690aProg
import Derived.Test.Qxb6612690aPcg
import Derived.WalkKit
import Derived.WalkSpells
import Derived.Lib.Mul64
import Derived.Laws.Bits64
import Derived.Laws.Bits64b
import Derived.Laws.Externs
import Derived.Deep.QuietTactic
import Derived.BigQuiet
import Derived.Outline
namespace Go.Proofs.Qxb6612690a.Rnd
open Go.RowKit Go.Lib Go.Proofs.Qxb6612690a.Pcg

theorem maskN (a : Nat) (ha : a < 18446744073709551616) : bits .and .u64 (a : Int) 4294967295 = ((a % 4294967296 : Nat) : Int) := by
  have h := bits_and_u64_nat a 4294967295 ha (by omega)
  have e : a &&& 4294967295 = a % 4294967296 := Nat.and_two_pow_sub_one_eq_mod a 32
  rw [e] at h
  exact h
theorem divN (a : Nat) : (a : Int) / 4294967296 = ((a / 4294967296 : Nat) : Int) := by omega
theorem mulN (a b : Nat) : (a : Int) * (b : Int) = ((a * b : Nat) : Int) := (Int.natCast_mul a b).symm
theorem addN (a b : Nat) : (a : Int) + (b : Int) = ((a + b : Nat) : Int) := (Int.natCast_add a b).symm
theorem wrapN (a : Nat) (ha : a < 18446744073709551616) : IntKind.u64.wrap (a : Int) = (a : Int) := by rw [IntKind.wrap_u64]; omega
theorem wrapM (a : Nat) : IntKind.u64.wrap (a : Int) = ((a % 18446744073709551616 : Nat) : Int) := by rw [IntKind.wrap_u64]; omega

set_option maxHeartbeats 1000000 in
theorem mul64 (x y : Nat) (hx : x < 18446744073709551616) (hy : y < 18446744073709551616) (w : World) :
    Calls Try.prog 44 #[.int .u64 x, .int .u64 y] w fun e w' => e = .returned (.tuple #[.int .u64 ((x * y / 18446744073709551616 : Nat) : Int), .int .u64 ((x * y % 18446744073709551616 : Nat) : Int)]) ∧ w = w' := by
  obtain ⟨bd, bt, bw, hhi⟩ := Lib.mul64_hi x y hx hy
  have ba := Lib.half_mul_le (a := x / 4294967296) (b := y / 4294967296) (by omega) (by omega)
  have bb := Lib.half_mul_le (a := x / 4294967296) (b := y % 4294967296) (by omega) (by omega)
  have bc := Lib.half_mul_le (a := x % 4294967296) (b := y / 4294967296) (by omega) (by omega)
  have ba' : x / 4294967296 * (y / 4294967296) < 18446744073709551616 := by omega
  have bb' : x / 4294967296 * (y % 4294967296) < 18446744073709551616 := by omega
  have bc' : x % 4294967296 * (y / 4294967296) < 18446744073709551616 := by omega
  have bh1 : x / 4294967296 * (y / 4294967296) + (x / 4294967296 * (y % 4294967296) + x % 4294967296 * (y % 4294967296) / 4294967296) / 4294967296 < 18446744073709551616 := by omega
  have bh : x / 4294967296 * (y / 4294967296) + (x / 4294967296 * (y % 4294967296) + x % 4294967296 * (y % 4294967296) / 4294967296) / 4294967296 + ((x / 4294967296 * (y % 4294967296) + x % 4294967296 * (y % 4294967296) / 4294967296) % 4294967296 + x % 4294967296 * (y / 4294967296)) / 4294967296 < 18446744073709551616 := by omega
  go_enter Try.func44, Try.ntmps44
  go_wp2
  simp only [maskN x hx, maskN y hy, divN, mulN, addN, wrapN _ bd, wrapN _ bb', wrapN _ bt, maskN _ bt, wrapN _ bc', wrapN _ bw, wrapN _ ba', wrapN _ bh1, wrapN _ bh, wrapM (x * y)]
  rw [hhi]
  go_ret2
  exact ⟨rfl, rfl⟩

theorem add64 (x y c : Nat) (hc : c ≤ 1) (w : World) : (callFunc 92 #[.int .u64 x, .int .u64 y, .int .u64 c]).run Try.prog w =
    .ok (.value (.tuple #[.int .u64 (((x + y + c) % 18446744073709551616 : Nat) : Int), .int .u64 (((x + y + c) / 18446744073709551616 : Nat) : Int)])) w := by
  rw [run_callFunc_extern Try.func92 (by kernel_rfl) (by kernel_rfl) (by kernel_rfl) (e := add64Entry) (by kernel_rfl), run_add64 x y c (by omega) (by omega) (by omega) (by omega)]
  simp only [Result.andThen]
  congr 5 <;> omega

/-! ### The steps of PCG.next, each behind a name (the walk carries no cast into it) -/
def pHi (lo : Nat) : Nat := lo * mLo / W
def pLo (lo : Nat) : Nat := lo * mLo % W
def sHi (hi lo : Nat) : Nat := (pHi lo + (hi * mLo % W + lo * mHi % W) % W) % W
def aLo (l : Nat) : Nat := (l + iLo) % W
def aC (l : Nat) : Nat := (l + iLo) / W
def aHi (h c : Nat) : Nat := (h + iHi + c) % W

theorem pLo_lt (lo : Nat) : pLo lo < 18446744073709551616 := Nat.mod_lt _ W_pos
theorem sHi_lt (hi lo : Nat) : sHi hi lo < 18446744073709551616 := Nat.mod_lt _ W_pos
theorem aLo_lt (l : Nat) : aLo l < 18446744073709551616 := Nat.mod_lt _ W_pos
theorem aHi_lt (h c : Nat) : aHi h c < 18446744073709551616 := Nat.mod_lt _ W_pos
theorem aC_le (l : Nat) (h : l < 18446744073709551616) : aC l ≤ 1 := by unfold aC iLo W; omega

theorem next_eq (hi lo : Nat) : next (hi, lo) = (aHi (sHi hi lo) (aC (pLo lo)), aLo (pLo lo)) := by
  unfold next aHi aLo aC sHi pHi pLo
  simp only [Prod.mk.injEq, and_true]
  generalize lo * mLo / W = a
  generalize hi * mLo = b
  generalize lo * mHi = c
  generalize (lo * mLo % W + iLo) / W = d
  generalize iHi = e
  unfold W
  omega

theorem mulC (lo : Nat) (h : lo < 18446744073709551616) (w : World) :
    Calls Try.prog 44 #[.int .u64 lo, .int .u64 4865540595714422341] w fun e w' => e = .returned (.tuple #[.int .u64 (pHi lo : Int), .int .u64 (pLo lo : Int)]) ∧ w = w' :=
  mul64 lo 4865540595714422341 h (by decide) w

theorem addL (l : Nat) (w : World) : (callFunc 92 #[.int .u64 l, .int .u64 1442695040888963407, .int .u64 0]).run Try.prog w =
    .ok (.value (.tuple #[.int .u64 (aLo l : Int), .int .u64 (aC l : Int)])) w :=
  add64 l 1442695040888963407 0 (by decide) w

theorem addH (h c : Nat) (hc : c ≤ 1) (w : World) : (callFunc 92 #[.int .u64 h, .int .u64 6364136223846793005, .int .u64 c]).run Try.prog w =
    .ok (.value (.tuple #[.int .u64 (aHi h c : Int), .int .u64 (((h + 6364136223846793005 + c) / 18446744073709551616 : Nat) : Int)])) w :=
  add64 h 6364136223846793005 c hc w

/-- What a move of the generator leaves: its two cells, nothing else of what was there. -/
structure Moved (w w' : World) (b o : Nat) (s : Nat × Nat) : Prop where
  grow : w.grownBy w' (some b)
  hi : w'.cell? ⟨b, o, none⟩ = some (.int .u64 (s.1 : Int))
  lo : w'.cell? ⟨b, o + 1, none⟩ = some (.int .u64 (s.2 : Int))
  other : ∀ j, j ≠ o → j ≠ o + 1 → w'.cell? ⟨b, j, none⟩ = w.cell? ⟨b, j, none⟩
  frozen : ∀ j, w'.frozen? ⟨b, j, none⟩ = w.frozen? ⟨b, j, none⟩

theorem grown_setCell (w : World) (a : Addr) (u : Value) : w.grownBy (w.setCell a u) (some a.block) :=
  ⟨rfl, rfl, rfl, by simp [World.setCell], fun k _ hne => Below.heap_setCell w a u k (fun e => hne (by rw [e]))⟩

theorem Moved.two (w : World) (b o nq x y : Nat) {u v : Value} (c0 : w.cell? ⟨b, o, none⟩ = some u) (c1 : w.cell? ⟨b, o + 1, none⟩ = some v) :
    Moved w (((w.drewN nq).setCell ⟨b, o + 1, none⟩ (.int .u64 (y : Int))).setCell ⟨b, o, none⟩ (.int .u64 (x : Int))) b o (x, y) := by
  have n1 : (⟨b, o + 1, none⟩ : Addr) ≠ ⟨b, o, none⟩ := by simp
  have n2 : (⟨b, o, none⟩ : Addr) ≠ ⟨b, o + 1, none⟩ := by simp
  refine ⟨?_, ?_, ?_, fun j h1 h2 => ?_, fun j => ?_⟩
  · have g0 : w.grownBy (w.drewN nq) (some b) := ⟨rfl, rfl, rfl, Nat.le_refl _, fun _ _ _ => rfl⟩
    exact (g0.trans (grown_setCell _ ⟨b, o + 1, none⟩ _)).trans (grown_setCell _ ⟨b, o, none⟩ _)
  · exact World.cell?_setCell_same _ _ _ (u := u) (by rw [World.cell?_setCell_other _ _ _ _ n1]; simpa using c0)
  · rw [World.cell?_setCell_other _ _ _ _ n2]
    exact World.cell?_setCell_same _ _ _ (u := v) (by simpa using c1)
  · have n3 : (⟨b, o, none⟩ : Addr) ≠ ⟨b, j, none⟩ := by intro e; injection e with _ e _; exact h1 e.symm
    have n4 : (⟨b, o + 1, none⟩ : Addr) ≠ ⟨b, j, none⟩ := by intro e; injection e with _ e _; exact h2 e.symm
    rw [World.cell?_setCell_other _ _ _ _ n3, World.cell?_setCell_other _ _ _ _ n4]
    simp
  · simp

theorem sHi_wrap (hi lo : Nat) : IntKind.u64.wrap ((pHi lo : Int) + IntKind.u64.wrap (IntKind.u64.wrap ((hi : Int) * 4865540595714422341) + IntKind.u64.wrap ((lo : Int) * 2549297995355413924))) = (sHi hi lo : Int) := by
  have e1 : (hi : Int) * 4865540595714422341 = ((hi * mLo : Nat) : Int) := by rw [Int.natCast_mul]; rfl
  have e2 : (lo : Int) * 2549297995355413924 = ((lo * mHi : Nat) : Int) := by rw [Int.natCast_mul]; rfl
  rw [e1, e2, wrapM, wrapM, addN, wrapM, addN, wrapM]
  rfl

set_option maxHeartbeats 1000000 in
theorem next_any (b o hi lo : Nat) (hlo : lo < 18446744073709551616) (w : World)
    (c0 : w.cell? ⟨b, o, none⟩ = some (.int .u64 hi)) (c1 : w.cell? ⟨b, o + 1, none⟩ = some (.int .u64 lo)) (f0 : w.frozen? ⟨b, o, none⟩ = false) (f1 : w.frozen? ⟨b, o + 1, none⟩ = false) :
    Calls Try.prog 91 #[.pointer (some ⟨b, o, none⟩)] w fun e w' => e = .returned (.tuple #[.int .u64 ((next (hi, lo)).1 : Int), .int .u64 ((next (hi, lo)).2 : Int)]) ∧ Moved w w' b o (next (hi, lo)) := by
  have hn := next_eq hi lo
  have e1 : (next (hi, lo)).1 = aHi (sHi hi lo) (aC (pLo lo)) := by rw [hn]
  have e2 : (next (hi, lo)).2 = aLo (pLo lo) := by rw [hn]
  have st : ∀ nq, Moved w (((w.drewN nq).setCell ⟨b, o + 1, none⟩ (.int .u64 (aLo (pLo lo) : Int))).setCell ⟨b, o, none⟩ (.int .u64 (aHi (sHi hi lo) (aC (pLo lo)) : Int))) b o (next (hi, lo)) := by
    intro nq
    rw [hn]
    exact Moved.two w b o nq _ _ c0 c1
  rw [e1, e2]
  clear hn e1 e2
  go_enter Try.func91, Try.ntmps91
  go_wp2_with (first | (go_at_call 44; refine (mulC lo hlo _).mono ?_; rintro e w' ⟨rfl, rfl⟩))
  go_quiet (fail)
  rw [sHi_wrap]
  have hc := aC_le _ (pLo_lt lo)
  go_wp2_with (first | simp only [addL] | simp only [addH _ _ hc])
  go_ret2
  exact ⟨rfl, st nq⟩

theorem ret_int {k : IntKind} {a b : Int} (h : a = b) : Ending.returned (.int k a) = .returned (.int k b) := by rw [h]

theorem half1_wrap (h : Nat) (hh : h < 18446744073709551616) : IntKind.u64.wrap (bits .xor .u64 (h : Int) ((h : Int) / 4294967296) * 15750249268501108917) = (half1 h : Int) := by
  have e1 := xorShift_u64 h 4294967296 hh
  have e2 : (((h ^^^ h / 4294967296 : Nat) : Int)) * 15750249268501108917 = (((h ^^^ h / 4294967296) * cheap : Nat) : Int) := by rw [Int.natCast_mul]; rfl
  have e3 : ((4294967296 : Nat) : Int) = 4294967296 := rfl
  rw [e3] at e1
  rw [e1, e2, wrapM]
  rfl

theorem half1_lt (h : Nat) : half1 h < 18446744073709551616 := Nat.mod_lt _ W_pos

theorem out_wrap (h l : Nat) (hh : h < 18446744073709551616) (hl : l < 18446744073709551616) :
    IntKind.u64.wrap (bits .xor .u64 (IntKind.u64.wrap (bits .xor .u64 (h : Int) ((h : Int) / 4294967296) * 15750249268501108917)) (IntKind.u64.wrap (bits .xor .u64 (h : Int) ((h : Int) / 4294967296) * 15750249268501108917) / 281474976710656) * bits .or .u64 (l : Int) 1) = (out (h, l) : Int) := by
  rw [half1_wrap h hh]
  have e1 := xorShift_u64 (half1 h) 281474976710656 (half1_lt h)
  have e3 : ((281474976710656 : Nat) : Int) = 281474976710656 := rfl
  rw [e3] at e1
  have e4 := bits_or_u64_nat l 1 hl (by decide)
  have e5 : ((1 : Nat) : Int) = 1 := rfl
  rw [e5] at e4
  rw [e1, e4, mulN, wrapM]
  rfl

set_option maxHeartbeats 1000000 in
theorem uint64_any (b o hi lo : Nat) (hlo : lo < 18446744073709551616) (w : World)
    (c0 : w.cell? ⟨b, o, none⟩ = some (.int .u64 hi)) (c1 : w.cell? ⟨b, o + 1, none⟩ = some (.int .u64 lo)) (f0 : w.frozen? ⟨b, o, none⟩ = false) (f1 : w.frozen? ⟨b, o + 1, none⟩ = false) :
    Calls Try.prog 90 #[.pointer (some ⟨b, o, none⟩)] w fun e w' => e = .returned (.int .u64 (out (next (hi, lo)) : Int)) ∧ Moved w w' b o (next (hi, lo)) := by
  have ok := next_ok (hi, lo)
  have key := next_any b o hi lo hlo w c0 c1 f0 f1
  generalize next (hi, lo) = s at *
  obtain ⟨h, l⟩ := s
  have hh : h < 18446744073709551616 := ok.1
  have hl : l < 18446744073709551616 := ok.2
  clear ok
  go_enter Try.func90, Try.ntmps90
  go_wp2_with (go_at_call 91; refine key.mono ?_; rintro e w' ⟨rfl, hs⟩)
  go_ret
  exact ⟨ret_int (out_wrap h l hh hl), hs⟩

/-- A rand.Rand in block r over a PCG at (b, o) whose state is s. -/
structure Gen (w : World) (r b o : Nat) (s : Nat × Nat) : Prop where
  src : w.cell? ⟨r, 0, none⟩ = some (.iface 66 (.pointer (some ⟨b, o, none⟩)))
  hi : w.cell? ⟨b, o, none⟩ = some (.int .u64 (s.1 : Int))
  lo : w.cell? ⟨b, o + 1, none⟩ = some (.int .u64 (s.2 : Int))
  f0 : w.frozen? ⟨b, o, none⟩ = false
  f1 : w.frozen? ⟨b, o + 1, none⟩ = false
  ok : Ok s
  ne : r ≠ b

theorem Gen.step {w w' : World} {r b o : Nat} {s s' : Nat × Nat} (h : Gen w r b o s) (k : Moved w w' b o s') (ok : Ok s') : Gen w' r b o s' :=
  ⟨k.grow.cell h.src (fun e => h.ne (by injection e)), k.hi, k.lo, (k.frozen o).trans h.f0, (k.frozen (o + 1)).trans h.f1, ok, h.ne⟩

theorem Gen.drewN {w : World} {r b o : Nat} {s : Nat × Nat} (h : Gen w r b o s) (n : Nat) : Gen (w.drewN n) r b o s := ⟨h.src, h.hi, h.lo, h.f0, h.f1, h.ok, h.ne⟩

theorem Moved.trans {w w1 w2 : World} {b o : Nat} {s t : Nat × Nat} (h : Moved w w1 b o s) (k : Moved w1 w2 b o t) : Moved w w2 b o t :=
  ⟨h.grow.trans k.grow, k.hi, k.lo, fun j h1 h2 => (k.other j h1 h2).trans (h.other j h1 h2), fun j => (k.frozen j).trans (h.frozen j)⟩

theorem method_u64 (a : Addr) (w : World) : (method 239 66 (.pointer (some a)) "Uint64").run Try.prog w = .ok (90, .pointer (some a)) w := by kernel_rfl

set_option maxHeartbeats 1000000 in
set_option maxRecDepth 10000 in
theorem rand_uint64 (r b o : Nat) (s : Nat × Nat) (w : World) (hg : Gen w r b o s) :
    Calls Try.prog 38 #[.pointer (some ⟨r, 0, none⟩)] w fun e w' => e = .returned (.int .u64 (out (next s) : Int)) ∧ Moved w w' b o (next s) := by
  have h0 := hg.src
  have hm := fun x => method_u64 ⟨b, o, none⟩ x
  go_enter Try.func38, Try.ntmps38
  go_wp2_with fail
  refine (uint64_any b o s.1 s.2 hg.ok.2 w hg.hi hg.lo hg.f0 hg.f1).mono ?_
  rintro e w' ⟨rfl, hs⟩
  go_wp2
  go_ret
  exact ⟨rfl, hs⟩

end Go.Proofs.Qxb6612690a.Rnd
