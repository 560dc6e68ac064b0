import Derived.Test.Qxb6612690aRnd
import Derived.Deep.LoopGhost
import Derived.Outline
namespace Go.Proofs.Qxb6612690a.Len
open Go.RowKit Go.Lib Go.Proofs.Qxb6612690a.Pcg Go.Proofs.Qxb6612690a.Rnd

def qHi (n : Nat) (s : Nat × Nat) : Nat := out s * n / W
def qLo (n : Nat) (s : Nat × Nat) : Nat := out s * n % W

theorem mulOut (n : Nat) (s : Nat × Nat) (hn : n < 18446744073709551616) (w : World) :
    Calls Try.prog 44 #[.int .u64 (out s : Int), .int .u64 n] w fun e w' => e = .returned (.tuple #[.int .u64 (qHi n s : Int), .int .u64 (qLo n s : Int)]) ∧ w = w' :=
  mul64 (out s) n (out_lt s) hn w

theorem qLo_lt (n : Nat) (s : Nat × Nat) : qLo n s < 18446744073709551616 := Nat.mod_lt _ W_pos

theorem andN (x n : Nat) (hx : x < 18446744073709551616) (h0 : 0 < n) (hn : n ≤ 65537) : bits .and .u64 (x : Int) ((n : Int) - 1) = ((x &&& (n - 1) : Nat) : Int) := by
  have e : (n : Int) - 1 = ((n - 1 : Nat) : Int) := by omega
  rw [e]
  exact bits_and_u64_nat x (n - 1) hx (by omega)

theorem thr_wrap (n : Nat) (h0 : 0 < n) (hn : n ≤ 65537) : (IntKind.u64.wrap (-(n : Int))).tmod (n : Int) = (thr n : Int) := by
  have e : IntKind.u64.wrap (-(n : Int)) = ((W - n : Nat) : Int) := by
    rw [IntKind.wrap_u64]
    unfold W
    omega
  rw [e, Int.tmod_eq_emod_of_nonneg (by omega)]
  rfl

/-- The one of two: n is a power of two. -/
theorem drawn_pow {n : Nat} {s : Nat × Nat} (hp : n &&& (n - 1) = 0) : Drawn n s (out (next s) &&& (n - 1)) (next s) := .inl ⟨hp, rfl, rfl⟩

set_option maxHeartbeats 1000000 in
set_option maxRecDepth 10000 in
theorem uint64n_pow (r b o n : Nat) (s : Nat × Nat) (w : World) (hg : Gen w r b o s) (h0 : 0 < n) (hn : n ≤ 65537) (hp : n &&& (n - 1) = 0) :
    Calls Try.prog 42 #[.pointer (some ⟨r, 0, none⟩), .int .u64 n] w fun e w' => ∃ (v : Nat) (s' : Nat × Nat), e = .returned (.int .u64 (v : Int)) ∧ Drawn n s v s' ∧ Moved w w' b o s' := by
  have hb : (bits .and .u64 (n : Int) ((n : Int) - 1) == 0) = true := by rw [andN n n (by omega) h0 hn, hp]; rfl
  have hd := drawn_pow (s := s) hp
  clear hp
  go_enter Try.func42, Try.ntmps42
  go_wp2_with (go_at_call 38; refine (rand_uint64 r b o s _ hg).mono ?_; rintro e w' ⟨rfl, hs⟩)
  go_ret
  exact ⟨_, _, ret_int (andN _ n (out_lt _) h0 hn), hd, hs⟩

theorem good_iff (n : Nat) (t : Nat × Nat) : Pcg.Good n t ↔ ¬ qLo n t < thr n := by
  unfold Pcg.Good qLo
  exact Nat.not_lt.symm

theorem round_step {n j k : Nat} {s t : Nat × Nat} (h0 : 0 < n) (hn : n < 18446744073709551616) (h : t = st (j + 1) s ∧ st k t = star ∧ ∀ i, i < j → ¬ Pcg.Good n (st (i + 1) s)) (hlt : qLo n t < thr n) :
    k - 1 < k ∧ (next t = st (j + 1 + 1) s ∧ st (k - 1) (next t) = star ∧ ∀ i, i < j + 1 → ¬ Pcg.Good n (st (i + 1) s)) := by
  obtain ⟨h1, h2, h3⟩ := h
  have hbad : ¬ Pcg.Good n t := fun g => (good_iff n t).1 g hlt
  have hk : k ≠ 0 := by
    intro e
    rw [e, st_zero] at h2
    rw [h2] at hbad
    exact hbad (good_star h0 hn)
  refine ⟨by omega, by rw [h1, ← st_succ], ?_, fun i hi => ?_⟩
  · rw [st_next, show k - 1 + 1 = k from by omega]
    exact h2
  · by_cases hij : i < j
    · exact h3 i hij
    · obtain rfl : i = j := by omega
      rw [← h1]
      exact hbad

theorem round_end {n j k : Nat} {s t : Nat × Nat} (hp : n &&& (n - 1) ≠ 0) (h : t = st (j + 1) s ∧ st k t = star ∧ ∀ i, i < j → ¬ Pcg.Good n (st (i + 1) s)) (hlt : ¬ qLo n t < thr n) : Drawn n s (qHi n t) t := by
  obtain ⟨h1, _, h3⟩ := h
  refine .inr ⟨hp, j, h3, ?_, ?_, h1⟩
  · rw [← h1]; exact (good_iff n t).2 hlt
  · rw [← h1]; rfl

theorem first_end {n : Nat} {s : Nat × Nat} (h0 : 0 < n) (hp : n &&& (n - 1) ≠ 0) (hlt : ¬ qLo n (next s) < n) : Drawn n s (qHi n (next s)) (next s) := by
  have ht : thr n < n := Nat.mod_lt _ h0
  have e : next s = st (0 + 1) s := by rw [st_succ, st_zero]
  refine .inr ⟨hp, 0, fun i hi => absurd hi (Nat.not_lt_zero _), ?_, ?_, e⟩
  · rw [← e]; exact (good_iff n _).2 (by omega)
  · rw [← e]; rfl

set_option maxHeartbeats 1000000 in
set_option maxRecDepth 10000 in
theorem uint64n_gen (r b o n : Nat) (s : Nat × Nat) (w : World) (hg : Gen w r b o s) (h0 : 0 < n) (hn : n ≤ 65537) (hp : n &&& (n - 1) ≠ 0) :
    Calls Try.prog 42 #[.pointer (some ⟨r, 0, none⟩), .int .u64 n] w fun e w' => ∃ (v : Nat) (s' : Nat × Nat), e = .returned (.int .u64 (v : Int)) ∧ Drawn n s v s' ∧ Moved w w' b o s' := by
  have hb : (bits .and .u64 (n : Int) ((n : Int) - 1) == 0) = false := by
    rw [andN n n (by omega) h0 hn]
    have : ((n &&& (n - 1) : Nat) : Int) ≠ 0 := by omega
    simpa using this
  by_cases hfirst : qLo n (next s) < n
  · go_enter Try.func42, Try.ntmps42
    go_wp2_with fail
    refine (rand_uint64 r b o s _ hg).mono ?_
    rintro e w1 ⟨rfl, hs⟩
    go_wp2_with fail
    refine (mulOut n _ (by omega) _).mono ?_
    rintro e w2 ⟨rfl, rfl⟩
    go_wp2_with fail
    rw [thr_wrap n h0 hn]
    obtain ⟨k0, hk0⟩ := reach_star s
    have A0 : Aside (st (k0 + 1) s = star) := hk0
    clear hk0
    go_loopg [5, 6] k0 (fun k h l wr => ∃ j t, Aside (t = st (j + 1) s ∧ st k t = star ∧ ∀ i, i < j → ¬ Pcg.Good n (st (i + 1) s)) ∧ h = .int .u64 (qHi n t : Int) ∧ l = .int .u64 (qLo n t : Int) ∧ Moved w wr b o t ∧ Gen wr r b o t)
    case atStart => exact ⟨0, next s, ⟨by rw [st_succ, st_zero], by rw [st_next]; exact A0.out, fun i hi => absurd hi (Nat.not_lt_zero _)⟩, rfl, rfl, hs, hg.step hs (next_ok s)⟩
    case round =>
      obtain ⟨j, t, hA, rfl, rfl, hm, hgt⟩ := hrel
      have hq := qLo_lt n t
      by_cases hlt : qLo n t < thr n
      · go_wp2_with fail
        refine (rand_uint64 r b o t _ hgt).mono ?_
        rintro e w2 ⟨rfl, hs2⟩
        go_wp2_with fail
        refine (mulOut n _ (by omega) _).mono ?_
        rintro e w3 ⟨rfl, rfl⟩
        go_wp2_with fail
        go_roundg (gk - 1)
        case measure => exact (round_step h0 (by omega) hA.out hlt).1
        case rel => exact ⟨j + 1, next t, (round_step h0 (by omega) hA.out hlt).2, rfl, rfl, hm.trans hs2, hgt.step hs2 (next_ok t)⟩
      · go_wp2
        go_ret
        exact ⟨_, t, rfl, round_end hp hA.out hlt, hm⟩
  · go_enter Try.func42, Try.ntmps42
    go_wp2_with fail
    refine (rand_uint64 r b o s _ hg).mono ?_
    rintro e w1 ⟨rfl, hs⟩
    go_wp2_with fail
    refine (mulOut n _ (by omega) _).mono ?_
    rintro e w2 ⟨rfl, rfl⟩
    go_wp2_with fail
    go_ret
    exact ⟨_, next s, rfl, first_end h0 hp hfirst, hs⟩

theorem uint64n_any (r b o n : Nat) (s : Nat × Nat) (w : World) (hg : Gen w r b o s) (h0 : 0 < n) (hn : n ≤ 65537) :
    Calls Try.prog 42 #[.pointer (some ⟨r, 0, none⟩), .int .u64 n] w fun e w' => ∃ (v : Nat) (s' : Nat × Nat), e = .returned (.int .u64 (v : Int)) ∧ Drawn n s v s' ∧ Moved w w' b o s' := by
  by_cases hp : n &&& (n - 1) = 0
  · exact uint64n_pow r b o n s w hg h0 hn hp
  · exact uint64n_gen r b o n s w hg h0 hn hp

set_option maxHeartbeats 1000000 in
theorem intN_any (r b o n : Nat) (s : Nat × Nat) (w : World) (hg : Gen w r b o s) (h0 : 0 < n) (hn : n ≤ 65537) :
    Calls Try.prog 41 #[.pointer (some ⟨r, 0, none⟩), .int .i64 n] w fun e w' => ∃ (v : Nat) (s' : Nat × Nat), e = .returned (.int .i64 (v : Int)) ∧ Drawn n s v s' ∧ Moved w w' b o s' := by
  go_enter Try.func41, Try.ntmps41
  go_wp2_with fail
  refine (uint64n_any r b o n s _ hg h0 hn).mono ?_
  rintro e w1 ⟨v, s', rfl, hd, hm⟩
  have hv := hd.lt h0
  go_wp2
  go_ret
  exact ⟨v, s', rfl, hd, hm⟩

end Go.Proofs.Qxb6612690a.Len
