/-
  The PCG generator of math/rand/v2, plainly: no Go in sight. Its state moves by x -> A x + C modulo 2^128, which has one cycle; so from every state every state is reached.
-/
namespace Go.Proofs.Qxb6612690a.Pcg

def W : Nat := 18446744073709551616
def mLo : Nat := 4865540595714422341
def mHi : Nat := 2549297995355413924
def iLo : Nat := 1442695040888963407
def iHi : Nat := 6364136223846793005
def cheap : Nat := 15750249268501108917
def A : Nat := mHi * W + mLo
def C : Nat := iHi * W + iLo
def M : Nat := W * W

/-- The move, not reduced, k times. -/
def F : Nat → Nat → Nat
  | 0, x => x
  | k + 1, x => F k (A * x + C)

theorem F_zero (x : Nat) : F 0 x = x := by simp only [F]
theorem F_succ (k x : Nat) : F (k + 1) x = F k (A * x + C) := by simp only [F]

theorem F_add (j k x : Nat) : F (j + k) x = F k (F j x) := by
  induction j generalizing x with
  | zero => simp [F]
  | succ j ih =>
    rw [show j + 1 + k = (j + k) + 1 from by omega]
    simp only [F]
    exact ih _

theorem sq (y x z : Nat) : (1 + y) * ((1 + y) * x + z) + z = (1 + (2 * y + y * y)) * x + (2 * z + y * z) := by
  simp only [Nat.mul_add, Nat.add_mul, Nat.one_mul, Nat.mul_assoc]
  omega

theorem dbl (p q r x : Nat) : (1 + 4 * p * q) * ((1 + 4 * p * q) * x + p * (1 + 2 * r)) + p * (1 + 2 * r) = (1 + 8 * p * (q + 2 * p * (q * q))) * x + 2 * p * (1 + 2 * (r + p * q * (1 + 2 * r))) := by
  rw [sq]
  have e1 : 2 * (4 * p * q) + 4 * p * q * (4 * p * q) = 8 * p * (q + 2 * p * (q * q)) := by
    have h1 : 4 * p * q * (4 * p * q) = 16 * (p * q * (p * q)) := by
      rw [Nat.mul_assoc 4 p q, Nat.mul_mul_mul_comm]
    have h2 : 8 * p * (q + 2 * p * (q * q)) = 8 * (p * q) + 16 * (p * q * (p * q)) := by
      rw [Nat.mul_add, Nat.mul_assoc 8 p q, Nat.mul_assoc 2 p (q * q), Nat.mul_mul_mul_comm p q p q, Nat.mul_assoc 8 p, Nat.mul_left_comm p 2, ← Nat.mul_assoc p p]
      omega
    have h3 : 4 * p * q = 4 * (p * q) := Nat.mul_assoc _ _ _
    omega
  have e2 : 2 * (p * (1 + 2 * r)) + 4 * p * q * (p * (1 + 2 * r)) = 2 * p * (1 + 2 * (r + p * q * (1 + 2 * r))) := by
    have h1 : 2 * p * (1 + 2 * (r + p * q * (1 + 2 * r))) = 2 * (p * (1 + 2 * r)) + 4 * (p * (p * q * (1 + 2 * r))) := by
      rw [show 1 + 2 * (r + p * q * (1 + 2 * r)) = (1 + 2 * r) + 2 * (p * q * (1 + 2 * r)) from by omega, Nat.mul_add, Nat.mul_assoc 2 p, Nat.mul_assoc 2 p, Nat.mul_left_comm p 2]
      omega
    have h2 : 4 * p * q * (p * (1 + 2 * r)) = 4 * (p * (p * q * (1 + 2 * r))) := by
      rw [Nat.mul_assoc 4 p q, Nat.mul_assoc 4, Nat.mul_left_comm (p * q) p]
    rw [h1, h2]
  rw [e1, e2]

/-- 2^m moves: x -> (1 + 4 * 2^m * q) x + 2^m (1 + 2 r). -/
theorem F_pow (m : Nat) : ∃ q r, ∀ x, F (2 ^ m) x = (1 + 4 * 2 ^ m * q) * x + 2 ^ m * (1 + 2 * r) := by
  induction m with
  | zero =>
    refine ⟨(A - 1) / 4, (C - 1) / 2, fun x => ?_⟩
    show A * x + C = _
    have e1 : 1 + 4 * 2 ^ 0 * ((A - 1) / 4) = A := by decide
    have e2 : 2 ^ 0 * (1 + 2 * ((C - 1) / 2)) = C := by decide
    rw [e1, e2]
  | succ m ih =>
    obtain ⟨q, r, h⟩ := ih
    refine ⟨q + 2 * 2 ^ m * (q * q), r + 2 ^ m * q * (1 + 2 * r), fun x => ?_⟩
    have e : 2 ^ (m + 1) = 2 ^ m + 2 ^ m := by rw [Nat.pow_succ]; omega
    rw [e, F_add, h, h, dbl]
    have e3 : 4 * (2 ^ m + 2 ^ m) = 8 * 2 ^ m := by omega
    have e4 : 2 ^ m + 2 ^ m = 2 * 2 ^ m := by omega
    rw [e3, e4]

theorem mod_two_pow (m y t : Nat) (h : y % 2 ^ m = t % 2 ^ m) : y % 2 ^ (m + 1) = t % 2 ^ (m + 1) ∨ (y + 2 ^ m) % 2 ^ (m + 1) = t % 2 ^ (m + 1) := by
  have hp : 0 < 2 ^ m := Nat.two_pow_pos m
  rw [Nat.pow_succ]
  generalize 2 ^ m = p at *
  have h1 := Nat.mod_mul (x := y) (a := p) (b := 2)
  have h2 := Nat.mod_mul (x := t) (a := p) (b := 2)
  have h3 := Nat.mod_mul (x := y + p) (a := p) (b := 2)
  have h4 : (y + p) % p = y % p := Nat.add_mod_right y p
  have h5 : (y + p) / p = y / p + 1 := Nat.add_div_right y hp
  rw [h1, h2, h3, h4, h5, h]
  rcases Nat.mod_two_eq_zero_or_one (y / p) with a | a <;> rcases Nat.mod_two_eq_zero_or_one (t / p) with b | b
  · left; rw [a, b]
  · right; rw [b, show (y / p + 1) % 2 = 1 from by omega]
  · right; rw [b, show (y / p + 1) % 2 = 0 from by omega]
  · left; rw [a, b]

/-- From every number every residue is reached. -/
theorem reach (m x t : Nat) : ∃ k, F k x % 2 ^ m = t % 2 ^ m := by
  induction m with
  | zero => exact ⟨0, by simp [Nat.mod_one]⟩
  | succ m ih =>
    obtain ⟨k, hk⟩ := ih
    rcases mod_two_pow m _ _ hk with h | h
    · exact ⟨k, h⟩
    · obtain ⟨q, r, hF⟩ := F_pow m
      refine ⟨k + 2 ^ m, ?_⟩
      rw [F_add, hF, ← h]
      generalize F k x = y
      have e : (1 + 4 * 2 ^ m * q) * y + 2 ^ m * (1 + 2 * r) = (y + 2 ^ m) + 2 ^ (m + 1) * (2 * q * y + r) := by
        rw [Nat.pow_succ]
        generalize 2 ^ m = p
        have a1 : (1 + 4 * p * q) * y = y + 4 * (p * q * y) := by rw [Nat.add_mul, Nat.one_mul, Nat.mul_assoc 4 p q, Nat.mul_assoc 4]
        have a2 : p * (1 + 2 * r) = p + 2 * (p * r) := by rw [Nat.mul_add, Nat.mul_one, Nat.mul_left_comm]
        have a3 : p * 2 * (2 * q * y + r) = 4 * (p * q * y) + 2 * (p * r) := by
          rw [Nat.mul_add, Nat.mul_assoc p 2, Nat.mul_left_comm p 2, Nat.mul_assoc p 2, Nat.mul_left_comm p 2, Nat.mul_assoc 2 q, Nat.mul_left_comm p 2, ← Nat.mul_assoc p q]
          omega
        omega
      rw [e, Nat.add_mul_mod_self_left]

/-! ### The state (hi, lo), its move, what it gives out -/
theorem W_pos : 0 < W := by decide

def next (s : Nat × Nat) : Nat × Nat :=
  ((s.2 * mLo / W + s.1 * mLo + s.2 * mHi + iHi + (s.2 * mLo % W + iLo) / W) % W, (s.2 * mLo % W + iLo) % W)

def half1 (x : Nat) : Nat := (x ^^^ x / 4294967296) * cheap % W
def half2 (x y : Nat) : Nat := (x ^^^ x / 281474976710656) * (y ||| 1) % W
def out (s : Nat × Nat) : Nat := half2 (half1 s.1) s.2

def st : Nat → Nat × Nat → Nat × Nat
  | 0, s => s
  | k + 1, s => next (st k s)

theorem st_zero (s : Nat × Nat) : st 0 s = s := by simp only [st]
theorem st_succ (k : Nat) (s : Nat × Nat) : st (k + 1) s = next (st k s) := by simp only [st]

theorem st_next (k : Nat) (s : Nat × Nat) : st k (next s) = st (k + 1) s := by
  induction k with
  | zero => rw [st_succ, st_zero, st_zero]
  | succ k ih => rw [st_succ, ih, ← st_succ]

theorem st_st (j k : Nat) (s : Nat × Nat) : st j (st k s) = st (k + j) s := by
  induction j with
  | zero => rw [st_zero, Nat.add_zero]
  | succ j ih => rw [st_succ, ih, ← st_succ, Nat.add_assoc]

def val (s : Nat × Nat) : Nat := s.1 * W + s.2
def Ok (s : Nat × Nat) : Prop := s.1 < W ∧ s.2 < W

theorem next_ok (s : Nat × Nat) : Ok (next s) := by
  unfold Ok next
  exact ⟨Nat.mod_lt _ W_pos, Nat.mod_lt _ W_pos⟩
theorem st_ok {s : Nat × Nat} (h : Ok s) (k : Nat) : Ok (st k s) := by
  cases k with
  | zero => rw [st_zero]; exact h
  | succ k => rw [st_succ]; exact next_ok _
theorem out_lt (s : Nat × Nat) : out s < W := by
  unfold out half2
  exact Nat.mod_lt _ W_pos

theorem split_mod (W a b l : Nat) (hl : l < W) : (W * W * a + W * b + l) % (W * W) = W * (b % W) + l := by
  have hW : 0 < W := by omega
  have e : W * W * a + W * b + l = (W * (b % W) + l) + W * W * (a + b / W) := by
    have h1 := Nat.div_add_mod b W
    have h2 : W * b = W * W * (b / W) + W * (b % W) := by
      have : W * b = W * (W * (b / W) + b % W) := by rw [h1]
      rw [this, Nat.mul_add, Nat.mul_assoc]
    rw [Nat.mul_add, h2]
    omega
  have hlt : W * (b % W) + l < W * W := by
    have h3 : b % W + 1 ≤ W := Nat.mod_lt b hW
    have h4 := Nat.mul_le_mul_left W h3
    rw [Nat.mul_add, Nat.mul_one] at h4
    omega
  rw [e, Nat.add_mul_mod_self_left, Nat.mod_eq_of_lt hlt]

theorem expand (W a b c d e f : Nat) : (a * W + b) * (c * W + d) + (e * W + f) = W * W * (a * c) + W * (a * d + b * c + e) + (b * d + f) := by
  have h1 : a * W * (c * W) = W * W * (a * c) := by rw [Nat.mul_mul_mul_comm, Nat.mul_comm]
  have h2 : a * W * d = W * (a * d) := by rw [Nat.mul_comm a W, Nat.mul_assoc]
  have h3 : b * (c * W) = W * (b * c) := by rw [← Nat.mul_assoc, Nat.mul_comm]
  have h4 : e * W = W * e := Nat.mul_comm _ _
  rw [Nat.add_mul, Nat.mul_add, Nat.mul_add, Nat.mul_add, Nat.mul_add, h1, h2, h3, h4]
  omega

theorem move (W hi lo mh ml ih il : Nat) (hW : 0 < W) :
    ((lo * ml / W + hi * ml + lo * mh + ih + (lo * ml % W + il) / W) % W) * W + (lo * ml % W + il) % W = ((mh * W + ml) * (hi * W + lo) + (ih * W + il)) % (W * W) := by
  rw [expand]
  have h1 := Nat.div_add_mod (lo * ml) W
  have h3 := Nat.div_add_mod (lo * ml % W + il) W
  have hlt := Nat.mod_lt (lo * ml % W + il) hW
  have e : W * W * (mh * hi) + W * (mh * lo + ml * hi + ih) + (ml * lo + il) = W * W * (mh * hi) + W * (lo * ml / W + hi * ml + lo * mh + ih + (lo * ml % W + il) / W) + (lo * ml % W + il) % W := by
    rw [Nat.mul_comm ml lo, Nat.mul_comm mh lo, Nat.mul_comm ml hi, Nat.mul_add W, Nat.mul_add W, Nat.mul_add W, Nat.mul_add W, Nat.mul_add W, Nat.mul_add W]
    omega
  rw [e, split_mod _ _ _ _ hlt, Nat.mul_comm]

theorem val_next (s : Nat × Nat) : val (next s) = (A * val s + C) % M := by
  unfold val A C M next
  exact move W s.1 s.2 mHi mLo iHi iLo W_pos

theorem F_mod (k x : Nat) : F k (x % M) % M = F k x % M := by
  induction k generalizing x with
  | zero => simp only [F]; exact Nat.mod_mod _ _
  | succ k ih =>
    simp only [F]
    rw [← ih (A * (x % M) + C), ← ih (A * x + C)]
    have e : (A * (x % M) + C) % M = (A * x + C) % M := by
      rw [Nat.add_mod, Nat.mul_mod, Nat.mod_mod, ← Nat.mul_mod, ← Nat.add_mod]
    rw [e]

theorem val_st (k : Nat) (s : Nat × Nat) : val (st (k + 1) s) = F (k + 1) (val s) % M := by
  induction k generalizing s with
  | zero => rw [st_succ, st_zero, val_next, F_succ, F_zero]
  | succ k ih => rw [← st_next, ih, val_next, F_mod, ← F_succ]

/-- A state that gives out 1. -/
def star : Nat × Nat := (10053033840993720478, 0)
theorem out_star : out star = 1 := by decide

theorem val_inj {a b : Nat × Nat} (ha : Ok a) (hb : Ok b) (h : val a = val b) : a = b := by
  obtain ⟨a1, a2⟩ := a
  obtain ⟨b1, b2⟩ := b
  unfold val at h
  simp only at h
  have h1 : a2 < W := ha.2
  have h2 : b2 < W := hb.2
  have e2 : a2 = b2 := by
    have := congrArg (· % W) h
    simp only [Nat.mul_add_mod_self_right, Nat.mod_eq_of_lt h1, Nat.mod_eq_of_lt h2] at this
    exact this
  subst e2
  have e1 : a1 = b1 := Nat.eq_of_mul_eq_mul_right W_pos (by omega)
  rw [e1]

theorem star_ok : Ok star := by unfold Ok; decide

theorem reach_star (s : Nat × Nat) : ∃ k, st (k + 1) s = star := by
  obtain ⟨k, hk⟩ := reach 128 (val (next s)) (val star)
  have hM : 2 ^ 128 = M := by decide
  rw [hM] at hk
  have hv : val star % M = val star := by decide
  rw [hv] at hk
  refine ⟨k, val_inj (by rw [st_succ]; exact next_ok _) star_ok ?_⟩
  rw [val_st, F_succ]
  rw [← F_mod, ← val_next, hk]

/-! ### A number below n: math/rand/v2's uint64n -/
def thr (n : Nat) : Nat := (W - n) % n
def Good (n : Nat) (s : Nat × Nat) : Prop := thr n ≤ out s * n % W

theorem good_star {n : Nat} (h0 : 0 < n) (h : n < W) : Good n star := by
  unfold Good thr
  rw [out_star, Nat.one_mul, Nat.mod_eq_of_lt h]
  exact Nat.le_of_lt (Nat.mod_lt _ h0)

def Drawn (n : Nat) (s : Nat × Nat) (v : Nat) (s' : Nat × Nat) : Prop :=
  (n &&& (n - 1) = 0 ∧ v = out (next s) &&& (n - 1) ∧ s' = next s) ∨
  (n &&& (n - 1) ≠ 0 ∧ ∃ k, (∀ j, j < k → ¬ Good n (st (j + 1) s)) ∧ Good n (st (k + 1) s) ∧ v = out (st (k + 1) s) * n / W ∧ s' = st (k + 1) s)

theorem Drawn.unique {n : Nat} {s s1 s2 : Nat × Nat} {v1 v2 : Nat} (h1 : Drawn n s v1 s1) (h2 : Drawn n s v2 s2) : v1 = v2 ∧ s1 = s2 := by
  rcases h1 with ⟨a, b, c⟩ | ⟨a, k, b, c, d, e⟩
  · rcases h2 with ⟨a', b', c'⟩ | ⟨a', _⟩
    · exact ⟨b.trans b'.symm, c.trans c'.symm⟩
    · exact absurd a a'
  · rcases h2 with ⟨a', _⟩ | ⟨a', k', b', c', d', e'⟩
    · exact absurd a' a
    · have hk : k = k' := by
        rcases Nat.lt_trichotomy k k' with h | h | h
        · exact absurd c (b' k h)
        · exact h
        · exact absurd c' (b k' h)
      subst hk
      exact ⟨d.trans d'.symm, e.trans e'.symm⟩

theorem Drawn.lt {n : Nat} {s s' : Nat × Nat} {v : Nat} (h : Drawn n s v s') (hn : 0 < n) : v < n := by
  rcases h with ⟨_, b, _⟩ | ⟨_, k, _, _, d, _⟩
  · have : out (next s) &&& (n - 1) ≤ n - 1 := Nat.and_le_right
    omega
  · rw [d]
    have h1 := Nat.mul_lt_mul_of_pos_right (out_lt (st (k + 1) s)) hn
    exact Nat.div_lt_of_lt_mul h1

theorem Drawn.ok {n : Nat} {s s' : Nat × Nat} {v : Nat} (h : Drawn n s v s') : Ok s' := by
  rcases h with ⟨_, _, c⟩ | ⟨_, k, _, _, _, e⟩
  · rw [c]; exact next_ok s
  · rw [e, st_succ]; exact next_ok _

end Go.Proofs.Qxb6612690a.Pcg
