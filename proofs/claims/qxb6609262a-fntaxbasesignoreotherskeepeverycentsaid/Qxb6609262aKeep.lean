import Derived.Test.Qxb6609262aPlain
namespace Go.Proofs.Qxb6609262a.Keep
open Go.Proofs.Qxb6609262a.In Go.Proofs.Qxb6609262a.Sum Go.Proofs.Qxb6609262a.Gsum Go.Proofs.Qxb6609262a.Keys Go.Proofs.Qxb6609262a.Plain

/-! ### Dropping what does not count -/
/-- The indices below t of the postings that count. -/
def idx (T : Nat → TP) : Nat → List Nat
  | 0 => []
  | t + 1 => if cnt (T t) then idx T t ++ [t] else idx T t
def pick (l : List Nat) (j : Nat) : Nat := l[j]?.getD 0

theorem idx_yes {T : Nat → TP} {t : Nat} (h : cnt (T t) = true) : idx T (t + 1) = idx T t ++ [t] := by rw [idx, h]; rfl
theorem idx_no {T : Nat → TP} {t : Nat} (h : cnt (T t) = false) : idx T (t + 1) = idx T t := by rw [idx, h]; rfl
theorem idx_len (T : Nat → TP) : ∀ t, (idx T t).length ≤ t
  | 0 => Nat.le_refl _
  | t + 1 => by
    have ih := idx_len T t
    cases h : cnt (T t)
    · rw [idx_no h]; omega
    · rw [idx_yes h]; simp; omega
theorem idx_lt (T : Nat → TP) : ∀ t, ∀ x ∈ idx T t, x < t
  | 0 => fun x hx => absurd hx List.not_mem_nil
  | t + 1 => by
    intro x hx
    have ih := idx_lt T t
    cases h : cnt (T t)
    · rw [idx_no h] at hx; have := ih x hx; omega
    · rw [idx_yes h] at hx
      rcases List.mem_append.1 hx with hx | hx
      · have := ih x hx; omega
      · rw [List.mem_singleton.1 hx]; omega
theorem pick_mem {l : List Nat} {j : Nat} (h : j < l.length) : pick l j ∈ l := by
  simp [pick, h]
theorem pick_lt (T : Nat → TP) {t j : Nat} (h : j < (idx T t).length) : pick (idx T t) j < t := idx_lt T t _ (pick_mem h)
theorem pick_app {l r : List Nat} {j : Nat} (h : j < l.length) : pick (l ++ r) j = pick l j := by
  unfold pick; rw [List.getElem?_append_left h]
theorem pick_end (l : List Nat) (t : Nat) : pick (l ++ [t]) l.length = t := by
  unfold pick; simp

theorem run_congr {T T' : Nat → TP} {K K' : Nat → Option Nat} : ∀ t, (∀ i, i < t → T i = T' i ∧ K i = K' i) → run T K t = run T' K' t
  | 0, _ => rfl
  | t + 1, h => by
    have ih := run_congr (T := T) (T' := T') (K := K) (K' := K') t (fun i hi => h i (by omega))
    obtain ⟨h1, h2⟩ := h t (by omega)
    unfold run cn item
    rw [ih, h1, h2]

theorem run_idx {T : Nat → TP} {K : Nat → Option Nat} {n : Nat} (hk : KeyOk T n K) : ∀ t, t ≤ n → run (fun j => T (pick (idx T t) j)) (fun j => K (pick (idx T t) j)) (idx T t).length = run T K t
  | 0, _ => rfl
  | t + 1, h => by
    have ih := run_idx hk t (by omega)
    have hc := cn_cnt hk (show t < n by omega)
    cases hcn : cnt (T t)
    · rw [idx_no hcn, ih, run, hc, hcn]
      rfl
    · rw [idx_yes hcn, List.length_append, List.length_singleton, run, run, hc, hcn]
      have e1 : cn (fun j => T (pick (idx T t ++ [t]) j)) (fun j => K (pick (idx T t ++ [t]) j)) (idx T t).length = true := by
        have := hc.trans hcn
        unfold cn at *
        simp only [pick_end]
        exact this
      have e2 : item (fun j => T (pick (idx T t ++ [t]) j)) (fun j => K (pick (idx T t ++ [t]) j)) (idx T t).length = item T K t := by
        unfold item
        simp only [pick_end]
      have e3 : run (fun j => T (pick (idx T t ++ [t]) j)) (fun j => K (pick (idx T t ++ [t]) j)) (idx T t).length = run T K t := by
        rw [← ih]
        exact run_congr _ (fun i hi => by rw [pick_app hi]; exact ⟨rfl, rfl⟩)
      rw [e1, e2, e3]

/-! ### Every cent -/
def side (d : Bool) (b : TB) : Int := if d then b.deb else b.cre
def bsum (d : Bool) : List TB → Int
  | [] => 0
  | b :: bs => side d b + bsum d bs
def tsum (T : Nat → TP) (d : Bool) : Nat → Int
  | 0 => 0
  | t + 1 => tsum T d t + if cnt (T t) then amt d (T t) else 0

theorem bsum_app (d : Bool) (a b : List TB) : bsum d (a ++ b) = bsum d a + bsum d b := by
  induction a with
  | nil => simp [bsum]
  | cons x xs ih => simp only [List.cons_append, bsum, ih]; omega
theorem bsum_set (d : Bool) (x : TB) : ∀ (bs : List TB) (j : Nat) (hj : j < bs.length), bsum d (bs.set j (bs[j].plus x)) = bsum d bs + side d x
  | [], j, hj => absurd hj (Nat.not_lt_zero _)
  | b :: bs, 0, _ => by
    simp only [List.set_cons_zero, List.getElem_cons_zero, bsum]
    unfold side TB.plus
    cases d <;> simp <;> omega
  | b :: bs, j + 1, hj => by
    simp only [List.set_cons_succ, List.getElem_cons_succ, bsum]
    rw [bsum_set d x bs j (by simpa using hj)]
    omega
theorem bsum_put (d : Bool) {bs : List TB} (hd : Dist bs) (x : TB) : bsum d (put bs x) = bsum d bs + side d x := by
  by_cases h : ∃ j, ∃ hj : j < bs.length, bs[j].hit x = true
  · obtain ⟨j, hj, hh⟩ := h
    rw [put_set hd hj hh, bsum_set]
  · rw [put_new (fun j hj => by
      cases e : bs[j].hit x
      · rfl
      · exact absurd ⟨j, hj, e⟩ h), bsum_app]
    simp [bsum]
theorem bsum_run {T : Nat → TP} {K : Nat → Option Nat} {n : Nat} (hk : KeyOk T n K) (d : Bool) : ∀ t, t ≤ n → bsum d (run T K t) = tsum T d t
  | 0, _ => rfl
  | t + 1, h => by
    have ih := bsum_run hk d t (by omega)
    have hc := cn_cnt hk (show t < n by omega)
    rw [run, tsum, hc]
    cases hcn : cnt (T t)
    · simp [ih]
    · simp only [if_true]
      rw [bsum_put d (dist_run T K t), ih]
      rfl

theorem bsum_step (d : Bool) {bs : List TB} {i : Nat} (h : i < bs.length) : bsum d (bs.take (i + 1)) = bsum d (bs.take i) + side d bs[i] := by
  rw [← List.take_append_getElem h, bsum_app]
  simp [bsum]
theorem bsum_bd (d : Bool) {bs : List TB} (h : ∀ b ∈ bs, Bd 4096 b) : ∀ i, i ≤ bs.length → -37778931862957161709568 * (i : Int) ≤ bsum d (bs.take i) ∧ bsum d (bs.take i) ≤ 37778931862957161709568 * (i : Int)
  | 0, _ => by simp [bsum]
  | i + 1, hi => by
    have ih := bsum_bd d h i (by omega)
    have hb := h _ (List.getElem_mem (show i < bs.length by omega))
    rw [bsum_step d (by omega)]
    unfold Bd at hb
    unfold side
    cases d <;> simp <;> omega

/-! ### The words of a sum -/
theorem lo_add (x y : Int) : (loOf x + loOf y) % 18446744073709551616 = loOf (x + y) := by unfold loOf; omega
theorem hi_add1 (x y : Int) (h : loOf (x + y) < loOf x) : hiOf x + hiOf y + 1 = hiOf (x + y) := by unfold loOf hiOf at *; omega
theorem hi_add0 (x y : Int) (h : loOf x ≤ loOf (x + y)) : hiOf x + hiOf y = hiOf (x + y) := by unfold loOf hiOf at *; omega

theorem tb_cells (T : Nat → TP) (K : Nat → Option Nat) {n : Nat} (hn : n ≤ 4096) (hf : ∀ j, j < n → (T j).Fit) : ∀ b ∈ run T K n, Bd 4096 b := fun b hb => by
  have := bd_run T K n hf n (Nat.le_refl _) b hb
  unfold Bd at *
  omega

/-- No two bases share key and currency. -/
theorem dist_at (T : Nat → TP) (K : Nat → Option Nat) (n : Nat) {i j : Nat} (hij : i < j) (hj : j < (run T K n).length) : (run T K n)[i].hit (run T K n)[j] = false :=
  List.pairwise_iff_getElem.1 (dist_run T K n) i j (by omega) hj hij

end Go.Proofs.Qxb6609262a.Keep
