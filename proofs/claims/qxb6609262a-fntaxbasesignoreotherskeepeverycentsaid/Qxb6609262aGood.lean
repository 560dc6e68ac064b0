import Derived.Test.Qxb6609262aOwn
import Derived.Test.Qxb6609262aKeep
namespace Go.Proofs.Qxb6609262a.Good
open Go.Proofs.Qxb6609262a.In Go.Proofs.Qxb6609262a.Sum Go.Proofs.Qxb6609262a.Gsum Go.Proofs.Qxb6609262a.Keys Go.Proofs.Qxb6609262a.Plain Go.Proofs.Qxb6609262a.Own Go.Proofs.Qxb6609262a.Keep

/-- What the law asks of the bases, with no Go in sight. -/
structure Good (bs : List TB) (x y : Int) : Prop where
  apart : ∀ i j, i < j → j < bs.length → ky bs i = ky bs j → ((cu bs i).toList == (cu bs j).toList) = false
  bdD : ∀ i, i < bs.length → -37778931862957161709568 ≤ de bs i ∧ de bs i ≤ 37778931862957161709568
  bdE : ∀ i, i < bs.length → -37778931862957161709568 ≤ cr bs i ∧ cr bs i ≤ 37778931862957161709568
  bdS : ∀ d i, i ≤ bs.length → i ≤ 4096 → -154742504910672534362390528 ≤ bsum d (bs.take i) ∧ bsum d (bs.take i) ≤ 154742504910672534362390528
  sumD : bsum true bs = x
  sumE : bsum false bs = y

theorem good_run {T : Nat → TP} {K : Nat → Option Nat} {n : Nat} (hk : KeyOk T n K) (hn : n ≤ 4096) (hf : ∀ j, j < n → (T j).Fit) : Good (run T K n) (tsum T true n) (tsum T false n) := by
  have hb := tb_cells T K hn hf
  refine ⟨fun i j hij hj e => ?_, fun i hi => ?_, fun i hi => ?_, fun d i hi h4 => ?_, bsum_run hk true n (Nat.le_refl _), bsum_run hk false n (Nat.le_refl _)⟩
  · have hi : i < (run T K n).length := by omega
    have hd := dist_at T K n hij hj
    have hky : ∀ l (hl : l < (run T K n).length), (run T K n)[l].key = some (ky (run T K n) l) := fun l hl => by
      have h1 := key_run T K n _ (List.getElem_mem hl)
      obtain ⟨g, hg⟩ := Option.isSome_iff_exists.1 h1
      rw [hg]
      simp [ky, hl, hg]
    unfold TB.hit at hd
    rw [hky i hi, hky j hj, e, beq_self_eq_true, Bool.true_and] at hd
    rw [cu_at hi, cu_at hj]
    exact hd
  · have h := hb _ (List.getElem_mem hi)
    rw [de_at hi]
    unfold Bd at h
    omega
  · have h := hb _ (List.getElem_mem hi)
    rw [cr_at hi]
    unfold Bd at h
    omega
  · have := bsum_bd d hb i hi
    omega

theorem step_true {bs : List TB} {i : Nat} (h : i < bs.length) : bsum true (bs.take i) + de bs i = bsum true (bs.take (i + 1)) := by
  rw [bsum_step true h, de_at h]; rfl
theorem step_false {bs : List TB} {i : Nat} (h : i < bs.length) : bsum false (bs.take i) + cr bs i = bsum false (bs.take (i + 1)) := by
  rw [bsum_step false h, cr_at h]; rfl

end Go.Proofs.Qxb6609262a.Good
