import Derived.Test.Qxb6609262aGrp
namespace Go.Proofs.Qxb6609262a.Gsum
open Go.RowKit Go.Proofs.Qxb6609262a.Sum Go.Proofs.Qxb6609262a.Bal Go.Proofs.Qxb6609262a.In Go.Proofs.Qxb6609262a.Grp

def amt (debit : Bool) (t : TP) : Int := if debit then t.deb else t.cre
/-- What of t counts for q. -/
def part (debit : Bool) (q t : TP) : Int := if same t q then amt debit t else 0

/-- Over the postings i, i + 1, .., i + m - 1. -/
def sumZ (T : Nat → TP) (q : TP) (d : Bool) (i : Nat) : Nat → Int
  | 0 => 0
  | m + 1 => sumZ T q d i m + part d q (T (i + m))
def sumH (T : Nat → TP) (q : TP) (d : Bool) (i : Nat) : Nat → Int
  | 0 => 0
  | m + 1 => sumH T q d i m + part d q (T (i + m)) / 4294967296
def sumL (T : Nat → TP) (q : TP) (d : Bool) (i : Nat) : Nat → Int
  | 0 => 0
  | m + 1 => sumL T q d i m + part d q (T (i + m)) % 4294967296

theorem sum_eq (T : Nat → TP) (q : TP) (d : Bool) (i : Nat) : ∀ m, sumH T q d i m * 4294967296 + sumL T q d i m = sumZ T q d i m
  | 0 => rfl
  | m + 1 => by have := sum_eq T q d i m; simp only [sumH, sumL, sumZ]; omega

theorem part_bd (d : Bool) (q t : TP) (h : t.Fit) : -9223372036854775808 ≤ part d q t ∧ part d q t ≤ 9223372036854775807 := by
  unfold part amt
  have a := h.deb
  have b := h.cre
  split
  · split <;> omega
  · omega

theorem sum_bd (T : Nat → TP) (q : TP) (d : Bool) (i n : Nat) (hf : ∀ j, j < n → (T j).Fit) : ∀ m, i + m ≤ n → -2147483648 * (m : Int) ≤ sumH T q d i m ∧ sumH T q d i m ≤ 2147483648 * (m : Int) ∧ 0 ≤ sumL T q d i m ∧ sumL T q d i m ≤ 4294967296 * (m : Int)
  | 0, _ => by simp [sumH, sumL]
  | m + 1, h => by
    have ih := sum_bd T q d i n hf m (by omega)
    have hb := part_bd d q (T (i + m)) (hf _ (by omega))
    simp only [sumH, sumL]
    omega

theorem twelve {w : World} {b o n j i : Nat} {T : Nat → TP} (h : Ps w b o n T) (hj : j < n) (hi : i < n) :
    w.cell? ⟨b, o + j * 6, none⟩ = some (.int .i64 (T j).line) ∧ w.cell? ⟨b, o + j * 6 + 1, none⟩ = some (.string (T j).cur) ∧ w.cell? ⟨b, o + j * 6 + 2, none⟩ = some (.int .i64 (T j).deb) ∧ w.cell? ⟨b, o + j * 6 + 3, none⟩ = some (.int .i64 (T j).cre) ∧ w.cell? ⟨b, o + j * 6 + 4, none⟩ = some (.bool (T j).tax) ∧ w.cell? ⟨b, o + j * 6 + 5, none⟩ = some (.int .i64 (T j).key) ∧
    w.cell? ⟨b, o + i * 6, none⟩ = some (.int .i64 (T i).line) ∧ w.cell? ⟨b, o + i * 6 + 1, none⟩ = some (.string (T i).cur) ∧ w.cell? ⟨b, o + i * 6 + 2, none⟩ = some (.int .i64 (T i).deb) ∧ w.cell? ⟨b, o + i * 6 + 3, none⟩ = some (.int .i64 (T i).cre) ∧ w.cell? ⟨b, o + i * 6 + 4, none⟩ = some (.bool (T i).tax) ∧ w.cell? ⟨b, o + i * 6 + 5, none⟩ = some (.int .i64 (T i).key) :=
  ⟨h.c0 j hj, h.c1 j hj, h.c2 j hj, h.c3 j hj, h.c4 j hj, h.c5 j hj, h.c0 i hi, h.c1 i hi, h.c2 i hi, h.c3 i hi, h.c4 i hi, h.c5 i hi⟩

theorem same_tp (p q : TP) (w : World) : Calls Try.prog 11 #[agg p, agg q] w fun e w' => e = .returned (.bool (same p q)) ∧ Below w.heap.size w w' :=
  same_any p.line p.deb p.cre p.cur p.tax p.key q.line q.deb q.cre q.cur q.tax q.key w

theorem step_no {T : Nat → TP} {d : Bool} {i n k m j : Nat} {H L : Int} (h : k + m = n - i ∧ j = i + m ∧ H = sumH T (T i) d i m ∧ L = sumL T (T i) d i m) (hlt : j < n) (hs : same (T j) (T i) = false) :
    k - 1 + (m + 1) = n - i ∧ j + 1 = i + (m + 1) ∧ H = sumH T (T i) d i (m + 1) ∧ L = sumL T (T i) d i (m + 1) := by
  obtain ⟨h1, h2, h3, h4⟩ := h
  have hp : part d (T i) (T (i + m)) = 0 := by unfold part; rw [← h2, hs]; rfl
  refine ⟨by omega, by omega, ?_, ?_⟩
  · rw [sumH, hp, h3]; omega
  · rw [sumL, hp, h4]; omega

theorem step_yes {T : Nat → TP} {d : Bool} {i n k m j : Nat} {H L a : Int} (h : k + m = n - i ∧ j = i + m ∧ H = sumH T (T i) d i m ∧ L = sumL T (T i) d i m) (hlt : j < n) (hs : same (T j) (T i) = true) (ha : amt d (T j) = a) :
    k - 1 + (m + 1) = n - i ∧ j + 1 = i + (m + 1) ∧ H + a / 4294967296 = sumH T (T i) d i (m + 1) ∧ L + a % 4294967296 = sumL T (T i) d i (m + 1) := by
  obtain ⟨h1, h2, h3, h4⟩ := h
  have hp : part d (T i) (T (i + m)) = a := by unfold part; rw [← h2, hs]; exact ha
  refine ⟨by omega, by omega, ?_, ?_⟩
  · rw [sumH, hp, h3]
  · rw [sumL, hp, h4]

theorem mask32 (a : Int) : bits .and .u64 (IntKind.u64.wrap a) 4294967295 = a % 4294967296 := by
  rw [IntKind.wrap_u64]
  obtain ⟨x, hx⟩ := Int.eq_ofNat_of_zero_le (show 0 ≤ a % 18446744073709551616 by omega)
  have hlt : x < 18446744073709551616 := by omega
  have h := bits_and_u64_nat x 4294967295 hlt (by decide)
  have e : x &&& 4294967295 = x % 4294967296 := Nat.and_two_pow_sub_one_eq_mod x 32
  rw [e] at h
  have e2 : ((4294967295 : Nat) : Int) = 4294967295 := rfl
  rw [e2] at h
  rw [hx, h]
  omega

theorem ret_mask (L a : Int) (h0 : 0 ≤ L) (h1 : L ≤ 17592186044416) : Value.int .u64 (IntKind.u64.wrap (L + bits .and .u64 (IntKind.u64.wrap a) 4294967295)) = .int .u64 (L + a % 4294967296) := by
  rw [mask32, IntKind.wrap_u64]
  congr 1
  omega

theorem exit_eq {T : Nat → TP} {d : Bool} {i n k m j : Nat} {H L : Int} (h : k + m = n - i ∧ j = i + m ∧ H = sumH T (T i) d i m ∧ L = sumL T (T i) d i m) (hlt : ¬ j < n) (hi : i < n) (hj : j ≤ n) : H * 4294967296 + L = sumZ T (T i) d i (n - i) := by
  obtain ⟨h1, h2, h3, h4⟩ := h
  have : n - i = m := by omega
  rw [this, h3, h4]
  exact sum_eq T (T i) d i m

set_option maxHeartbeats 1000000 in
theorem gsum_any (b o n c i : Nat) (d : Bool) (T : Nat → TP) (w : World) (hn : n ≤ 4096) (hi : i < n) (hp : Ps w b o n T) :
    Calls Try.prog 12 #[.slice (some ⟨b, o, none⟩) n c, .int .i64 i, .bool d] w fun e w' => e = .returned (.tuple #[.int .i64 (hiOf (sumZ T (T i) d i (n - i))), .int .u64 (loOf (sumZ T (T i) d i (n - i)))]) ∧ Below w.heap.size w w' := by
  have hb0 := hp.lt (by omega)
  go_enter Try.func12, Try.ntmps12
  go_wp2
  go_loopg [8, 9, 10] (n - i) (fun k h l jv wr => ∃ (m j : Nat) (H L : Int), Aside (k + m = n - i ∧ j = i + m ∧ H = sumH T (T i) d i m ∧ L = sumL T (T i) d i m) ∧ j ≤ n ∧ h = .int .i64 H ∧ l = .int .u64 L ∧ jv = .int .i64 j ∧ Below w.heap.size w wr)
  case atStart => exact ⟨0, i, 0, 0, ⟨Nat.add_zero _, rfl, rfl, rfl⟩, by omega, rfl, rfl, rfl, Below.refl _ _⟩
  case round =>
    obtain ⟨m, j, H, L, hA, hm, rfl, rfl, rfl, hbl⟩ := hrel
    have bd : (-8796093022208 ≤ H ∧ H ≤ 8796093022208) ∧ 0 ≤ L ∧ L ≤ 17592186044416 := by
      obtain ⟨h1, h2, h3, h4⟩ := hA.out
      have := sum_bd T (T i) d i n hp.fit m (by omega)
      rw [h3, h4]
      omega
    have hpr := hp.below hbl hb0
    by_cases hlt : j < n
    · have S0 := twelve hpr hlt hi
      have fj := hpr.fit j hlt
      have hlt' : (j : Int) < (n : Int) := by omega
      have hi' : (i : Int) < (n : Int) := by omega
      cases hsm : same (T j) (T i)
      · have HS : Hid (same (T j) (T i) = false) := hsm
        clear hsm
        go_wp2_with fail
        go_region_held3 (fun w' => w'.cell? ⟨b, o + j * 6, none⟩ = some (.int .i64 (T j).line) ∧ w'.cell? ⟨b, o + j * 6 + 1, none⟩ = some (.string (T j).cur) ∧ w'.cell? ⟨b, o + j * 6 + 2, none⟩ = some (.int .i64 (T j).deb) ∧ w'.cell? ⟨b, o + j * 6 + 3, none⟩ = some (.int .i64 (T j).cre) ∧ w'.cell? ⟨b, o + j * 6 + 4, none⟩ = some (.bool (T j).tax) ∧ w'.cell? ⟨b, o + j * 6 + 5, none⟩ = some (.int .i64 (T j).key) ∧ w'.cell? ⟨b, o + i * 6, none⟩ = some (.int .i64 (T i).line) ∧ w'.cell? ⟨b, o + i * 6 + 1, none⟩ = some (.string (T i).cur) ∧ w'.cell? ⟨b, o + i * 6 + 2, none⟩ = some (.int .i64 (T i).deb) ∧ w'.cell? ⟨b, o + i * 6 + 3, none⟩ = some (.int .i64 (T i).cre) ∧ w'.cell? ⟨b, o + i * 6 + 4, none⟩ = some (.bool (T i).tax) ∧ w'.cell? ⟨b, o + i * 6 + 5, none⟩ = some (.int .i64 (T i).key))
          (first | exact S0 | exact twelve hps hlt hi)
          (first | (go_at_call 11; refine (same_tp (T j) (T i) _).mono ?_; rintro e w1 ⟨rfl, hb1⟩; rw [HS.out]; have hbn := hbl.drew.trans (hb1.mono hbl.size); have hps := hp.below hbn hb0))
        go_wp2
        go_roundg (gk - 1)
        case measure => have := hA.out; omega
        case rel => exact ⟨m + 1, j + 1, H, L, step_no hA.out hlt HS.out, by omega, rfl, rfl, by go_num, hbn⟩
      · have HS : Hid (same (T j) (T i) = true) := hsm
        clear hsm
        have fd := fj.deb
        have fc := fj.cre
        cases d
        all_goals
          go_wp2_with fail
          go_region_held3 (fun w' => w'.cell? ⟨b, o + j * 6, none⟩ = some (.int .i64 (T j).line) ∧ w'.cell? ⟨b, o + j * 6 + 1, none⟩ = some (.string (T j).cur) ∧ w'.cell? ⟨b, o + j * 6 + 2, none⟩ = some (.int .i64 (T j).deb) ∧ w'.cell? ⟨b, o + j * 6 + 3, none⟩ = some (.int .i64 (T j).cre) ∧ w'.cell? ⟨b, o + j * 6 + 4, none⟩ = some (.bool (T j).tax) ∧ w'.cell? ⟨b, o + j * 6 + 5, none⟩ = some (.int .i64 (T j).key) ∧ w'.cell? ⟨b, o + i * 6, none⟩ = some (.int .i64 (T i).line) ∧ w'.cell? ⟨b, o + i * 6 + 1, none⟩ = some (.string (T i).cur) ∧ w'.cell? ⟨b, o + i * 6 + 2, none⟩ = some (.int .i64 (T i).deb) ∧ w'.cell? ⟨b, o + i * 6 + 3, none⟩ = some (.int .i64 (T i).cre) ∧ w'.cell? ⟨b, o + i * 6 + 4, none⟩ = some (.bool (T i).tax) ∧ w'.cell? ⟨b, o + i * 6 + 5, none⟩ = some (.int .i64 (T i).key))
            (first | exact S0 | exact twelve hps hlt hi)
            (first | (go_at_call 11; refine (same_tp (T j) (T i) _).mono ?_; rintro e w1 ⟨rfl, hb1⟩; rw [HS.out]; have hbn := hbl.drew.trans (hb1.mono hbl.size); have hps := hp.below hbn hb0))
          obtain ⟨q0, q1, q2, q3, q4, q5, _⟩ := twelve hps hlt hi
          go_wp2
          go_roundg (gk - 1)
          case measure => have := hA.out; omega
          case rel => exact ⟨m + 1, j + 1, _, _, step_yes hA.out hlt HS.out rfl, by omega, by go_num, ret_mask _ _ bd.2.1 bd.2.2, by go_num, hbn⟩
    · have HE : Hid (H * 4294967296 + L = sumZ T (T i) d i (n - i)) := exit_eq hA.out hlt hi hm
      go_wp2_with fail
      refine (join_any H L _ (by omega) (by omega) (by omega) (by omega)).mono ?_
      rintro e w1 ⟨rfl, rfl⟩
      rw [HE.out]
      go_wp2
      go_ret2
      exact ⟨rfl, hbl⟩

end Go.Proofs.Qxb6609262a.Gsum
