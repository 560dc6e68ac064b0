import Derived.Test.Qxb6609262aKeep
namespace Go.Proofs.Qxb6609262a.Tot
open Go.RowKit Go.Proofs.Qxb6609262a.Sum Go.Proofs.Qxb6609262a.Bal Go.Proofs.Qxb6609262a.In Go.Proofs.Qxb6609262a.Grp Go.Proofs.Qxb6609262a.Gsum Go.Proofs.Qxb6609262a.Keep

/-! ### add128 -/
theorem add_lo (x y : Int) : IntKind.u64.wrap (loOf x + loOf y) = loOf (x + y) := by rw [IntKind.wrap_u64]; exact Keep.lo_add x y
theorem add_hi1 (x y : Int) (h : IntKind.u64.wrap (loOf x + loOf y) < loOf x) : hiOf x + hiOf y + 1 = hiOf (x + y) := by rw [add_lo] at h; exact hi_add1 x y h
theorem add_hi0 (x y : Int) (h : loOf x ≤ IntKind.u64.wrap (loOf x + loOf y)) : hiOf x + hiOf y = hiOf (x + y) := by rw [add_lo] at h; exact hi_add0 x y h
theorem lo_bd (x : Int) : 0 ≤ loOf x ∧ loOf x ≤ 18446744073709551615 := by unfold loOf; omega
theorem hi_bd (x : Int) (h0 : -1237940039285380274899124224 ≤ x) (h1 : x ≤ 1237940039285380274899124224) : -67108864 ≤ hiOf x ∧ hiOf x ≤ 67108864 := by unfold hiOf; omega

theorem add128_any (x y : Int) (w : World) (hx0 : -1237940039285380274899124224 ≤ x) (hx1 : x ≤ 1237940039285380274899124224) (hy0 : -1237940039285380274899124224 ≤ y) (hy1 : y ≤ 1237940039285380274899124224) :
    Calls Try.prog 14 #[.int .i64 (hiOf x), .int .u64 (loOf x), .int .i64 (hiOf y), .int .u64 (loOf y)] w fun e w' => e = .returned (.tuple #[.int .i64 (hiOf (x + y)), .int .u64 (loOf (x + y))]) ∧ w' = w := by
  have bx := hi_bd x hx0 hx1
  have by' := hi_bd y hy0 hy1
  have lx := lo_bd x
  have ly := lo_bd y
  clear hx0 hx1 hy0 hy1
  go_enter Try.func14, Try.ntmps14
  go_wp2
  · go_ret2
    exact ⟨ret_pair (add_hi1 x y (by assumption)) (add_lo x y), rfl⟩
  · go_ret2
    exact ⟨ret_pair (add_hi0 x y (by assumption)) (add_lo x y), rfl⟩

/-! ### totalSum -/
def one (d : Bool) (t : TP) : Int := if cnt t then amt d t else 0
def totH (T : Nat → TP) (d : Bool) : Nat → Int
  | 0 => 0
  | m + 1 => totH T d m + one d (T m) / 4294967296
def totL (T : Nat → TP) (d : Bool) : Nat → Int
  | 0 => 0
  | m + 1 => totL T d m + one d (T m) % 4294967296

theorem tot_eq (T : Nat → TP) (d : Bool) : ∀ m, totH T d m * 4294967296 + totL T d m = tsum T d m
  | 0 => rfl
  | m + 1 => by have := tot_eq T d m; simp only [totH, totL, tsum]; unfold one; omega

theorem one_bd (d : Bool) (t : TP) (h : t.Fit) : -9223372036854775808 ≤ one d t ∧ one d t ≤ 9223372036854775807 := by
  unfold one amt
  have a := h.deb
  have b := h.cre
  split
  · split <;> omega
  · omega

theorem tot_bd (T : Nat → TP) (d : Bool) (n : Nat) (hf : ∀ j, j < n → (T j).Fit) : ∀ m, m ≤ n → -2147483648 * (m : Int) ≤ totH T d m ∧ totH T d m ≤ 2147483648 * (m : Int) ∧ 0 ≤ totL T d m ∧ totL T d m ≤ 4294967296 * (m : Int)
  | 0, _ => by simp [totH, totL]
  | m + 1, h => by
    have ih := tot_bd T d n hf m (by omega)
    have hb := one_bd d (T m) (hf _ (by omega))
    simp only [totH, totL]
    omega

theorem tstep_no {T : Nat → TP} {d : Bool} {n k j : Nat} {H L : Int} (h : k + j = n ∧ H = totH T d j ∧ L = totL T d j) (hlt : j < n) (hs : cnt (T j) = false) :
    k - 1 + (j + 1) = n ∧ H = totH T d (j + 1) ∧ L = totL T d (j + 1) := by
  obtain ⟨h1, h3, h4⟩ := h
  have hp : one d (T j) = 0 := by unfold one; rw [hs]; rfl
  refine ⟨by omega, ?_, ?_⟩
  · rw [totH, hp, h3]; omega
  · rw [totL, hp, h4]; omega

theorem tstep_yes {T : Nat → TP} {d : Bool} {n k j : Nat} {H L a : Int} (h : k + j = n ∧ H = totH T d j ∧ L = totL T d j) (hlt : j < n) (hs : cnt (T j) = true) (ha : amt d (T j) = a) :
    k - 1 + (j + 1) = n ∧ H + a / 4294967296 = totH T d (j + 1) ∧ L + a % 4294967296 = totL T d (j + 1) := by
  obtain ⟨h1, h3, h4⟩ := h
  have hp : one d (T j) = a := by unfold one; rw [hs]; exact ha
  refine ⟨by omega, ?_, ?_⟩
  · rw [totH, hp, h3]
  · rw [totL, hp, h4]

set_option maxHeartbeats 1000000 in
theorem tot_row (b o n c : Nat) (d : Bool) (T : Nat → TP) (w : World) (hn : n ≤ 4096) (hb0 : b < w.heap.size) (hp : Ps w b o n T) :
    Calls Try.prog 15 #[.slice (some ⟨b, o, none⟩) n c, .bool d] w fun e w' => e = .returned (.tuple #[.int .i64 (hiOf (tsum T d n)), .int .u64 (loOf (tsum T d n))]) ∧ Below w.heap.size w w' := by
  go_enter Try.func15, Try.ntmps15
  go_wp2
  go_loopg [6, 7, 8] n (fun k h l jv wr => ∃ (j : Nat) (H L : Int), Aside (k + j = n ∧ H = totH T d j ∧ L = totL T d j) ∧ j ≤ n ∧ h = .int .i64 H ∧ l = .int .u64 L ∧ jv = .int .i64 j ∧ Below w.heap.size w wr)
  case atStart => exact ⟨0, 0, 0, ⟨Nat.add_zero _, rfl, rfl⟩, by omega, rfl, rfl, rfl, Below.refl _ _⟩
  case round =>
    obtain ⟨j, H, L, hA, hm, rfl, rfl, rfl, hbl⟩ := hrel
    have bd : (-8796093022208 ≤ H ∧ H ≤ 8796093022208) ∧ 0 ≤ L ∧ L ≤ 17592186044416 := by
      obtain ⟨h1, h3, h4⟩ := hA.out
      have := tot_bd T d n hp.fit j hm
      rw [h3, h4]
      omega
    have hpr := hp.below hbl hb0
    by_cases hlt : j < n
    · obtain ⟨s0, s1, s2, s3, s4, s5, _⟩ := twelve hpr hlt hlt
      have fj := hpr.fit j hlt
      have hlt' : (j : Int) < (n : Int) := by omega
      cases hc : cnt (T j)
      · have HC : Hid (cnt (T j) = false) := hc
        clear hc
        go_wp2_with fail
        refine (counted_any _ _ _ _ _ _ _).mono ?_
        rintro e w4 ⟨rfl, hb4⟩
        have hbn := hbl.trans (hb4.mono hbl.size)
        rw [show cnt ⟨(T j).line, (T j).cur, (T j).deb, (T j).cre, (T j).tax, (T j).key⟩ = false from HC.out]
        go_wp2
        go_roundg (gk - 1)
        case measure => have := hA.out; omega
        case rel => exact ⟨j + 1, H, L, tstep_no hA.out hlt HC.out, by omega, rfl, rfl, by go_num, hbn⟩
      · have HC : Hid (cnt (T j) = true) := hc
        clear hc
        have fd := fj.deb
        have fc := fj.cre
        go_wp2_with fail
        refine (counted_any _ _ _ _ _ _ _).mono ?_
        rintro e w4 ⟨rfl, hb4⟩
        have hbn := hbl.trans (hb4.mono hbl.size)
        rw [show cnt ⟨(T j).line, (T j).cur, (T j).deb, (T j).cre, (T j).tax, (T j).key⟩ = true from HC.out]
        obtain ⟨q0, q1, q2, q3, q4, q5, _⟩ := twelve (hp.below hbn hb0) hlt hlt
        cases d
        all_goals
          go_wp2
          go_roundg (gk - 1)
          case measure => have := hA.out; omega
          case rel => exact ⟨j + 1, _, _, tstep_yes hA.out hlt HC.out rfl, by omega, by go_num, ret_mask _ _ bd.2.1 bd.2.2, by go_num, hbn⟩
    · have HE : Hid (H * 4294967296 + L = tsum T d n) := by
        obtain ⟨h1, h3, h4⟩ := hA.out
        obtain rfl : j = n := by omega
        rw [h3, h4]
        exact tot_eq T d j
      go_wp2_with fail
      refine (join_any H L _ (by omega) (by omega) (by omega) (by omega)).mono ?_
      rintro e w1 ⟨rfl, rfl⟩
      rw [HE.out]
      go_wp2
      go_ret2
      exact ⟨rfl, hbl⟩

set_option maxHeartbeats 1000000 in
theorem tot_none (a : Option Addr) (c : Nat) (d : Bool) (w : World) :
    Calls Try.prog 15 #[.slice a 0 c, .bool d] w fun e w' => e = .returned (.tuple #[.int .i64 0, .int .u64 0]) ∧ Below w.heap.size w w' := by
  go_enter Try.func15, Try.ntmps15
  go_wp2
  go_loopg [6, 7, 8] 1 (fun k h l jv wr => Aside (k = 1 ∧ wr = w) ∧ h = .int .i64 0 ∧ l = .int .u64 0 ∧ jv = .int .i64 0)
  case atStart => exact ⟨⟨rfl, rfl⟩, rfl, rfl, rfl⟩
  case round =>
    obtain ⟨hA, rfl, rfl, rfl⟩ := hrel
    obtain ⟨_, hw⟩ := hA.out
    subst hw
    clear hA
    go_wp2_with fail
    refine (join_any 0 0 _ (by omega) (by omega) (by omega) (by omega)).mono ?_
    rintro e w1 ⟨rfl, rfl⟩
    go_wp2
    go_ret2
    exact ⟨rfl, Below.refl _ _⟩

end Go.Proofs.Qxb6609262a.Tot
