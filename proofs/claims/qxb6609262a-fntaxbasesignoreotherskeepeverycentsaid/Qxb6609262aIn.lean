import Derived.Test.Qxb6609262aBal
import Derived.Deep.LoopGhost
import Derived.Deep.QuietTactic
import Derived.BigQuiet
namespace Go.Proofs.Qxb6609262a.In
open Go.RowKit Go.Proofs.Qxb6609262a.Sum Go.Proofs.Qxb6609262a.Bal

/-- A tax posting, plainly. -/
structure TP where
  line : Int
  cur : ByteArray
  deb : Int
  cre : Int
  tax : Bool
  key : Int

/-- Its numbers fit. -/
structure TP.Fit (t : TP) : Prop where
  line : -9223372036854775808 ≤ t.line ∧ t.line ≤ 9223372036854775807
  deb : -9223372036854775808 ≤ t.deb ∧ t.deb ≤ 9223372036854775807
  cre : -9223372036854775808 ≤ t.cre ∧ t.cre ≤ 9223372036854775807
  key : -9223372036854775808 ≤ t.key ∧ t.key ≤ 9223372036854775807
  cur : t.cur.size ≤ maxLen

/-- The postings as they lie in memory. -/
structure Ps (w : World) (b o n : Nat) (T : Nat → TP) : Prop where
  c0 : ∀ i, i < n → w.cell? ⟨b, o + i * 6, none⟩ = some (.int .i64 (T i).line)
  c1 : ∀ i, i < n → w.cell? ⟨b, o + i * 6 + 1, none⟩ = some (.string (T i).cur)
  c2 : ∀ i, i < n → w.cell? ⟨b, o + i * 6 + 2, none⟩ = some (.int .i64 (T i).deb)
  c3 : ∀ i, i < n → w.cell? ⟨b, o + i * 6 + 3, none⟩ = some (.int .i64 (T i).cre)
  c4 : ∀ i, i < n → w.cell? ⟨b, o + i * 6 + 4, none⟩ = some (.bool (T i).tax)
  c5 : ∀ i, i < n → w.cell? ⟨b, o + i * 6 + 5, none⟩ = some (.int .i64 (T i).key)
  fit : ∀ i, i < n → (T i).Fit

theorem Ps.lt {w : World} {b o n : Nat} {T : Nat → TP} (h : Ps w b o n T) (hn : 0 < n) : b < w.heap.size := World.block_lt_of_cell? w _ (h.c0 0 hn)

theorem Ps.below {w w' : World} {b o n : Nat} {T : Nat → TP} (h : Ps w b o n T) {B : Nat} (hb : Below B w w') (hB : b < B) : Ps w' b o n T :=
  ⟨fun i hi => (hb.cell (p := ⟨b, o + i * 6, none⟩) hB).trans (h.c0 i hi), fun i hi => (hb.cell (p := ⟨b, o + i * 6 + 1, none⟩) hB).trans (h.c1 i hi), fun i hi => (hb.cell (p := ⟨b, o + i * 6 + 2, none⟩) hB).trans (h.c2 i hi),
   fun i hi => (hb.cell (p := ⟨b, o + i * 6 + 3, none⟩) hB).trans (h.c3 i hi), fun i hi => (hb.cell (p := ⟨b, o + i * 6 + 4, none⟩) hB).trans (h.c4 i hi), fun i hi => (hb.cell (p := ⟨b, o + i * 6 + 5, none⟩) hB).trans (h.c5 i hi), h.fit⟩

def SomeBool (e : Ending) : Prop := ∃ b : Bool, e = .returned (.bool b)
def SomeInt (e : Ending) : Prop := ∃ z : Int, e = .returned (.int .i64 z)

-- zzBytes of function 5
set_option maxHeartbeats 1000000 in
theorem bytes5_row (b o n c : Nat) (T : Nat → TP) (w : World) (hn : n ≤ maxLen) (hp : Ps w b o n T) : Calls Try.prog 5 #[.slice (some ⟨b, o, none⟩) n c] w fun e w' => SomeBool e ∧ w = w' := by
  unfold maxLen at hn
  go_enter Try.func5, Try.ntmps5
  go_wp2
  all_goals try (go_ret; exact ⟨⟨_, rfl⟩, rfl⟩)
  go_loopg [3, 4] n (fun k z i wr => ∃ j : Nat, ∃ y : Int, Aside (k + j = n ∧ w = wr) ∧ j ≤ n ∧ 0 ≤ y ∧ y ≤ 1048576 ∧ i = .int .i64 j ∧ z = .int .i64 y)
  case atStart => exact ⟨0, _, ⟨Nat.add_zero _, rfl⟩, Nat.zero_le _, by omega, by omega, rfl, rfl⟩
  case round =>
    obtain ⟨j, y, hA, hj, hy0, hy1, rfl, rfl⟩ := hrel
    obtain ⟨hk, hw⟩ := hA.out
    have HK : Hid (gk + j = n) := hk
    clear hA hk
    subst hw
    by_cases hlt : j < n
    · have h1 := hp.c1 j hlt
      have hs := (hp.fit j hlt).cur
      unfold maxLen at hs
      generalize (T j).cur = cu at h1 hs
      go_wp2
      all_goals try (go_ret; exact ⟨⟨_, rfl⟩, rfl⟩)
      go_roundg (gk - 1)
      case measure => have := HK.out; omega
      case rel => exact ⟨j + 1, _, ⟨by have := HK.out; omega, rfl⟩, by omega, by omega, by omega, by go_num, rfl⟩
    · go_wp2
      go_ret
      exact ⟨⟨_, rfl⟩, rfl⟩

set_option maxHeartbeats 1000000 in
theorem bytes5_none (a : Option Addr) (n c : Nat) (w : World) (hn : n ≤ 0) : Calls Try.prog 5 #[.slice a n c] w fun e w' => SomeBool e ∧ w = w' := by
  go_enter Try.func5, Try.ntmps5
  go_wp2
  go_loopg [3, 4] 1 (fun k z i wr => Aside (k = 1 ∧ w = wr) ∧ i = .int .i64 0)
  case atStart => exact ⟨⟨rfl, rfl⟩, rfl⟩
  case round =>
    obtain ⟨hA, rfl⟩ := hrel
    obtain ⟨_, hw⟩ := hA.out
    subst hw
    clear hA
    go_wp2
    go_ret
    exact ⟨⟨_, rfl⟩, rfl⟩

-- zzBytes of function 13
set_option maxHeartbeats 1000000 in
theorem bytes13_row (b o n c : Nat) (T : Nat → TP) (w : World) (hn : n ≤ maxLen) (hp : Ps w b o n T) : Calls Try.prog 13 #[.slice (some ⟨b, o, none⟩) n c] w fun e w' => SomeBool e ∧ w = w' := by
  unfold maxLen at hn
  go_enter Try.func13, Try.ntmps13
  go_wp2
  all_goals try (go_ret; exact ⟨⟨_, rfl⟩, rfl⟩)
  go_loopg [3, 4] n (fun k z i wr => ∃ j : Nat, ∃ y : Int, Aside (k + j = n ∧ w = wr) ∧ j ≤ n ∧ 0 ≤ y ∧ y ≤ 1048576 ∧ i = .int .i64 j ∧ z = .int .i64 y)
  case atStart => exact ⟨0, _, ⟨Nat.add_zero _, rfl⟩, Nat.zero_le _, by omega, by omega, rfl, rfl⟩
  case round =>
    obtain ⟨j, y, hA, hj, hy0, hy1, rfl, rfl⟩ := hrel
    obtain ⟨hk, hw⟩ := hA.out
    have HK : Hid (gk + j = n) := hk
    clear hA hk
    subst hw
    by_cases hlt : j < n
    · have h1 := hp.c1 j hlt
      have hs := (hp.fit j hlt).cur
      unfold maxLen at hs
      generalize (T j).cur = cu at h1 hs
      go_wp2
      all_goals try (go_ret; exact ⟨⟨_, rfl⟩, rfl⟩)
      go_roundg (gk - 1)
      case measure => have := HK.out; omega
      case rel => exact ⟨j + 1, _, ⟨by have := HK.out; omega, rfl⟩, by omega, by omega, by omega, by go_num, rfl⟩
    · go_wp2
      go_ret
      exact ⟨⟨_, rfl⟩, rfl⟩

set_option maxHeartbeats 1000000 in
theorem bytes13_none (a : Option Addr) (n c : Nat) (w : World) (hn : n ≤ 0) : Calls Try.prog 13 #[.slice a n c] w fun e w' => SomeBool e ∧ w = w' := by
  go_enter Try.func13, Try.ntmps13
  go_wp2
  go_loopg [3, 4] 1 (fun k z i wr => Aside (k = 1 ∧ w = wr) ∧ i = .int .i64 0)
  case atStart => exact ⟨⟨rfl, rfl⟩, rfl⟩
  case round =>
    obtain ⟨hA, rfl⟩ := hrel
    obtain ⟨_, hw⟩ := hA.out
    subst hw
    clear hA
    go_wp2
    go_ret
    exact ⟨⟨_, rfl⟩, rfl⟩

-- postingBytes
set_option maxHeartbeats 1000000 in
theorem count_row (b o n c : Nat) (T : Nat → TP) (w : World) (hn : n ≤ 4096) (hp : Ps w b o n T) : Calls Try.prog 6 #[.slice (some ⟨b, o, none⟩) n c] w fun e w' => SomeInt e ∧ w = w' := by
  go_enter Try.func6, Try.ntmps6
  go_wp2
  go_loopg [3, 4] n (fun k z i wr => ∃ j : Nat, ∃ y : Int, Aside (k + j = n ∧ w = wr) ∧ j ≤ n ∧ i = .int .i64 j ∧ z = .int .i64 y)
  case atStart => exact ⟨0, _, ⟨Nat.add_zero _, rfl⟩, Nat.zero_le _, rfl, rfl⟩
  case round =>
    obtain ⟨j, y, hA, hj, rfl, rfl⟩ := hrel
    obtain ⟨hk, hw⟩ := hA.out
    have HK : Hid (gk + j = n) := hk
    clear hA hk
    subst hw
    by_cases hlt : j < n
    · have h1 := hp.c1 j hlt
      have hs := (hp.fit j hlt).cur
      unfold maxLen at hs
      generalize (T j).cur = cu at h1 hs
      go_wp2
      go_roundg (gk - 1)
      case measure => have := HK.out; omega
      case rel => exact ⟨j + 1, _, ⟨by have := HK.out; omega, rfl⟩, by omega, by go_num, rfl⟩
    · go_wp2
      go_ret
      exact ⟨⟨_, rfl⟩, rfl⟩

set_option maxHeartbeats 1000000 in
theorem count_none (a : Option Addr) (n c : Nat) (w : World) (hn : n ≤ 0) : Calls Try.prog 6 #[.slice a n c] w fun e w' => SomeInt e ∧ w = w' := by
  go_enter Try.func6, Try.ntmps6
  go_wp2
  go_loopg [3, 4] 1 (fun k z i wr => Aside (k = 1 ∧ w = wr) ∧ i = .int .i64 0 ∧ z = .int .i64 0)
  case atStart => exact ⟨⟨rfl, rfl⟩, rfl, rfl⟩
  case round =>
    obtain ⟨hA, rfl, rfl⟩ := hrel
    obtain ⟨_, hw⟩ := hA.out
    subst hw
    clear hA
    go_wp2
    go_ret
    exact ⟨⟨_, rfl⟩, rfl⟩

/-! ### counted, sameBase -/
def cnt (t : TP) : Bool := !t.tax && decide (0 ≤ t.key)
def same (p q : TP) : Bool := cnt p && cnt q && p.key == q.key && p.cur.toList == q.cur.toList

abbrev agg (t : TP) : Value := .agg #[.int .i64 t.line, .string t.cur, .int .i64 t.deb, .int .i64 t.cre, .bool t.tax, .int .i64 t.key]

set_option maxHeartbeats 1000000 in
theorem counted_any (l d c : Int) (cu : ByteArray) (tx : Bool) (k : Int) (w : World) :
    Calls Try.prog 10 #[.agg #[.int .i64 l, .string cu, .int .i64 d, .int .i64 c, .bool tx, .int .i64 k]] w fun e w' => e = .returned (.bool (cnt ⟨l, cu, d, c, tx, k⟩)) ∧ Below w.heap.size w w' := by
  have hb : ∀ X, Below w.heap.size w (w.alloc X) := fun X => (Below.refl _ _).alloc (Nat.le_refl _) _
  cases tx
  · by_cases h : 0 ≤ k
    · have e : cnt ⟨l, cu, d, c, false, k⟩ = true := by simp [cnt, h]
      rw [e]
      go_enter Try.func10, Try.ntmps10
      go_wp2
      go_ret
      exact ⟨rfl, hb _⟩
    · have e : cnt ⟨l, cu, d, c, false, k⟩ = false := by simp [cnt, h]
      rw [e]
      go_enter Try.func10, Try.ntmps10
      go_wp2
      go_ret
      exact ⟨rfl, hb _⟩
  · have e : cnt ⟨l, cu, d, c, true, k⟩ = false := by simp [cnt]
    rw [e]
    go_enter Try.func10, Try.ntmps10
    go_wp2
    go_ret
    exact ⟨rfl, hb _⟩

end Go.Proofs.Qxb6609262a.In
