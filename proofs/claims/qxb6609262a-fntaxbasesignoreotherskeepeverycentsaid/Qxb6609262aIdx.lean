import Derived.Test.Qxb6609262aKeys
import Derived.Test.Qxb6609262aGsum
import Derived.LaidEqlPtr
namespace Go.Proofs.Qxb6609262a.Idx
open Go.RowKit Go.Proofs.Qxb6609262a.Sum Go.Proofs.Qxb6609262a.Bal Go.Proofs.Qxb6609262a.In Go.Proofs.Qxb6609262a.Grp Go.Proofs.Qxb6609262a.Keys

theorem info47 : (Try.prog.info? 47).map (·.size) = some 3 := by kernel_rfl

/-- '==' of two keys' pointers. -/
theorem eql_keys (g g' : Nat) (w : World) (h : Live w g) (h' : Live w g') : (binOp .eql 35 (.pointer (some ⟨g, 0, none⟩)) (.pointer (some ⟨g', 0, none⟩))).run Try.prog w = .ok (.bool (g == g')) w := by
  obtain ⟨i, hi, hs⟩ : ∃ i, Try.prog.info? 47 = some i ∧ i.size = 3 := by
    have := info47
    cases e : Try.prog.info? 47 with
    | none => rw [e] at this; cases this
    | some i => rw [e] at this; simp at this; exact ⟨i, rfl, this⟩
  by_cases e : g = g'
  · subst e
    rw [run_eql_ptr_same w _ Try.underlying35 hi]
    simp
  · obtain ⟨c, t, hc⟩ := h
    obtain ⟨c', t', hc'⟩ := h'
    rw [run_eql_ptr_other w Try.underlying35 hi (by rw [hs]; decide) (fun h => e (congrArg Addr.block h)) hc hc']
    simp [e]

set_option maxHeartbeats 1000000 in
theorem hit_any (g gx : Nat) (cu cx : ByteArray) (x2 x3 x4 x5 x6 : Value) (pb : Nat) (w : World) (h : Live w g) (hx : Live w gx) (h1 : w.cell? ⟨pb, 1, none⟩ = some (.string cx)) (h9 : w.cell? ⟨pb, 9, none⟩ = some (.pointer (some ⟨gx, 0, none⟩))) :
    Calls Try.prog 19 #[.agg #[.pointer (some ⟨g, 0, none⟩), .string cu, x2, x3, x4, x5, x6], .pointer (some ⟨pb, 0, none⟩)] w fun e w' =>
      e = .returned (.bool (g == gx && cu.toList == cx.toList)) ∧ Below w.heap.size w w' := by
  have heq : ∀ X, (binOp .eql 35 (.pointer (some ⟨g, 0, none⟩)) (.pointer (some ⟨gx, 0, none⟩))).run Try.prog (w.alloc X) = .ok (.bool (g == gx)) (w.alloc X) := fun X => eql_keys g gx _ (h.alloc X) (hx.alloc X)
  have hpb : pb < w.heap.size := World.block_lt_of_cell? w _ h1
  by_cases hg : (g == gx) = true
  · go_enter Try.func19, Try.ntmps19
    go_wp2
    go_ret
    exact ⟨ret_bool (by rw [hg, Bool.true_and]), (Below.refl _ _).alloc (Nat.le_refl _) _⟩
  · have hg' : (g == gx) = false := by simpa using hg
    clear hg
    go_enter Try.func19, Try.ntmps19
    go_wp2
    go_ret
    exact ⟨ret_bool (by rw [hg', Bool.false_and]), (Below.refl _ _).alloc (Nat.le_refl _) _⟩


/-- What IndexFunc answers: the first of m indices at which f holds, or -1. -/
def Found (f : Nat → Bool) (m : Nat) (e : Ending) : Prop := (∃ j, j < m ∧ f j = true ∧ e = .returned (.int .i64 j)) ∨ ((∀ j, j < m → f j = false) ∧ e = .returned (.int .i64 (-1)))

/-- The bases as they lie in memory: key, currency, line, and the four words of the sums. -/
structure Bs (w : World) (g m : Nat) (G : Nat → Nat) (C : Nat → ByteArray) (L : Nat → Int) (D E : Nat → Int) : Prop where
  b0 : ∀ j, j < m → w.cell? ⟨g, j * 7, none⟩ = some (.pointer (some ⟨G j, 0, none⟩))
  b1 : ∀ j, j < m → w.cell? ⟨g, j * 7 + 1, none⟩ = some (.string (C j))
  b2 : ∀ j, j < m → w.cell? ⟨g, j * 7 + 2, none⟩ = some (.int .i64 (L j))
  b3 : ∀ j, j < m → w.cell? ⟨g, j * 7 + 3, none⟩ = some (.int .i64 (hiOf (D j)))
  b4 : ∀ j, j < m → w.cell? ⟨g, j * 7 + 4, none⟩ = some (.int .u64 (loOf (D j)))
  b5 : ∀ j, j < m → w.cell? ⟨g, j * 7 + 5, none⟩ = some (.int .i64 (hiOf (E j)))
  b6 : ∀ j, j < m → w.cell? ⟨g, j * 7 + 6, none⟩ = some (.int .u64 (loOf (E j)))
  live : ∀ j, j < m → Live w (G j)

theorem Bs.below {w w' : World} {g m : Nat} {G : Nat → Nat} {C : Nat → ByteArray} {L D E : Nat → Int} (h : Bs w g m G C L D E) {B : Nat} (hb : Below B w w') (hB : g < B) (hG : ∀ j, j < m → G j < B) : Bs w' g m G C L D E :=
  ⟨fun i hi => (hb.cell (p := ⟨g, i * 7, none⟩) hB).trans (h.b0 i hi), fun i hi => (hb.cell (p := ⟨g, i * 7 + 1, none⟩) hB).trans (h.b1 i hi), fun i hi => (hb.cell (p := ⟨g, i * 7 + 2, none⟩) hB).trans (h.b2 i hi),
   fun i hi => (hb.cell (p := ⟨g, i * 7 + 3, none⟩) hB).trans (h.b3 i hi), fun i hi => (hb.cell (p := ⟨g, i * 7 + 4, none⟩) hB).trans (h.b4 i hi), fun i hi => (hb.cell (p := ⟨g, i * 7 + 5, none⟩) hB).trans (h.b5 i hi),
   fun i hi => (hb.cell (p := ⟨g, i * 7 + 6, none⟩) hB).trans (h.b6 i hi), fun i hi => (h.live i hi).below hb (hG i hi)⟩

def hits (G : Nat → Nat) (C : Nat → ByteArray) (gx : Nat) (cx : ByteArray) (j : Nat) : Bool := G j == gx && (C j).toList == cx.toList

set_option maxHeartbeats 1000000 in
theorem idx_row (g m cap gx : Nat) (cx : ByteArray) (G : Nat → Nat) (C : Nat → ByteArray) (L D E : Nat → Int) (pb : Nat) (w : World) (hm : m ≤ 4096) (hg : g < w.heap.size) (hB : Bs w g m G C L D E) (hx : Live w gx) (h1 : w.cell? ⟨pb, 1, none⟩ = some (.string cx)) (h9 : w.cell? ⟨pb, 9, none⟩ = some (.pointer (some ⟨gx, 0, none⟩))) :
    Calls Try.prog 18 #[.slice (some ⟨g, 0, none⟩) m cap, .func (.func 19) #[] #[.pointer (some ⟨pb, 0, none⟩)]] w fun e w' => Found (hits G C gx cx) m e ∧ Below w.heap.size w w' := by
  have hpb : pb < w.heap.size := World.block_lt_of_cell? w _ h1
  have hxl := hx.lt
  have hGl : ∀ j, j < m → G j < w.heap.size := fun j hj => (hB.live j hj).lt
  go_enter Try.func18, Try.ntmps18
  go_wp2
  go_loopg [8] m (fun k iv wr => ∃ (i : Nat), Aside (k + i = m ∧ ∀ j, j < i → hits G C gx cx j = false) ∧ i ≤ m ∧ iv = .int .i64 i ∧ Below w.heap.size w wr)
  case atStart => exact ⟨0, ⟨Nat.add_zero _, fun j h => absurd h (Nat.not_lt_zero _)⟩, Nat.zero_le _, rfl, Below.refl _ _⟩
  case round =>
    obtain ⟨i, hA, hi, rfl, hbl⟩ := hrel
    by_cases hlt : i < m
    · have hlt' : (i : Int) < (m : Int) := by omega
      have hBr := hB.below hbl hg hGl
      have k0 := hBr.b0 i hlt
      have k1 := hBr.b1 i hlt
      have k2 := hBr.b2 i hlt
      have k3 := hBr.b3 i hlt
      have k4 := hBr.b4 i hlt
      have k5 := hBr.b5 i hlt
      have k6 := hBr.b6 i hlt
      have hl := hBr.live i hlt
      have hxr := hx.below hbl hxl
      have e1 : wr.cell? ⟨pb, 1, none⟩ = some (.string cx) := (hbl.cell (p := ⟨pb, 1, none⟩) hpb).trans h1
      have e9 : wr.cell? ⟨pb, 9, none⟩ = some (.pointer (some ⟨gx, 0, none⟩)) := (hbl.cell (p := ⟨pb, 9, none⟩) hpb).trans h9
      go_wp2_with fail
      refine (hit_any (G i) gx (C i) cx _ _ _ _ _ pb wr hl hxr e1 e9).mono ?_
      rintro e w1 ⟨rfl, hb1⟩
      have hb2 := hbl.trans (hb1.mono hbl.size)
      cases hh : hits G C gx cx i
      · rw [show (G i == gx && (C i).toList == cx.toList) = false from hh]
        go_wp2
        go_roundg (gk - 1)
        case measure => have := hA.out.1; omega
        case rel => exact ⟨i + 1, ⟨by have := hA.out.1; omega, fun j hj => by
          by_cases e : j = i
          · rw [e]; exact hh
          · exact hA.out.2 j (by omega)⟩, by omega, by go_num, hb2⟩
      · rw [show (G i == gx && (C i).toList == cx.toList) = true from hh]
        go_wp2
        go_ret
        exact ⟨.inl ⟨i, hlt, hh, rfl⟩, hb2⟩
    · go_wp2
      go_ret
      exact ⟨.inr ⟨fun j hj => hA.out.2 j (by omega), rfl⟩, hbl⟩

set_option maxHeartbeats 1000000 in
theorem idx_none (a : Option Addr) (m cap : Nat) (f : Nat → Bool) (x : Value) (w : World) (hm : m ≤ 0) :
    Calls Try.prog 18 #[.slice a m cap, x] w fun e w' => Found f m e ∧ Below w.heap.size w w' := by
  go_enter Try.func18, Try.ntmps18
  go_wp2
  go_loopg [8] 1 (fun k i wr => Aside (k = 1 ∧ wr = w) ∧ i = .int .i64 0)
  case atStart => exact ⟨⟨rfl, rfl⟩, rfl⟩
  case round =>
    obtain ⟨hA, rfl⟩ := hrel
    obtain ⟨_, hw⟩ := hA.out
    subst hw
    clear hA
    go_wp2
    go_ret
    exact ⟨.inr ⟨fun j hj => absurd hj (by omega), rfl⟩, Below.refl _ _⟩

end Go.Proofs.Qxb6609262a.Idx
