import Derived.Test.Qxb6609262aIn
import Derived.Deep.OwnRows
import Derived.WalkSmall
namespace Go.Proofs.Qxb6609262a.Keys
open Go.RowKit Go.Proofs.Qxb6609262a.Sum Go.Proofs.Qxb6609262a.Bal Go.Proofs.Qxb6609262a.In

theorem info35 : (Try.prog.info? 35).map (fun i => (i.zero, i.size, i.bytes)) = some (some (.pointer none), 1, 8) := by kernel_rfl

/-- A tax key's pointer by its block. -/
def ptr (x : Option Nat) : Value := .pointer (x.map fun g => ⟨g, 0, none⟩)
def krow (K : Nat → Option Nat) (i j : Nat) : Value := if j < i then ptr (K j) else .pointer none

/-- K tells the first i postings' keys apart just as their Key fields do. -/
structure KeyOk (T : Nat → TP) (i : Nat) (K : Nat → Option Nat) : Prop where
  noKey : ∀ j, j < i → (K j = none ↔ (T j).key < 0)
  same : ∀ j j', j < i → j' < i → 0 ≤ (T j).key → 0 ≤ (T j').key → (K j = K j' ↔ (T j).key = (T j').key)

def upd (K : Nat → Option Nat) (i : Nat) (x : Option Nat) (j : Nat) : Option Nat := if j = i then x else K j
theorem upd_at (K : Nat → Option Nat) (i : Nat) (x : Option Nat) : upd K i x i = x := by simp [upd]
theorem upd_lt (K : Nat → Option Nat) {i j : Nat} (x : Option Nat) (h : j < i) : upd K i x j = K j := by simp [upd, Nat.ne_of_lt h]

theorem KeyOk.neg {T : Nat → TP} {i : Nat} {K : Nat → Option Nat} (h : KeyOk T i K) (hk : (T i).key < 0) : KeyOk T (i + 1) (upd K i none) := by
  refine ⟨fun j hj => ?_, fun j j' hj hj' h1 h2 => ?_⟩
  · by_cases e : j = i
    · subst e; rw [upd_at]; exact ⟨fun _ => hk, fun _ => rfl⟩
    · rw [upd_lt _ _ (by omega)]; exact h.noKey j (by omega)
  · have e : j ≠ i := by rintro rfl; omega
    have e' : j' ≠ i := by rintro rfl; omega
    rw [upd_lt _ _ (by omega), upd_lt _ _ (by omega)]
    exact h.same j j' (by omega) (by omega) h1 h2

theorem KeyOk.new {T : Nat → TP} {i g : Nat} {K : Nat → Option Nat} (h : KeyOk T i K) (hk : 0 ≤ (T i).key) (hn : ∀ j, j < i → (T j).key ≠ (T i).key) (hg : ∀ j, j < i → K j ≠ some g) : KeyOk T (i + 1) (upd K i (some g)) := by
  refine ⟨fun j hj => ?_, fun j j' hj hj' h1 h2 => ?_⟩
  · by_cases e : j = i
    · subst e; rw [upd_at]; exact ⟨fun h => (by cases h), fun h => absurd h (by omega)⟩
    · rw [upd_lt _ _ (by omega)]; exact h.noKey j (by omega)
  · by_cases e : j = i <;> by_cases e' : j' = i
    · subst e; subst e'; simp
    · subst e
      rw [upd_at, upd_lt _ _ (by omega)]
      exact ⟨fun h => absurd h.symm (hg j' (by omega)), fun h => absurd h.symm (hn j' (by omega))⟩
    · subst e'
      rw [upd_at, upd_lt _ _ (by omega)]
      exact ⟨fun h => absurd h (hg j (by omega)), fun h => absurd h (hn j (by omega))⟩
    · rw [upd_lt _ _ (by omega), upd_lt _ _ (by omega)]
      exact h.same j j' (by omega) (by omega) h1 h2

theorem KeyOk.old {T : Nat → TP} {i q : Nat} {K : Nat → Option Nat} (h : KeyOk T i K) (hk : 0 ≤ (T i).key) (hq : q < i) (he : (T q).key = (T i).key) : KeyOk T (i + 1) (upd K i (K q)) := by
  have hq0 : 0 ≤ (T q).key := by omega
  refine ⟨fun j hj => ?_, fun j j' hj hj' h1 h2 => ?_⟩
  · by_cases e : j = i
    · subst e; rw [upd_at, h.noKey q hq]; omega
    · rw [upd_lt _ _ (by omega)]; exact h.noKey j (by omega)
  · by_cases e : j = i <;> by_cases e' : j' = i
    · subst e; subst e'; simp
    · subst e
      rw [upd_at, upd_lt _ _ (by omega), h.same q j' hq (by omega) hq0 h2, he]
    · subst e'
      rw [upd_at, upd_lt _ _ (by omega), h.same j q (by omega) hq h1 hq0, he]
    · rw [upd_lt _ _ (by omega), upd_lt _ _ (by omega)]
      exact h.same j j' (by omega) (by omega) h1 h2

theorem krow_set {w : World} {g n i : Nat} {K : Nat → Option Nat} (h : w.rowIs g 35 n (krow K i)) (x : Option Nat) : (w.setCell ⟨g, i, none⟩ (ptr x)).rowIs g 35 n (krow (upd K i x) (i + 1)) :=
  (h.set i (ptr x)).congr (fun j _ => by
    unfold krow
    by_cases e : j = i
    · subst e; simp [upd_at]
    · by_cases h2 : j < i
      · rw [if_neg e, if_pos h2, if_pos (by omega), upd_lt _ _ h2]
      · rw [if_neg e, if_neg h2, if_neg (by omega)])

theorem krow_none {w : World} {g n i : Nat} {K : Nat → Option Nat} (h : w.rowIs g 35 n (krow K i)) : w.rowIs g 35 n (krow (upd K i none) (i + 1)) :=
  h.congr (fun j _ => by
    unfold krow
    by_cases e : j = i
    · subst e; simp [upd_at, ptr]
    · by_cases h2 : j < i
      · rw [if_pos h2, if_pos (by omega), upd_lt _ _ h2]
      · rw [if_neg h2, if_neg (by omega)])

theorem krow_zero (w : World) (n : Nat) : (w.alloc (.cells (madeCells #[.pointer none] n) 35)).rowIs w.heap.size 35 n (krow (fun _ => none) 0) :=
  (World.rowIs_made w (.pointer none) n 35).congr (fun j _ => by simp [krow])

theorem rowIs_drewN {w : World} {g t n : Nat} {f : Nat → Value} (h : w.rowIs g t n f) (q : Nat) : (w.drewN q).rowIs g t n f := h

/-- Block g is a row of cells. -/
def Live (w : World) (g : Nat) : Prop := ∃ c t, w.heap[g]? = some (.cells c t (0, 0))
theorem Live.lt {w : World} {g : Nat} (h : Live w g) : g < w.heap.size := by
  obtain ⟨c, t, h⟩ := h
  exact (Array.getElem?_eq_some_iff.1 h).1
theorem Live.drewN {w : World} {g : Nat} (h : Live w g) (q : Nat) : Live (w.drewN q) g := h
theorem Live.below {w w' : World} {g B : Nat} (h : Live w g) (hb : Below B w w') (hg : g < B) : Live w' g := by
  obtain ⟨c, t, h⟩ := h
  exact ⟨c, t, (hb.block g hg).trans h⟩
theorem Live.alloc {w : World} {g : Nat} (h : Live w g) (X : Obj) : Live (w.alloc X) g := by
  have hl := h.lt
  obtain ⟨c, t, h⟩ := h
  exact ⟨c, t, (Below.heap_alloc _ _ _ hl).trans h⟩
theorem Live.setCell {w : World} {g : Nat} (h : Live w g) (a : Addr) (v : Value) : Live (w.setCell a v) g := by
  obtain ⟨c, t, h⟩ := h
  by_cases e : g = a.block
  · refine ⟨if a.spot.isSome then c else c.setIfInBounds a.off v, t, ?_⟩
    subst e
    simp only [World.setCell, Array.getElem?_modify, if_true, h, Option.map_some]
  · exact ⟨c, t, (Below.heap_setCell _ _ _ _ e).trans h⟩
theorem Live.new (w : World) (c : Array Value) (t : TypeId) : Live (w.alloc (.cells c t)) w.heap.size := ⟨c, t, Go.Deep.blk_alloc_new _ _⟩

def Alive (K : Nat → Option Nat) (i : Nat) (w : World) : Prop := ∀ j, j < i → ∀ g, K j = some g → Live w g

set_option maxHeartbeats 1000000 in
theorem keys_row (b o n c : Nat) (T : Nat → TP) (w : World) (hn : n ≤ 4096) (hb : b < w.heap.size) (hp : Ps w b o n T) :
    Calls Try.prog 7 #[.slice (some ⟨b, o, none⟩) n c] w fun e w' => ∃ g K, e = .returned (.slice (some ⟨g, 0, none⟩) n n) ∧ w'.rowIs g 35 n (krow K n) ∧ KeyOk T n K ∧ Alive K n w' ∧ w.heap.size ≤ g ∧ Below w.heap.size w w' := by
  have hmk := fun y => run_make_row' (P := Try.prog) 25 35 (.pointer none) 8 Try.underlying25 info35 rfl .i64 .i64 n (by omega) (by omega) y
  have hrow := krow_zero w n
  have hbel : Below w.heap.size w (w.alloc (.cells (madeCells #[.pointer none] n) 35)) := (Below.refl _ _).alloc (Nat.le_refl _) _
  go_enter Try.func7, Try.ntmps7
  go_wp2
  clear hmk
  go_loopg [4] n (fun k iv wr => ∃ (i : Nat) (K : Nat → Option Nat), Aside (k + i = n) ∧ i ≤ n ∧ iv = .int .i64 i ∧ wr.rowIs w.heap.size 35 n (krow K i) ∧ KeyOk T i K ∧ Alive K i wr ∧ Below w.heap.size w wr)
  case atStart => exact ⟨0, _, Nat.add_zero _, Nat.zero_le _, rfl, hrow, ⟨fun j h => absurd h (Nat.not_lt_zero _), fun j j' h => absurd h (Nat.not_lt_zero _)⟩, fun j h => absurd h (Nat.not_lt_zero _), hbel⟩
  case round =>
    obtain ⟨i, K, hA, hi, rfl, hr, hko, hle, hbl⟩ := hrel
    have hpr := hp.below hbl hb
    by_cases hlt : i < n
    · have h5 := hpr.c5 i hlt
      have hlt' : (i : Int) < (n : Int) := by omega
      by_cases hneg : (T i).key < 0
      · go_wp2
        go_roundg (gk - 1)
        case measure => have := hA.out; omega
        case rel => exact ⟨i + 1, _, by have := hA.out; show _ = _; omega, by omega, by go_num, krow_none hr, hko.neg hneg, fun j hj g hg => by
          by_cases e : j = i
          · rw [e, upd_at] at hg; cases hg
          · rw [upd_lt _ _ (by omega)] at hg; exact hle j (by omega) g hg, hbl⟩
      · have hpos : 0 ≤ (T i).key := by omega
        go_wp2
        go_loopg [5] i (fun k jv w2 => ∃ j q : Nat, Aside (k + j = i ∧ w2 = wr.drewN q ∧ ∀ j', j' < j → (T j').key ≠ (T i).key) ∧ j ≤ i ∧ jv = .int .i64 j)
        case atStart => exact ⟨0, 0, ⟨Nat.add_zero _, rfl, fun j h => absurd h (Nat.not_lt_zero _)⟩, Nat.zero_le _, rfl⟩
        case round =>
          obtain ⟨j, q, hA2, hji, rfl⟩ := hrel
          obtain ⟨hk2, hw2, hne⟩ := hA2.out
          have HK2 : Hid (gk + j = i) := hk2
          have HNE : Hid (∀ j', j' < j → (T j').key ≠ (T i).key) := hne
          clear hA2 hk2 hne
          subst hw2
          by_cases hj : j < i
          · have h5j := hpr.c5 j (by omega)
            have hj' : (j : Int) < (i : Int) := by omega
            have hjn : (j : Int) < (n : Int) := by omega
            by_cases heq : (T j).key = (T i).key
            · have hb1 : ((T j).key != (T i).key) = false := by simp [heq]
              have HEQ : Hid ((T j).key = (T i).key) := heq
              clear heq
              have hcj : wr.cell? ⟨w.heap.size, j, none⟩ = some (krow K i j) := hr.cell (by omega)
              have hci : wr.cell? ⟨w.heap.size, i, none⟩ = some (krow K i i) := hr.cell hlt
              have hfi := hr.frozen i
              have hset := krow_set (rowIs_drewN hr q) (K j)
              obtain ⟨x, hx⟩ : ∃ x, ptr (K j) = .pointer x := ⟨_, rfl⟩
              have hkj : krow K i j = ptr (K j) := by unfold krow; rw [if_pos hj]
              rw [hkj, hx] at hcj
              rw [hx] at hset
              clear hkj hx
              have hko' := hko.old hpos hj HEQ.out
              go_wp2_with fail
              go_quiet (fail)
              go_wp2
              go_roundg (n - (i + 1))
              case measure => have := hA.out; omega
              case rel => exact ⟨i + 1, _, by show _ = _; omega, by omega, by go_num, hset, hko', fun j2 hj2 g hg => by
                refine Live.setCell ?_ _ _
                by_cases e : j2 = i
                · rw [e, upd_at] at hg; exact hle j (by omega) g hg
                · rw [upd_lt _ _ (by omega)] at hg; exact hle j2 (by omega) g hg, (below_drewN hbl _).setCell (Nat.le_refl _) _⟩
            · have hb1 : ((T j).key != (T i).key) = true := by simp [heq]
              go_wp2_with fail
              go_quiet (fail)
              go_wp2
              go_roundg (gk - 1)
              case measure => have := HK2.out; omega
              case rel => exact ⟨j + 1, _, ⟨by have := HK2.out; omega, rfl, fun j' hj2 => by
                by_cases e : j' = j
                · rw [e]; exact heq
                · exact HNE.out j' (by omega)⟩, by omega, by go_num⟩
          · have hd : decide ((j : Int) < (i : Int)) = false := decide_eq_false (by omega)
            have hci : ∀ q X, ((wr.drewN q).alloc X).cell? ⟨w.heap.size, i, none⟩ = some (krow K i i) := fun q X => ((rowIs_drewN hr q).alloc X).cell hlt
            have hfi : ∀ q X, ((wr.drewN q).alloc X).frozen? ⟨w.heap.size, i, none⟩ = false := fun q X => ((rowIs_drewN hr q).alloc X).frozen i
            have hset : ∀ q X, (((wr.drewN q).alloc X).setCell ⟨w.heap.size, i, none⟩ (.pointer (some ⟨wr.heap.size, 0, none⟩))).rowIs w.heap.size 35 n (krow (upd K i (some wr.heap.size)) (i + 1)) := fun q X => krow_set ((rowIs_drewN hr q).alloc X) (some wr.heap.size)
            have hji' : i ≤ j := by omega
            have hsz : w.heap.size < wr.heap.size := hr.lt
            have hko' := hko.new (g := wr.heap.size) hpos (fun j' h' => HNE.out j' (by omega)) (fun j' h' e => by have := (hle j' h' _ e).lt; omega)
            go_wp2_with fail
            go_quiet (fail)
            go_wp2
            go_roundg (n - (i + 1))
            case measure => have := hA.out; omega
            case rel => exact ⟨i + 1, _, by show _ = _; omega, by omega, by go_num, hset _ _, hko', fun j2 hj2 g hg => by
              refine Live.setCell ?_ _ _
              by_cases e : j2 = i
              · rw [e, upd_at] at hg; injection hg with hg; rw [← hg]; exact Live.new _ _ _
              · rw [upd_lt _ _ (by omega)] at hg; exact ((hle j2 (by omega) g hg).drewN _).alloc _, ((below_drewN hbl _).alloc (Nat.le_of_lt hsz) _).setCell (Nat.le_refl _) _⟩
    · go_wp2
      go_ret
      obtain rfl : i = n := by omega
      exact ⟨_, K, rfl, hr, hko, hle, Nat.le_refl _, hbl⟩

set_option maxHeartbeats 1000000 in
theorem keys_none (a : Option Addr) (n c : Nat) (T : Nat → TP) (w : World) (hn : n ≤ 0) :
    Calls Try.prog 7 #[.slice a n c] w fun e w' => ∃ g K, e = .returned (.slice (some ⟨g, 0, none⟩) n n) ∧ w'.rowIs g 35 n (krow K n) ∧ KeyOk T n K ∧ Alive K n w' ∧ w.heap.size ≤ g ∧ Below w.heap.size w w' := by
  have hmk := fun y => run_make_row' (P := Try.prog) 25 35 (.pointer none) 8 Try.underlying25 info35 rfl .i64 .i64 n (by omega) (by omega) y
  have hrow : (w.alloc (.cells (madeCells #[.pointer none] n) 35)).rowIs w.heap.size 35 n (krow (fun _ => none) n) := (krow_zero w n).congr (fun j hj => absurd hj (by omega))
  have hbel : Below w.heap.size w (w.alloc (.cells (madeCells #[.pointer none] n) 35)) := (Below.refl _ _).alloc (Nat.le_refl _) _
  go_enter Try.func7, Try.ntmps7
  go_wp2
  clear hmk
  go_loopg [4] 1 (fun k i wr => Aside (k = 1 ∧ wr = w.alloc (.cells (madeCells #[.pointer none] n) 35)) ∧ i = .int .i64 0)
  case atStart => exact ⟨⟨rfl, rfl⟩, rfl⟩
  case round =>
    obtain ⟨hA, rfl⟩ := hrel
    obtain ⟨_, hw⟩ := hA.out
    subst hw
    clear hA
    go_wp2
    go_ret
    exact ⟨_, _, rfl, hrow, ⟨fun j hj => absurd hj (by omega), fun j j' hj => absurd hj (by omega)⟩, fun j hj => absurd hj (by omega), Nat.le_refl _, hbel⟩

end Go.Proofs.Qxb6609262a.Keys
