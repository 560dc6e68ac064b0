import Derived.Test.Qxb6609262aKeys
import Derived.Test.Qxb6609262aGsum
import Derived.Lib.LazyBuf
namespace Go.Proofs.Qxb6609262a.Vou
open Go.RowKit Go.Proofs.Qxb6609262a.Sum Go.Proofs.Qxb6609262a.Bal Go.Proofs.Qxb6609262a.In Go.Proofs.Qxb6609262a.Grp Go.Proofs.Qxb6609262a.Gsum Go.Proofs.Qxb6609262a.Keys

/-! ### Rows of structs -/
/-- The row of which the first i elements are filled. -/
def srow (size : Nat) (cs : Nat → List Value) (z : List Value) (i idx : Nat) : Value := if idx / size < i then (cs (idx / size))[idx % size]?.getD default else z[idx % size]?.getD default

theorem srow_at {size i j k : Nat} {cs : Nat → List Value} {z : List Value} (hk : k < size) (hj : j < i) : srow size cs z i (j * size + k) = (cs j)[k]?.getD default := by
  have e1 : (j * size + k) / size = j := by rw [Nat.mul_comm, Nat.mul_add_div (by omega), Nat.div_eq_of_lt hk, Nat.add_zero]
  have e2 : (j * size + k) % size = k := by rw [Nat.mul_comm, Nat.mul_add_mod, Nat.mod_eq_of_lt hk]
  unfold srow
  rw [e1, e2, if_pos hj]

theorem srow_step {w : World} {g t n size i : Nat} {cs : Nat → List Value} {z : List Value} (h : w.rowIs g t n (srow size cs z i)) (hs : 0 < size) (hl : (cs i).length = size) : (w.setCells g (i * size) (cs i)).rowIs g t n (srow size cs z (i + 1)) := by
  refine (rowIs_setCells (cs i) (i * size) w _ h).congr (fun j _ => ?_)
  rw [hl]
  by_cases hin : i * size ≤ j ∧ j < i * size + size
  · rw [if_pos hin]
    obtain ⟨r, rfl⟩ : ∃ r, j = i * size + r := ⟨j - i * size, by omega⟩
    rw [srow_at (by omega) (Nat.lt_succ_self i), show i * size + r - i * size = r from by omega]
  · rw [if_neg hin]
    unfold srow
    have hd : j / size ≠ i := by
      intro e
      have h1 := Nat.div_add_mod j size
      have h2 := Nat.mod_lt j hs
      rw [e, Nat.mul_comm] at h1
      omega
    by_cases hlt : j / size < i
    · rw [if_pos hlt, if_pos (by omega)]
    · rw [if_neg hlt, if_neg (by omega)]

theorem srow_zero (w : World) (t n size : Nat) (z : Array Value) (cs : Nat → List Value) (hz : z.size = size) (hs : 0 < size) : (w.alloc (.cells (madeCells z (n * size)) t)).rowIs w.heap.size t (n * size) (srow size cs z.toList 0) := by
  have h := World.rowIs_alloc w (madeCells z (n * size)) t (srow size cs z.toList 0) (fun i hi => by
    rw [size_madeCells] at hi
    have h2 := Nat.mod_lt i hs
    unfold srow
    rw [if_neg (Nat.not_lt_zero _)]
    simp only [madeCells, Array.getElem?_map, Array.getElem?_range, hi, if_true, Option.map_some, hz, Array.getElem?_toList]
    have h3 : i % size < z.size := by omega
    rw [getElem!_pos z (i % size) h3, Array.getElem?_eq_getElem h3, Option.getD_some])
  rw [size_madeCells] at h
  exact h

theorem ten (w : World) (g o : Nat) (v0 v1 v2 v3 v4 v5 v6 v7 v8 v9 : Value) : (((((((((w.setCell ⟨g, o, none⟩ v0).setCell ⟨g, o + 1, none⟩ v1).setCell ⟨g, o + 2, none⟩ v2).setCell ⟨g, o + 3, none⟩ v3).setCell ⟨g, o + 4, none⟩ v4).setCell ⟨g, o + 5, none⟩ v5).setCell ⟨g, o + 6, none⟩ v6).setCell ⟨g, o + 7, none⟩ v7).setCell ⟨g, o + 8, none⟩ v8).setCell ⟨g, o + 9, none⟩ v9 = w.setCells g o [v0, v1, v2, v3, v4, v5, v6, v7, v8, v9] := rfl
theorem rowIs_drew {w : World} {g t n : Nat} {f : Nat → Value} (h : w.rowIs g t n f) : w.drew.rowIs g t n f := h

def pcells (T : Nat → TP) (K : Nat → Option Nat) (i : Nat) : List Value :=
  [.int .i64 (T i).line, .string (T i).cur, .int .i64 0, .int .i64 (T i).deb, .int .i64 (T i).cre, .string ⟨#[]⟩, .int .i64 0, .bool (T i).tax, .string ⟨#[]⟩, ptr (K i)]
def pzero : Array Value := #[.int .i64 0, .string ⟨#[]⟩, .int .i64 0, .int .i64 0, .int .i64 0, .string ⟨#[]⟩, .int .i64 0, .bool false, .string ⟨#[]⟩, .pointer none]

theorem info61 : (Try.prog.info? 61).map (fun i => (i.zero, i.size, i.bytes)) = some (some (.agg pzero), 10, 104) := by kernel_rfl

theorem make61 (n : Nat) (hn : n ≤ 4096) (w : World) : (Instr.makeSlice 56 (.int .i64 (n : Int)) (.int .i64 (n : Int))).run Try.prog w = .ok (.slice (some ⟨w.heap.size, 0, none⟩) n n) (w.alloc (.cells (madeCells pzero (n * 10)) 61)) := by
  obtain ⟨i, hi, hz, hs, hb⟩ := info_parts info61
  have h := run_make (P := Try.prog) w 56 61 i (.agg pzero) Try.underlying56 hi hz .i64 .i64 (n : Int) (n : Int) (by omega) (Int.le_refl _) (by rw [hb]; omega) (by omega)
  rw [hs] at h
  exact h

set_option maxHeartbeats 1000000 in
theorem vou_row (b o n c kb : Nat) (T : Nat → TP) (K : Nat → Option Nat) (w : World) (hn : n ≤ 4096) (hb : b < w.heap.size) (hp : Ps w b o n T) (hkr : w.rowIs kb 35 n (krow K n)) :
    Calls Try.prog 9 #[.slice (some ⟨b, o, none⟩) n c, .slice (some ⟨kb, 0, none⟩) n n] w fun e w' => ∃ gv gp, e = .returned (.pointer (some ⟨gv, 0, none⟩)) ∧ w'.cell? ⟨gv, 7, none⟩ = some (.slice (some ⟨gp, 0, none⟩) n n) ∧ w'.rowIs gp 61 (n * 10) (srow 10 (pcells T K) pzero.toList n) ∧ w.heap.size ≤ gp ∧ w.heap.size ≤ gv ∧ gp ≠ gv ∧ Below w.heap.size w w' := by
  have hmk := make61 n hn
  have hrow := srow_zero w 61 n 10 pzero (pcells T K) rfl (by decide)
  have hbel : Below w.heap.size w (w.alloc (.cells (madeCells pzero (n * 10)) 61)) := (Below.refl _ _).alloc (Nat.le_refl _) _
  have hgk : kb < w.heap.size := hkr.lt
  go_enter Try.func9, Try.ntmps9
  go_wp2
  clear hmk
  go_loopg [6] n (fun k iv wr => ∃ (i : Nat), Aside (k + i = n) ∧ i ≤ n ∧ iv = .int .i64 i ∧ wr.rowIs w.heap.size 61 (n * 10) (srow 10 (pcells T K) pzero.toList i) ∧ Below w.heap.size w wr)
  case atStart => exact ⟨0, Nat.add_zero _, Nat.zero_le _, rfl, hrow, hbel⟩
  case round =>
    obtain ⟨i, hA, hi, rfl, hr, hbl⟩ := hrel
    have hpr := hp.below hbl hb
    by_cases hlt : i < n
    · have S0 := twelve hpr hlt hlt
      have hlt' : (i : Int) < (n : Int) := by omega
      have hck : wr.cell? ⟨kb, i, none⟩ = some (ptr (K i)) := by
        have h1 := hkr.cell hlt
        rw [show krow K n i = ptr (K i) from by unfold krow; rw [if_pos hlt]] at h1
        exact (hbl.cell (p := ⟨kb, i, none⟩) hgk).trans h1
      obtain ⟨x, hx⟩ : ∃ x, ptr (K i) = .pointer x := ⟨_, rfl⟩
      have HX : Hid (ptr (K i) = .pointer x) := hx
      rw [hx] at hck
      clear hx
      have SIX : Hid (∀ w' : World, Below w.heap.size w w' → w'.cell? ⟨b, o + i * 6, none⟩ = some (.int .i64 (T i).line) ∧ w'.cell? ⟨b, o + i * 6 + 1, none⟩ = some (.string (T i).cur) ∧ w'.cell? ⟨b, o + i * 6 + 2, none⟩ = some (.int .i64 (T i).deb) ∧ w'.cell? ⟨b, o + i * 6 + 3, none⟩ = some (.int .i64 (T i).cre) ∧ w'.cell? ⟨b, o + i * 6 + 4, none⟩ = some (.bool (T i).tax) ∧ w'.cell? ⟨kb, i, none⟩ = some (.pointer x)) := fun w' h' => by
        have hp' := hp.below h' hb
        have S0 := twelve hp' hlt hlt
        exact ⟨S0.1, S0.2.1, S0.2.2.1, S0.2.2.2.1, S0.2.2.2.2.1, (h'.cell (p := ⟨kb, i, none⟩) hgk).trans ((hbl.cell (p := ⟨kb, i, none⟩) hgk).symm.trans hck)⟩
      have hcell : ∀ k, k < 10 → ∃ v, wr.cell? ⟨w.heap.size, i * 10 + k, none⟩ = some v := fun k hk => ⟨_, hr.cell (by omega)⟩
      obtain ⟨v0, d0⟩ := hcell 0 (by decide)
      rw [Nat.add_zero] at d0
      obtain ⟨v1, d1⟩ := hcell 1 (by decide)
      obtain ⟨v2, d2⟩ := hcell 2 (by decide)
      obtain ⟨v3, d3⟩ := hcell 3 (by decide)
      obtain ⟨v4, d4⟩ := hcell 4 (by decide)
      obtain ⟨v5, d5⟩ := hcell 5 (by decide)
      obtain ⟨v6, d6⟩ := hcell 6 (by decide)
      obtain ⟨v7, d7⟩ := hcell 7 (by decide)
      obtain ⟨v8, d8⟩ := hcell 8 (by decide)
      obtain ⟨v9, d9⟩ := hcell 9 (by decide)
      have hfz : ∀ k, wr.frozen? ⟨w.heap.size, k, none⟩ = false := fun k => hr.frozen k
      go_wp2_with fail
      go_region_held3 (fun w' => w'.cell? ⟨b, o + i * 6, none⟩ = some (.int .i64 (T i).line) ∧ w'.cell? ⟨b, o + i * 6 + 1, none⟩ = some (.string (T i).cur) ∧ w'.cell? ⟨b, o + i * 6 + 2, none⟩ = some (.int .i64 (T i).deb) ∧ w'.cell? ⟨b, o + i * 6 + 3, none⟩ = some (.int .i64 (T i).cre) ∧ w'.cell? ⟨b, o + i * 6 + 4, none⟩ = some (.bool (T i).tax) ∧ w'.cell? ⟨kb, i, none⟩ = some (.pointer x))
        (exact SIX.out _ (by first | with_reducible exact hbl.drew | (rw [ten]; exact (below_setCells (Nat.le_refl _) _ _ _ hbl).drew)))
        (fail)
      go_wp2
      have hset := srow_step hr (by decide) rfl
      rw [show pcells T K i = [.int .i64 (T i).line, .string (T i).cur, .int .i64 0, .int .i64 (T i).deb, .int .i64 (T i).cre, .string ⟨#[]⟩, .int .i64 0, .bool (T i).tax, .string ⟨#[]⟩, .pointer x] from by unfold pcells; rw [HX.out]] at hset
      go_roundg (gk - 1)
      case measure => have := hA.out; omega
      case rel =>
        rw [ten]
        exact ⟨i + 1, by have := hA.out; show _ = _; omega, by omega, by go_num, rowIs_drew hset, (below_setCells (Nat.le_refl _) _ _ _ hbl).drew⟩
    · go_wp2
      go_ret
      obtain rfl : i = n := by omega
      have hlt := hr.lt
      exact ⟨_, _, rfl, by simp only [World.cell?, Go.Deep.blk_alloc_new]; rfl, hr.alloc _, Nat.le_refl _, Nat.le_of_lt hlt, Nat.ne_of_lt hlt, hbl.alloc (Nat.le_of_lt hlt) _⟩

set_option maxHeartbeats 1000000 in
theorem vou_none (a : Option Addr) (n c kb : Nat) (T : Nat → TP) (K : Nat → Option Nat) (w : World) (hn : n ≤ 0) :
    Calls Try.prog 9 #[.slice a n c, .slice (some ⟨kb, 0, none⟩) n n] w fun e w' => ∃ gv gp, e = .returned (.pointer (some ⟨gv, 0, none⟩)) ∧ w'.cell? ⟨gv, 7, none⟩ = some (.slice (some ⟨gp, 0, none⟩) n n) ∧ w'.rowIs gp 61 (n * 10) (srow 10 (pcells T K) pzero.toList n) ∧ w.heap.size ≤ gp ∧ w.heap.size ≤ gv ∧ gp ≠ gv ∧ Below w.heap.size w w' := by
  have hmk := make61 n (by omega)
  have hrow : (w.alloc (.cells (madeCells pzero (n * 10)) 61)).rowIs w.heap.size 61 (n * 10) (srow 10 (pcells T K) pzero.toList n) := (srow_zero w 61 n 10 pzero (pcells T K) rfl (by decide)).congr (fun j hj => absurd hj (by omega))
  have hbel : Below w.heap.size w (w.alloc (.cells (madeCells pzero (n * 10)) 61)) := (Below.refl _ _).alloc (Nat.le_refl _) _
  go_enter Try.func9, Try.ntmps9
  go_wp2
  clear hmk
  go_loopg [6] 1 (fun k i wr => Aside (k = 1 ∧ wr = w.alloc (.cells (madeCells pzero (n * 10)) 61)) ∧ i = .int .i64 0)
  case atStart => exact ⟨⟨rfl, rfl⟩, rfl⟩
  case round =>
    obtain ⟨hA, rfl⟩ := hrel
    obtain ⟨_, hw⟩ := hA.out
    have hr : wr.rowIs w.heap.size 61 (n * 10) (srow 10 (pcells T K) pzero.toList n) := by rw [hw]; exact hrow
    have hbl : Below w.heap.size w wr := by rw [hw]; exact hbel
    clear hA hw hrow hbel
    go_wp2
    go_ret
    have hlt := hr.lt
    exact ⟨_, _, rfl, by simp only [World.cell?, Go.Deep.blk_alloc_new]; rfl, hr.alloc _, Nat.le_refl _, Nat.le_of_lt hlt, Nat.ne_of_lt hlt, hbl.alloc (Nat.le_of_lt hlt) _⟩

end Go.Proofs.Qxb6609262a.Vou
