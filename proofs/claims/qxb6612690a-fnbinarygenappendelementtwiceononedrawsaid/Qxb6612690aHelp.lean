import Derived.Test.Qxb6612690aMem
import Derived.Deep.OwnRows
import Derived.Lib.SliceRun
import Derived.Deep.LoopGhost
import Derived.Deep.QuietTactic
import Derived.BigQuiet
import Derived.Outline
namespace Go.Proofs.Qxb6612690a.Help
open Go.RowKit Go.Lib Go.Proofs.Qxb6612690a.App Go.Proofs.Qxb6612690a.Bin Go.Proofs.Qxb6612690a.Mem

def byteAt (bs : List UInt8) (i : Nat) : Value := .int .u8 ((bs.getD i 0).toNat : Int)

theorem byteCells_at (bs : List UInt8) (i : Nat) (h : i < bs.length) : (Lib.byteCells bs)[i]? = some (byteAt bs i) := by
  unfold Lib.byteCells byteAt
  simp [h]

theorem Rd.at {w : World} {a : Option Addr} {bs : List UInt8} (h : Rd w a bs) (hne : bs ≠ []) : ∃ b o, a = some ⟨b, o, none⟩ ∧ ∀ i, i < bs.length → w.cell? ⟨b, o + i, none⟩ = some (byteAt bs i) := by
  obtain ⟨b, o, ha, hc⟩ := h.bytes hne
  exact ⟨b, o, ha, fun i hi => hc i _ (byteCells_at bs i hi)⟩

/-- The row as far as it is copied. -/
def part (bs : List UInt8) (k i : Nat) : Value := if i < k then byteAt bs i else .int .u8 0

theorem own_of_row {w : World} {B g : Nat} {bs : List UInt8} (h : w.rowIs g 5 bs.length (byteAt bs)) (hB : B ≤ g) (hlim : bs.length ≤ maxLen) : Own w B (.slice (some ⟨g, 0, none⟩) bs.length bs.length) bs := by
  obtain ⟨c, hb, hn, hc⟩ := h
  refine ⟨by rw [bytes_length, Nat.mul_one], .inr ⟨g, bs.length, c, rfl, hB, hb, Nat.le_refl _, hlim, by rw [Nat.mul_one]; exact hn, ?_⟩⟩
  rw [Nat.mul_one]
  apply List.ext_getElem?
  intro i
  rw [List.getElem?_take]
  by_cases hi : i < bs.length
  · rw [if_pos hi, byteCells_at bs i hi, Array.getElem?_toList]
    exact hc i hi
  · rw [if_neg hi]
    exact (List.getElem?_eq_none (by rw [bytes_length]; omega)).symm

theorem clone_nil (c : Nat) (w : World) : Calls Try.prog 20 #[.slice none 0 c] w fun e w' => e = .returned (.slice none 0 0) ∧ w = w' := by
  have hq := fun x => run_eql_slice_nil (P := Try.prog) x 26 5 none 0 c 0 0 Try.underlying26
  go_enter Try.func20, Try.ntmps20
  go_wp2
  go_ret
  exact ⟨rfl, rfl⟩

theorem row_zero (w : World) (bs : List UInt8) (n : Nat) : (w.alloc (.cells (madeCells #[.int .u8 0] n) 5)).rowIs w.heap.size 5 n (part bs 0) :=
  (World.rowIs_made w (.int .u8 0) n 5).congr (fun i _ => by simp [part])

theorem row_succ {w : World} {g n k : Nat} {bs : List UInt8} (h : w.rowIs g 5 n (part bs k)) : (w.setCell ⟨g, k, none⟩ (byteAt bs k)).rowIs g 5 n (part bs (k + 1)) :=
  (h.set k (byteAt bs k)).congr (fun i _ => by
    unfold part
    by_cases h1 : i = k
    · subst h1; simp
    · by_cases h2 : i < k
      · simp [h1, h2, Nat.lt_succ_of_lt h2]
      · have h3 : ¬ i < k + 1 := by omega
        simp [h1, h2, h3])

theorem row_full {w : World} {g n : Nat} {bs : List UInt8} (h : w.rowIs g 5 n (part bs n)) : w.rowIs g 5 n (byteAt bs) := h.congr (fun i hi => by simp [part, hi])

set_option maxHeartbeats 400000 in
theorem clone_empty (x : Addr) (n c : Nat) (bs : List UInt8) (w : World) (hn : n ≤ 0) : Calls Try.prog 20 #[.slice (some x) n c] w fun e w' => ∃ g, e = .returned (.slice (some ⟨g, 0, none⟩) n n) ∧ w'.rowIs g 5 n (byteAt bs) ∧ w.heap.size ≤ g ∧ Below w.heap.size w w' := by
  have hq := fun y => run_eql_slice_nil (P := Try.prog) y 26 5 (some x) n c 0 0 Try.underlying26
  have hmk := fun y => run_make_row' (P := Try.prog) 26 5 (.int .u8 0) 1 Try.underlying26 info5 rfl .i64 .i64 n (by omega) (by omega) y
  have hrow : (w.alloc (.cells (madeCells #[.int .u8 0] n) 5)).rowIs w.heap.size 5 n (byteAt bs) := (World.rowIs_made w (.int .u8 0) n 5).congr (fun i hi => by omega)
  have hbel : Below w.heap.size w (w.alloc (.cells (madeCells #[.int .u8 0] n) 5)) := (Below.refl _ _).alloc (Nat.le_refl _) _
  go_enter Try.func20, Try.ntmps20
  go_wp2
  go_loopg [4] 1 (fun k i wr => Aside (k = 1 ∧ wr = w.alloc (.cells (madeCells #[.int .u8 0] n) 5)) ∧ i = .int .i64 0)
  case atStart => exact ⟨⟨rfl, rfl⟩, rfl⟩
  case round =>
    obtain ⟨hA, rfl⟩ := hrel
    obtain ⟨_, hw⟩ := hA.out
    subst hw
    clear hA
    go_wp2
    go_ret
    exact ⟨_, rfl, hrow, Nat.le_refl _, hbel⟩

set_option maxHeartbeats 400000 in
theorem clone_row (b o n c : Nat) (bs : List UInt8) (w : World) (hlim : n ≤ 8388608) (hb : b < w.heap.size) (hrd : ∀ i, i < n → w.cell? ⟨b, o + i, none⟩ = some (byteAt bs i)) :
    Calls Try.prog 20 #[.slice (some ⟨b, o, none⟩) n c] w fun e w' => ∃ g, e = .returned (.slice (some ⟨g, 0, none⟩) n n) ∧ w'.rowIs g 5 n (byteAt bs) ∧ w.heap.size ≤ g ∧ Below w.heap.size w w' := by
  have hq := fun y => run_eql_slice_nil (P := Try.prog) y 26 5 (some ⟨b, o, none⟩) n c 0 0 Try.underlying26
  have hmk := fun y => run_make_row' (P := Try.prog) 26 5 (.int .u8 0) 1 Try.underlying26 info5 rfl .i64 .i64 n (by omega) (by omega) y
  have hrow := row_zero w bs n
  have hbel : Below w.heap.size w (w.alloc (.cells (madeCells #[.int .u8 0] n) 5)) := (Below.refl _ _).alloc (Nat.le_refl _) _
  go_enter Try.func20, Try.ntmps20
  go_wp2
  clear hq hmk
  go_loopg [4] n (fun k i wr => ∃ j : Nat, Aside (k + j = n) ∧ j ≤ n ∧ i = .int .i64 j ∧ wr.rowIs w.heap.size 5 n (part bs j) ∧ Below w.heap.size w wr)
  case atStart => exact ⟨0, Nat.add_zero _, Nat.zero_le _, rfl, hrow, hbel⟩
  case round =>
    obtain ⟨j, hA, hj, rfl, hr, hbl⟩ := hrel
    by_cases hlt : j < n
    · have hc : wr.cell? ⟨b, o + j, none⟩ = some (byteAt bs j) := (hbl.cell (p := ⟨b, o + j, none⟩) hb).trans (hrd j hlt)
      have hc2 : wr.cell? ⟨w.heap.size, j, none⟩ = some (part bs j j) := hr.cell hlt
      have hf2 := hr.frozen j
      obtain ⟨z, hz⟩ : ∃ z : Int, byteAt bs j = .int .u8 z := ⟨_, rfl⟩
      have hrs := row_succ hr
      rw [hz] at hc hrs
      clear hz
      go_wp2
      go_roundg (gk - 1)
      case measure => have := hA.out; omega
      case rel => exact ⟨j + 1, by have := hA.out; show _ = _; omega, by omega, by go_num, hrs, hbl.setCell (Nat.le_refl _) _⟩
    · go_wp2
      go_ret
      obtain rfl : j = n := by omega
      exact ⟨_, rfl, row_full hr, Nat.le_refl _, hbl⟩

theorem Own.base {w : World} {B B' : Nat} {v : Value} {bs : List UInt8} (h : Own w B v bs) (hB : B' ≤ B) : Own w B' v bs := by
  refine ⟨h.1, ?_⟩
  rcases h.2 with h1 | ⟨g, cap, cur, hv, hb, hr⟩
  · exact .inl h1
  · exact .inr ⟨g, cap, cur, hv, Nat.le_trans hB hb, hr⟩

/-- zzCloneBytes. -/
theorem clone_any (a : Option Addr) (n c : Nat) (bs : List UInt8) (w : World) (hn : bs.length = n) (hlim : n ≤ 8388608) (hrd : Rd w a bs) :
    Calls Try.prog 20 #[.slice a n c] w fun e w' => ∃ a' c', e = .returned (.slice a' n c') ∧ Own w' w.heap.size (.slice a' n c') bs ∧ Below w.heap.size w w' := by
  subst hn
  cases a with
  | none =>
    have e : bs = [] := by
      by_cases h : bs = []
      · exact h
      · obtain ⟨_, _, h1, _⟩ := hrd.bytes h; cases h1
    subst e
    refine (clone_nil c w).mono ?_
    rintro e w' ⟨rfl, rfl⟩
    exact ⟨none, 0, rfl, World.ownsRow_nil _ _ _ _, Below.refl _ _⟩
  | some x =>
    have fin : ∀ (e : Ending) w', (∃ g, e = .returned (.slice (some ⟨g, 0, none⟩) bs.length bs.length) ∧ w'.rowIs g 5 bs.length (byteAt bs) ∧ w.heap.size ≤ g ∧ Below w.heap.size w w') →
        ∃ a' c', e = .returned (.slice a' bs.length c') ∧ Own w' w.heap.size (.slice a' bs.length c') bs ∧ Below w.heap.size w w' := by
      rintro e w' ⟨g, rfl, h1, h2, h3⟩
      exact ⟨_, _, rfl, own_of_row h1 h2 (by unfold maxLen; omega), h3⟩
    by_cases h : bs = []
    · refine (clone_empty x bs.length c bs w (by rw [h]; exact Nat.le_refl _)).mono fin
    · obtain ⟨b, o, hx, hc⟩ := Rd.at hrd h
      injection hx with hx
      subst hx
      have hb : b < w.heap.size := World.block_lt_of_cell? w _ (hc 0 (List.length_pos_iff.2 h))
      exact (clone_row b o bs.length c bs w hlim hb hc).mono fin

end Go.Proofs.Qxb6612690a.Help
