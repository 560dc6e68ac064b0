import Derived.Test.Qxb6609262aSum
import Derived.Laws.OwnMore
import Derived.Deep.Draws
namespace Go.Proofs.Qxb6609262a.Bal
open Go.RowKit Go.Proofs.Qxb6609262a.Sum

/-- The same memory; draws aside. -/
structure Same (w w' : World) : Prop where
  heap : w'.heap = w.heap
  os : w'.os = w.os
  tape : w'.tape = w.tape
  output : w'.output = w.output

theorem Same.refl (w : World) : Same w w := ⟨rfl, rfl, rfl, rfl⟩
theorem Same.trans {a b c : World} (h : Same a b) (k : Same b c) : Same a c := ⟨k.heap.trans h.heap, k.os.trans h.os, k.tape.trans h.tape, k.output.trans h.output⟩
theorem Same.cell {w w' : World} (h : Same w w') (a : Addr) : w'.cell? a = w.cell? a := by unfold World.cell?; rw [h.heap]
theorem Same.frozen {w w' : World} (h : Same w w') (a : Addr) : w'.frozen? a = w.frozen? a := by unfold World.frozen?; rw [h.heap]
theorem Same.setCell {w w' : World} (h : Same w w') (a : Addr) (v : Value) : Same (w.setCell a v) (w'.setCell a v) := by
  refine ⟨?_, h.os, h.tape, h.output⟩
  unfold World.setCell
  simp only [h.heap]
theorem Same.put {w w' : World} (h : Same w w') (b o : Nat) (z : Int) : Same (putSum w b o z) (putSum w' b o z) := (h.setCell _ _).setCell _ _
theorem Same.drew (w : World) : Same w w.drew := ⟨rfl, rfl, rfl, rfl⟩
theorem Same.drewN (w : World) (n : Nat) : Same w (w.drewN n) := ⟨rfl, rfl, rfl, rfl⟩

theorem put_cell (w : World) (b o : Nat) (z : Int) (a : Addr) (h : a.block ≠ b ∨ (a.off ≠ o ∧ a.off ≠ o + 1)) : (putSum w b o z).cell? a = w.cell? a := by
  have n1 : (⟨b, o, none⟩ : Addr) ≠ a := by rintro rfl; simp at h
  have n2 : (⟨b, o + 1, none⟩ : Addr) ≠ a := by rintro rfl; simp at h
  unfold putSum
  rw [World.cell?_setCell_other _ _ _ _ n1, World.cell?_setCell_other _ _ _ _ n2]
theorem put_frozen (w : World) (b o : Nat) (z : Int) (a : Addr) : (putSum w b o z).frozen? a = w.frozen? a := by
  unfold putSum
  rw [World.frozen?_setCell, World.frozen?_setCell]

set_option maxHeartbeats 1000000 in
theorem bal_any (b o : Nat) (zd zc deb cre : Int) (x0 x1 x2 x5 x6 x7 x8 x9 : Value) (w : World) (hd0 : -1267650600228229401496703205376 ≤ zd) (hd1 : zd ≤ 1267650600228229401496703205376) (hc0 : -1267650600228229401496703205376 ≤ zc) (hc1 : zc ≤ 1267650600228229401496703205376)
    (hb0 : -9223372036854775808 ≤ deb) (hb1 : deb ≤ 9223372036854775807) (hb2 : -9223372036854775808 ≤ cre) (hb3 : cre ≤ 9223372036854775807)
    (c0 : w.cell? ⟨b, o, none⟩ = some (.int .i64 (hiOf zd))) (c1 : w.cell? ⟨b, o + 1, none⟩ = some (.int .u64 (loOf zd))) (c2 : w.cell? ⟨b, o + 2, none⟩ = some (.int .i64 (hiOf zc))) (c3 : w.cell? ⟨b, o + 2 + 1, none⟩ = some (.int .u64 (loOf zc)))
    (f : ∀ j, w.frozen? ⟨b, j, none⟩ = false) :
    Calls Try.prog 20 #[.pointer (some ⟨b, o, none⟩), .agg #[x0, x1, x2, .int .i64 deb, .int .i64 cre, x5, x6, x7, x8, x9]] w fun e w' => e = .returned (.tuple #[]) ∧
      Same (putSum (putSum (w.alloc (.cells #[x0, x1, x2, .int .i64 deb, .int .i64 cre, x5, x6, x7, x8, x9] 61)) b o (zd + deb)) b (o + 2) (zc + cre)) w' := by
  have hlt : b < w.heap.size := World.block_lt_of_cell? w _ c0
  have hold : ∀ (k : Nat), (w.alloc (.cells #[x0, x1, x2, .int .i64 deb, .int .i64 cre, x5, x6, x7, x8, x9] 61)).cell? ⟨b, k, none⟩ = w.cell? ⟨b, k, none⟩ := fun k => ((Below.refl _ _).alloc (Nat.le_refl _) _).cell (p := ⟨b, k, none⟩) hlt
  have holdf : ∀ (k : Nat), (w.alloc (.cells #[x0, x1, x2, .int .i64 deb, .int .i64 cre, x5, x6, x7, x8, x9] 61)).frozen? ⟨b, k, none⟩ = w.frozen? ⟨b, k, none⟩ := fun k => ((Below.refl _ _).alloc (Nat.le_refl _) _).frozen (p := ⟨b, k, none⟩) hlt
  have hn3 : (w.alloc (.cells #[x0, x1, x2, .int .i64 deb, .int .i64 cre, x5, x6, x7, x8, x9] 61)).cell? ⟨w.heap.size, 3, none⟩ = some (.int .i64 deb) := by simp
  have hn4 : (w.alloc (.cells #[x0, x1, x2, .int .i64 deb, .int .i64 cre, x5, x6, x7, x8, x9] 61)).cell? ⟨w.heap.size, 4, none⟩ = some (.int .i64 cre) := by simp
  obtain ⟨W, hW⟩ : ∃ W, W = w.alloc (.cells #[x0, x1, x2, .int .i64 deb, .int .i64 cre, x5, x6, x7, x8, x9] 61) := ⟨_, rfl⟩
  rw [← hW] at hold holdf hn3 hn4 ⊢
  rw [← hold] at c0 c1 c2 c3
  have fW : ∀ j, W.frozen? ⟨b, j, none⟩ = false := fun j => (holdf j).trans (f j)
  clear hold holdf f
  have HW : Hid (w.alloc (.cells #[x0, x1, x2, .int .i64 deb, .int .i64 cre, x5, x6, x7, x8, x9] 61) = W) := hW.symm
  clear hW
  have HK1 : Hid (Calls Try.prog 21 #[.pointer (some ⟨b, o, none⟩), .int .i64 deb] W.drew fun e w' => e = .returned (.tuple #[]) ∧ putSum W.drew b o (zd + deb) = w') := add_any b o zd deb W.drew hd0 hd1 hb0 hb1 c0 c1 (fW _) (fW _)
  obtain ⟨W1, hW1⟩ : ∃ W1, W1 = putSum W.drew b o (zd + deb) := ⟨_, rfl⟩
  have S1 : Same (putSum W b o (zd + deb)) W1 := by rw [hW1]; exact (Same.drew W).put _ _ _
  have k3' : W1.cell? ⟨w.heap.size, 3, none⟩ = some (.int .i64 deb) := by rw [hW1, put_cell _ _ _ _ _ (.inl (by simp; omega))]; exact hn3
  have k4 : W1.cell? ⟨w.heap.size, 4, none⟩ = some (.int .i64 cre) := by rw [hW1, put_cell _ _ _ _ _ (.inl (by simp; omega))]; exact hn4
  have k2 : W1.cell? ⟨b, o + 2, none⟩ = some (.int .i64 (hiOf zc)) := by rw [hW1, put_cell _ _ _ _ _ (.inr (by simp))]; exact c2
  have k3 : W1.cell? ⟨b, o + 2 + 1, none⟩ = some (.int .u64 (loOf zc)) := by rw [hW1, put_cell _ _ _ _ _ (.inr (by simp; omega))]; exact c3
  have kf : ∀ j, W1.frozen? ⟨b, j, none⟩ = false := fun j => by rw [hW1]; exact (put_frozen _ _ _ _ _).trans (fW j)
  rw [← hW1] at HK1
  clear hW1
  have HK2 : Hid (Calls Try.prog 21 #[.pointer (some ⟨b, o + 2, none⟩), .int .i64 cre] W1.drew fun e w' => e = .returned (.tuple #[]) ∧ putSum W1.drew b (o + 2) (zc + cre) = w') := add_any b (o + 2) zc cre W1.drew hc0 hc1 hb2 hb3 k2 k3 (kf _) (kf _)
  obtain ⟨W2, hW2⟩ : ∃ W2, W2 = putSum W1.drew b (o + 2) (zc + cre) := ⟨_, rfl⟩
  have S2 : Same (putSum (putSum W b o (zd + deb)) b (o + 2) (zc + cre)) W2 := by rw [hW2]; exact (S1.trans (Same.drew W1)).put _ _ _
  have k4' : W2.cell? ⟨w.heap.size, 4, none⟩ = some (.int .i64 cre) := by rw [hW2, put_cell _ _ _ _ _ (.inl (by simp; omega))]; exact k4
  rw [← hW2] at HK2
  clear hW2 c0 c1 c2 c3 fW k2 k3 kf S1
  go_enter Try.func20, Try.ntmps20
  go_wp2
  rw [HW.out]
  go_region_held3 (fun w' => w'.cell? ⟨w.heap.size, 3, none⟩ = some (.int .i64 deb))
    (first | exact hn3 | exact k3')
    (first | (go_at_call 21; refine HK1.out.mono ?_; rintro e w1 ⟨rfl, rfl⟩))
  go_wp2
  go_region_held3 (fun w' => w'.cell? ⟨w.heap.size, 4, none⟩ = some (.int .i64 cre))
    (first | exact k4 | exact k4')
    (first | (go_at_call 21; refine HK2.out.mono ?_; rintro e w1 ⟨rfl, rfl⟩))
  go_wp2
  go_end0
  exact ⟨rfl, S2⟩

end Go.Proofs.Qxb6609262a.Bal
