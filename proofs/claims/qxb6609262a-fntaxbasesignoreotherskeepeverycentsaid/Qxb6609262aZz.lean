import Derived.Test.Qxb6609262aTb
namespace Go.Proofs.Qxb6609262a.Zz
open Go.RowKit Go.Proofs.Qxb6609262a.Sum Go.Proofs.Qxb6609262a.Bal Go.Proofs.Qxb6609262a.In Go.Proofs.Qxb6609262a.Keys Go.Proofs.Qxb6609262a.Plain Go.Proofs.Qxb6609262a.Idx Go.Proofs.Qxb6609262a.Own Go.Proofs.Qxb6609262a.Vou Go.Proofs.Qxb6609262a.Tb

theorem info38 : (Try.prog.info? 38).map (fun i => (i.zero, i.size, i.bytes)) = some (some (.agg tzero), 7, 64) := by kernel_rfl

theorem make38 (n : Nat) (hn : n ≤ 4096) (w : World) : (Instr.makeSlice 27 (.int .i64 (n : Int)) (.int .i64 (n : Int))).run Try.prog w = .ok (.slice (some ⟨w.heap.size, 0, none⟩) n n) (w.alloc (.cells (madeCells tzero (n * 7)) 38)) := by
  obtain ⟨i, hi, hz, hs, hb⟩ := info_parts info38
  have h := run_make (P := Try.prog) w 27 38 i (.agg tzero) Try.underlying27 hi hz .i64 .i64 (n : Int) (n : Int) (by omega) (Int.le_refl _) (by rw [hb]; omega) (by omega)
  rw [hs] at h
  exact h

def zcell (G : Nat → Nat) (C : Nat → ByteArray) (L D E : Nat → Int) (j : Nat) : List Value := [.pointer (some ⟨G j, 0, none⟩), .string (C j), .int .i64 (L j), .int .i64 (hiOf (D j)), .int .u64 (loOf (D j)), .int .i64 (hiOf (E j)), .int .u64 (loOf (E j))]

theorem seven (w : World) (g o : Nat) (v0 v1 v2 v3 v4 v5 v6 : Value) : ((((((w.setCell ⟨g, o, none⟩ v0).setCell ⟨g, o + 1, none⟩ v1).setCell ⟨g, o + 2, none⟩ v2).setCell ⟨g, o + 3, none⟩ v3).setCell ⟨g, o + 4, none⟩ v4).setCell ⟨g, o + 5, none⟩ v5).setCell ⟨g, o + 6, none⟩ v6 = w.setCells g o [v0, v1, v2, v3, v4, v5, v6] := rfl

theorem bs_of_row {w : World} {g t m : Nat} {G : Nat → Nat} {C : Nat → ByteArray} {L D E : Nat → Int} {z : List Value} (hr : w.rowIs g t (m * 7) (srow 7 (zcell G C L D E) z m)) (hl : ∀ j, j < m → Live w (G j)) : Bs w g m G C L D E := by
  have c : ∀ j k, j < m → (hk : k < 7) → w.cell? ⟨g, j * 7 + k, none⟩ = some ((zcell G C L D E j)[k]?.getD default) := fun j k hj hk => by
    have h := hr.cell (i := j * 7 + k) (by omega)
    rw [srow_at hk hj] at h
    exact h
  exact ⟨fun j hj => c j 0 hj (by decide), fun j hj => c j 1 hj (by decide), fun j hj => c j 2 hj (by decide), fun j hj => c j 3 hj (by decide), fun j hj => c j 4 hj (by decide), fun j hj => c j 5 hj (by decide), fun j hj => c j 6 hj (by decide), hl⟩

/-- What ZZtaxBases hands out. -/
def Got (w : World) (base : Nat) (v : Value) (bs : List TB) : Prop := (bs.length = 0 ∧ v = .slice none 0 0) ∨ ∃ g, v = .slice (some ⟨g, 0, none⟩) bs.length bs.length ∧ base ≤ g ∧ g < w.heap.size ∧ Bs w g bs.length (ky bs) (cu bs) (li bs) (de bs) (cr bs)

set_option maxRecDepth 10000 in
set_option maxHeartbeats 2000000 in
theorem zz_any (gv gp n : Nat) (T : Nat → TP) (K : Nat → Option Nat) (w : World) (hn : n ≤ 4096) (hf : ∀ j, j < n → (T j).Fit) (hv : w.cell? ⟨gv, 7, none⟩ = some (.slice (some ⟨gp, 0, none⟩) n n)) (hr : w.rowIs gp 61 (n * 10) (srow 10 (pcells T K) pzero.toList n)) (hal : Alive K n w) :
    Calls Try.prog 8 #[.pointer (some ⟨gv, 0, none⟩)] w fun e w' => ∃ v, e = .returned v ∧ Got w' w.heap.size v (run T K n) ∧ Below w.heap.size w w' := by
  have hlen := len_run T K n
  have q48 : ∀ (w : World) (a : Option Addr) (m c : Nat), (binOp .eql 48 (.slice a m c) (.slice none 0 0)).run Try.prog w = .ok (.bool a.isNone) w := fun w a m c => Lib.run_eql_slice_nil w _ _ a m c 0 0 Try.underlying48
  go_enter Try.func8, Try.ntmps8
  go_wp2_with fail
  refine (tb_any gv gp n T K w hn hf hv hr hal).mono ?_
  rintro e w1 ⟨v, rfl, ho, hb⟩
  have hkd : Keyed w1 (run T K n) := keyed hal (Nat.le_refl _) hb
  rcases ho.2 with ⟨rfl, h0⟩ | ⟨g, cap, cur, rfl, hbg, hg, _⟩
  · go_wp2
    go_ret
    exact ⟨_, rfl, .inl ⟨h0, rfl⟩, hb⟩
  · have hB := own_bs ho rfl hkd
    have hgl : g < w1.heap.size := (Array.getElem?_eq_some_iff.1 hg).1
    obtain ⟨m, hm⟩ : ∃ m, (run T K n).length = m := ⟨_, rfl⟩
    rw [hm] at hB hlen ⊢
    obtain ⟨G, C, L, D, E, hGe⟩ : ∃ G C L D E, Hid (G = ky (run T K n) ∧ C = cu (run T K n) ∧ L = li (run T K n) ∧ D = de (run T K n) ∧ E = cr (run T K n)) := ⟨_, _, _, _, _, rfl, rfl, rfl, rfl, rfl⟩
    have hm4 : m ≤ 4096 := by omega
    have hB' : Bs w1 g m G C L D E := by
      obtain ⟨rfl, rfl, rfl, rfl, rfl⟩ := hGe.out
      exact hB
    have hmk := make38 m hm4
    have hrow := srow_zero w1 38 m 7 tzero (zcell G C L D E) rfl (by decide)
    have hbel : Below w1.heap.size w1 (w1.alloc (.cells (madeCells tzero (m * 7)) 38)) := (Below.refl _ _).alloc (Nat.le_refl _) _
    have hGl : ∀ j, j < m → G j < w1.heap.size := fun j hj => (hB'.live j hj).lt
    have HM := Hid.mk' hm
    have HBB := Hid.mk' hbg
    clear hm hB hbg hg ho
    go_wp2
    clear hmk
    go_loopg [15] m (fun k iv wr => ∃ (i : Nat), Aside (k + i = m) ∧ i ≤ m ∧ iv = .int .i64 i ∧ wr.rowIs w1.heap.size 38 (m * 7) (srow 7 (zcell G C L D E) tzero.toList i) ∧ Below w1.heap.size w1 wr)
    case atStart => exact ⟨0, Nat.add_zero _, Nat.zero_le _, rfl, hrow, hbel⟩
    case round =>
      obtain ⟨i, hA, hi, rfl, hrw, hbl⟩ := hrel
      by_cases hlt : i < m
      · have hlt' : (i : Int) < (m : Int) := by omega
        have SIX : Hid (∀ w' : World, Below w1.heap.size w1 w' → w'.cell? ⟨g, i * 7, none⟩ = some (.pointer (some ⟨G i, 0, none⟩)) ∧ w'.cell? ⟨g, i * 7 + 1, none⟩ = some (.string (C i)) ∧ w'.cell? ⟨g, i * 7 + 2, none⟩ = some (.int .i64 (L i)) ∧ w'.cell? ⟨g, i * 7 + 3, none⟩ = some (.int .i64 (hiOf (D i))) ∧ w'.cell? ⟨g, i * 7 + 4, none⟩ = some (.int .u64 (loOf (D i))) ∧ w'.cell? ⟨g, i * 7 + 5, none⟩ = some (.int .i64 (hiOf (E i))) ∧ w'.cell? ⟨g, i * 7 + 6, none⟩ = some (.int .u64 (loOf (E i)))) := fun w' h' => by
          have hB2 := hB'.below h' hgl hGl
          exact ⟨hB2.b0 i hlt, hB2.b1 i hlt, hB2.b2 i hlt, hB2.b3 i hlt, hB2.b4 i hlt, hB2.b5 i hlt, hB2.b6 i hlt⟩
        have hcell : ∀ k, k < 7 → ∃ v, wr.cell? ⟨w1.heap.size, i * 7 + k, none⟩ = some v := fun k hk => ⟨_, hrw.cell (by omega)⟩
        obtain ⟨v0, d0⟩ := hcell 0 (by decide)
        rw [Nat.add_zero] at d0
        obtain ⟨v1, d1⟩ := hcell 1 (by decide)
        obtain ⟨v2, d2⟩ := hcell 2 (by decide)
        obtain ⟨v3, d3⟩ := hcell 3 (by decide)
        obtain ⟨v4, d4⟩ := hcell 4 (by decide)
        obtain ⟨v5, d5⟩ := hcell 5 (by decide)
        obtain ⟨v6, d6⟩ := hcell 6 (by decide)
        have hfz : ∀ k, wr.frozen? ⟨w1.heap.size, k, none⟩ = false := fun k => hrw.frozen k
        go_wp2_with fail
        go_region_held3 (fun w' => w'.cell? ⟨g, i * 7, none⟩ = some (.pointer (some ⟨G i, 0, none⟩)) ∧ w'.cell? ⟨g, i * 7 + 1, none⟩ = some (.string (C i)) ∧ w'.cell? ⟨g, i * 7 + 2, none⟩ = some (.int .i64 (L i)) ∧ w'.cell? ⟨g, i * 7 + 3, none⟩ = some (.int .i64 (hiOf (D i))) ∧ w'.cell? ⟨g, i * 7 + 4, none⟩ = some (.int .u64 (loOf (D i))) ∧ w'.cell? ⟨g, i * 7 + 5, none⟩ = some (.int .i64 (hiOf (E i))) ∧ w'.cell? ⟨g, i * 7 + 6, none⟩ = some (.int .u64 (loOf (E i))))
          (exact SIX.out _ (by first | with_reducible exact hbl.drew | (rw [seven]; exact (below_setCells (Nat.le_refl _) _ _ _ hbl).drew)))
          (fail)
        go_wp2
        have hset := srow_step hrw (by decide) rfl
        unfold zcell at hset
        go_roundg (gk - 1)
        case measure => have := hA.out; omega
        case rel =>
          rw [seven]
          exact ⟨i + 1, by have := hA.out; show _ = _; omega, by omega, by go_num, rowIs_drew hset, (below_setCells (Nat.le_refl _) _ _ _ hbl).drew⟩
      · go_wp2
        go_ret
        obtain rfl : i = m := by omega
        have hbb := hb.trans (hbl.mono hb.size)
        refine ⟨_, rfl, .inr ⟨w1.heap.size, ?_, hb.size, hrw.lt, ?_⟩, hbb⟩
        · rw [HM.out]; rfl
        · rw [HM.out]
          have hX := bs_of_row hrw (fun j hj => (hB'.live j hj).below hbl (hGl j hj))
          obtain ⟨rfl, rfl, rfl, rfl, rfl⟩ := hGe.out
          exact hX

end Go.Proofs.Qxb6609262a.Zz
