import Derived.Test.Qxb6609262aVou
namespace Go.Proofs.Qxb6609262a.Vou2
open Go.RowKit Go.Proofs.Qxb6609262a.Sum Go.Proofs.Qxb6609262a.Bal Go.Proofs.Qxb6609262a.In Go.Proofs.Qxb6609262a.Grp Go.Proofs.Qxb6609262a.Gsum Go.Proofs.Qxb6609262a.Keys Go.Proofs.Qxb6609262a.Vou

/-! toVoucher again, with the keys as cells of any row -/
set_option maxHeartbeats 1000000 in
theorem vou_any (b o n c kb ck : Nat) (T : Nat → TP) (K : Nat → Option Nat) (w : World) (hn : n ≤ 4096) (hb : b < w.heap.size) (hp : Ps w b o n T) (hgk : kb < w.heap.size) (hkr : ∀ i, i < n → w.cell? ⟨kb, i, none⟩ = some (ptr (K i))) :
    Calls Try.prog 9 #[.slice (some ⟨b, o, none⟩) n c, .slice (some ⟨kb, 0, none⟩) n ck] w fun e w' => ∃ gv gp, e = .returned (.pointer (some ⟨gv, 0, none⟩)) ∧ w'.cell? ⟨gv, 7, none⟩ = some (.slice (some ⟨gp, 0, none⟩) n n) ∧ w'.rowIs gp 61 (n * 10) (srow 10 (pcells T K) pzero.toList n) ∧ w.heap.size ≤ gp ∧ w.heap.size ≤ gv ∧ gp ≠ gv ∧ Below w.heap.size w w' := by
  have HKR : Hid (∀ i, i < n → w.cell? ⟨kb, i, none⟩ = some (ptr (K i))) := hkr
  clear hkr
  have hmk := make61 n hn
  have hrow := srow_zero w 61 n 10 pzero (pcells T K) rfl (by decide)
  have hbel : Below w.heap.size w (w.alloc (.cells (madeCells pzero (n * 10)) 61)) := (Below.refl _ _).alloc (Nat.le_refl _) _
  go_enter Try.func9, Try.ntmps9
  go_wp2
  clear hmk
  go_loopg [6] n (fun k iv wr => ∃ (i : Nat), Aside (k + i = n) ∧ i ≤ n ∧ iv = .int .i64 i ∧ wr.rowIs w.heap.size 61 (n * 10) (srow 10 (pcells T K) pzero.toList i) ∧ Below w.heap.size w wr)
  case atStart => exact ⟨0, Nat.add_zero _, Nat.zero_le _, rfl, hrow, hbel⟩
  case round =>
    obtain ⟨i, hA, hi, rfl, hr, hbl⟩ := hrel
    have hpr := hp.below hbl hb
    by_cases hlt : i < n
    · have S0 := twelve hpr hlt hlt
      have hlt' : (i : Int) < (n : Int) := by omega
      have hck : wr.cell? ⟨kb, i, none⟩ = some (ptr (K i)) := (hbl.cell (p := ⟨kb, i, none⟩) hgk).trans (HKR.out i hlt)
      obtain ⟨x, hx⟩ : ∃ x, ptr (K i) = .pointer x := ⟨_, rfl⟩
      have HX : Hid (ptr (K i) = .pointer x) := hx
      rw [hx] at hck
      clear hx
      have SIX : Hid (∀ w' : World, Below w.heap.size w w' → w'.cell? ⟨b, o + i * 6, none⟩ = some (.int .i64 (T i).line) ∧ w'.cell? ⟨b, o + i * 6 + 1, none⟩ = some (.string (T i).cur) ∧ w'.cell? ⟨b, o + i * 6 + 2, none⟩ = some (.int .i64 (T i).deb) ∧ w'.cell? ⟨b, o + i * 6 + 3, none⟩ = some (.int .i64 (T i).cre) ∧ w'.cell? ⟨b, o + i * 6 + 4, none⟩ = some (.bool (T i).tax) ∧ w'.cell? ⟨kb, i, none⟩ = some (.pointer x)) := fun w' h' => by
        have hp' := hp.below h' hb
        have S0 := twelve hp' hlt hlt
        exact ⟨S0.1, S0.2.1, S0.2.2.1, S0.2.2.2.1, S0.2.2.2.2.1, (h'.cell (p := ⟨kb, i, none⟩) hgk).trans ((hbl.cell (p := ⟨kb, i, none⟩) hgk).symm.trans hck)⟩
      have hcell : ∀ k, k < 10 → ∃ v, wr.cell? ⟨w.heap.size, i * 10 + k, none⟩ = some v := fun k hk => ⟨_, hr.cell (by omega)⟩
      obtain ⟨v0, d0⟩ := hcell 0 (by decide)
      rw [Nat.add_zero] at d0
      obtain ⟨v1, d1⟩ := hcell 1 (by decide)
      obtain ⟨v2, d2⟩ := hcell 2 (by decide)
      obtain ⟨v3, d3⟩ := hcell 3 (by decide)
      obtain ⟨v4, d4⟩ := hcell 4 (by decide)
      obtain ⟨v5, d5⟩ := hcell 5 (by decide)
      obtain ⟨v6, d6⟩ := hcell 6 (by decide)
      obtain ⟨v7, d7⟩ := hcell 7 (by decide)
      obtain ⟨v8, d8⟩ := hcell 8 (by decide)
      obtain ⟨v9, d9⟩ := hcell 9 (by decide)
      have hfz : ∀ k, wr.frozen? ⟨w.heap.size, k, none⟩ = false := fun k => hr.frozen k
      go_wp2_with fail
      go_region_held3 (fun w' => w'.cell? ⟨b, o + i * 6, none⟩ = some (.int .i64 (T i).line) ∧ w'.cell? ⟨b, o + i * 6 + 1, none⟩ = some (.string (T i).cur) ∧ w'.cell? ⟨b, o + i * 6 + 2, none⟩ = some (.int .i64 (T i).deb) ∧ w'.cell? ⟨b, o + i * 6 + 3, none⟩ = some (.int .i64 (T i).cre) ∧ w'.cell? ⟨b, o + i * 6 + 4, none⟩ = some (.bool (T i).tax) ∧ w'.cell? ⟨kb, i, none⟩ = some (.pointer x))
        (exact SIX.out _ (by first | with_reducible exact hbl.drew | (rw [ten]; exact (below_setCells (Nat.le_refl _) _ _ _ hbl).drew)))
        (fail)
      go_wp2
      have hset := srow_step hr (by decide) rfl
      rw [show pcells T K i = [.int .i64 (T i).line, .string (T i).cur, .int .i64 0, .int .i64 (T i).deb, .int .i64 (T i).cre, .string ⟨#[]⟩, .int .i64 0, .bool (T i).tax, .string ⟨#[]⟩, .pointer x] from by unfold pcells; rw [HX.out]] at hset
      go_roundg (gk - 1)
      case measure => have := hA.out; omega
      case rel =>
        rw [ten]
        exact ⟨i + 1, by have := hA.out; show _ = _; omega, by omega, by go_num, rowIs_drew hset, (below_setCells (Nat.le_refl _) _ _ _ hbl).drew⟩
    · go_wp2
      go_ret
      obtain rfl : i = n := by omega
      have hlt := hr.lt
      exact ⟨_, _, rfl, by simp only [World.cell?, Go.Deep.blk_alloc_new]; rfl, hr.alloc _, Nat.le_refl _, Nat.le_of_lt hlt, Nat.ne_of_lt hlt, hbl.alloc (Nat.le_of_lt hlt) _⟩

set_option maxHeartbeats 1000000 in
theorem vou_nil (a a' : Option Addr) (n c c' : Nat) (T : Nat → TP) (K : Nat → Option Nat) (w : World) (hn : n ≤ 0) :
    Calls Try.prog 9 #[.slice a n c, .slice a' n c'] w fun e w' => ∃ gv gp, e = .returned (.pointer (some ⟨gv, 0, none⟩)) ∧ w'.cell? ⟨gv, 7, none⟩ = some (.slice (some ⟨gp, 0, none⟩) n n) ∧ w'.rowIs gp 61 (n * 10) (srow 10 (pcells T K) pzero.toList n) ∧ w.heap.size ≤ gp ∧ w.heap.size ≤ gv ∧ gp ≠ gv ∧ Below w.heap.size w w' := by
  have hmk := make61 n (by omega)
  have hrow : (w.alloc (.cells (madeCells pzero (n * 10)) 61)).rowIs w.heap.size 61 (n * 10) (srow 10 (pcells T K) pzero.toList n) := (srow_zero w 61 n 10 pzero (pcells T K) rfl (by decide)).congr (fun j hj => absurd hj (by omega))
  have hbel : Below w.heap.size w (w.alloc (.cells (madeCells pzero (n * 10)) 61)) := (Below.refl _ _).alloc (Nat.le_refl _) _
  go_enter Try.func9, Try.ntmps9
  go_wp2
  clear hmk
  go_loopg [6] 1 (fun k i wr => Aside (k = 1 ∧ wr = w.alloc (.cells (madeCells pzero (n * 10)) 61)) ∧ i = .int .i64 0)
  case atStart => exact ⟨⟨rfl, rfl⟩, rfl⟩
  case round =>
    obtain ⟨hA, rfl⟩ := hrel
    obtain ⟨_, hw⟩ := hA.out
    have hr : wr.rowIs w.heap.size 61 (n * 10) (srow 10 (pcells T K) pzero.toList n) := by rw [hw]; exact hrow
    have hbl : Below w.heap.size w wr := by rw [hw]; exact hbel
    clear hA hw hrow hbel
    go_wp2
    go_ret
    have hlt := hr.lt
    exact ⟨_, _, rfl, by simp only [World.cell?, Go.Deep.blk_alloc_new]; rfl, hr.alloc _, Nat.le_refl _, Nat.le_of_lt hlt, Nat.ne_of_lt hlt, hbl.alloc (Nat.le_of_lt hlt) _⟩

end Go.Proofs.Qxb6609262a.Vou2
