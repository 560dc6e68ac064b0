import Derived.Test.Qxb6609262aExact
import Derived.Test.Qxb6609262aFil
import Derived.Test.Qxb6609262aGood
import Derived.Test.Qxb6609262aTot
namespace Go.Proofs.Qxb6609262a.Cent
open Go.RowKit Go.Proofs.Qxb6609262a.Sum Go.Proofs.Qxb6609262a.Bal Go.Proofs.Qxb6609262a.In Go.Proofs.Qxb6609262a.Grp Go.Proofs.Qxb6609262a.Gsum Go.Proofs.Qxb6609262a.Keys Go.Proofs.Qxb6609262a.Plain Go.Proofs.Qxb6609262a.Idx Go.Proofs.Qxb6609262a.Own Go.Proofs.Qxb6609262a.Vou Go.Proofs.Qxb6609262a.Vou2 Go.Proofs.Qxb6609262a.Tb Go.Proofs.Qxb6609262a.Zz Go.Proofs.Qxb6609262a.Exact Go.Proofs.Qxb6609262a.Keep Go.Proofs.Qxb6609262a.Good Go.Proofs.Qxb6609262a.Fil Go.Proofs.Qxb6609262a.Tot

theorem grown_below {w4 w5 : World} {X : Obj} {row : Option Nat} {base : Nat} (hb : base ≤ w4.heap.size) (hg : (w4.alloc X).grownBy w5 row) (hrow : ∀ k, row = some k → base ≤ k) : Below base w4 w5 :=
  ((Below.refl base w4).alloc hb X).grown hg (by simp; omega) hrow

set_option maxRecDepth 10000 in
set_option maxHeartbeats 4000000 in
theorem walk_row (b o n c : Nat) (T : Nat → TP) (w : World) (hn0 : 0 < n) (hnm : n ≤ maxLen) (hp : Ps w b o n T) :
    Calls Try.prog 4 #[.slice (some ⟨b, o, none⟩) n c] w fun e w' => e = .returned (.bool true) ∧ Below w.heap.size w w' := by
  have hb0 : b < w.heap.size := hp.lt hn0
  have hfit := hp.fit
  go_enter Try.func4, Try.ntmps4
  go_wp2_with fail
  refine (bytes13_row b o n c T w hnm hp).mono ?_
  rintro e w0 ⟨⟨ok, rfl⟩, rfl⟩
  cases ok
  · go_wp2
    go_ret
    exact ⟨rfl, Below.refl _ _⟩
  by_cases h12 : (4096 : Int) < (n : Int)
  · go_wp2
    go_ret
    exact ⟨rfl, Below.refl _ _⟩
  have hn : n ≤ 4096 := by omega
  have h12' : (n : Int) ≤ 4096 := by omega
  clear h12
  go_wp2_with fail
  refine (count_row b o n c T w hn hp).mono ?_
  rintro e w0 ⟨⟨z, rfl⟩, rfl⟩
  by_cases hz : (1048576 : Int) < z
  · go_wp2
    go_ret
    exact ⟨rfl, Below.refl _ _⟩
  have hz' : z ≤ 1048576 := by omega
  clear hz
  go_wp2_with fail
  refine (keys_row b o n c T w hn hb0 hp).mono ?_
  rintro e w1 ⟨kb, K, rfl, hkr, hko, hal, hkb, hb1⟩
  go_wp2_with fail
  have hp1 := hp.below hb1 hb0
  refine (vou_row b o n c kb T K w1 hn (Nat.lt_of_lt_of_le hb0 hb1.size) hp1 hkr).mono ?_
  rintro e w2 ⟨gv, gp, rfl, hgv, hgr, hgp, hgv1, hne, hb2⟩
  have hal2 : Alive K n w2 := fun j hj g hg => (hal j hj g hg).below hb2 (hal j hj g hg).lt
  go_wp2_with fail
  refine (zz_any gv gp n T K w2 hn hfit hgv hgr hal2).mono ?_
  rintro e w3 ⟨v, rfl, hgot, hb3⟩
  obtain ⟨ad, rfl, hgo⟩ := got_open hgot
  have hkbl : kb < w1.heap.size := hkr.lt
  have hbw3 : Below w.heap.size w w3 := hb1.trans ((hb2.mono hb1.size).trans (hb3.mono (Nat.le_trans hb1.size hb2.size)))
  have hp3 := hp.below hbw3 hb0
  have hk3 : ∀ i, i < n → w3.cell? ⟨kb, i, none⟩ = some (ptr (K i)) := fun i hi => by
    have h1 := hkr.cell hi
    rw [show krow K n i = ptr (K i) from by unfold krow; rw [if_pos hi]] at h1
    exact (hb3.cell (p := ⟨kb, i, none⟩) (Nat.lt_of_lt_of_le hkbl hb2.size)).trans ((hb2.cell (p := ⟨kb, i, none⟩) hkbl).trans h1)
  have hkb3 : kb < w3.heap.size := Nat.lt_of_lt_of_le hkbl (Nat.le_trans hb2.size hb3.size)
  have hb03 : b < w3.heap.size := Nat.lt_of_lt_of_le hb0 hbw3.size
  have hal3 : Alive K n w3 := fun j hj g hg => (hal2 j hj g hg).below hb3 (hal2 j hj g hg).lt
  have hgood := good_run hko hn hfit
  have hrun := run_idx hko n (Nat.le_refl _)
  obtain ⟨bs, hbs⟩ : ∃ bs, run T K n = bs := ⟨_, rfl⟩
  have hmn := len_run T K n
  rw [hbs] at hmn hgo hgood hrun ⊢
  obtain ⟨m, hm⟩ : ∃ m, bs.length = m := ⟨_, rfl⟩
  rw [hm] at hmn hgo ⊢
  have HM := Hid.mk' hm
  have HG := Hid.mk' hgo
  have HBW := Hid.mk' hbw3
  have HKO := Hid.mk' hko
  have HK3 := Hid.mk' hk3
  have HP3 := Hid.mk' hp3
  have HAL := Hid.mk' hal3
  have HGD := Hid.mk' hgood
  have HRUN := Hid.mk' hrun
  have HFIT := Hid.mk' hfit
  have hm4 : (m : Int) ≤ 4096 := by omega
  clear hm hgot hgo hbw3 hko hk3 hp3 hkr hal hal2 hal3 hgv hgr hb1 hb2 hb3 hp1 hkb hgp hgv1 hne hp hfit hmn hgood hrun hbs
  go_wp2
  go_loopg [5, 6, 7] n (fun k fv kv iv wr => ∃ (i : Nat), Aside (k + i = n) ∧ i ≤ n ∧ iv = .int .i64 i ∧ wr.ownsRow w3.heap.size 33 6 fv (idx T i).length (psl T (idx T i)) ∧ wr.ownsRow w3.heap.size 35 1 kv (idx T i).length (ksl K (idx T i)) ∧ Below w3.heap.size w3 wr)
  case atStart => exact ⟨0, Nat.add_zero _, Nat.zero_le _, rfl, ⟨rfl, .inl ⟨rfl, rfl⟩⟩, ⟨rfl, .inl ⟨rfl, rfl⟩⟩, Below.refl _ _⟩
  case round =>
    obtain ⟨i, hA, hi, rfl, hoF, hoK, hbl⟩ := hrel
    have hpr := HP3.out.below hbl hb03
    by_cases hlt : i < n
    · have hlt' : (i : Int) < (n : Int) := by omega
      obtain ⟨s0, s1, s2, s3, s4, s5, _⟩ := twelve hpr hlt hlt
      cases hc : cnt (T i)
      · have HC := Hid.mk' hc
        clear hc
        go_wp2_with fail
        refine (counted_any _ _ _ _ _ _ _).mono ?_
        rintro e w4 ⟨rfl, hb4⟩
        have hbn := hbl.trans (hb4.mono hbl.size)
        rw [show cnt ⟨(T i).line, (T i).cur, (T i).deb, (T i).cre, (T i).tax, (T i).key⟩ = false from HC.out]
        have HF4 := Hid.mk' (own_below hoF hb4 (Nat.le_refl _))
        have HK4 := Hid.mk' (own_below hoK hb4 (Nat.le_refl _))
        clear hoF hoK
        go_wp2
        go_roundg (gk - 1)
        case measure => have := hA.out; omega
        case rel => exact ⟨i + 1, by have := hA.out; show _ = _; omega, by omega, by go_num, by rw [idx_no HC.out]; exact HF4.out, by rw [idx_no HC.out]; exact HK4.out, hbn⟩
      · have HC := Hid.mk' hc
        clear hc
        go_wp2_with fail
        refine (counted_any _ _ _ _ _ _ _).mono ?_
        rintro e w4 ⟨rfl, hb4⟩
        have hbn := hbl.trans (hb4.mono hbl.size)
        rw [show cnt ⟨(T i).line, (T i).cur, (T i).deb, (T i).cre, (T i).tax, (T i).key⟩ = true from HC.out]
        have HF4 := Hid.mk' (own_below hoF hb4 (Nat.le_refl _))
        have HK4 := Hid.mk' (own_below hoK hb4 (Nat.le_refl _))
        obtain ⟨gx, hgx⟩ : ∃ gx, K i = some gx := by
          have := cn_cnt HKO.out hlt
          rw [HC.out] at this
          unfold cn at this
          simp only [Bool.and_eq_true] at this
          exact Option.isSome_iff_exists.1 this.2
        have hpx : ptr (K i) = .pointer (some ⟨gx, 0, none⟩) := by rw [hgx]; rfl
        have HPX := Hid.mk' hpx
        have hkc : w4.cell? ⟨kb, i, none⟩ = some (.pointer (some ⟨gx, 0, none⟩)) := by
          rw [← hpx]
          exact (hbn.cell (p := ⟨kb, i, none⟩) hkb3).trans (HK3.out i hlt)
        have HKC := Hid.mk' hkc
        have HBN := Hid.mk' hbn
        have hlen := idx_len T i
        have HL : Hid ((idx T i).length ≤ 4096) := Hid.mk' (by omega)
        obtain ⟨q0, q1, q2, q3, q4, q5, _⟩ := twelve (HP3.out.below hbn hb03) hlt hlt
        have HONE : Hid (∀ u ∈ ([.int .i64 (T i).line, .string (T i).cur, .int .i64 (T i).deb, .int .i64 (T i).cre, .bool (T i).tax, .int .i64 (T i).key] : List Value), u.oneCell' = true) := by unfold Hid; simp [Value.oneCell']
        have HONEK : Hid (∀ u ∈ ([.pointer (some ⟨gx, 0, none⟩)] : List Value), u.oneCell' = true) := by unfold Hid; simp [Value.oneCell']
        have hl0 : ((idx T i).length : Int) ≤ 4096 := by omega
        clear hoF hoK hlen hpx hgx hkc s0 s1 s2 s3 s4 s5 hpr
        go_wp2_with (first
          | (refine app22 rfl _ _ rfl w3.heap.size u5 (idx T i).length (psl T (idx T i)) rfl HF4.out [.int .i64 (T i).line, .string (T i).cur, .int .i64 (T i).deb, .int .i64 (T i).cre, .bool (T i).tax, .int .i64 (T i).key] rfl rfl HONE.out HL.out HBN.out.size (fun g cap w5 hown5 hgr5 hat5 hg5 => ?_)
             have hb5 := grown_below HBN.out.size hgr5 (fun k hk => (own_block HF4.out hk).2)
             have HB5 := Hid.mk' (HBN.out.trans hb5)
             have hk5 := (hb5.cell (p := ⟨kb, i, none⟩) hkb3).trans HKC.out
             have HK5 := Hid.mk' (own_grown (HK4.out.alloc _) hgr5 (fun g hg => own_apart HK4.out HF4.out (by decide) hg))
             have HF5 := Hid.mk' hown5
             clear hown5 hgr5 hat5 hb5)
          | (refine app25 rfl _ _ rfl w3.heap.size u6 (idx T i).length (ksl K (idx T i)) rfl HK5.out [.pointer (some ⟨gx, 0, none⟩)] rfl rfl HONEK.out HL.out HB5.out.size (fun g2 cap2 w6 hown6 hgr6 hat6 hg6 => ?_)
             have HB6 := Hid.mk' (HB5.out.trans (grown_below HB5.out.size hgr6 (fun k hk => (own_block HK5.out hk).2)))
             have HF6 := Hid.mk' (own_grown (HF5.out.alloc _) hgr6 (fun g hg => own_apart HF5.out HK5.out (by decide) hg))
             have HK6 := Hid.mk' hown6
             clear hown6 hgr6 hat6))
        go_roundg (gk - 1)
        case measure => have := hA.out; omega
        case rel => exact ⟨i + 1, by have := hA.out; show _ = _; omega, by omega, by go_num, by rw [idx_yes HC.out, List.length_append, psl_snoc]; exact HF6.out, by rw [idx_yes HC.out, List.length_append, ksl_snoc, HPX.out]; exact HK6.out, HB6.out⟩
    · have hin : i = n := by omega
      rw [hin] at hoF hoK
      obtain ⟨r, hr⟩ : ∃ r, (idx T n).length = r := ⟨_, rfl⟩
      have hrn := idx_len T n
      have hT' : ∀ j, j < r → (T (pick (idx T n) j)).Fit := fun j hj => HFIT.out _ (pick_lt T (by omega))
      have hrun := HRUN.out
      rw [hr] at hoF hoK hrn hrun
      have HFT := Hid.mk' hT'
      have HR := Hid.mk' hr
      have HRUN' := Hid.mk' hrun
      have HOF := Hid.mk' hoF
      have HOK := Hid.mk' hoK
      have hr4 : (r : Int) ≤ 4096 := by omega
      clear hoF hoK hT' hr hin hrn hrun hA
      go_wp2_with fail
      refine (vou_own HR.out (by omega) HOF.out HOK.out HFT.out).mono ?_
      rintro e w6 ⟨gv', gp', rfl, hgv, hgr, _, _, _, hb6⟩
      have hbl6 := hbl.trans (hb6.mono hbl.size)
      have hal6 : Alive (fun j => K (pick (idx T n) j)) r w6 := fun j hj g hg => by
        have h := HAL.out (pick (idx T n) j) (pick_lt T (by rw [HR.out]; exact hj)) g hg
        exact h.below hbl6 h.lt
      have HGV := Hid.mk' hgv
      have HGR := Hid.mk' hgr
      have HAL6 := Hid.mk' hal6
      clear hgv hgr hal6
      go_wp2_with fail
      refine (zz_any gv' gp' r (fun j => T (pick (idx T n) j)) (fun j => K (pick (idx T n) j)) w6 (by omega) HFT.out HGV.out HGR.out HAL6.out).mono ?_
      rintro e w7 ⟨v, rfl, hgot, hb7⟩
      rw [HRUN'.out] at hgot
      obtain ⟨ad', rfl, hgo'⟩ := got_open hgot
      have hbl7 := hbl6.trans (hb7.mono hbl6.size)
      rw [HM.out] at hgo' ⊢
      have HG' := Hid.mk' hgo'
      have HB7 := Hid.mk' hbl7
      clear hgot hgo' hbl hbl6 hbl7 hb6 hb7
      have HG7 : Hid (0 < m → ∃ g, ad = some ⟨g, 0, none⟩ ∧ g < w7.heap.size ∧ Bs w7 g m (ky bs) (cu bs) (li bs) (de bs) (cr bs)) := fun h0 => by
        obtain ⟨g, h1, h2, h3⟩ := HG.out h0
        exact ⟨g, h1, Nat.lt_of_lt_of_le h2 HB7.out.size, h3.below HB7.out h2 (fun j hj => (h3.live j hj).lt)⟩
      go_wp2
      go_loopg [9] m (fun k iv wr => ∃ (i : Nat), Aside (k + i = m) ∧ i ≤ m ∧ iv = .int .i64 i ∧ Below w7.heap.size w7 wr)
      case atStart => exact ⟨0, Nat.add_zero _, Nat.zero_le _, rfl, Below.refl _ _⟩
      case round =>
        obtain ⟨i, hA, hi, rfl, hbl⟩ := hrel
        by_cases hlt : i < m
        · have hlt' : (i : Int) < (m : Int) := by omega
          obtain ⟨g, rfl, hg7, hBs⟩ := HG7.out (by omega)
          obtain ⟨g', rfl, hg7', hBs'⟩ := HG'.out (by omega)
          have hBr := hBs.below hbl hg7 (fun j hj => (hBs.live j hj).lt)
          have hBr' := hBs'.below hbl hg7' (fun j hj => (hBs'.live j hj).lt)
          have HBS := Hid.mk' hBs
          have k0 := hBr.b0 i hlt
          have k1 := hBr.b1 i hlt
          have k2 := hBr.b2 i hlt
          have k3 := hBr.b3 i hlt
          have k4 := hBr.b4 i hlt
          have k5 := hBr.b5 i hlt
          have k6 := hBr.b6 i hlt
          have l0 := hBr'.b0 i hlt
          have l1 := hBr'.b1 i hlt
          have l2 := hBr'.b2 i hlt
          have l3 := hBr'.b3 i hlt
          have l4 := hBr'.b4 i hlt
          have l5 := hBr'.b5 i hlt
          have l6 := hBr'.b6 i hlt
          have hnb := neq_base (ky bs i) (cu bs i) (li bs i) (hiOf (de bs i)) (loOf (de bs i)) (hiOf (cr bs i)) (loOf (cr bs i))
          clear hBs hBs' hBr hBr'
          go_wp2_with fail
          go_quiet (fail)
          go_wp2
          clear k0 k1 k2 k3 k4 k5 k6 l0 l1 l2 l3 l4 l5 l6 hnb
          have hbq := below_drewN hbl nq
          go_loopg [10] (m - (i + 1)) (fun k jv wr => ∃ (j : Nat), Aside (k + j = m) ∧ i < j ∧ j ≤ m ∧ jv = .int .i64 j ∧ Below w7.heap.size w7 wr)
          case atStart => exact ⟨i + 1, by show _ = _; omega, by omega, by omega, by go_num, hbq⟩
          case round =>
            obtain ⟨j, hA2, hij, hjm, rfl, hbl2⟩ := hrel
            by_cases hj : j < m
            · have hj1 : (j : Int) < (m : Int) := by omega
              have hj0 : (0 : Int) ≤ (j : Int) := by omega
              have hBr := HBS.out.below hbl2 hg7 (fun j hj => (HBS.out.live j hj).lt)
              have k0 := hBr.b0 i hlt
              have k1 := hBr.b1 i hlt
              have l0 := hBr.b0 j hj
              have l1 := hBr.b1 j hj
              have LI := Hid.mk' (hBr.live i hlt)
              have LJ := Hid.mk' (hBr.live j hj)
              clear hBr
              by_cases hky : ky bs i = ky bs j
              · have hcu := HGD.out.apart i j hij (by rw [HM.out]; exact hj) hky
                have heq : ∀ q, (binOp .eql 35 (.pointer (some ⟨ky bs i, 0, none⟩)) (.pointer (some ⟨ky bs j, 0, none⟩))).run Try.prog (wr.drewN q) = .ok (.bool true) (wr.drewN q) := fun q => by
                  rw [eql_keys _ _ _ (LI.out.drewN q) (LJ.out.drewN q), hky]
                  simp
                have heq0 := heq 0
                have HKY := Hid.mk' hky
                clear hky
                go_wp2_with fail
                go_quiet (fail)
                go_wp2
                go_roundg (gk - 1)
                case measure => have := hA2.out; omega
                case rel => exact ⟨j + 1, by have := hA2.out; show _ = _; omega, by omega, by omega, by go_num, below_drewN hbl2 _⟩
              · have heq : ∀ q, (binOp .eql 35 (.pointer (some ⟨ky bs i, 0, none⟩)) (.pointer (some ⟨ky bs j, 0, none⟩))).run Try.prog (wr.drewN q) = .ok (.bool false) (wr.drewN q) := fun q => by
                  rw [eql_keys _ _ _ (LI.out.drewN q) (LJ.out.drewN q)]
                  simp [hky]
                have heq0 := heq 0
                have HKY := Hid.mk' hky
                clear hky
                go_wp2_with fail
                go_quiet (fail)
                go_wp2
                go_roundg (gk - 1)
                case measure => have := hA2.out; omega
                case rel => exact ⟨j + 1, by have := hA2.out; show _ = _; omega, by omega, by omega, by go_num, below_drewN hbl2 _⟩
            · go_wp2
              go_roundg (m - (i + 1))
              case measure => have := hA.out; omega
              case rel => exact ⟨i + 1, by show _ = _; omega, by omega, by go_num, hbl2⟩
        · clear hA
          go_wp2
          go_loopg [11, 12, 13, 14, 15] m (fun k dh ch dl cl iv wr => ∃ (i : Nat) (D E : Int), Aside (k + i = m ∧ D = bsum true (bs.take i) ∧ E = bsum false (bs.take i)) ∧ i ≤ m ∧ dh = .int .i64 (hiOf D) ∧ ch = .int .i64 (hiOf E) ∧ dl = .int .u64 (loOf D) ∧ cl = .int .u64 (loOf E) ∧ iv = .int .i64 i ∧ Below w7.heap.size w7 wr)
          case atStart => exact ⟨0, 0, 0, ⟨Nat.add_zero _, by simp [bsum], by simp [bsum]⟩, Nat.zero_le _, by simp [hiOf], by simp [hiOf], by simp [loOf], by simp [loOf], rfl, hbl⟩
          case round =>
            obtain ⟨i, D, E, hA, hi, rfl, rfl, rfl, rfl, rfl, hbl⟩ := hrel
            by_cases hlt : i < m
            · have hlt' : (i : Int) < (m : Int) := by omega
              obtain ⟨g, rfl, hg7, hBs⟩ := HG7.out (by omega)
              have hBr := hBs.below hbl hg7 (fun j hj => (hBs.live j hj).lt)
              have k3 := hBr.b3 i hlt
              have k4 := hBr.b4 i hlt
              have k5 := hBr.b5 i hlt
              have k6 := hBr.b6 i hlt
              have hil : i < bs.length := by rw [HM.out]; exact hlt
              have HSD := Hid.mk' (step_true hil)
              have HSE := Hid.mk' (step_false hil)
              have H14 : Hid (∀ w, Calls Try.prog 14 #[.int .i64 (hiOf D), .int .u64 (loOf D), .int .i64 (hiOf (de bs i)), .int .u64 (loOf (de bs i))] w fun e w' => e = .returned (.tuple #[.int .i64 (hiOf (D + de bs i)), .int .u64 (loOf (D + de bs i))]) ∧ w' = w) := fun w => by
                have h1 := HGD.out.bdD i hil
                have h2 := HGD.out.bdS true i (by omega) (by omega)
                rw [← hA.out.2.1] at h2
                exact add128_any D (de bs i) w (by omega) (by omega) (by omega) (by omega)
              have H14' : Hid (∀ w, Calls Try.prog 14 #[.int .i64 (hiOf E), .int .u64 (loOf E), .int .i64 (hiOf (cr bs i)), .int .u64 (loOf (cr bs i))] w fun e w' => e = .returned (.tuple #[.int .i64 (hiOf (E + cr bs i)), .int .u64 (loOf (E + cr bs i))]) ∧ w' = w) := fun w => by
                have h1 := HGD.out.bdE i hil
                have h2 := HGD.out.bdS false i (by omega) (by omega)
                rw [← hA.out.2.2] at h2
                exact add128_any E (cr bs i) w (by omega) (by omega) (by omega) (by omega)
              clear hBs hBr hil
              go_wp2_with fail
              go_quiet (first | (go_at_call 14; refine Calls.quiet_of_same (H14.out _)))
              go_wp2_with fail
              go_quiet (first | (go_at_call 14; exact (H14'.out _).mono (fun _ _ h => ⟨h.1, _, h.2⟩)))
              go_wp2
              go_roundg (gk - 1)
              case measure => have := hA.out.1; omega
              case rel => exact ⟨i + 1, D + de bs i, E + cr bs i, ⟨by have := hA.out.1; omega, by rw [hA.out.2.1]; exact HSD.out, by rw [hA.out.2.2]; exact HSE.out⟩, by omega, rfl, rfl, rfl, rfl, by go_num, below_drewN hbl _⟩
            · have hD : D = tsum T true n := by
                have him : i = bs.length := by rw [HM.out]; omega
                rw [hA.out.2.1, him, List.take_length]
                exact HGD.out.sumD
              have hE : E = tsum T false n := by
                have him : i = bs.length := by rw [HM.out]; omega
                rw [hA.out.2.2, him, List.take_length]
                exact HGD.out.sumE
              clear hA
              subst hD hE
              have hbx := HB7.out.trans (hbl.mono HB7.out.size)
              have hpx := HP3.out.below hbx hb03
              have hbr : b < wr.heap.size := Nat.lt_of_lt_of_le hb03 hbx.size
              go_wp2_with fail
              refine (tot_row b o n c true T wr hn hbr hpx).mono ?_
              rintro e w8 ⟨rfl, hb8⟩
              have hpx8 := hpx.below hb8 hbr
              have hbr8 : b < w8.heap.size := Nat.lt_of_lt_of_le hbr hb8.size
              go_wp2_with fail
              refine (tot_row b o n c false T w8 hn hbr8 hpx8).mono ?_
              rintro e w9 ⟨rfl, hb9⟩
              have hbF := HBW.out.trans ((hbx.trans ((hb8.mono hbx.size).trans (hb9.mono (Nat.le_trans hbx.size hb8.size)))).mono HBW.out.size)
              clear hpx hpx8
              go_wp2
              go_ret
              exact ⟨ret_bool (by simp), hbF⟩

end Go.Proofs.Qxb6609262a.Cent
