import Derived.Test.Qxb6609262aZz
namespace Go.Proofs.Qxb6609262a.Exact
open Go.RowKit Go.Proofs.Qxb6609262a.Sum Go.Proofs.Qxb6609262a.Bal Go.Proofs.Qxb6609262a.In Go.Proofs.Qxb6609262a.Grp Go.Proofs.Qxb6609262a.Gsum Go.Proofs.Qxb6609262a.Keys Go.Proofs.Qxb6609262a.Plain Go.Proofs.Qxb6609262a.Idx Go.Proofs.Qxb6609262a.Own Go.Proofs.Qxb6609262a.Vou Go.Proofs.Qxb6609262a.Tb Go.Proofs.Qxb6609262a.Zz

/-- '!=' of a pointer to a key and itself. -/
theorem neq_key (g : Nat) (w : World) : (binOp .neq 35 (.pointer (some ⟨g, 0, none⟩)) (.pointer (some ⟨g, 0, none⟩))).run Try.prog w = .ok (.bool false) w := by
  obtain ⟨i, hi⟩ : ∃ i, Try.prog.info? 47 = some i := by
    have := info47
    cases e : Try.prog.info? 47 with
    | none => rw [e] at this; cases this
    | some i => exact ⟨i, rfl⟩
  have h : ∀ d : Nat, (Op.equalIn (d + 1) 35 (.pointer (some ⟨g, 0, none⟩)) (.pointer (some ⟨g, 0, none⟩))).run Try.prog w = .ok true w := fun d => by
    simp [Op.equalIn, run_underlying Try.underlying35, sizeOf, typeInfo, hi, run_sameAddr_same]
  simp only [binOp]
  simp [Op.equal, Op.maxDepth, h 9999]

theorem firsts_no {T : Nat → TP} {K : Nat → Option Nat} {i : Nat} (h : new T K i = false) : firsts T K (i + 1) = firsts T K i := by
  rw [firsts, h]; rfl
theorem firsts_yes {T : Nat → TP} {K : Nat → Option Nat} {i : Nat} (h : new T K i = true) : (firsts T K (i + 1)).length = (firsts T K i).length + 1 := by
  rw [firsts, h]; simp
theorem firsts_le (T : Nat → TP) (K : Nat → Option Nat) : ∀ i, (firsts T K i).length ≤ i
  | 0 => Nat.le_refl _
  | i + 1 => by
    have ih := firsts_le T K i
    cases h : new T K i
    · rw [firsts_no h]; omega
    · rw [firsts_yes h]; omega

theorem got_open {w : World} {base : Nat} {v : Value} {bs : List TB} (h : Got w base v bs) : ∃ ad, v = .slice ad bs.length bs.length ∧ (0 < bs.length → ∃ g, ad = some ⟨g, 0, none⟩ ∧ g < w.heap.size ∧ Bs w g bs.length (ky bs) (cu bs) (li bs) (de bs) (cr bs)) := by
  rcases h with ⟨h0, rfl⟩ | ⟨g, rfl, _, h2, h3⟩
  · exact ⟨none, by rw [h0], fun h => absurd h (by omega)⟩
  · exact ⟨_, rfl, fun _ => ⟨g, rfl, h2, h3⟩⟩

theorem cells7 {w : World} {b : Nat} {x0 x1 x2 x3 x4 x5 x6 : Value} (h : w.heap[b]? = some (.cells #[x0, x1, x2, x3, x4, x5, x6] 38 (0, 0))) :
    w.cell? ⟨b, 3, none⟩ = some x3 ∧ w.cell? ⟨b, 4, none⟩ = some x4 ∧ w.cell? ⟨b, 5, none⟩ = some x5 ∧ w.cell? ⟨b, 6, none⟩ = some x6 := by
  simp [World.cell?, h]

set_option maxRecDepth 10000 in
set_option maxHeartbeats 4000000 in
theorem walk_row (b o n c : Nat) (T : Nat → TP) (w : World) (hn0 : 0 < n) (hnm : n ≤ maxLen) (hp : Ps w b o n T) :
    Calls Try.prog 3 #[.slice (some ⟨b, o, none⟩) n c] w fun e w' => e = .returned (.bool true) ∧ Below w.heap.size w w' := by
  have hb0 : b < w.heap.size := hp.lt hn0
  have hfit := hp.fit
  go_enter Try.func3, Try.ntmps3
  go_wp2_with fail
  refine (bytes5_row b o n c T w hnm hp).mono ?_
  rintro e w0 ⟨⟨ok, rfl⟩, rfl⟩
  cases ok
  · go_wp2
    go_ret
    exact ⟨rfl, Below.refl _ _⟩
  by_cases h12 : (4096 : Int) < (n : Int)
  · go_wp2
    go_ret
    exact ⟨rfl, Below.refl _ _⟩
  have hn : n ≤ 4096 := by omega
  have h12' : (n : Int) ≤ 4096 := by omega
  clear h12
  go_wp2_with fail
  refine (count_row b o n c T w hn hp).mono ?_
  rintro e w0 ⟨⟨z, rfl⟩, rfl⟩
  by_cases hz : (1048576 : Int) < z
  · go_wp2
    go_ret
    exact ⟨rfl, Below.refl _ _⟩
  have hz' : z ≤ 1048576 := by omega
  clear hz
  go_wp2_with fail
  refine (keys_row b o n c T w hn hb0 hp).mono ?_
  rintro e w1 ⟨kb, K, rfl, hkr, hko, hal, hkb, hb1⟩
  go_wp2_with fail
  have hp1 := hp.below hb1 hb0
  refine (vou_row b o n c kb T K w1 hn (Nat.lt_of_lt_of_le hb0 hb1.size) hp1 hkr).mono ?_
  rintro e w2 ⟨gv, gp, rfl, hgv, hgr, hgp, hgv1, hne, hb2⟩
  have hal2 : Alive K n w2 := fun j hj g hg => (hal j hj g hg).below hb2 (hal j hj g hg).lt
  go_wp2_with fail
  refine (zz_any gv gp n T K w2 hn hfit hgv hgr hal2).mono ?_
  rintro e w3 ⟨v, rfl, hgot, hb3⟩
  obtain ⟨ad, rfl, hgo⟩ := got_open hgot
  have hkbl : kb < w1.heap.size := hkr.lt
  have hbw3 : Below w.heap.size w w3 := hb1.trans ((hb2.mono hb1.size).trans (hb3.mono (Nat.le_trans hb1.size hb2.size)))
  have hp3 := hp.below hbw3 hb0
  have hk3 : ∀ i, i < n → w3.cell? ⟨kb, i, none⟩ = some (ptr (K i)) := fun i hi => by
    have h1 := hkr.cell hi
    rw [show krow K n i = ptr (K i) from by unfold krow; rw [if_pos hi]] at h1
    exact (hb3.cell (p := ⟨kb, i, none⟩) (Nat.lt_of_lt_of_le hkbl hb2.size)).trans ((hb2.cell (p := ⟨kb, i, none⟩) hkbl).trans h1)
  have hkb3 : kb < w3.heap.size := Nat.lt_of_lt_of_le hkbl (Nat.le_trans hb2.size hb3.size)
  have hb03 : b < w3.heap.size := Nat.lt_of_lt_of_le hb0 hbw3.size
  obtain ⟨m, hm⟩ : ∃ m, (run T K n).length = m := ⟨_, rfl⟩
  have hmn := len_run T K n
  rw [hm] at hmn hgo ⊢
  have HM := Hid.mk' hm
  have HG := Hid.mk' hgo
  have HBW := Hid.mk' hbw3
  have HKO := Hid.mk' hko
  have HK3 := Hid.mk' hk3
  have HP3 := Hid.mk' hp3
  have hm4 : (m : Int) ≤ 4096 := by omega
  clear hm hgot hgo hbw3 hko hk3 hp3 hkr hal hal2 hgv hgr hb1 hb2 hb3 hp1 hkb hgp hgv1 hne hp hfit hmn
  go_wp2
  go_loopg [5, 6] n (fun k kv iv wr => ∃ (i q : Nat), Aside (k + i = n ∧ q = (firsts T K i).length) ∧ i ≤ n ∧ q ≤ i ∧ kv = .int .i64 q ∧ iv = .int .i64 i ∧ Below w3.heap.size w3 wr)
  case atStart => exact ⟨0, 0, ⟨Nat.add_zero _, rfl⟩, Nat.zero_le _, Nat.le_refl _, rfl, rfl, Below.refl _ _⟩
  case round =>
    obtain ⟨i, q, hA, hi, hqi, rfl, rfl, hbl⟩ := hrel
    have hpr := HP3.out.below hbl hb03
    by_cases hlt : i < n
    · have hlt' : (i : Int) < (n : Int) := by omega
      obtain ⟨s0, s1, s2, s3, s4, s5, _⟩ := twelve hpr hlt hlt
      cases hc : cnt (T i)
      · have HC := Hid.mk' hc
        clear hc
        go_wp2_with fail
        refine (counted_any _ _ _ _ _ _ _).mono ?_
        rintro e w4 ⟨rfl, hb4⟩
        have hbn := hbl.trans (hb4.mono hbl.size)
        rw [show cnt ⟨(T i).line, (T i).cur, (T i).deb, (T i).cre, (T i).tax, (T i).key⟩ = false from HC.out]
        go_wp2
        go_roundg (gk - 1)
        case measure => have := hA.out.1; omega
        case rel => exact ⟨i + 1, q, ⟨by have := hA.out.1; omega, by rw [firsts_no (by cases hx : new T K i; rfl; rw [((new_same HKO.out hlt).1 hx).1] at HC; exact absurd HC.out (by decide))]; exact hA.out.2⟩, by omega, by omega, rfl, by go_num, hbn⟩
      · have HC := Hid.mk' hc
        clear hc
        go_wp2_with fail
        refine (counted_any _ _ _ _ _ _ _).mono ?_
        rintro e w4 ⟨rfl, hb4⟩
        have hbn := hbl.trans (hb4.mono hbl.size)
        rw [show cnt ⟨(T i).line, (T i).cur, (T i).deb, (T i).cre, (T i).tax, (T i).key⟩ = true from HC.out]
        have hi' : (i : Int) ≤ 4096 := by omega
        go_wp2
        go_loopg [7, 8] i (fun k fv jv w5 => ∃ j : Nat, Aside (k + j = i ∧ ∀ j', j' < j → same (T j') (T i) = false) ∧ j ≤ i ∧ fv = .bool true ∧ jv = .int .i64 j ∧ Below w3.heap.size w3 w5)
        case atStart => exact ⟨0, ⟨Nat.add_zero _, fun j h => absurd h (Nat.not_lt_zero _)⟩, Nat.zero_le _, rfl, rfl, hbn⟩
        case round =>
          obtain ⟨j, hA2, hji, rfl, rfl, hbl5⟩ := hrel
          have hp5 := HP3.out.below hbl5 hb03
          by_cases hj : j < i
          · have S0 := twelve hp5 (Nat.lt_trans hj hlt) hlt
            have hj1 : (j : Int) < (i : Int) := by omega
            have hjn : (j : Int) < (n : Int) := by omega
            cases hsm : same (T j) (T i)
            · have HS := Hid.mk' hsm
              clear hsm
              go_wp2_with fail
              go_region_held3 (fun w' => w'.cell? ⟨b, o + j * 6, none⟩ = some (.int .i64 (T j).line) ∧ w'.cell? ⟨b, o + j * 6 + 1, none⟩ = some (.string (T j).cur) ∧ w'.cell? ⟨b, o + j * 6 + 2, none⟩ = some (.int .i64 (T j).deb) ∧ w'.cell? ⟨b, o + j * 6 + 3, none⟩ = some (.int .i64 (T j).cre) ∧ w'.cell? ⟨b, o + j * 6 + 4, none⟩ = some (.bool (T j).tax) ∧ w'.cell? ⟨b, o + j * 6 + 5, none⟩ = some (.int .i64 (T j).key) ∧ w'.cell? ⟨b, o + i * 6, none⟩ = some (.int .i64 (T i).line) ∧ w'.cell? ⟨b, o + i * 6 + 1, none⟩ = some (.string (T i).cur) ∧ w'.cell? ⟨b, o + i * 6 + 2, none⟩ = some (.int .i64 (T i).deb) ∧ w'.cell? ⟨b, o + i * 6 + 3, none⟩ = some (.int .i64 (T i).cre) ∧ w'.cell? ⟨b, o + i * 6 + 4, none⟩ = some (.bool (T i).tax) ∧ w'.cell? ⟨b, o + i * 6 + 5, none⟩ = some (.int .i64 (T i).key))
                (first | exact S0 | exact twelve hps (Nat.lt_trans hj hlt) hlt)
                (first | (go_at_call 11; refine (same_tp (T j) (T i) _).mono ?_; rintro e w6 ⟨rfl, hb6⟩; rw [HS.out]; have hbn6 := hbl5.drew.trans (hb6.mono hbl5.size); have hps := HP3.out.below hbn6 hb03))
              go_wp2
              go_roundg (gk - 1)
              case measure => have := hA2.out.1; omega
              case rel => exact ⟨j + 1, ⟨by have := hA2.out.1; omega, fun j' hj' => by
                by_cases e : j' = j
                · rw [e]; exact HS.out
                · exact hA2.out.2 j' (by omega)⟩, by omega, rfl, by go_num, hbn6⟩
            · have HS := Hid.mk' hsm
              clear hsm
              go_wp2_with fail
              go_region_held3 (fun w' => w'.cell? ⟨b, o + j * 6, none⟩ = some (.int .i64 (T j).line) ∧ w'.cell? ⟨b, o + j * 6 + 1, none⟩ = some (.string (T j).cur) ∧ w'.cell? ⟨b, o + j * 6 + 2, none⟩ = some (.int .i64 (T j).deb) ∧ w'.cell? ⟨b, o + j * 6 + 3, none⟩ = some (.int .i64 (T j).cre) ∧ w'.cell? ⟨b, o + j * 6 + 4, none⟩ = some (.bool (T j).tax) ∧ w'.cell? ⟨b, o + j * 6 + 5, none⟩ = some (.int .i64 (T j).key) ∧ w'.cell? ⟨b, o + i * 6, none⟩ = some (.int .i64 (T i).line) ∧ w'.cell? ⟨b, o + i * 6 + 1, none⟩ = some (.string (T i).cur) ∧ w'.cell? ⟨b, o + i * 6 + 2, none⟩ = some (.int .i64 (T i).deb) ∧ w'.cell? ⟨b, o + i * 6 + 3, none⟩ = some (.int .i64 (T i).cre) ∧ w'.cell? ⟨b, o + i * 6 + 4, none⟩ = some (.bool (T i).tax) ∧ w'.cell? ⟨b, o + i * 6 + 5, none⟩ = some (.int .i64 (T i).key))
                (first | exact S0 | exact twelve hps (Nat.lt_trans hj hlt) hlt)
                (first | (go_at_call 11; refine (same_tp (T j) (T i) _).mono ?_; rintro e w6 ⟨rfl, hb6⟩; rw [HS.out]; have hbn6 := hbl5.drew.trans (hb6.mono hbl5.size); have hps := HP3.out.below hbn6 hb03))
              go_wp2
              go_roundg (n - (i + 1))
              case measure => have := hA.out.1; omega
              case rel => exact ⟨i + 1, q, ⟨by omega, by rw [firsts_no (by cases hx : new T K i; rfl; exact absurd (((new_same HKO.out hlt).1 hx).2 j hj) (by rw [HS.out]; decide))]; exact hA.out.2⟩, by omega, by omega, rfl, by go_num, hbn6⟩
          · have hnew : new T K i = true := (new_same HKO.out hlt).2 ⟨HC.out, fun j' hj' => hA2.out.2 j' (by omega)⟩
            have hqm : q < m := by
              have := firsts_lt T K hlt hnew
              rw [HM.out, ← hA.out.2] at this
              exact this
            obtain ⟨g, rfl, hg3, hBs⟩ := HG.out (by omega)
            have hat := run_at T K hlt hnew
            rw [← hA.out.2, entry_sum HKO.out hlt hnew] at hat
            obtain ⟨gx, hgx⟩ : ∃ gx, K i = some gx := by
              have := ((new_iff T K i).1 hnew).1
              unfold cn at this
              simp only [Bool.and_eq_true] at this
              exact Option.isSome_iff_exists.1 this.2
            rw [hgx] at hat
            have hB5 := hBs.below hbl5 hg3 (fun j hj => (hBs.live j hj).lt)
            have c0 := hB5.b0 q hqm
            have c1 := hB5.b1 q hqm
            have c2 := hB5.b2 q hqm
            have c3 := hB5.b3 q hqm
            have c4 := hB5.b4 q hqm
            have c5 := hB5.b5 q hqm
            have c6 := hB5.b6 q hqm
            rw [show ky (run T K n) q = gx from by unfold ky; rw [hat]; rfl] at c0
            rw [show cu (run T K n) q = (T i).cur from by unfold cu; rw [hat]; rfl] at c1
            rw [show li (run T K n) q = (T i).line from by unfold li; rw [hat]; rfl] at c2
            rw [show de (run T K n) q = sumZ T (T i) true i (n - i) from by unfold de; rw [hat]; rfl] at c3 c4
            rw [show cr (run T K n) q = sumZ T (T i) false i (n - i) from by unfold cr; rw [hat]; rfl] at c5 c6
            have hkc := (hbl5.cell (p := ⟨kb, i, none⟩) hkb3).trans (HK3.out i hlt)
            rw [show ptr (K i) = .pointer (some ⟨gx, 0, none⟩) from by rw [hgx]; rfl] at hkc
            have hnk := neq_key gx
            have hq0 : (0 : Int) ≤ (q : Int) := by omega
            have hq1 : (q : Int) < (m : Int) := by omega
            obtain ⟨r0, r1, _⟩ := twelve hp5 hlt hlt
            have HN := Hid.mk' hnew
            have hji2 : (i : Int) ≤ (j : Int) := by omega
            clear hat hgx hBs hB5 hnew
            have hcu2 : ((T i).cur.toList != (T i).cur.toList) = false := by simp
            have hbr : b < wr.heap.size := Nat.lt_of_lt_of_le hb03 hbl5.size
            have hkr5 : kb < wr.heap.size := Nat.lt_of_lt_of_le hkb3 hbl5.size
            have hli : ((T i).line != (T i).line) = false := by simp
            go_wp2_with fail
            go_quiet (fail)
            go_wp2_with fail
            have hbA := below_drewN (hbl5.alloc hbl5.size (.cells #[.pointer (some ⟨gx, 0, none⟩), .string (T i).cur, .int .i64 (T i).line, .int .i64 (hiOf (sumZ T (T i) true i (n - i))), .int .u64 (loOf (sumZ T (T i) true i (n - i))), .int .i64 (hiOf (sumZ T (T i) false i (n - i))), .int .u64 (loOf (sumZ T (T i) false i (n - i)))] 38)) nq
            refine (gsum_any b o n c i true T _ hn hlt (HP3.out.below hbA hb03)).mono ?_
            rintro e w7 ⟨rfl, hb7⟩
            have hblk7 : w7.heap[wr.heap.size]? = some (.cells #[.pointer (some ⟨gx, 0, none⟩), .string (T i).cur, .int .i64 (T i).line, .int .i64 (hiOf (sumZ T (T i) true i (n - i))), .int .u64 (loOf (sumZ T (T i) true i (n - i))), .int .i64 (hiOf (sumZ T (T i) false i (n - i))), .int .u64 (loOf (sumZ T (T i) false i (n - i)))] 38 (0, 0)) := (hb7.block wr.heap.size (by show wr.heap.size < (wr.alloc _).heap.size; simp)).trans (Go.Deep.blk_alloc_new _ _)
            have hbw7 := hbA.trans (hb7.mono hbA.size)
            have hs7 : wr.heap.size < w7.heap.size := (Array.getElem?_eq_some_iff.1 hblk7).1
            go_wp2_with fail
            refine (gsum_any b o n c i false T w7 hn hlt (HP3.out.below hbw7 hb03)).mono ?_
            rintro e w8 ⟨rfl, hb8⟩
            have hblk8 := (hb8.block wr.heap.size hs7).trans hblk7
            have hbw8 := hbw7.trans (hb8.mono hbw7.size)
            obtain ⟨f3, f4, f5, f6⟩ := cells7 hblk8
            clear hblk7 hblk8 hb7 hb8 hbA hbw7 c0 c1 c2 c3 c4 c5 c6
            go_wp2
            go_roundg (n - (i + 1))
            case measure => have := hA.out.1; omega
            case rel => exact ⟨i + 1, q + 1, ⟨by omega, by rw [firsts_yes HN.out, hA.out.2]⟩, by omega, by omega, by go_num, by go_num, hbw8⟩
    · have hqm : (q : Int) = (m : Int) := by
        have : i = n := by omega
        have h1 := hA.out.2
        rw [this, ← run_len, HM.out] at h1
        omega
      have hqe : ((q : Int) == (m : Int)) = true := by rw [hqm]; simp
      clear hqm
      go_wp2
      go_ret
      exact ⟨ret_bool (by simp), HBW.out.trans (hbl.mono HBW.out.size)⟩

end Go.Proofs.Qxb6609262a.Exact
