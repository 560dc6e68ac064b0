import Derived.Test.Qxb6612690aLay
namespace Go.Proofs.Qxb6612690a.Twice
open Go.RowKit Go.Lib Go.Proofs.Qxb6612690a.App Go.Proofs.Qxb6612690a.Pcg Go.Proofs.Qxb6612690a.Bin Go.Proofs.Qxb6612690a.Mem Go.Proofs.Qxb6612690a.Help Go.Proofs.Qxb6612690a.Read Go.Proofs.Qxb6612690a.Elem Go.Proofs.Qxb6612690a.Gen2 Go.Proofs.Qxb6612690a.Call Go.Proofs.Qxb6612690a.New Go.Proofs.Qxb6612690a.Lay

set_option maxHeartbeats 1000000 in
theorem bytes26 (lo hi s1 s2 : Int) (a2 a6 : Option Addr) (n2 c2 n6 c6 : Nat) (key1 key2 : ByteArray) (w : World) (h2 : n2 ≤ maxLen) (hk1 : key1.size ≤ maxLen) (hk2 : key2.size ≤ maxLen) (h6 : n6 ≤ maxLen) :
    Calls Try.prog 26 #[.int .i64 lo, .int .i64 hi, .slice a2 n2 c2, .string key1, .string key2, .int .u64 s1, .int .u64 s2, .slice a6 n6 c6] w fun e w' => e = .returned (.bool (decide (n2 + key1.size + key2.size + n6 ≤ 1048576))) ∧ w = w' := by
  unfold maxLen at h2 hk1 hk2 h6
  by_cases h : n2 + key1.size + key2.size + n6 ≤ 1048576
  · rw [decide_eq_true h]
    have l2 : n2 ≤ 1048576 := by omega
    have lk : key1.size ≤ 1048576 := by omega
    have lk2 : key2.size ≤ 1048576 := by omega
    have l6 : n6 ≤ 1048576 := by omega
    go_enter Try.func26, Try.ntmps26
    go_wp2
    go_ret
    exact ⟨rfl, rfl⟩
  · rw [decide_eq_false h]
    go_enter Try.func26, Try.ntmps26
    go_wp2
    all_goals
      go_ret
      exact ⟨rfl, rfl⟩

/-- Between the two elements: the first is owned, apart from the draw and from its buffer. -/
theorem between {lo hi B gd gr N m g cap L cb : Nat} {key bs bytes full : List UInt8} {s s' : Nat × Nat} {sv bv : Value} {w4 w5 : World} {ab : Option Addr} (E : Call.Left lo hi B key bs gd gr s sv.ownBlock bv.ownBlock w4 w5 N m g cap L ab cb bytes full s')
    (n1 : ∀ g, sv.ownBlock = some g → g ≠ gd ∧ g ≠ gr ∧ bv.ownBlock ≠ some g) (n2 : Far gd gr bv.ownBlock) (hgd : gd < w4.heap.size) (hgr : gr < w4.heap.size) :
    (∀ k, (Value.slice (some ⟨g, 0, none⟩) L cap).ownBlock = some k → k ≠ gd ∧ k ≠ gr ∧ (Value.slice ab (8 * m) cb).ownBlock ≠ some k) ∧ Far gd gr (Value.slice ab (8 * m) cb).ownBlock := by
  constructor
  · intro k hk
    have e : g = k := by simpa [Value.ownBlock] using hk
    subst e
    refine ⟨?_, ?_, E.apart⟩
    · rcases E.lies with h | h
      · exact (n1 _ h).1
      · omega
    · rcases E.lies with h | h
      · exact (n1 _ h).2.1
      · omega
  · intro k hk
    rcases E.blies k hk with h | h
    · exact n2 k h
    · omega

set_option maxHeartbeats 2000000 in
set_option maxRecDepth 10000 in
theorem twice_good (lo hi s1 s2 : Nat) (a2 a6 : Option Addr) (n2 c2 n6 c6 : Nat) (D Bf : List UInt8) (key1 key2 : ByteArray) (w : World) (h1 : lo ≤ hi) (h2 : hi ≤ 65536) (hD : D.length = n2) (hBf : Bf.length = n6) (rD : Rd w a2 D) (rB : Rd w a6 Bf)
    (hs : n2 + key1.size + key2.size + n6 ≤ 1048576) (hs1 : s1 < 18446744073709551616) (hs2 : s2 < 18446744073709551616) :
    Calls Try.prog 8 #[.int .i64 lo, .int .i64 hi, .slice a2 n2 c2, .string key1, .string key2, .int .u64 s1, .int .u64 s2, .slice a6 n6 c6] w fun e w' => e = .returned (.bool true) ∧ Below w.heap.size w w' := by
  have HD : Hid (D.length = n2) := hD
  have HB : Hid (Bf.length = n6) := hBf
  clear hD hBf
  go_enter Try.func8, Try.ntmps8
  go_wp2_with fail
  refine (bytes26 lo hi s1 s2 a2 a6 n2 c2 n6 c6 key1 key2 w (by unfold maxLen; omega) (by unfold maxLen; omega) (by unfold maxLen; omega) (by unfold maxLen; omega)).mono ?_
  rintro e w0 ⟨rfl, rfl⟩
  rw [decide_eq_true hs]
  go_wp2_with fail
  refine (clone_any a2 n2 c2 D w HD.out (by omega) rD).mono ?_
  rintro e w1 ⟨d1, k1, rfl, o1, b1⟩
  go_wp2_with fail
  refine (clone_any a6 n6 c6 Bf w1 HB.out (by omega) (Rd.below rB b1)).mono ?_
  rintro e w2 ⟨d2, k2, rfl, o2, b2⟩
  go_wp2_with fail
  refine (clone_any d1 n2 k1 D w2 HD.out (by omega) (Own.all (Own.below o1 b2))).mono ?_
  rintro e w3 ⟨d3, k3, rfl, o3, b3⟩
  go_wp2_with fail
  refine (new_any s1 s2 d2 n6 k2 w3 hs1 hs2).mono ?_
  rintro e w4 ⟨gd, gr, rfl, egd, egr, hdr, b4⟩
  obtain ⟨p1, p2, p3, p4, p5, p6, p7, p8, p9⟩ := prep o1 b1 o2 b2 o3 b3 egd egr hdr b4
  clear egd egr o1 b1 o2 b2 o3 b3 b4 rD rB
  go_wp2_with fail
  refine (elem_call lo hi w.heap.size (.slice d2 n6 k2) Bf key1 (.slice d1 n2 k1) D gd gr (s1, s2) w4 p1 hdr p2 p4 p5 p6 h1 h2 (by have := HD.out; omega)).mono ?_
  rintro e w5 ⟨N, m, g, cap, L, ab, cb, bytes, full, s', rfl, f1, f2, f3, f4, f5, f6, E1⟩
  rw [HD.out] at f5 f6
  have hL := E1.hL
  rw [HD.out] at hL
  have HL : Hid (L = n2 + key1.data.toList.length + N + 7) := hL
  clear hL
  have HLen : Hid ((D ++ elemB key1.data.toList bytes).length = L) := by
    show (D ++ elemB key1.data.toList bytes).length = L
    rw [List.length_append, elemB_length, HD.out, E1.len, HL.out]
    omega
  have o3 : Own w5 w.heap.size (.slice d3 n2 k3) D := Own.fr p3 E1.fr p8
  have bel5 : Below w.heap.size w w5 := p7.trans (E1.fr.below p4 (fun k hk => by
    rcases hk with e | e | e
    · omega
    · exact (Own.lt p1 e).1
    · exact (Own.lt p2 e).1))
  obtain ⟨m1, m2⟩ := between E1 p5 p6 hdr.lt.1 hdr.lt.2
  have hw3 : ∀ k, (Value.slice d3 n2 k3).ownBlock = some k → k ≠ gd ∧ g ≠ k ∧ (Value.slice ab (8 * m) cb).ownBlock ≠ some k := by
    intro k hk
    have hlt := (Own.lt p3 hk).2
    have hn := p8 k hk
    refine ⟨fun e => hn (.inl e), fun e => ?_, fun e => ?_⟩
    · rcases E1.lies with h | h
      · exact hn (.inr (.inl (by rw [← e]; exact h)))
      · omega
    · rcases E1.blies k e with h | h
      · exact hn (.inr (.inr h))
      · omega
  have s5 := bel5.size
  have hgd5 := E1.dr.lt.1
  clear p1 p2 p3 p4 p5 p6 p7 p8 hdr
  go_wp2_with fail
  refine (clone_any (some ⟨g, 0, none⟩) L cap (D ++ elemB key1.data.toList bytes) w5 HLen.out (by omega) (Own.all E1.own)).mono ?_
  rintro e w6 ⟨d4, k4, rfl, o4, b6⟩
  obtain ⟨g4, rfl, hk4, _⟩ : ∃ g4, d4 = some ⟨g4, 0, none⟩ ∧ L ≤ k4 ∧ k4 ≤ maxLen := by
    rcases Own.shape o4 with ⟨_, _, h⟩ | h
    · omega
    · exact h
  have s6 := b6.size
  have e1 : Own w6 w.heap.size (.slice (some ⟨g, 0, none⟩) L cap) (D ++ elemB key1.data.toList bytes) := Own.below E1.own b6
  have e2 : Own w6 w.heap.size (.slice ab (8 * m) cb) full := Own.below E1.buf b6
  have e3 : Dr w6 gd gr s' (.slice ab (8 * m) cb) := E1.dr.fr (S := fun _ => False) (Fr.of_below b6) id id
  have e4 : Own w6 w.heap.size (.slice d3 n2 k3) D := Own.below o3 b6
  have hg4 := Own.lt o4 (g := g4) rfl
  have hg1 := (Own.lt E1.own (g := g) rfl).2
  go_wp2_with fail
  refine (elem_call lo hi w.heap.size (.slice ab (8 * m) cb) full key2 (.slice (some ⟨g, 0, none⟩) L cap) (D ++ elemB key1.data.toList bytes) gd gr s' w6 e1 e3 e2 (by omega) m1 m2 h1 h2 (by rw [HLen.out]; omega)).mono ?_
  rintro e w7 ⟨N2, m2', g2, cap2, L2, ab2, cb2, bytes2, full2, s2', rfl, j1, j2, j3, j4, j5, j6, E2⟩
  rw [HLen.out] at j5 j6
  have hfar4 : ∀ k, (Value.slice (some ⟨g4, 0, none⟩) L k4).ownBlock = some k → ¬ (k = gd ∨ (Value.slice (some ⟨g, 0, none⟩) L cap).ownBlock = some k ∨ (Value.slice ab (8 * m) cb).ownBlock = some k) := by
    intro k hk hs
    have e : g4 = k := by simpa [Value.ownBlock] using hk
    subst e
    rcases hs with e | e | e
    · omega
    · have : g = g4 := by simpa [Value.ownBlock] using e
      omega
    · have := (Own.lt E1.buf e).2
      omega
  have i4 : Own w7 w.heap.size (.slice (some ⟨g4, 0, none⟩) L k4) (D ++ elemB key1.data.toList bytes) := Own.fr (Own.base o4 s5) E2.fr hfar4
  have i3 : Own w7 w.heap.size (.slice d3 n2 k3) D := Own.fr e4 E2.fr (fun k hk hs => by
    have hn := hw3 k hk
    rcases hs with e | e | e
    · exact hn.1 e
    · exact hn.2.1 (by simpa [Value.ownBlock] using e)
    · exact hn.2.2 e)
  have bel7 : Below w.heap.size w w7 := (bel5.trans (b6.mono s5)).trans (E2.fr.below (by omega) (fun k hk => by
    rcases hk with e | e | e
    · omega
    · exact (Own.lt E1.own e).1
    · exact (Own.lt E1.buf e).1))
  clear e1 e2 e3 e4 o4 m1 m2 hw3 hfar4 o3
  go_wp2_with fail
  refine (buf_any gd gr s2' _ w7 E2.dr).mono ?_
  rintro e w8 ⟨rfl, rfl⟩
  have hsA := slice_head i4 n2 (by omega)
  go_wp2_with fail
  refine (equal_same _ d3 n2 k4 k3 D w7 HD.out (by omega) (Own.pre i4) (Own.all i3)).mono ?_
  rintro e w8 ⟨rfl, q8, rfl⟩
  clear hsA
  go_wp2_with fail
  refine (gen_call g4 L k4 lo hi N n2 D bytes key1 _ (by rw [HD.out]; exact HL.out) (by omega) E1.len HD.out f1 f2 h2 (B := w.heap.size) (Own.drewN i4 q8)).mono ?_
  rintro e w9 ⟨rfl, q9, rfl⟩
  have hsA := slice_head E2.own L (by omega)
  go_wp2_with fail
  refine (equal_same _ _ L cap2 k4 (D ++ elemB key1.data.toList bytes) _ HLen.out (by omega) (Rd.drewN (Own.pre E2.own) _) (Rd.drewN (Own.all i4) _)).mono ?_
  rintro e w10 ⟨rfl, q10, rfl⟩
  clear hsA
  have HL2 : Hid (L2 = L + key2.data.toList.length + N2 + 7) := by
    have h := E2.hL
    rw [HLen.out] at h
    exact h
  go_wp2_with fail
  refine (gen_call g2 L2 cap2 lo hi N2 L (D ++ elemB key1.data.toList bytes) bytes2 key2 _ (by rw [HLen.out]; exact HL2.out) (by omega) E2.len HLen.out j1 j2 h2 (B := w.heap.size) (Own.drewN E2.own _)).mono ?_
  rintro e w11 ⟨rfl, q11, rfl⟩
  have rT : Rd w7 (tailAt g2 (L + key2.size + 7) cap2) bytes2 := elem_tail E2.own (by rw [HLen.out, Bin.data_length]) E2.len (by omega) E2.cap.1
  have rA : Rd w7 ab2 bytes2 := by have := Own.rd E2.buf N2; rw [E2.head] at this; exact this
  have hsT := slice_tail g2 L2 cap2 (L + key2.size + 7) N2 (by omega)
  have hsB := slice_head E2.buf N2 j3
  go_wp2_with fail
  have hd1 : decide ((8 : Int) * (m2' : Int) < (N2 : Int)) = false := decide_eq_false (by omega)
  have hd2 : decide ((8 : Int) ≤ 8 * (m2' : Int) - (N2 : Int)) = false := decide_eq_false (by omega)
  have hq : ∀ n, Calls Try.prog 24 #[.slice ab2 N2 cb2, .slice (tailAt g2 (L + key2.size + 7) cap2) N2 (cap2 - (L + key2.size + 7))] (w7.drewN n) fun e w' => e = .returned (.bool true) ∧ ∃ q, w' = (w7.drewN n).drewN q :=
    fun n => equal_same ab2 _ N2 cb2 _ bytes2 _ E2.len (by omega) (Rd.drewN rA _) (Rd.drewN rT _)
  have HQ : Hid (∀ n, Calls Try.prog 24 #[.slice ab2 N2 cb2, .slice (tailAt g2 (L + key2.size + 7) cap2) N2 (cap2 - (L + key2.size + 7))] (w7.drewN n) fun e w' => e = .returned (.bool true) ∧ ∃ q, w' = (w7.drewN n).drewN q) := hq
  clear hq
  go_quiet ((go_at_call 24; exact (HQ.out _).mono (fun e w'' h => by obtain ⟨he, q, hw⟩ := h; exact ⟨he, _, by rw [hw, World.drewN_drewN, Nat.add_assoc]⟩)))
  clear hd1 hd2 hsT hsB HQ rT rA
  go_wp2_with fail
  refine (new_any s1 s2 none 0 0 _ hs1 hs2).mono ?_
  rintro e w12 ⟨gd3, gr3, rfl, egd, egr, hdr3, b12⟩
  have t1 : w7.heap.size ≤ gd3 := Nat.le_of_eq egd.symm
  have t2 : w7.heap.size ≤ gr3 := by rw [egr]; exact Nat.le_succ _
  have b12' : Below w7.heap.size w7 w12 := ⟨b12.os, b12.tape, b12.output, b12.size, b12.block⟩
  have t3 := b12'.size
  have t4 : w.heap.size ≤ w7.heap.size := bel7.size
  have t5 := hdr3.lt
  clear egd egr b12
  go_wp2_with fail
  refine (clone_any d3 n2 k3 D w12 HD.out (by omega) (Own.all (Own.below i3 b12'))).mono ?_
  rintro e w13 ⟨d5, k5, rfl, o5, b13⟩
  have t6 := b13.size
  have dr3 : Dr w13 gd3 gr3 (s1, s2) (.slice none 0 0) := hdr3.fr (S := fun _ => False) (Fr.of_below b13) id id
  go_wp2_with fail
  refine (elem_call lo hi w.heap.size (.slice none 0 0) [] key1 (.slice d5 n2 k5) D gd3 gr3 (s1, s2) w13 (Own.base o5 (by omega)) dr3 (World.ownsRow_nil _ _ _ _) (by omega) (fun g h => by
    have := Own.lt o5 h
    exact ⟨by omega, by omega, fun e => by cases e⟩) (fun g h => by cases h) h1 h2 (by have := HD.out; omega)).mono ?_
  rintro e w14 ⟨N3, m3, g3, cap3, L3, ab3, cb3, bytes3, full3, s3', rfl, y1, y2, y3, y4, y5, y6, E3⟩
  have HU : Hid (bytes = bytes3) := (Gives.unique E1.gives E3.gives).1
  have eN : N3 = N := by have h := HU.out; have a := E1.len; have b := E3.len; rw [h] at a; omega
  subst eN
  have eL : L3 = L := by have a := E1.hL; have b := E3.hL; omega
  subst eL
  have o14 : Own w14 w.heap.size (.slice (some ⟨g4, 0, none⟩) L3 k4) (D ++ elemB key1.data.toList bytes) := Own.fr (Own.below (Own.below i4 b12') b13) E3.fr (fun k hk hs => by
    have hk' := (Own.lt i4 hk).2
    rcases hs with e | e | e
    · omega
    · have := (Own.lt o5 e).1
      omega
    · cases e)
  have bel14 : Below w.heap.size w w14 := ((bel7.trans (b12'.mono t4)).trans (b13.mono (by omega))).trans (E3.fr.below (by omega) (fun k hk => by
    rcases hk with e | e | e
    · omega
    · have := (Own.lt o5 e).1
      omega
    · cases e))
  have r14 : Rd w14 (some ⟨g3, 0, none⟩) (D ++ elemB key1.data.toList bytes) := by
    have := Own.all E3.own
    rw [← HU.out] at this
    exact this
  clear hdr3 dr3 o5 b13 b12'
  go_wp2_with fail
  refine (equal_same (some ⟨g3, 0, none⟩) _ L3 cap3 k4 (D ++ elemB key1.data.toList bytes) w14 HLen.out (by omega) r14 (Own.all o14)).mono ?_
  rintro e w15 ⟨rfl, q15, rfl⟩
  go_wp2
  go_ret
  exact ⟨rfl, below_drewN bel14 _⟩

end Go.Proofs.Qxb6612690a.Twice
