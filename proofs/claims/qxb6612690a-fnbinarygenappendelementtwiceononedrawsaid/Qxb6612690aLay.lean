import Derived.Test.Qxb6612690aCall
namespace Go.Proofs.Qxb6612690a.Lay
open Go.RowKit Go.Lib Go.Proofs.Qxb6612690a.App Go.Proofs.Qxb6612690a.Pcg Go.Proofs.Qxb6612690a.Bin Go.Proofs.Qxb6612690a.Mem Go.Proofs.Qxb6612690a.Help Go.Proofs.Qxb6612690a.Read Go.Proofs.Qxb6612690a.Elem Go.Proofs.Qxb6612690a.Gen2 Go.Proofs.Qxb6612690a.Call Go.Proofs.Qxb6612690a.New

theorem Rd.below {w w' : World} {a : Option Addr} {bs : List UInt8} (h : Rd w a bs) (hb : Below w.heap.size w w') : Rd w' a bs :=
  ⟨fun hne => by
    obtain ⟨b, o, ha, hc⟩ := h.bytes hne
    exact ⟨b, o, ha, fun j u hj => (hb.cell (p := ⟨b, o + j, none⟩) (World.block_lt_of_cell? w _ (hc j u hj))).trans (hc j u hj)⟩⟩

theorem Rd.drewN {w : World} {a : Option Addr} {bs : List UInt8} (h : Rd w a bs) (q : Nat) : Rd (w.drewN q) a bs := ⟨h.bytes⟩

theorem Own.all {w : World} {B n c : Nat} {a : Option Addr} {bs : List UInt8} (h : Own w B (.slice a n c) bs) : Rd w a bs := by
  have := Own.rd h bs.length
  rwa [List.take_length] at this

theorem Own.pre {w : World} {B n c : Nat} {a : Option Addr} {xs bs : List UInt8} (h : Own w B (.slice a n c) (xs ++ bs)) : Rd w a xs := by
  have := Own.rd h xs.length
  rwa [List.take_left] at this

theorem Own.drewN {w : World} {B : Nat} {v : Value} {bs : List UInt8} (h : Own w B v bs) (q : Nat) : Own (w.drewN q) B v bs := h

theorem Own.below {w w' : World} {B : Nat} {v : Value} {bs : List UInt8} (h : Own w B v bs) (hb : Below w.heap.size w w') : Own w' B v bs := Own.fr h (S := fun _ => False) (Fr.of_below hb) (fun _ _ f => f)

set_option maxHeartbeats 1000000 in
theorem bytes19 (lo hi s1 s2 : Int) (a2 a6 : Option Addr) (n2 c2 n6 c6 : Nat) (key : ByteArray) (w : World) (h2 : n2 ≤ maxLen) (hk : key.size ≤ maxLen) (h6 : n6 ≤ maxLen) :
    Calls Try.prog 19 #[.int .i64 lo, .int .i64 hi, .slice a2 n2 c2, .string key, .int .u64 s1, .int .u64 s2, .slice a6 n6 c6] w fun e w' => e = .returned (.bool (decide (n2 + key.size + n6 ≤ 1048576))) ∧ w = w' := by
  unfold maxLen at h2 hk h6
  by_cases h : n2 + key.size + n6 ≤ 1048576
  · rw [decide_eq_true h]
    have l2 : n2 ≤ 1048576 := by omega
    have lk : key.size ≤ 1048576 := by omega
    have l6 : n6 ≤ 1048576 := by omega
    go_enter Try.func19, Try.ntmps19
    go_wp2
    go_ret
    exact ⟨rfl, rfl⟩
  · rw [decide_eq_false h]
    go_enter Try.func19, Try.ntmps19
    go_wp2
    all_goals
      go_ret
      exact ⟨rfl, rfl⟩

theorem elem_tail {w : World} {B g n c k N : Nat} {bs key bytes : List UInt8} (h : Own w B (.slice (some ⟨g, 0, none⟩) n c) (bs ++ elemB key bytes)) (hk : k = bs.length + key.length + 7) (hN : bytes.length = N) (hn : k + N = n) (hc : n ≤ c) : Rd w (tailAt g k c) bytes := by
  have e : bs ++ elemB key bytes = (bs ++ ([5] ++ key ++ [0] ++ Lib.leBytes 4 bytes.length ++ [0])) ++ bytes := by unfold elemB; simp
  rw [e] at h
  exact Own.tail h (by simp [Lib.leBytes_length]; omega) hN hn hc

/-- The memory ahead of the first element: three clones and a draw, each apart from the others. -/
theorem prep {w w1 w2 w3 w4 : World} {v1 v2 v3 bv : Value} {D Bf : List UInt8} {gd gr : Nat} {s : Nat × Nat} (o1 : Own w1 w.heap.size v1 D) (b1 : Below w.heap.size w w1) (o2 : Own w2 w1.heap.size v2 Bf) (b2 : Below w1.heap.size w1 w2)
    (o3 : Own w3 w2.heap.size v3 D) (b3 : Below w2.heap.size w2 w3) (egd : gd = w3.heap.size) (egr : gr = w3.heap.size + 1) (_hd : Dr w4 gd gr s bv) (b4 : Below w3.heap.size w3 w4) :
    Own w4 w.heap.size v1 D ∧ Own w4 w.heap.size v2 Bf ∧ Own w4 w.heap.size v3 D ∧ w.heap.size ≤ w4.heap.size ∧ (∀ g, v1.ownBlock = some g → g ≠ gd ∧ g ≠ gr ∧ v2.ownBlock ≠ some g) ∧ Far gd gr v2.ownBlock ∧ Below w.heap.size w w4 ∧
      (∀ k, v3.ownBlock = some k → ¬ (k = gd ∨ v1.ownBlock = some k ∨ v2.ownBlock = some k)) ∧ w.heap.size ≤ gd := by
  have s1 := b1.size
  have s2 := b2.size
  have s3 := b3.size
  have s4 := b4.size
  have b34 : Below w2.heap.size w2 w4 := b3.trans (b4.mono s3)
  have b24 : Below w1.heap.size w1 w4 := b2.trans (b34.mono s2)
  refine ⟨Own.below o1 b24, Own.base (Own.below o2 b34) s1, Own.base (Own.below o3 b4) (by omega), by omega, ?_, ?_, b1.trans (b24.mono s1), ?_, by omega⟩
  · intro g hg
    have h := Own.lt o1 hg
    refine ⟨by omega, by omega, fun e => ?_⟩
    have := Own.lt o2 e
    omega
  · intro g hg
    have h := Own.lt o2 hg
    omega
  · intro k hk hs
    have h := Own.lt o3 hk
    rcases hs with e | e | e
    · omega
    · have := Own.lt o1 e; omega
    · have := Own.lt o2 e; omega

set_option maxHeartbeats 2000000 in
set_option maxRecDepth 10000 in
theorem lay_good (lo hi s1 s2 : Nat) (a2 a6 : Option Addr) (n2 c2 n6 c6 : Nat) (D Bf : List UInt8) (key : ByteArray) (w : World) (h1 : lo ≤ hi) (h2 : hi ≤ 65536) (hD : D.length = n2) (hBf : Bf.length = n6) (rD : Rd w a2 D) (rB : Rd w a6 Bf)
    (hs : n2 + key.size + n6 ≤ 1048576) (hs1 : s1 < 18446744073709551616) (hs2 : s2 < 18446744073709551616) :
    Calls Try.prog 7 #[.int .i64 lo, .int .i64 hi, .slice a2 n2 c2, .string key, .int .u64 s1, .int .u64 s2, .slice a6 n6 c6] w fun e w' => e = .returned (.bool true) ∧ Below w.heap.size w w' := by
  have HD : Hid (D.length = n2) := hD
  have HB : Hid (Bf.length = n6) := hBf
  clear hD hBf
  go_enter Try.func7, Try.ntmps7
  go_wp2_with fail
  refine (bytes19 lo hi s1 s2 a2 a6 n2 c2 n6 c6 key w (by unfold maxLen; omega) (by unfold maxLen; omega) (by unfold maxLen; omega)).mono ?_
  rintro e w0 ⟨rfl, rfl⟩
  rw [decide_eq_true hs]
  go_wp2_with fail
  refine (clone_any a2 n2 c2 D w HD.out (by omega) rD).mono ?_
  rintro e w1 ⟨d1, k1, rfl, o1, b1⟩
  go_wp2_with fail
  refine (clone_any a6 n6 c6 Bf w1 HB.out (by omega) (Rd.below rB b1)).mono ?_
  rintro e w2 ⟨d2, k2, rfl, o2, b2⟩
  go_wp2_with fail
  refine (clone_any d1 n2 k1 D w2 HD.out (by omega) (Own.all (Own.below o1 b2))).mono ?_
  rintro e w3 ⟨d3, k3, rfl, o3, b3⟩
  go_wp2_with fail
  refine (new_any s1 s2 d2 n6 k2 w3 hs1 hs2).mono ?_
  rintro e w4 ⟨gd, gr, rfl, egd, egr, hdr, b4⟩
  obtain ⟨p1, p2, p3, p4, p5, p6, p7, p8, p9⟩ := prep o1 b1 o2 b2 o3 b3 egd egr hdr b4
  clear egd egr o1 b1 o2 b2 o3 b3 b4 rD rB
  go_wp2_with fail
  refine (elem_call lo hi w.heap.size (.slice d2 n6 k2) Bf key (.slice d1 n2 k1) D gd gr (s1, s2) w4 p1 hdr p2 p4 p5 p6 h1 h2 (by have := HD.out; omega)).mono ?_
  rintro e w5 ⟨N, m, g, cap, L, ab, cb, bytes, full, s', rfl, f1, f2, f3, f4, f5, f6, E1⟩
  rw [HD.out] at f5 f6
  have hL := E1.hL
  rw [HD.out] at hL
  have HL : Hid (L = n2 + key.data.toList.length + N + 7) := hL
  clear hL
  have o3 : Own w5 w.heap.size (.slice d3 n2 k3) D := Own.fr p3 E1.fr p8
  have bel5 : Below w.heap.size w w5 := p7.trans (E1.fr.below p4 (fun k hk => by
    rcases hk with e | e | e
    · omega
    · exact (Own.lt p1 e).1
    · exact (Own.lt p2 e).1))
  clear p1 p2 p3 p5 p6 p7 p8 hdr
  go_wp2_with fail
  refine (buf_any gd gr s' _ w5 E1.dr).mono ?_
  rintro e w6 ⟨rfl, rfl⟩
  have hsA := slice_head E1.own n2 (by omega)
  go_wp2_with fail
  refine (equal_same _ d3 n2 cap k3 D w5 HD.out (by omega) (Own.pre E1.own) (Own.all o3)).mono ?_
  rintro e w6 ⟨rfl, q6, rfl⟩
  clear hsA
  go_wp2_with fail
  refine (gen_call g L cap lo hi N n2 D bytes key _ (by rw [HD.out]; exact HL.out) (by omega) E1.len HD.out f1 f2 h2 (B := w.heap.size) (Own.drewN E1.own q6)).mono ?_
  rintro e w7 ⟨rfl, q7, rfl⟩
  have hsT := slice_tail g L cap (n2 + key.size + 7) N (by omega)
  have hsB := slice_head E1.buf N f3
  go_wp2_with fail
  have rT : Rd w5 (tailAt g (n2 + key.size + 7) cap) bytes := elem_tail E1.own (by rw [HD.out, Bin.data_length]) E1.len (by omega) E1.cap.1
  have rA : Rd w5 ab bytes := by have := Own.rd E1.buf N; rw [E1.head] at this; exact this
  refine (equal_same ab _ N cb _ bytes _ E1.len (by omega) (Rd.drewN rA _) (Rd.drewN rT _)).mono ?_
  rintro e w8 ⟨rfl, q8, rfl⟩
  clear hsT hsB
  go_wp2_with fail
  refine (new_any s1 s2 none 0 0 _ hs1 hs2).mono ?_
  rintro e w9 ⟨gd2, gr2, rfl, egd, egr, hdr2, b9⟩
  have t1 : w5.heap.size ≤ gd2 := Nat.le_of_eq egd.symm
  have b9' : Below w5.heap.size w5 w9 := ⟨b9.os, b9.tape, b9.output, b9.size, b9.block⟩
  have t3 := b9'.size
  have t4 : w.heap.size ≤ w5.heap.size := bel5.size
  clear egd egr b9
  go_wp2_with fail
  refine (elem_call lo hi w.heap.size (.slice none 0 0) [] ⟨#[]⟩ (.slice none 0 0) [] gd2 gr2 (s1, s2) w9 (World.ownsRow_nil _ _ _ _) hdr2 (World.ownsRow_nil _ _ _ _) (by omega) (fun g h => by cases h) (fun g h => by cases h) h1 h2 (by decide)).mono ?_
  rintro e w10 ⟨N2, m2, g2, cap2, L2, ab2, cb2, bytes2, full2, s2', rfl, j1, j2, j3, j4, j5, j6, E2⟩
  have HU : Hid (bytes = bytes2) := (Gives.unique E1.gives E2.gives).1
  have eN : N2 = N := by have h := HU.out; have a := E1.len; have b := E2.len; rw [h] at a; omega
  subst eN
  have o10 : Own w10 w.heap.size (.slice (some ⟨g, 0, none⟩) L cap) (D ++ elemB key.data.toList bytes) := Own.fr (Own.below E1.own b9') E2.fr (fun k hk hs => by
    have hk' := (Own.lt E1.own hk).2
    rcases hs with e | e | e
    · omega
    · cases e
    · cases e)
  have bel10 : Below w.heap.size w w10 := (bel5.trans (b9'.mono t4)).trans (E2.fr.below (by omega) (fun k hk => by
    rcases hk with e | e | e
    · omega
    · cases e
    · cases e))
  have rT2 : Rd w10 (tailAt g (n2 + key.size + 7) cap) bytes := elem_tail o10 (by rw [HD.out, Bin.data_length]) E1.len (by omega) E1.cap.1
  have HL2 : Hid (L2 = N2 + 7) := by
    have h := E2.hL
    have z : ((⟨#[]⟩ : ByteArray).data.toList).length = 0 := rfl
    rw [z] at h
    show L2 = N2 + 7
    simp at h
    omega
  have j5' : N2 + 7 ≤ L2 := Nat.le_of_eq HL2.out.symm
  have j6' : L2 ≤ N2 + 7 := Nat.le_of_eq HL2.out
  have rS2 : Rd w10 (tailAt g2 7 cap2) bytes := by rw [HU.out]; exact elem_tail E2.own rfl E2.len (by omega) E2.cap.1
  clear j5 j6 hdr2
  go_wp2_with fail
  refine (gen_call g2 L2 cap2 lo hi N2 0 [] bytes2 ⟨#[]⟩ w10 E2.hL (by omega) E2.len rfl f1 f2 h2 (B := w.heap.size) E2.own).mono ?_
  rintro e w11 ⟨rfl, q11, rfl⟩
  have hsT := slice_tail g2 L2 cap2 7 N2 (by omega)
  go_wp2_with fail
  refine (equal_same (tailAt g2 7 cap2) _ N2 _ _ bytes _ E1.len (by omega) (Rd.drewN rS2 _) (Rd.drewN rT2 _)).mono ?_
  rintro e w12 ⟨rfl, q12, rfl⟩
  clear hsT
  go_wp2
  go_ret
  exact ⟨rfl, below_drewN bel10 _⟩

end Go.Proofs.Qxb6612690a.Lay
