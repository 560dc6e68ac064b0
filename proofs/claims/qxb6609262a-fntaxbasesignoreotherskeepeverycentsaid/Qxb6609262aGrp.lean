import Derived.Test.Qxb6609262aIn
namespace Go.Proofs.Qxb6609262a.Grp
open Go.RowKit Go.Proofs.Qxb6609262a.Sum Go.Proofs.Qxb6609262a.Bal Go.Proofs.Qxb6609262a.In

theorem bcell {W w1 : World} (hb : Below W.heap.size W w1) : (∀ b o, b < W.heap.size → w1.cell? ⟨b, o, none⟩ = W.cell? ⟨b, o, none⟩) ∧ (∀ b o, b < W.heap.size → w1.frozen? ⟨b, o, none⟩ = W.frozen? ⟨b, o, none⟩) :=
  ⟨fun b o h => hb.cell (p := ⟨b, o, none⟩) h, fun b o h => hb.frozen (p := ⟨b, o, none⟩) h⟩

theorem ret_bool {a b : Bool} (h : a = b) : Ending.returned (.bool a) = .returned (.bool b) := by rw [h]

set_option maxHeartbeats 1000000 in
theorem same_any (l d c : Int) (cu : ByteArray) (tx : Bool) (k : Int) (l' d' c' : Int) (cu' : ByteArray) (tx' : Bool) (k' : Int) (w : World) :
    Calls Try.prog 11 #[.agg #[.int .i64 l, .string cu, .int .i64 d, .int .i64 c, .bool tx, .int .i64 k], .agg #[.int .i64 l', .string cu', .int .i64 d', .int .i64 c', .bool tx', .int .i64 k']] w fun e w' =>
      e = .returned (.bool (same ⟨l, cu, d, c, tx, k⟩ ⟨l', cu', d', c', tx', k'⟩)) ∧ Below w.heap.size w w' := by
  cases hp : cnt ⟨l, cu, d, c, tx, k⟩
  · have e : same ⟨l, cu, d, c, tx, k⟩ ⟨l', cu', d', c', tx', k'⟩ = false := by simp [same, hp]
    rw [e]
    have HP : Hid (cnt ⟨l, cu, d, c, tx, k⟩ = false) := hp
    clear hp e
    go_enter Try.func11, Try.ntmps11
    go_wp2_with fail
    refine (counted_any _ _ _ _ _ _ _).mono ?_
    rintro e w1 ⟨rfl, hb⟩
    rw [HP.out]
    obtain ⟨hc, hf⟩ := bcell hb
    go_wp2
    go_ret
    exact ⟨rfl, (((Below.refl _ _).alloc (Nat.le_refl _) _).alloc (by simp) _).trans (hb.mono (by simp; omega))⟩
  · have HP : Hid (cnt ⟨l, cu, d, c, tx, k⟩ = true) := hp
    cases hq : cnt ⟨l', cu', d', c', tx', k'⟩
    · have e : same ⟨l, cu, d, c, tx, k⟩ ⟨l', cu', d', c', tx', k'⟩ = false := by simp [same, hq]
      rw [e]
      have HQ : Hid (cnt ⟨l', cu', d', c', tx', k'⟩ = false) := hq
      clear hp hq e
      go_enter Try.func11, Try.ntmps11
      go_wp2_with fail
      refine (counted_any _ _ _ _ _ _ _).mono ?_
      rintro e w1 ⟨rfl, hb⟩
      rw [HP.out]
      obtain ⟨hc, hf⟩ := bcell hb
      go_wp2_with fail
      refine (counted_any _ _ _ _ _ _ _).mono ?_
      rintro e w2 ⟨rfl, hb2⟩
      rw [HQ.out]
      have hz := hb.size
      go_wp2
      go_ret
      exact ⟨rfl, ((((Below.refl _ _).alloc (Nat.le_refl _) _).alloc (by simp) _).trans (hb.mono (by simp; omega))).trans (hb2.mono (by simp at hz; omega))⟩
    · have e : same ⟨l, cu, d, c, tx, k⟩ ⟨l', cu', d', c', tx', k'⟩ = (k == k' && cu.toList == cu'.toList) := by simp [same, hp, hq]
      rw [e]
      have HQ : Hid (cnt ⟨l', cu', d', c', tx', k'⟩ = true) := hq
      clear hp hq e
      by_cases hk : (k == k') = true
      · go_enter Try.func11, Try.ntmps11
        go_wp2_with fail
        refine (counted_any _ _ _ _ _ _ _).mono ?_
        rintro e w1 ⟨rfl, hb⟩
        rw [HP.out]
        obtain ⟨hc, hf⟩ := bcell hb
        go_wp2_with fail
        refine (counted_any _ _ _ _ _ _ _).mono ?_
        rintro e w2 ⟨rfl, hb2⟩
        rw [HQ.out]
        have hz := hb.size
        obtain ⟨hc2, hf2⟩ := bcell hb2
        have hz' : w.heap.size + 1 < w1.heap.size := by simp at hz; omega
        have hz0 : w.heap.size < w1.heap.size := by omega
        go_wp2
        go_ret
        exact ⟨ret_bool (by rw [hk, Bool.true_and]), ((((Below.refl _ _).alloc (Nat.le_refl _) _).alloc (by simp) _).trans (hb.mono (by simp; omega))).trans (hb2.mono (by omega))⟩
      · have hk' : (k == k') = false := by simpa using hk
        clear hk
        go_enter Try.func11, Try.ntmps11
        go_wp2_with fail
        refine (counted_any _ _ _ _ _ _ _).mono ?_
        rintro e w1 ⟨rfl, hb⟩
        rw [HP.out]
        obtain ⟨hc, hf⟩ := bcell hb
        go_wp2_with fail
        refine (counted_any _ _ _ _ _ _ _).mono ?_
        rintro e w2 ⟨rfl, hb2⟩
        rw [HQ.out]
        have hz := hb.size
        obtain ⟨hc2, hf2⟩ := bcell hb2
        have hz' : w.heap.size + 1 < w1.heap.size := by simp at hz; omega
        have hz0 : w.heap.size < w1.heap.size := by omega
        go_wp2
        go_ret
        exact ⟨ret_bool (by rw [hk', Bool.false_and]), ((((Below.refl _ _).alloc (Nat.le_refl _) _).alloc (by simp) _).trans (hb.mono (by simp; omega))).trans (hb2.mono (by omega))⟩

theorem ret_pair {k k' : IntKind} {a b c d : Int} (h : a = b) (h' : c = d) : Ending.returned (.tuple #[.int k a, .int k' c]) = .returned (.tuple #[.int k b, .int k' d]) := by rw [h, h']

theorem join_lo1 (ah : Int) : IntKind.u64.wrap (IntKind.u64.wrap ah * 4294967296) = (ah * 4294967296) % 18446744073709551616 := by
  rw [IntKind.wrap_u64, IntKind.wrap_u64]
  omega
theorem join_lo (ah al : Int) : IntKind.u64.wrap (IntKind.u64.wrap (IntKind.u64.wrap ah * 4294967296) + al) = loOf (ah * 4294967296 + al) := by
  rw [join_lo1, IntKind.wrap_u64]
  unfold loOf
  omega
theorem join_hi1 (ah al : Int) (h2 : 0 ≤ al) (h3 : al ≤ 70368744177664) (h : IntKind.u64.wrap (IntKind.u64.wrap (IntKind.u64.wrap ah * 4294967296) + al) < IntKind.u64.wrap (IntKind.u64.wrap ah * 4294967296)) : ah / 4294967296 + 1 = hiOf (ah * 4294967296 + al) := by
  rw [join_lo1, IntKind.wrap_u64] at h
  unfold hiOf
  omega
theorem join_hi0 (ah al : Int) (h2 : 0 ≤ al) (h3 : al ≤ 70368744177664) (h : IntKind.u64.wrap (IntKind.u64.wrap ah * 4294967296) ≤ IntKind.u64.wrap (IntKind.u64.wrap (IntKind.u64.wrap ah * 4294967296) + al)) : ah / 4294967296 = hiOf (ah * 4294967296 + al) := by
  rw [join_lo1, IntKind.wrap_u64] at h
  unfold hiOf
  omega

set_option maxHeartbeats 1000000 in
theorem join_any (ah al : Int) (w : World) (h0 : -35184372088832 ≤ ah) (h1 : ah ≤ 35184372088832) (h2 : 0 ≤ al) (h3 : al ≤ 70368744177664) :
    Calls Try.prog 17 #[.int .i64 ah, .int .u64 al] w fun e w' => e = .returned (.tuple #[.int .i64 (hiOf (ah * 4294967296 + al)), .int .u64 (loOf (ah * 4294967296 + al))]) ∧ w = w' := by
  go_enter Try.func17, Try.ntmps17
  go_wp2
  · go_ret2
    exact ⟨ret_pair (join_hi1 ah al h2 h3 (by assumption)) (join_lo ah al), rfl⟩
  · go_ret2
    exact ⟨ret_pair (join_hi0 ah al h2 h3 (by assumption)) (join_lo ah al), rfl⟩

end Go.Proofs.Qxb6609262a.Grp
