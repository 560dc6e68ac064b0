import Derived.Test.Qxb6612690aRead
namespace Go.Proofs.Qxb6612690a.Gen2
open Go.RowKit Go.Lib Go.Proofs.Qxb6612690a.App Go.Proofs.Qxb6612690a.Bin Go.Proofs.Qxb6612690a.Mem Go.Proofs.Qxb6612690a.Help Go.Proofs.Qxb6612690a.Read

theorem or4 (e0 e1 e2 e3 : Int) (b0 : 0 ≤ e0 ∧ e0 < 256) (b1 : 0 ≤ e1 ∧ e1 < 256) (b2 : 0 ≤ e2 ∧ e2 < 256) (b3 : 0 ≤ e3 ∧ e3 < 256) :
    bits .or .u32 (bits .or .u32 (bits .or .u32 e0 (e1 * 256)) (e2 * 65536)) (e3 * 16777216) = e0 + e1 * 256 + e2 * 65536 + e3 * 16777216 := by
  have h1 : bits .or .u32 e0 (e1 * 256) = e0 + e1 * 256 := u32_or8 _ _ b0.1 b0.2 (by omega) (by omega) (by omega)
  have h2 : bits .or .u32 (e0 + e1 * 256) (e2 * 65536) = e0 + e1 * 256 + e2 * 65536 := u32_or16 _ _ (by omega) (by omega) (by omega) (by omega) (by omega)
  have h3 : bits .or .u32 (e0 + e1 * 256 + e2 * 65536) (e3 * 16777216) = e0 + e1 * 256 + e2 * 65536 + e3 * 16777216 := u32_or24 _ _ (by omega) (by omega) (by omega) (by omega) (by omega)
  rw [h1, h2, h3]

set_option maxHeartbeats 1000000 in
theorem gen_at (b o L c p lo hi N : Nat) (key : ByteArray) (e0 e1 e2 e3 : Int) (w : World) (hL : L ≤ 16777216) (hsz : L = p + 1 + key.size + 1 + 5 + N) (h1 : lo ≤ N) (h2 : N ≤ hi) (h3 : hi ≤ 65536)
    (hp : w.cell? ⟨b, o + p, none⟩ = some (.int .u8 5)) (hk : ∀ i (h : i < key.size), w.cell? ⟨b, o + (p + 1 + i), none⟩ = some (.int .u8 (key[i].toNat : Int)))
    (hz : w.cell? ⟨b, o + (p + 1 + key.size), none⟩ = some (.int .u8 0))
    (c0 : w.cell? ⟨b, o + (p + 1 + key.size + 1), none⟩ = some (.int .u8 e0)) (c1 : w.cell? ⟨b, o + (p + 1 + key.size + 1 + 1), none⟩ = some (.int .u8 e1)) (c2 : w.cell? ⟨b, o + (p + 1 + key.size + 1 + 2), none⟩ = some (.int .u8 e2)) (c3 : w.cell? ⟨b, o + (p + 1 + key.size + 1 + 3), none⟩ = some (.int .u8 e3))
    (c4 : w.cell? ⟨b, o + (p + 1 + key.size + 1 + 4), none⟩ = some (.int .u8 0))
    (b0 : 0 ≤ e0 ∧ e0 < 256) (b1 : 0 ≤ e1 ∧ e1 < 256) (b2 : 0 ≤ e2 ∧ e2 < 256) (b3 : 0 ≤ e3 ∧ e3 < 256) (hN : (N : Int) = e0 + e1 * 256 + e2 * 65536 + e3 * 16777216) :
    Calls Try.prog 25 #[.slice (some ⟨b, o, none⟩) L c, .int .i64 p, .string key, .int .i64 lo, .int .i64 hi] w fun e w' => e = .returned (.tuple #[.int .i64 N, .bool true]) ∧ ∃ q, w' = w.drewN q := by
  have HN : Hid ((N : Int) = e0 + e1 * 256 + e2 * 65536 + e3 * 16777216) := hN
  have HL : Hid (L = p + 1 + key.size + 1 + 5 + N) := hsz
  have l1 : p + 1 + key.size + 1 + 5 + N ≤ L := by omega
  have l2 : L ≤ p + 1 + key.size + 1 + 5 + N := by omega
  have khas := has_at b o L c (p + 1) key w hL (by omega) (fun i h => by have := hk i h; exact this)
  have e1' : ((p + 1 : Nat) : Int) = (p : Int) + 1 := by omega
  rw [e1'] at khas
  have KH : Hid (Calls Try.prog 35 #[.slice (some ⟨b, o, none⟩) L c, .int .i64 ((p : Int) + 1), .string key] w fun e w' => e = .returned (.bool true) ∧ ∃ q, w' = w.drewN q) := khas
  clear hN hsz khas hk e1'
  go_enter Try.func25, Try.ntmps25
  go_wp2_with fail
  refine KH.out.mono ?_
  rintro e w1 ⟨rfl, q, hw1⟩
  subst hw1
  go_wp2_with fail
  have i0 : (p : Int) + 1 + (key.size : Int) + 1 < (L : Int) := by omega
  have i1 : (p : Int) + 1 + (key.size : Int) + 1 + 1 < (L : Int) := by omega
  have i2 : (p : Int) + 1 + (key.size : Int) + 1 + 2 < (L : Int) := by omega
  have i3 : (p : Int) + 1 + (key.size : Int) + 1 + 3 < (L : Int) := by omega
  go_quiet (fail)
  rw [or4 e0 e1 e2 e3 b0 b1 b2 b3, ← HN.out]
  have hne : ((L : Int) - ((p : Int) + 1 + (key.size : Int) + 1 + 5) != (N : Int)) = false := by
    have : (L : Int) - ((p : Int) + 1 + (key.size : Int) + 1 + 5) = (N : Int) := by omega
    simp [this]
  have hnl : ¬ N < lo := by omega
  go_wp2
  go_ret2
  exact ⟨rfl, _, rfl⟩

theorem at_append (pre : List UInt8) (x : UInt8) (post : List UInt8) (i : Nat) (h : i = pre.length) : byteAt (pre ++ x :: post) i = .int .u8 (x.toNat : Int) := by
  subst h
  unfold byteAt
  simp

theorem at_split (A : List UInt8) (x : UInt8) (B l : List UInt8) (i : Nat) (hl : l = A ++ x :: B) (hi : i = A.length) : byteAt l i = .int .u8 (x.toNat : Int) := by
  rw [hl]
  exact at_append A x B i hi

theorem at_key (pre R : List UInt8) (key : ByteArray) (i : Nat) (hi : i < key.size) : byteAt (pre ++ 5 :: (key.data.toList ++ R)) (pre.length + 1 + i) = .int .u8 (key[i].toNat : Int) := by
  unfold byteAt
  have h1 : i < key.data.toList.length := by rw [Bin.data_length]; exact hi
  have e : (pre ++ 5 :: (key.data.toList ++ R))[pre.length + 1 + i]? = some key[i] := by
    rw [List.getElem?_append_right (by omega), show pre.length + 1 + i - pre.length = i + 1 from by omega, List.getElem?_cons_succ, List.getElem?_append_left h1, List.getElem?_eq_getElem h1]
    rfl
  rw [List.getD_eq_getElem?_getD, e]
  rfl

/-- zzGenericBinaryAt at a row that ends in one element. -/
theorem gen_elem (b L c lo hi : Nat) (pre data : List UInt8) (key : ByteArray) (w : World) (hL : (pre ++ elemB key.data.toList data).length = L) (hlim : L ≤ 16777216) (h1 : lo ≤ data.length) (h2 : data.length ≤ hi) (h3 : hi ≤ 65536)
    (hrd : ∀ i, i < L → w.cell? ⟨b, 0 + i, none⟩ = some (byteAt (pre ++ elemB key.data.toList data) i)) :
    Calls Try.prog 25 #[.slice (some ⟨b, 0, none⟩) L c, .int .i64 pre.length, .string key, .int .i64 lo, .int .i64 hi] w fun e w' => e = .returned (.tuple #[.int .i64 data.length, .bool true]) ∧ ∃ q, w' = w.drewN q := by
  have hl : L = pre.length + 1 + key.size + 1 + 5 + data.length := by
    rw [← hL, List.length_append, elemB_length, Bin.data_length]
    omega
  have hks : key.data.toList.length = key.size := Bin.data_length key
  have hb4 : Lib.leBytes 4 data.length = [(data.length % 256).toUInt8, (data.length / 256 % 256).toUInt8, (data.length / 256 / 256 % 256).toUInt8, (data.length / 256 / 256 / 256 % 256).toUInt8] := by simp [Lib.leBytes]
  have he : pre ++ elemB key.data.toList data = pre ++ 5 :: (key.data.toList ++ 0 :: (data.length % 256).toUInt8 :: (data.length / 256 % 256).toUInt8 :: (data.length / 256 / 256 % 256).toUInt8 :: (data.length / 256 / 256 / 256 % 256).toUInt8 :: 0 :: data) := by
    unfold elemB
    rw [hb4]
    simp
  rw [he] at hrd
  refine gen_at b 0 L c pre.length lo hi data.length key ((data.length % 256 : Nat) : Int) ((data.length / 256 % 256 : Nat) : Int) ((data.length / 256 / 256 % 256 : Nat) : Int) ((data.length / 256 / 256 / 256 % 256 : Nat) : Int) w hlim hl h1 h2 h3 ?_ ?_ ?_ ?_ ?_ ?_ ?_ ?_ (by omega) (by omega) (by omega) (by omega) (by omega)
  · rw [hrd _ (by omega), at_append pre 5 _ _ rfl]; rfl
  · intro i hi
    rw [hrd _ (by omega), at_key pre _ key i hi]
  · rw [hrd _ (by omega), at_split (pre ++ 5 :: key.data.toList) 0 ((data.length % 256).toUInt8 :: (data.length / 256 % 256).toUInt8 :: (data.length / 256 / 256 % 256).toUInt8 :: (data.length / 256 / 256 / 256 % 256).toUInt8 :: 0 :: data) _ _ (by simp) (by simp; omega)]; rfl
  · rw [hrd _ (by omega), at_split (pre ++ 5 :: key.data.toList ++ [0]) ((data.length % 256).toUInt8) ((data.length / 256 % 256).toUInt8 :: (data.length / 256 / 256 % 256).toUInt8 :: (data.length / 256 / 256 / 256 % 256).toUInt8 :: 0 :: data) _ _ (by simp) (by simp; omega), Lib.toUInt8_mod]
  · rw [hrd _ (by omega), at_split (pre ++ 5 :: key.data.toList ++ [0, (data.length % 256).toUInt8]) ((data.length / 256 % 256).toUInt8) ((data.length / 256 / 256 % 256).toUInt8 :: (data.length / 256 / 256 / 256 % 256).toUInt8 :: 0 :: data) _ _ (by simp) (by simp; omega), Lib.toUInt8_mod]
  · rw [hrd _ (by omega), at_split (pre ++ 5 :: key.data.toList ++ [0, (data.length % 256).toUInt8, (data.length / 256 % 256).toUInt8]) ((data.length / 256 / 256 % 256).toUInt8) ((data.length / 256 / 256 / 256 % 256).toUInt8 :: 0 :: data) _ _ (by simp) (by simp; omega), Lib.toUInt8_mod]
  · rw [hrd _ (by omega), at_split (pre ++ 5 :: key.data.toList ++ [0, (data.length % 256).toUInt8, (data.length / 256 % 256).toUInt8, (data.length / 256 / 256 % 256).toUInt8]) ((data.length / 256 / 256 / 256 % 256).toUInt8) (0 :: data) _ _ (by simp) (by simp; omega), Lib.toUInt8_mod]
  · rw [hrd _ (by omega), at_split (pre ++ 5 :: key.data.toList ++ [0, (data.length % 256).toUInt8, (data.length / 256 % 256).toUInt8, (data.length / 256 / 256 % 256).toUInt8, (data.length / 256 / 256 / 256 % 256).toUInt8]) 0 (data) _ _ (by simp) (by simp; omega)]; rfl

end Go.Proofs.Qxb6612690a.Gen2
