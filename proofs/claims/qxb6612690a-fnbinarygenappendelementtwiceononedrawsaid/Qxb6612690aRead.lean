import Derived.Test.Qxb6612690aHelp
namespace Go.Proofs.Qxb6612690a.Read
open Go.RowKit Go.Lib Go.Proofs.Qxb6612690a.App Go.Proofs.Qxb6612690a.Bin Go.Proofs.Qxb6612690a.Mem Go.Proofs.Qxb6612690a.Help

theorem byte_neq (bs : List UInt8) (j : Nat) : ∃ z : Int, byteAt bs j = .int .u8 z := ⟨_, rfl⟩

set_option maxHeartbeats 400000 in
theorem equal_empty (a1 a2 : Option Addr) (n c1 c2 : Nat) (w : World) (hn : n ≤ 0) : Calls Try.prog 24 #[.slice a1 n c1, .slice a2 n c2] w fun e w' => e = .returned (.bool true) ∧ ∃ q, w' = w.drewN q := by
  go_enter Try.func24, Try.ntmps24
  go_wp2
  go_loopg [5] 1 (fun k i wr => Aside (k = 1 ∧ wr = w) ∧ i = .int .i64 0)
  case atStart => exact ⟨⟨rfl, rfl⟩, rfl⟩
  case round =>
    obtain ⟨hA, rfl⟩ := hrel
    obtain ⟨_, hw⟩ := hA.out
    subst hw
    clear hA
    go_wp2
    go_ret
    exact ⟨rfl, 0, rfl⟩

set_option maxHeartbeats 400000 in
theorem equal_row (b1 o1 b2 o2 n c1 c2 : Nat) (bs : List UInt8) (w : World) (hlim : n ≤ 16777216) (r1 : ∀ i, i < n → w.cell? ⟨b1, o1 + i, none⟩ = some (byteAt bs i)) (r2 : ∀ i, i < n → w.cell? ⟨b2, o2 + i, none⟩ = some (byteAt bs i)) :
    Calls Try.prog 24 #[.slice (some ⟨b1, o1, none⟩) n c1, .slice (some ⟨b2, o2, none⟩) n c2] w fun e w' => e = .returned (.bool true) ∧ ∃ q, w' = w.drewN q := by
  go_enter Try.func24, Try.ntmps24
  go_wp2
  go_loopg [5] n (fun k i wr => ∃ j q : Nat, Aside (k + j = n ∧ wr = w.drewN q) ∧ j ≤ n ∧ i = .int .i64 j)
  case atStart => exact ⟨0, 0, ⟨Nat.add_zero _, rfl⟩, Nat.zero_le _, rfl⟩
  case round =>
    obtain ⟨j, q, hA, hj, rfl⟩ := hrel
    obtain ⟨hk, hw⟩ := hA.out
    have HK : Hid (gk + j = n) := hk
    clear hA hk
    subst hw
    by_cases hlt : j < n
    · have hc1 := r1 j hlt
      have hc2 := r2 j hlt
      obtain ⟨z, hz⟩ := byte_neq bs j
      rw [hz] at hc1 hc2
      clear hz r1 r2
      have hlt' : (j : Int) < (n : Int) := by omega
      go_wp2
      go_quiet (fail)
      go_wp2
      go_roundg (gk - 1)
      case measure => have := HK.out; omega
      case rel => exact ⟨j + 1, _, ⟨by have := HK.out; omega, rfl⟩, by omega, by go_num⟩
    · go_wp2
      go_ret
      exact ⟨rfl, q, rfl⟩

/-- zzEqualBytes at two slices of the same bytes. -/
theorem equal_same (a1 a2 : Option Addr) (n c1 c2 : Nat) (bs : List UInt8) (w : World) (hn : bs.length = n) (hlim : n ≤ 16777216) (r1 : Rd w a1 bs) (r2 : Rd w a2 bs) :
    Calls Try.prog 24 #[.slice a1 n c1, .slice a2 n c2] w fun e w' => e = .returned (.bool true) ∧ ∃ q, w' = w.drewN q := by
  subst hn
  by_cases h : bs = []
  · exact equal_empty a1 a2 bs.length c1 c2 w (by rw [h]; exact Nat.le_refl _)
  · obtain ⟨b1, o1, rfl, h1⟩ := Rd.at r1 h
    obtain ⟨b2, o2, rfl, h2⟩ := Rd.at r2 h
    exact equal_row b1 o1 b2 o2 bs.length c1 c2 bs w hlim h1 h2

set_option maxHeartbeats 400000 in
theorem has_at (b o n c p : Nat) (key : ByteArray) (w : World) (hlim : n ≤ 16777216) (hp : p + key.size ≤ n) (r : ∀ i (h : i < key.size), w.cell? ⟨b, o + (p + i), none⟩ = some (.int .u8 (key[i].toNat : Int))) :
    Calls Try.prog 35 #[.slice (some ⟨b, o, none⟩) n c, .int .i64 p, .string key] w fun e w' => e = .returned (.bool true) ∧ ∃ q, w' = w.drewN q := by
  go_enter Try.func35, Try.ntmps35
  go_wp2
  go_loopg [7] key.size (fun k i wr => ∃ j q : Nat, Aside (k + j = key.size ∧ wr = w.drewN q) ∧ j ≤ key.size ∧ i = .int .i64 j)
  case atStart => exact ⟨0, 0, ⟨Nat.add_zero _, rfl⟩, Nat.zero_le _, rfl⟩
  case round =>
    obtain ⟨j, q, hA, hj, rfl⟩ := hrel
    obtain ⟨hk, hw⟩ := hA.out
    have HK : Hid (gk + j = key.size) := hk
    clear hA hk
    subst hw
    by_cases hlt : j < key.size
    · have hc1 := r j hlt
      clear r
      have hlt' : (j : Int) < (key.size : Int) := by omega
      have hlt2 : (p : Int) + (j : Int) < (n : Int) := by omega
      go_wp2
      go_quiet (fail)
      go_wp2
      go_roundg (gk - 1)
      case measure => have := HK.out; omega
      case rel => exact ⟨j + 1, _, ⟨by have := HK.out; omega, rfl⟩, by omega, by go_num⟩
    · go_wp2
      go_ret
      exact ⟨rfl, q, rfl⟩

end Go.Proofs.Qxb6612690a.Read
