import Derived.Test.Qxb6609262aExact0
import Derived.Test.Qxb6609262aVou2
import Derived.Test.Qxb6609262aTot
namespace Go.Proofs.Qxb6609262a.Cent0
open Go.RowKit Go.Proofs.Qxb6609262a.Sum Go.Proofs.Qxb6609262a.Bal Go.Proofs.Qxb6609262a.In Go.Proofs.Qxb6609262a.Grp Go.Proofs.Qxb6609262a.Gsum Go.Proofs.Qxb6609262a.Keys Go.Proofs.Qxb6609262a.Plain Go.Proofs.Qxb6609262a.Idx Go.Proofs.Qxb6609262a.Own Go.Proofs.Qxb6609262a.Vou Go.Proofs.Qxb6609262a.Vou2 Go.Proofs.Qxb6609262a.Tb Go.Proofs.Qxb6609262a.Zz Go.Proofs.Qxb6609262a.Exact Go.Proofs.Qxb6609262a.Exact0 Go.Proofs.Qxb6609262a.Tot

set_option maxRecDepth 10000 in
set_option maxHeartbeats 4000000 in
theorem walk_none (a : Option Addr) (c : Nat) (w : World) :
    Calls Try.prog 4 #[.slice a 0 c] w fun e w' => e = .returned (.bool true) ∧ Below w.heap.size w w' := by
  go_enter Try.func4, Try.ntmps4
  go_wp2_with fail
  refine (bytes13_none a 0 c w (Nat.le_refl _)).mono ?_
  rintro e w0 ⟨⟨ok, rfl⟩, rfl⟩
  cases ok
  · go_wp2
    go_ret
    exact ⟨rfl, Below.refl _ _⟩
  go_wp2_with fail
  refine (count_none a 0 c w (Nat.le_refl _)).mono ?_
  rintro e w0 ⟨⟨z, rfl⟩, rfl⟩
  by_cases hz : (1048576 : Int) < z
  · go_wp2
    go_ret
    exact ⟨rfl, Below.refl _ _⟩
  have hz' : z ≤ 1048576 := by omega
  clear hz
  go_wp2_with fail
  refine (keys_none a 0 c noTP w (Nat.le_refl _)).mono ?_
  rintro e w1 ⟨kb, K, rfl, hkr, hko, hal, hkb, hb1⟩
  go_wp2_with fail
  refine (vou_none a 0 c kb noTP K w1 (Nat.le_refl _)).mono ?_
  rintro e w2 ⟨gv, gp, rfl, hgv, hgr, hgp, hgv1, hne, hb2⟩
  have hal2 : Alive K 0 w2 := fun j hj => absurd hj (Nat.not_lt_zero _)
  go_wp2_with fail
  refine (zz_any gv gp 0 noTP K w2 (by omega) (fun j hj => absurd hj (Nat.not_lt_zero _)) hgv hgr hal2).mono ?_
  rintro e w3 ⟨v, rfl, hgot, hb3⟩
  obtain ⟨ad, rfl, hgo⟩ := got_open hgot
  have hbw3 : Below w.heap.size w w3 := hb1.trans ((hb2.mono hb1.size).trans (hb3.mono (Nat.le_trans hb1.size hb2.size)))
  rw [show (run noTP K 0).length = 0 from rfl]
  have HB3 := Hid.mk' hbw3
  clear hgo hgot hkr hko hal hal2 hgv hgr hb1 hb2 hb3 hbw3 hkb hgp hgv1 hne
  go_wp2
  go_loopg [5, 6, 7] 1 (fun k fv kv iv wr => Aside (k = 1 ∧ wr = w3) ∧ fv = .slice none 0 0 ∧ kv = .slice none 0 0 ∧ iv = .int .i64 0)
  case atStart => exact ⟨⟨rfl, rfl⟩, rfl, rfl, rfl⟩
  case round =>
    obtain ⟨hA, rfl, rfl, rfl⟩ := hrel
    obtain ⟨_, hw⟩ := hA.out
    subst hw
    clear hA
    go_wp2_with fail
    refine (vou_nil none none 0 0 0 noTP K wr (Nat.le_refl _)).mono ?_
    rintro e w6 ⟨gv', gp', rfl, hgv, hgr, _, _, _, hb6⟩
    have hal6 : Alive K 0 w6 := fun j hj => absurd hj (Nat.not_lt_zero _)
    go_wp2_with fail
    refine (zz_any gv' gp' 0 noTP K w6 (by omega) (fun j hj => absurd hj (Nat.not_lt_zero _)) hgv hgr hal6).mono ?_
    rintro e w7 ⟨v, rfl, hgot, hb7⟩
    obtain ⟨ad', rfl, hgo⟩ := got_open hgot
    rw [show (run noTP K 0).length = 0 from rfl]
    have HB7 := Hid.mk' (HB3.out.trans ((hb6.trans (hb7.mono hb6.size)).mono HB3.out.size))
    clear hgo hgot hgv hgr hal6 hb6 hb7
    go_wp2
    go_loopg [9] 1 (fun k iv wr => Aside (k = 1 ∧ wr = w7) ∧ iv = .int .i64 0)
    case atStart => exact ⟨⟨rfl, rfl⟩, rfl⟩
    case round =>
      obtain ⟨hA, rfl⟩ := hrel
      obtain ⟨_, hw⟩ := hA.out
      subst hw
      clear hA
      go_wp2
      go_loopg [11, 12, 13, 14, 15] 1 (fun k dh ch dl cl iv w8 => Aside (k = 1 ∧ w8 = wr) ∧ dh = .int .i64 0 ∧ ch = .int .i64 0 ∧ dl = .int .u64 0 ∧ cl = .int .u64 0 ∧ iv = .int .i64 0)
      case atStart => exact ⟨⟨rfl, rfl⟩, rfl, rfl, rfl, rfl, rfl⟩
      case round =>
        obtain ⟨hA, rfl, rfl, rfl, rfl, rfl⟩ := hrel
        obtain ⟨_, hw⟩ := hA.out
        subst hw
        clear hA
        go_wp2_with fail
        refine (tot_none a c true _).mono ?_
        rintro e w8 ⟨rfl, hb8⟩
        go_wp2_with fail
        refine (tot_none a c false w8).mono ?_
        rintro e w9 ⟨rfl, hb9⟩
        have hbF := HB7.out.trans ((hb8.trans (hb9.mono hb8.size)).mono HB7.out.size)
        go_wp2
        go_ret
        exact ⟨rfl, hbF⟩

end Go.Proofs.Qxb6609262a.Cent0
