import Derived.Test.Qxb6612690aMem
import Derived.Deep.RegionHeld3
import Derived.Outline
namespace Go.Proofs.Qxb6612690a.Elem
open Go.RowKit Go.Lib Go.Proofs.Qxb6612690a.App Go.Proofs.Qxb6612690a.Pcg Go.Proofs.Qxb6612690a.Rnd Go.Proofs.Qxb6612690a.Bin Go.Proofs.Qxb6612690a.Draw Go.Proofs.Qxb6612690a.Mem

/-- What an owned slice looks like, and that its empty head owns nothing. -/
theorem Own.cut {w : World} {B : Nat} {v : Value} {ys : List UInt8} (h : Own w B v ys) :
    (v = .slice none 0 0 ∧ ys = []) ∨ ∃ g c, v = .slice (some ⟨g, 0, none⟩) ys.length c ∧ ys.length ≤ c ∧ c ≤ maxLen ∧ Own w B (.slice (some ⟨g, 0, none⟩) 0 c) [] := by
  rcases h.2 with ⟨h1, h2⟩ | ⟨g, cap, cur, hv, hb, hg, hle, hcm, hcs, _⟩
  · exact .inl ⟨h1, List.eq_nil_of_length_eq_zero h2⟩
  · exact .inr ⟨g, cap, hv, hle, hcm, ⟨rfl, .inr ⟨g, cap, cur, rfl, hb, hg, Nat.zero_le _, hcm, hcs, by simp [Lib.byteCells]⟩⟩⟩

/-- The blocks that the filling of the scratch buffer turns. -/
def Sb (gd : Nat) (bo : Option Nat) (k : Nat) : Prop := k = gd ∨ bo = some k
def Lies (w : World) (bo o : Option Nat) : Prop := ∀ g, o = some g → bo = some g ∨ w.heap.size ≤ g
def Far (gd gr : Nat) (bo : Option Nat) : Prop := ∀ g, bo = some g → g ≠ gd ∧ g ≠ gr

theorem put_step {w1 w2 w3 : World} {gd gr : Nat} {t : Nat × Nat} {bv : Value} {bo o o' : Option Nat} (hf : Fr w1 w2 (Sb gd bo)) (hd : Dr w2 gd gr t bv) (hl : Lies w1 bo o) (n2 : Far gd gr bo)
    (hgd : gd < w1.heap.size) (hgr : gr < w1.heap.size) (hp : Put w2 w3 o o') : Dr w3 gd gr t bv ∧ Fr w1 w3 (Sb gd bo) ∧ Lies w1 bo o' := by
  have hne : ∀ k, k = gd ∨ k = gr → ¬ o = some k := by
    intro k hk e
    rcases hl k e with h | h
    · have := n2 k h; rcases hk with hk | hk <;> omega
    · rcases hk with hk | hk <;> omega
  refine ⟨hd.fr (S := fun k => o = some k) (Fr.of_grown hp.grow (fun _ h => h)) (hne gd (.inl rfl)) (hne gr (.inr rfl)), hf.trans (T := fun k => o = some k) (Fr.of_grown hp.grow (fun _ h => h)) (fun i hi ho => ?_), fun g hg => ?_⟩
  · rcases hl i ho with h | h
    · exact .inr h
    · omega
  · rcases hp.lies g hg with h | h
    · exact hl g h
    · exact .inr (Nat.le_trans hf.size h)

theorem move_step {w1 wr w2 : World} {gd gr B : Nat} {t t' : Nat × Nat} {bv dv : Value} {ds : List UInt8} {bo : Option Nat} (hf : Fr w1 wr (Sb gd bo)) (hd : Dr wr gd gr t bv) (ok : Ok t') (hown : Own wr B dv ds) (hl : Lies w1 bo dv.ownBlock) (n2 : Far gd gr bo)
    (hgd : gd < w1.heap.size) (hm : Moved wr w2 gd 5 t') : Dr w2 gd gr t' bv ∧ Fr w1 w2 (Sb gd bo) ∧ Own w2 B dv ds := by
  refine ⟨hd.moved hm ok, hf.trans (T := fun k => k = gd) (Fr.of_grown hm.grow (fun k h => by injection h with h; exact h.symm)) (fun i _ h => .inl h), Own.fr hown (S := fun k => k = gd) (Fr.of_grown hm.grow (fun k h => by injection h with h; exact h.symm)) (fun g hg e => ?_)⟩
  rcases hl g hg with h | h
  · exact (n2 g h).1 e
  · omega

theorem Dr.drew {w : World} {gd gr : Nat} {s : Nat × Nat} {bv : Value} (h : Dr w gd gr s bv) : Dr w.drew gd gr s bv := h.fr (S := fun _ => False) ⟨rfl, rfl, rfl, Nat.le_refl _, fun _ _ _ => rfl⟩ id id
theorem Fr.drew {w w' : World} {S : Nat → Prop} (h : Fr w w' S) : Fr w w'.drew S := h.trans (T := fun _ => False) ⟨rfl, rfl, rfl, Nat.le_refl _, fun _ _ _ => rfl⟩ (fun _ _ f => f.elim)
theorem Own.drew {w : World} {B : Nat} {v : Value} {bs : List UInt8} (h : Own w B v bs) : Own w.drew B v bs := h

theorem data_succ (j : Nat) (s : Nat × Nat) : data (j + 1) s = data j s ++ Lib.leBytes 8 (out (next (st j s))) := by rw [data, st_succ]

theorem round_lt {k j N : Nat} (h : k + j = (N + 7) / 8) (hlt : 8 * j < N) : k - 1 < k := by omega
theorem round_eq {k j N : Nat} (h : k + j = (N + 7) / 8) (hlt : 8 * j < N) : k - 1 + (j + 1) = (N + 7) / 8 := by omega
theorem end_eq {k j N : Nat} (h : k + j = (N + 7) / 8) (hlt : ¬ 8 * j < N) : k = 0 := by omega

theorem own_succ {w : World} {B j : Nat} {s : Nat × Nat} {a : Option Addr} {c : Nat} (h : w.ownsRow B 5 1 (.slice a (8 * j + 8) c) (8 * j + 8) (Lib.byteCells (data j s) ++ Lib.byteCells (Lib.leBytes 8 (out (next (st j s)))))) : Own w B (.slice a (8 * (j + 1)) c) (data (j + 1) s) := by
  unfold Own
  rw [Mem.data_length, data_succ, show 8 * (j + 1) = 8 * j + 8 from rfl]
  have e : Lib.byteCells (data j s ++ Lib.leBytes 8 (out (next (st j s)))) = Lib.byteCells (data j s) ++ Lib.byteCells (Lib.leBytes 8 (out (next (st j s)))) := by unfold Lib.byteCells; exact List.map_append
  rw [e]
  exact h

theorem Own.shape {w : World} {B n c : Nat} {a : Option Addr} {bs : List UInt8} (h : Own w B (.slice a n c) bs) : (a = none ∧ c = 0 ∧ n = 0) ∨ ∃ g, a = some ⟨g, 0, none⟩ ∧ n ≤ c ∧ c ≤ maxLen := by
  rcases h.2 with ⟨h1, _⟩ | ⟨g, cap, cur, hv, _, _, hle, hcm, _⟩
  · injection h1 with e1 e2 e3
    exact .inl ⟨e1, e3, e2⟩
  · injection hv with e1 e2 e3
    subst e1
    subst e2
    subst e3
    exact .inr ⟨g, rfl, hle, hcm⟩

theorem setCell_fr (w : World) (gd o : Nat) (v : Value) : Fr w (w.setCell ⟨gd, o, none⟩ v) (fun k => k = gd) :=
  Fr.of_grown (grown_setCell w ⟨gd, o, none⟩ v) (fun k h => by injection h with h; exact h.symm)

/-- The bytes of a row that is owned, read off its slice. -/
theorem Own.rd {w : World} {B n c : Nat} {a : Option Addr} {bs : List UInt8} (h : Own w B (.slice a n c) bs) (k : Nat) : Rd w a (bs.take k) := by
  refine ⟨fun hne => ?_⟩
  rcases h.2 with ⟨_, h0⟩ | ⟨g, cap, cur, hv, _, _, _⟩
  · have e : bs = [] := List.eq_nil_of_length_eq_zero h0
    rw [e] at hne
    simp at hne
  · injection hv with e1 e2 e3
    subst e1
    refine ⟨g, 0, rfl, fun j u hj => ?_⟩
    have hj' : (Lib.byteCells bs)[j]? = some u := by
      have e : Lib.byteCells (bs.take k) = (Lib.byteCells bs).take k := by unfold Lib.byteCells; exact List.map_take
      rw [e] at hj
      rw [List.getElem?_take] at hj
      split at hj
      · exact hj
      · cases hj
    have hc := World.ownsRow.cells h (g := g) rfl j u hj'
    rw [Addr.add_lit] at hc
    exact hc

theorem pre39 {w wr : World} {gd gr B j N c : Nat} {a : Option Addr} {sv : Value} {bs ds : List UInt8} {bo : Option Nat} (hown : Own w B sv bs) (hB : B ≤ w.heap.size) (n1 : ∀ g, sv.ownBlock = some g → g ≠ gd ∧ g ≠ gr ∧ bo ≠ some g) (n2 : Far gd gr bo)
    (hgd : gd < w.heap.size) (hownr : Own wr B (.slice a (8 * j) c) ds) (hlr : Lies w bo (Value.slice a (8 * j) c).ownBlock) (hfr : Fr w wr (Sb gd bo)) :
    Own (wr.setCell ⟨gd, 10, none⟩ (.slice a (8 * j) c)) B sv bs ∧ B ≤ (wr.setCell ⟨gd, 10, none⟩ (.slice a (8 * j) c)).heap.size ∧ Own (wr.setCell ⟨gd, 10, none⟩ (.slice a (8 * j) c)) B (.slice a (8 * j) c) ds ∧
      Rd (wr.setCell ⟨gd, 10, none⟩ (.slice a (8 * j) c)) a (ds.take N) ∧ (∀ ad, a = some ad → sv.ownBlock ≠ some ad.block) ∧ Fr w (wr.setCell ⟨gd, 10, none⟩ (.slice a (8 * j) c)) (Sb gd bo) := by
  have f5 := setCell_fr wr gd 10 (.slice a (8 * j) c)
  have hfar : ∀ g, (Value.slice a (8 * j) c).ownBlock = some g → ¬ g = gd := by
    intro g hg e
    rcases hlr g hg with h | h
    · exact (n2 g h).1 e
    · omega
  have o1 : Own wr B sv bs := Own.fr hown hfr (fun g hg hs => by
    rcases hs with h | h
    · exact (n1 g hg).1 h
    · exact (n1 g hg).2.2 h)
  have o2 : Own (wr.setCell ⟨gd, 10, none⟩ (.slice a (8 * j) c)) B (.slice a (8 * j) c) ds := Own.fr hownr f5 hfar
  refine ⟨Own.fr o1 f5 (fun g hg e => (n1 g hg).1 e), Nat.le_trans hB (Nat.le_trans hfr.size f5.size), o2, Own.rd o2 N, ?_, hfr.trans f5 (fun i _ h => .inl h)⟩
  intro ad had e
  have hg : (Value.slice a (8 * j) c).ownBlock = some ad.block := by rw [had]; rfl
  rcases hlr ad.block hg with h | h
  · exact (n1 _ e).2.2 h
  · have := (Own.lt hown e).2
    omega

/-- What an element's writing leaves. -/
def Done (lo hi B : Nat) (key bs : List UInt8) (gd gr : Nat) (s : Nat × Nat) (so bo : Option Nat) (w : World) (e : Ending) (w' : World) : Prop :=
  ∃ (v : Nat) (s1 : Nat × Nat) (g cap : Nat) (bv' : Value) (ob : List UInt8), Drawn (hi - lo + 1) s v s1 ∧ ob = bs ++ elemB key ((data ((lo + v + 7) / 8) s1).take (lo + v)) ∧
    e = .returned (.slice (some ⟨g, 0, none⟩) ob.length cap) ∧ Own w' B (.slice (some ⟨g, 0, none⟩) ob.length cap) ob ∧
    Dr w' gd gr (st ((lo + v + 7) / 8) s1) bv' ∧ Own w' B bv' (data ((lo + v + 7) / 8) s1) ∧ Fr w w' (fun k => k = gd ∨ so = some k ∨ bo = some k) ∧
    (so = some g ∨ w.heap.size ≤ g) ∧ Lies w bo bv'.ownBlock ∧ bv'.ownBlock ≠ some g

theorem post39 {w wr w4 : World} {gd gr B j c g : Nat} {t : Nat × Nat} {a : Option Addr} {sv bv : Value} {bs ds : List UInt8} {bo : Option Nat} (hown : Own w B sv bs) (n1 : ∀ g, sv.ownBlock = some g → g ≠ gd ∧ g ≠ gr ∧ bo ≠ some g)
    (hlr : Lies w bo (Value.slice a (8 * j) c).ownBlock) (hdj : Dr wr gd gr t bv)
    (h5 : Own (wr.setCell ⟨gd, 10, none⟩ (.slice a (8 * j) c)) B (.slice a (8 * j) c) ds) (f5 : Fr w (wr.setCell ⟨gd, 10, none⟩ (.slice a (8 * j) c)) (Sb gd bo)) (hp : Put (wr.setCell ⟨gd, 10, none⟩ (.slice a (8 * j) c)) w4 sv.ownBlock (some g)) :
    Dr w4 gd gr t (.slice a (8 * j) c) ∧ Own w4 B (.slice a (8 * j) c) ds ∧ Fr w w4 (fun k => k = gd ∨ sv.ownBlock = some k ∨ bo = some k) ∧ (sv.ownBlock = some g ∨ w.heap.size ≤ g) ∧ (Value.slice a (8 * j) c).ownBlock ≠ some g := by
  have hd5 := hdj.stored (.slice a (8 * j) c)
  have fp : Fr (wr.setCell ⟨gd, 10, none⟩ (.slice a (8 * j) c)) w4 (fun k => sv.ownBlock = some k) := Fr.of_grown hp.grow (fun _ h => h)
  have hap : ∀ k, (Value.slice a (8 * j) c).ownBlock = some k → ¬ sv.ownBlock = some k := by
    intro k hk e
    rcases hlr k hk with h | h
    · exact (n1 _ e).2.2 h
    · have := (Own.lt hown e).2
      omega
  refine ⟨hd5.fr fp (fun e => (n1 _ e).1 rfl) (fun e => (n1 _ e).2.1 rfl), Own.fr h5 fp hap, ?_, ?_, ?_⟩
  · refine (f5.mono (fun k h => ?_)).trans fp (fun i _ h => .inr (.inl h))
    rcases h with h | h
    · exact .inl h
    · exact .inr (.inr h)
  · rcases hp.lies g rfl with h | h
    · exact .inl h
    · exact .inr (Nat.le_trans f5.size h)
  · intro e
    rcases hp.lies g rfl with h | h
    · exact hap g e h
    · have := (Own.lt h5 e).2
      omega

theorem appendBinary' (B m : Nat) (key : ByteArray) (sv : Value) (bs : List UInt8) (a : Option Addr) (c : Nat) (data : List UInt8) (w : World) (hown : Own w B sv bs) (hB : B ≤ w.heap.size) (hlim : bs.length + key.size + m ≤ 16777216) (hm : data.length = m)
    (hrd : Rd w a data) (hap : ∀ ad, a = some ad → sv.ownBlock ≠ some ad.block) :
    Calls Try.prog 39 #[sv, .string key, .int .u8 0, .slice a m c] w fun e w' => ∃ g cap ob, ob = bs ++ elemB key.data.toList data ∧ e = .returned (.slice (some ⟨g, 0, none⟩) ob.length cap) ∧
      Own w' B (.slice (some ⟨g, 0, none⟩) ob.length cap) ob ∧ Put w w' sv.ownBlock (some g) := by
  subst hm
  refine (appendBinary B key sv bs a c data w hown hB hlim hrd hap).mono ?_
  rintro e w' ⟨g, cap, rfl, h1, h2, _⟩
  exact ⟨g, cap, _, rfl, rfl, h1, h2⟩

theorem take_len {j N : Nat} {s : Nat × Nat} (h : ¬ 8 * j < N) : ((data j s).take N).length = N := by
  rw [List.length_take, Mem.data_length]
  omega

set_option maxHeartbeats 1000000 in
theorem elem34 (lo hi B : Nat) (bv : Value) (ys : List UInt8) (key : ByteArray) (sv : Value) (bs : List UInt8) (gd gr : Nat) (s : Nat × Nat) (w : World) (hown : Own w B sv bs) (hd : Dr w gd gr s bv) (hbuf : Own w B bv ys) (hB : B ≤ w.heap.size)
    (n1 : ∀ g, sv.ownBlock = some g → g ≠ gd ∧ g ≠ gr ∧ bv.ownBlock ≠ some g) (n2 : Far gd gr bv.ownBlock) (h1 : lo ≤ hi) (h2 : hi ≤ 65536) (hlim : bs.length + key.size ≤ 8388608) :
    Calls Try.prog 34 #[.agg #[.int .i64 lo, .int .i64 hi], sv, .string key, .pointer (some ⟨gd, 0, none⟩)] w fun e w' => Done lo hi B key.data.toList bs gd gr s sv.ownBlock bv.ownBlock w e w' := by
  have hd0 : Dr (w.alloc (.cells #[.int .i64 lo, .int .i64 hi] 70)) gd gr s bv := hd.fr (S := fun _ => False) (Fr.of_below ((Below.refl _ _).alloc (Nat.le_refl _) _)) id id
  have hf0 : Fr w (w.alloc (.cells #[.int .i64 lo, .int .i64 hi] 70)) (Sb gd bv.ownBlock) := Fr.of_below ((Below.refl _ _).alloc (Nat.le_refl _) _)
  obtain ⟨ao, c, hao, own0, hlie⟩ : ∃ ao c, ((bv = .slice none 0 0 ∧ ao = none ∧ c = 0) ∨ ∃ g, bv = .slice (some ⟨g, 0, none⟩) ys.length c ∧ ys.length ≤ c ∧ c ≤ maxLen ∧ ao = some ⟨g, 0, none⟩) ∧ Own w B (.slice ao 0 c) [] ∧ Lies w bv.ownBlock (Value.slice ao 0 c).ownBlock := by
    rcases Own.cut hbuf with ⟨rfl, _⟩ | ⟨g, c, rfl, h3, h4, h5⟩
    · exact ⟨none, 0, .inl ⟨rfl, rfl, rfl⟩, World.ownsRow_nil _ _ _ _, fun g hg => by cases hg⟩
    · exact ⟨some ⟨g, 0, none⟩, c, .inr ⟨g, rfl, h3, h4, rfl⟩, h5, fun g' hg => .inl hg⟩
  obtain ⟨hgd, hgr⟩ := hd.lt
  generalize hbo : bv.ownBlock = bo at *
  have HBO : Hid (bv.ownBlock = bo) := hbo
  clear hbo
  go_enter Try.func34, Try.ntmps34
  go_wp2_with fail
  refine (draw_any gd gr lo hi s _ hd0.gen hd0.rnd h1 h2).mono ?_
  rintro e w1 ⟨v, s1, rfl, hdr, hm⟩
  have hv := hdr.lt (by omega)
  obtain ⟨hd1, hf1, own1⟩ := move_step hf0 hd0 hdr.ok (Own.fr own0 (S := fun _ => False) (Fr.of_below ((Below.refl _ _).alloc (Nat.le_refl _) _)) (fun _ _ f => f)) hlie n2 hgd hm
  have cb := hd1.buf
  have hs1 := hf1.size
  clear hd0 hf0 hm own0
  rcases hao with ⟨rfl, rfl, rfl⟩ | ⟨g, rfl, hle, hcm, rfl⟩
  all_goals
    go_wp2_with fail
    go_loopg [10] ((lo + v + 7) / 8) (fun k dv wr => ∃ j a2 c2, Aside (k + j = (lo + v + 7) / 8) ∧ dv = .slice a2 (8 * j) c2 ∧ Own wr B (.slice a2 (8 * j) c2) (data j s1) ∧ Lies w bo (Value.slice a2 (8 * j) c2).ownBlock ∧ (∃ bv', Dr wr gd gr (st j s1) bv') ∧ Fr w wr (Sb gd bo))
    case atStart => exact ⟨0, _, _, Nat.add_zero _, rfl, own1, hlie, ⟨_, by rw [st_zero]; exact hd1⟩, hf1⟩
    case round =>
      obtain ⟨j, a2, c2, hA, rfl, hownr, hlr, ⟨bv', hdj⟩, hfr⟩ := hrel
      by_cases hlt : 8 * j < lo + v
      · have key38 := rand_uint64 gr gd 5 (st j s1) wr.drew (Dr.drew hdj).gen
        have K38 : Hid (Calls Try.prog 38 #[.pointer (some ⟨gr, 0, none⟩)] wr.drew fun e w' => e = .returned (.int .u64 (out (next (st j s1)) : Int)) ∧ Moved wr.drew w' gd 5 (next (st j s1))) := key38
        clear key38
        have hc7 := hdj.rnd
        have hu := out_lt (next (st j s1))
        have hu' : out (next (st j s1)) < 18446744073709551616 := hu
        clear hu
        have hfd := Fr.drew hfr
        have hBd : B ≤ wr.heap.size := Nat.le_trans hB hfr.size
        go_wp2_with fail
        go_region_held3 (fun w' => w'.cell? ⟨gd, 7, none⟩ = some (.pointer (some ⟨gr, 0, none⟩)))
          (first | (go_keep; done) | exact hst3.1.rnd | exact hst2.1.rnd)
          (first | (go_at_call 38; refine K38.out.mono ?_; rintro e w2 ⟨rfl, hm2⟩; have hst2 := move_step hfd (Dr.drew hdj) (next_ok (st j s1)) (Own.drew hownr) hlr n2 hgd hm2) | (go_at_call 29; refine (appendU64_own B (8 * j) _ hu' _ (Lib.byteCells (data j s1)) w2 (by have := hst2.2.2; unfold Own at this; rw [Mem.data_length] at this; exact this) (Nat.le_trans hB hst2.2.1.size) (by omega)).mono ?_; rintro e w3 ⟨g3, c3, rfl, hown3, hput3, hlt3⟩; have hst3 := put_step hst2.2.1 hst2.1 hlr n2 hgd hgr hput3))
        go_wp2_with fail
        go_roundg (gk - 1)
        case measure => exact round_lt hA.out hlt
        case rel => exact ⟨j + 1, _, _, round_eq hA.out hlt, rfl, own_succ hown3, hst3.2.2, ⟨bv', by rw [st_succ]; exact hst3.1⟩, hst3.2.1⟩
      · obtain rfl : gk = 0 := end_eq hA.out hlt
        have HJ : Hid (j = (lo + v + 7) / 8) := by have := hA.out; show _ = _; omega
        obtain ⟨p1, p2, p3, p4, p5, p6⟩ := pre39 (N := lo + v) hown hB n1 n2 hgd hownr hlr hfr
        have hc10 := hdj.buf
        have hf10 := hdj.fb
        rcases Own.shape hownr with ⟨rfl, rfl, hj0⟩ | ⟨g2, rfl, hle2, hcm2⟩
        all_goals
          try (have hz : 8 * j ≤ 0 := Nat.le_of_eq hj0; clear hj0)
          go_wp2_with fail
          refine (appendBinary' B (lo + v) key sv bs _ _ ((data j s1).take (lo + v)) _ p1 p2 (by omega) (take_len hlt) p4 p5).mono ?_
          rintro e w4 ⟨g4, c4, ob, hob, rfl, q1, q2⟩
          obtain ⟨r1, r2, r3, r4, r5⟩ := post39 hown n1 hlr hdj p3 p6 q2
          have HOB : Hid (ob = bs ++ elemB key.data.toList ((data j s1).take (lo + v))) := hob
          clear hob
          go_wp2
          go_ret
          have hj := HJ.out
          subst hj
          exact ⟨v, s1, g4, c4, _, ob, hdr, HOB.out, rfl, q1, r1, r2, r3, r4, hlr, r5⟩

set_option maxHeartbeats 1000000 in
theorem elem22 (lo hi B : Nat) (bv : Value) (ys : List UInt8) (key : ByteArray) (sv : Value) (bs : List UInt8) (gd gr : Nat) (s : Nat × Nat) (w : World) (hown : Own w B sv bs) (hd : Dr w gd gr s bv) (hbuf : Own w B bv ys) (hB : B ≤ w.heap.size)
    (n1 : ∀ g, sv.ownBlock = some g → g ≠ gd ∧ g ≠ gr ∧ bv.ownBlock ≠ some g) (n2 : Far gd gr bv.ownBlock) (h1 : lo ≤ hi) (h2 : hi ≤ 65536) (hlim : bs.length + key.size ≤ 8388608) :
    Calls Try.prog 22 #[.int .i64 lo, .int .i64 hi, sv, .string key, .pointer (some ⟨gd, 0, none⟩)] w fun e w' => Done lo hi B key.data.toList bs gd gr s sv.ownBlock bv.ownBlock w e w' := by
  have K34 : Hid (Calls Try.prog 34 #[.agg #[.int .i64 lo, .int .i64 hi], sv, .string key, .pointer (some ⟨gd, 0, none⟩)] w fun e w' => Done lo hi B key.data.toList bs gd gr s sv.ownBlock bv.ownBlock w e w') := elem34 lo hi B bv ys key sv bs gd gr s w hown hd hbuf hB n1 n2 h1 h2 hlim
  go_enter Try.func22, Try.ntmps22
  go_wp2_with fail
  refine K34.out.mono ?_
  rintro e w' ⟨v, s1, g, cap, bv', ob, q1, q2, rfl, q4⟩
  have Q : Hid (Drawn (hi - lo + 1) s v s1 ∧ ob = bs ++ elemB key.data.toList ((data ((lo + v + 7) / 8) s1).take (lo + v))) := ⟨q1, q2⟩
  clear q1 q2
  go_wp2
  go_ret
  exact ⟨v, s1, g, cap, bv', ob, Q.out.1, Q.out.2, rfl, q4⟩

end Go.Proofs.Qxb6612690a.Elem
