import Derived.Test.Qxb6612690aElem
import Derived.Test.Qxb6612690aGen
import Derived.Test.Qxb6612690aNew
namespace Go.Proofs.Qxb6612690a.Call
open Go.RowKit Go.Lib Go.Proofs.Qxb6612690a.App Go.Proofs.Qxb6612690a.Pcg Go.Proofs.Qxb6612690a.Bin Go.Proofs.Qxb6612690a.Mem Go.Proofs.Qxb6612690a.Help Go.Proofs.Qxb6612690a.Read Go.Proofs.Qxb6612690a.Elem Go.Proofs.Qxb6612690a.Gen2

/-! ### Slices of a slice, whichever its address -/
theorem elem26 : Try.prog.underlying 26 = some (.slice (Try.prog.elem 26)) := by kernel_rfl
theorem size26 (w : World) : (sizeOf (Try.prog.elem 26)).run Try.prog w = .ok 1 w := by kernel_rfl

/-- x[:N]. -/
theorem slice_head {w : World} {B n c : Nat} {a : Option Addr} {bs : List UInt8} (h : Own w B (.slice a n c) bs) (N : Nat) (hN : N ≤ n) (x : World) :
    (Instr.slice 26 (.slice a n c) none (some (.int .i64 (N : Int))) none).run Try.prog x = .ok (.slice a N c) x := by
  have hc : N ≤ c := by
    rcases Own.shape h with ⟨_, rfl, rfl⟩ | ⟨_, _, h2, _⟩ <;> omega
  rw [run_slice_h _ 26 a n c elem26 .i64 (N : Int) (by omega) (by omega), size26]
  rcases Own.shape h with ⟨rfl, rfl, _⟩ | ⟨g, rfl, _, _⟩
  · simp [Result.andThen, sliced]
  · simp [Result.andThen, sliced, Addr.add_lit]

/-- The address of x[k:]. -/
def tailAt (g k c : Nat) : Option Addr := if c = k then some ⟨g, 0, none⟩ else some ⟨g, k, none⟩

/-- x[k:], x a row of its own. -/
theorem slice_tail (g n c k N : Nat) (hk : k + N = n) (x : World) :
    (Instr.slice 26 (.slice (some ⟨g, 0, none⟩) n c) (some (.int .i64 ((n : Int) - (N : Int)))) none none).run Try.prog x = .ok (.slice (tailAt g k c) N (c - k)) x := by
  have e : (n : Int) - (N : Int) = (k : Int) := by omega
  have e2 : n - k = N := by omega
  rw [e, run_slice_l _ 26 (some ⟨g, 0, none⟩) n c elem26 .i64 (k : Int) (by omega) (by omega), size26]
  unfold tailAt
  by_cases h : c = k <;> simp [Result.andThen, sliced, Addr.add_lit, e2, h]

/-- What x[k:] reads. -/
theorem Own.tail {w : World} {B g n c k N : Nat} {pre bs : List UInt8} (h : Own w B (.slice (some ⟨g, 0, none⟩) n c) (pre ++ bs)) (hk : k = pre.length) (hN : bs.length = N) (hn : k + N = n) (hc : n ≤ c) : Rd w (tailAt g k c) bs := by
  refine ⟨fun hne => ?_⟩
  have hpos : 0 < bs.length := List.length_pos_iff.2 hne
  have hck : ¬ c = k := by omega
  refine ⟨g, k, by unfold tailAt; rw [if_neg hck], fun j u hj => ?_⟩
  have hj' : (Lib.byteCells (pre ++ bs))[k + j]? = some u := by
    unfold Lib.byteCells at hj ⊢
    rw [List.map_append, List.getElem?_append_right (by simp; omega)]
    simp only [List.length_map]
    rw [show k + j - pre.length = j from by omega]
    exact hj
  have := World.ownsRow.cells h (g := g) rfl (k + j) u hj'
  rw [Addr.add_lit] at this
  simpa using this

/-- Bytes off a row of its own. -/
theorem Own.at {w : World} {B g n c : Nat} {bs : List UInt8} (h : Own w B (.slice (some ⟨g, 0, none⟩) n c) bs) : ∀ i, i < bs.length → w.cell? ⟨g, 0 + i, none⟩ = some (byteAt bs i) := by
  intro i hi
  have := World.ownsRow.cells h (g := g) rfl i _ (byteCells_at bs i hi)
  rw [Addr.add_lit] at this
  exact this

/-! ### What a draw gives for an element: a function of its state -/
def Gives (lo hi : Nat) (s : Nat × Nat) (bytes : List UInt8) (s' : Nat × Nat) : Prop :=
  ∃ v s1, Drawn (hi - lo + 1) s v s1 ∧ bytes = (data ((lo + v + 7) / 8) s1).take (lo + v) ∧ s' = st ((lo + v + 7) / 8) s1

theorem Gives.unique {lo hi : Nat} {s s1 s2 : Nat × Nat} {b1 b2 : List UInt8} (h1 : Gives lo hi s b1 s1) (h2 : Gives lo hi s b2 s2) : b1 = b2 ∧ s1 = s2 := by
  obtain ⟨v, t, hd, hb, hs⟩ := h1
  obtain ⟨v', t', hd', hb', hs'⟩ := h2
  obtain ⟨rfl, rfl⟩ := hd.unique hd'
  exact ⟨hb.trans hb'.symm, hs.trans hs'.symm⟩

/-- What the call of ZZbinaryGenAppendElement leaves, in letters. -/
structure Left (lo hi B : Nat) (key bs : List UInt8) (gd gr : Nat) (s : Nat × Nat) (so bo : Option Nat) (w w' : World) (N m g cap L : Nat) (ab : Option Addr) (cb : Nat) (bytes full : List UInt8) (s' : Nat × Nat) : Prop where
  gives : Gives lo hi s bytes s'
  len : bytes.length = N
  head : full.take N = bytes
  hL : L = bs.length + key.length + N + 7
  own : Own w' B (.slice (some ⟨g, 0, none⟩) L cap) (bs ++ elemB key bytes)
  cap : L ≤ cap ∧ cap ≤ maxLen
  dr : Dr w' gd gr s' (.slice ab (8 * m) cb)
  buf : Own w' B (.slice ab (8 * m) cb) full
  fr : Fr w w' (fun k => k = gd ∨ so = some k ∨ bo = some k)
  lies : so = some g ∨ w.heap.size ≤ g
  blies : Lies w bo (Value.slice ab (8 * m) cb).ownBlock
  apart : (Value.slice ab (8 * m) cb).ownBlock ≠ some g

theorem elem_call (lo hi B : Nat) (bv : Value) (ys : List UInt8) (key : ByteArray) (sv : Value) (bs : List UInt8) (gd gr : Nat) (s : Nat × Nat) (w : World) (hown : Own w B sv bs) (hd : Dr w gd gr s bv) (hbuf : Own w B bv ys) (hB : B ≤ w.heap.size)
    (n1 : ∀ g, sv.ownBlock = some g → g ≠ gd ∧ g ≠ gr ∧ bv.ownBlock ≠ some g) (n2 : Far gd gr bv.ownBlock) (h1 : lo ≤ hi) (h2 : hi ≤ 65536) (hlim : bs.length + key.size ≤ 8388608) :
    Calls Try.prog 22 #[.int .i64 lo, .int .i64 hi, sv, .string key, .pointer (some ⟨gd, 0, none⟩)] w fun e w' => ∃ N m g cap L ab cb bytes full s', e = .returned (.slice (some ⟨g, 0, none⟩) L cap) ∧
      lo ≤ N ∧ N ≤ hi ∧ N ≤ 8 * m ∧ 8 * m < N + 8 ∧ bs.length + key.size + N + 7 ≤ L ∧ L ≤ bs.length + key.size + N + 7 ∧ Left lo hi B key.data.toList bs gd gr s sv.ownBlock bv.ownBlock w w' N m g cap L ab cb bytes full s' := by
  refine (elem22 lo hi B bv ys key sv bs gd gr s w hown hd hbuf hB n1 n2 h1 h2 hlim).mono ?_
  rintro e w' ⟨v, s1, g, cap, bv', ob, q1, q2, rfl, q4, q5, q6, q7, q8, q9, q10⟩
  have hv := q1.lt (by omega)
  have hdl := Mem.data_length ((lo + v + 7) / 8) s1
  have hbl : ((data ((lo + v + 7) / 8) s1).take (lo + v)).length = lo + v := Elem.take_len (by omega)
  have hL : ob.length = bs.length + key.data.toList.length + (lo + v) + 7 := by
    rw [q2, List.length_append, elemB_length, hbl]
    omega
  have hks : key.data.toList.length = key.size := Bin.data_length key
  obtain ⟨ab, cb, hbv⟩ : ∃ ab cb, bv' = .slice ab (8 * ((lo + v + 7) / 8)) cb := by
    rcases Own.cut q6 with ⟨e1, e2⟩ | ⟨g', c', e1, _⟩
    · have : 8 * ((lo + v + 7) / 8) = 0 := by rw [← hdl, e2]; rfl
      exact ⟨none, 0, by rw [this]; exact e1⟩
    · exact ⟨_, _, by rw [← hdl]; exact e1⟩
  subst hbv
  have hcap : ob.length ≤ cap ∧ cap ≤ maxLen := by
    rcases Own.shape q4 with ⟨h, _⟩ | ⟨_, _, h3, h4⟩
    · cases h
    · exact ⟨h3, h4⟩
  refine ⟨lo + v, (lo + v + 7) / 8, g, cap, ob.length, ab, cb, _, _, _, rfl, by omega, by omega, by omega, by omega, by omega, by omega, ⟨⟨v, s1, q1, rfl, rfl⟩, hbl, rfl, hL, ?_, hcap, q5, q6, q7, q8, q9, q10⟩⟩
  rw [← q2]
  exact q4

theorem gen_call (b L c lo hi N p : Nat) (pre data : List UInt8) (key : ByteArray) (w : World) (hL : L = pre.length + key.data.toList.length + N + 7) (hlim : L ≤ 16777216) (hN : data.length = N) (hp : pre.length = p) (h1 : lo ≤ N) (h2 : N ≤ hi) (h3 : hi ≤ 65536)
    {B : Nat} (hown : Own w B (.slice (some ⟨b, 0, none⟩) L c) (pre ++ elemB key.data.toList data)) :
    Calls Try.prog 25 #[.slice (some ⟨b, 0, none⟩) L c, .int .i64 p, .string key, .int .i64 lo, .int .i64 hi] w fun e w' => e = .returned (.tuple #[.int .i64 N, .bool true]) ∧ ∃ q, w' = w.drewN q := by
  subst hN
  subst hp
  have hl : (pre ++ elemB key.data.toList data).length = L := by rw [List.length_append, elemB_length]; omega
  exact gen_elem b L c lo hi pre data key w hl hlim h1 h2 h3 (fun i hi => Own.at hown i (by rw [hl]; exact hi))

end Go.Proofs.Qxb6612690a.Call
