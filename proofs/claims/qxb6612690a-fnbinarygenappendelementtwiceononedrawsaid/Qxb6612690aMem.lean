import Derived.Test.Qxb6612690aDraw
import Derived.Test.Qxb6612690aBin
namespace Go.Proofs.Qxb6612690a.Mem
open Go.RowKit Go.Lib Go.Proofs.Qxb6612690a.App Go.Proofs.Qxb6612690a.Pcg Go.Proofs.Qxb6612690a.Rnd Go.Proofs.Qxb6612690a.Bin

/-- What was there is as it was, but for the blocks of S. -/
structure Fr (w w' : World) (S : Nat → Prop) : Prop where
  os : w'.os = w.os
  tape : w'.tape = w.tape
  output : w'.output = w.output
  size : w.heap.size ≤ w'.heap.size
  block : ∀ k, k < w.heap.size → ¬ S k → w'.heap[k]? = w.heap[k]?

theorem Fr.refl (w : World) (S : Nat → Prop) : Fr w w S := ⟨rfl, rfl, rfl, Nat.le_refl _, fun _ _ _ => rfl⟩

theorem Fr.trans {w w1 w2 : World} {S T : Nat → Prop} (h : Fr w w1 S) (k : Fr w1 w2 T) (hT : ∀ i, i < w.heap.size → T i → S i) : Fr w w2 S :=
  ⟨k.os.trans h.os, k.tape.trans h.tape, k.output.trans h.output, Nat.le_trans h.size k.size, fun i hi hn => (k.block i (Nat.lt_of_lt_of_le hi h.size) (fun ht => hn (hT i hi ht))).trans (h.block i hi hn)⟩

theorem Fr.of_grown {w w' : World} {o : Option Nat} {S : Nat → Prop} (h : w.grownBy w' o) (hS : ∀ k, o = some k → S k) : Fr w w' S :=
  ⟨h.os, h.tape, h.output, h.size, fun k hk hn => h.block k hk (fun e => hn (hS k e.symm))⟩

theorem Fr.of_below {w w' : World} {S : Nat → Prop} (h : Below w.heap.size w w') : Fr w w' S :=
  ⟨h.os, h.tape, h.output, h.size, fun k hk _ => h.block k hk⟩

theorem Fr.below {w w' : World} {S : Nat → Prop} {B : Nat} (h : Fr w w' S) (hB : B ≤ w.heap.size) (hS : ∀ k, S k → B ≤ k) : Below B w w' :=
  ⟨h.os, h.tape, h.output, h.size, fun k hk => h.block k (Nat.lt_of_lt_of_le hk hB) (fun hs => by have := hS k hs; omega)⟩

theorem Fr.mono {w w' : World} {S T : Nat → Prop} (h : Fr w w' S) (hT : ∀ k, S k → T k) : Fr w w' T :=
  ⟨h.os, h.tape, h.output, h.size, fun k hk hn => h.block k hk (fun hs => hn (hT k hs))⟩

theorem Fr.cell {w w' : World} {S : Nat → Prop} (h : Fr w w' S) {a : Addr} {v : Value} (hc : w.cell? a = some v) (hn : ¬ S a.block) : w'.cell? a = some v :=
  (World.cell?_of_block (h.block a.block (World.block_lt_of_cell? w a hc) hn)).trans hc

theorem Fr.frozen {w w' : World} {S : Nat → Prop} (h : Fr w w' S) {a : Addr} (hlt : a.block < w.heap.size) (hn : ¬ S a.block) : w'.frozen? a = w.frozen? a :=
  World.frozen?_of_block (h.block a.block hlt hn)

theorem Own.lt {w : World} {B : Nat} {v : Value} {bs : List UInt8} (h : Own w B v bs) {g : Nat} (hg : v.ownBlock = some g) : B ≤ g ∧ g < w.heap.size := World.ownsRow.lt h g hg

theorem Own.fr {w w' : World} {S : Nat → Prop} {B : Nat} {v : Value} {bs : List UInt8} (h : Own w B v bs) (hf : Fr w w' S) (hn : ∀ g, v.ownBlock = some g → ¬ S g) : Own w' B v bs := by
  refine ⟨h.1, ?_⟩
  rcases h.2 with h1 | ⟨g, cap, cur, hv, hb, hg, hr⟩
  · exact .inl h1
  · have hlt : g < w.heap.size := (Array.getElem?_eq_some_iff.1 hg).1
    exact .inr ⟨g, cap, cur, hv, hb, (hf.block g hlt (hn g (by rw [hv]; rfl))).trans hg, hr⟩

/-- A draw in block gd, its generator's Rand in block gr, its state s, its scratch buffer bv. -/
structure Dr (w : World) (gd gr : Nat) (s : Nat × Nat) (bv : Value) : Prop where
  gen : Gen w gr gd 5 s
  rnd : w.cell? ⟨gd, 7, none⟩ = some (.pointer (some ⟨gr, 0, none⟩))
  buf : w.cell? ⟨gd, 10, none⟩ = some bv
  fb : w.frozen? ⟨gd, 10, none⟩ = false

theorem Dr.lt {w : World} {gd gr : Nat} {s : Nat × Nat} {bv : Value} (h : Dr w gd gr s bv) : gd < w.heap.size ∧ gr < w.heap.size :=
  ⟨World.block_lt_of_cell? w _ h.rnd, World.block_lt_of_cell? w _ h.gen.src⟩

theorem Dr.fr {w w' : World} {S : Nat → Prop} {gd gr : Nat} {s : Nat × Nat} {bv : Value} (h : Dr w gd gr s bv) (hf : Fr w w' S) (h1 : ¬ S gd) (h2 : ¬ S gr) : Dr w' gd gr s bv :=
  ⟨⟨hf.cell h.gen.src h2, hf.cell h.gen.hi h1, hf.cell h.gen.lo h1, (hf.frozen (a := ⟨gd, 5, none⟩) h.lt.1 h1).trans h.gen.f0, (hf.frozen (a := ⟨gd, 5 + 1, none⟩) h.lt.1 h1).trans h.gen.f1, h.gen.ok, h.gen.ne⟩,
    hf.cell h.rnd h1, hf.cell h.buf h1, (hf.frozen (a := ⟨gd, 10, none⟩) h.lt.1 h1).trans h.fb⟩

theorem Dr.moved {w w' : World} {gd gr : Nat} {s t : Nat × Nat} {bv : Value} (h : Dr w gd gr s bv) (hm : Moved w w' gd 5 t) (ok : Ok t) : Dr w' gd gr t bv :=
  ⟨h.gen.step hm ok, (hm.other 7 (by decide) (by decide)).trans h.rnd, (hm.other 10 (by decide) (by decide)).trans h.buf, (hm.frozen 10).trans h.fb⟩

theorem Dr.stored {w : World} {gd gr : Nat} {s : Nat × Nat} {bv : Value} (h : Dr w gd gr s bv) (v : Value) : Dr (w.setCell ⟨gd, 10, none⟩ v) gd gr s v := by
  have n0 : (⟨gd, 10, none⟩ : Addr) ≠ ⟨gr, 0, none⟩ := by intro e; injection e with _ e _; cases e
  have n5 : (⟨gd, 10, none⟩ : Addr) ≠ ⟨gd, 5, none⟩ := by intro e; injection e with _ e _; cases e
  have n6 : (⟨gd, 10, none⟩ : Addr) ≠ ⟨gd, 5 + 1, none⟩ := by intro e; injection e with _ e _; cases e
  have n7 : (⟨gd, 10, none⟩ : Addr) ≠ ⟨gd, 7, none⟩ := by intro e; injection e with _ e _; cases e
  refine ⟨⟨?_, ?_, ?_, ?_, ?_, h.gen.ok, h.gen.ne⟩, ?_, ?_, ?_⟩
  · rw [World.cell?_setCell_other _ _ _ _ n0]; exact h.gen.src
  · rw [World.cell?_setCell_other _ _ _ _ n5]; exact h.gen.hi
  · rw [World.cell?_setCell_other _ _ _ _ n6]; exact h.gen.lo
  · rw [World.frozen?_setCell]; exact h.gen.f0
  · rw [World.frozen?_setCell]; exact h.gen.f1
  · rw [World.cell?_setCell_other _ _ _ _ n7]; exact h.rnd
  · exact World.cell?_setCell_same _ _ _ (u := bv) h.buf
  · rw [World.frozen?_setCell]; exact h.fb

/-! ### The bytes that a draw gives out -/
def data : Nat → Nat × Nat → List UInt8
  | 0, _ => []
  | k + 1, s => data k s ++ Lib.leBytes 8 (out (st (k + 1) s))

theorem data_length : ∀ k s, (data k s).length = 8 * k
  | 0, _ => rfl
  | k + 1, s => by rw [data, List.length_append, data_length k s, Lib.leBytes_length]; omega

end Go.Proofs.Qxb6612690a.Mem
