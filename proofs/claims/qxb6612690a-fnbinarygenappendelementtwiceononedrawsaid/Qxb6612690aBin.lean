import Derived.Test.Qxb6612690aApp
import Derived.Deep.Upon
namespace Go.Proofs.Qxb6612690a.Bin
open Go.RowKit Go.Lib Go.Proofs.Qxb6612690a.App

/-- A slice's first bytes, wherever they lie. -/
structure Rd (w : World) (a : Option Addr) (bs : List UInt8) : Prop where
  bytes : bs ≠ [] → ∃ b o, a = some ⟨b, o, none⟩ ∧ ∀ j u, (Lib.byteCells bs)[j]? = some u → w.cell? ⟨b, o + j, none⟩ = some u

theorem wpList_append_nothing {P : Program} (w : World) {ops : Array Oper} {rest : List Oper} {o : Oper} {a : Act} {Q : Exit → Act → World → Prop} (hgd : o.guard = none) (sl x : Operand) (t : TypeId)
    (ho : o.op = .call { callee := .builtin .append, args := #[sl, x], argTypes := #[t, t] })
    (e : TypeId) (i : TypeInfo) (ht : P.underlying t = some (.slice e)) (hi : P.info? e = some i)
    (base b2 : Option Addr) (sLen sCap c2 : Nat) (hle : sLen ≤ sCap) (hs : a.eval sl = .slice base sLen sCap) (hx : a.eval x = .slice b2 0 c2)
    (h : wpList P ops Q rest (a.put o.dst (.slice base sLen sCap)) w) : wpList P ops Q (o :: rest) a w := by
  refine wpList_plain hgd fun K hK => ?_
  have hsrc : Src P i.size t (.slice b2 0 c2) 0 [] w := by
    cases b2 with
    | none => exact Src.ofNil w ht c2
    | some ad => exact Src.ofSlice w ht ad 0 c2 [] (by simp) (fun j u hj => by simp at hj) (fun u hu => by cases hu)
  have hr := run_append_nothing (P := P) w t t o.type e i ht hi base sLen sCap hle (.slice b2 0 c2) hsrc
  unfold Oper.wp execOp
  simp only [ho, resolve, invoke, builtin, Sem.run_bind, Sem.run_pure, Result.andThen_ok, List.map_toArray, List.map_cons, List.map_nil, hs, hx, hr]
  exact hK _ _ h

theorem bytes_one (l : List UInt8) : ∀ u ∈ Lib.byteCells l, u.oneCell' = true := by
  intro u hu
  unfold Lib.byteCells at hu
  obtain ⟨b, _, rfl⟩ := List.mem_map.1 hu
  rfl

theorem bytes_length (l : List UInt8) : (Lib.byteCells l).length = l.length := by unfold Lib.byteCells; simp

/-- Bytes that lie in another block than the row that is appended to are as they were. -/
theorem Rd.put {w w' : World} {o o' : Option Nat} {a : Option Addr} {bs : List UInt8} (h : Rd w a bs) (hp : Put w w' o o') (hap : ∀ ad, a = some ad → o ≠ some ad.block) : Rd w' a bs := by
  refine ⟨fun hne => ?_⟩
  obtain ⟨b, of, rfl, hc⟩ := h.bytes hne
  exact ⟨b, of, rfl, fun j u hj => hp.grow.cell (hc j u hj) (fun e => hap _ rfl e.symm)⟩

/-- What lies apart from the old row lies apart from the new one. -/
theorem apart_put {w w' : World} {o o' : Option Nat} {a : Option Addr} {bs : List UInt8} (h : Rd w a bs) (hne : bs ≠ []) (hp : Put w w' o o') (hap : ∀ ad, a = some ad → o ≠ some ad.block) : ∀ ad, a = some ad → o' ≠ some ad.block := by
  intro ad had e
  obtain ⟨b, of, hb, hc⟩ := h.bytes hne
  have hlen : 0 < (Lib.byteCells bs).length := by rw [bytes_length]; exact List.length_pos_iff.2 hne
  have hlt : b < w.heap.size := World.block_lt_of_cell? w ⟨b, of + 0, none⟩ (hc 0 _ (List.getElem?_eq_getElem hlen))
  rcases hp.lies _ e with h1 | h1
  · exact hap ad had h1
  · rw [had] at hb
    injection hb with hb
    rw [hb] at h1
    exact absurd hlt (Nat.not_lt.2 h1)

set_option maxHeartbeats 1000000 in
theorem appendBinary_nil (B n : Nat) (key : ByteArray) (sv : Value) (xs : List Value) (a : Option Addr) (c : Nat) (w : World) (hown : w.ownsRow B 5 1 sv n xs) (hB : B ≤ w.heap.size) (hlim : n + key.size ≤ 16777216) :
    Calls Try.prog 39 #[sv, .string key, .int .u8 0, .slice a 0 c] w fun e w' => ∃ g cap, e = .returned (.slice (some ⟨g, 0, none⟩) (n + 1 + key.size + 1 + 4 + 1) cap) ∧
      w'.ownsRow B 5 1 (.slice (some ⟨g, 0, none⟩) (n + 1 + key.size + 1 + 4 + 1) cap) (n + 1 + key.size + 1 + 4 + 1) (xs ++ [.int .u8 5] ++ strCells key ++ [.int .u8 0] ++ Lib.byteCells (Lib.leBytes 4 0) ++ [.int .u8 0]) ∧
      Put w w' sv.ownBlock (some g) ∧ g < w'.heap.size := by
  obtain ⟨i0, hi, hz0, hz1, hz2⟩ := info_parts info5
  go_enter Try.func39, Try.ntmps39
  go_wp2_with fail
  refine (appendKey_own B n 5 key sv xs w hown hB (by omega)).mono ?_
  rintro e w1 ⟨g1, c1, rfl, hown1, hput1, hlt1⟩
  go_wp2_with fail
  have s1 := hput1.grow.size
  refine (appendU32_own B _ 0 (by decide) _ _ w1 hown1 (by omega) (by omega)).mono ?_
  rintro e w2 ⟨g2, c2, rfl, hown2, hput2, hlt2⟩
  have s2 := hput2.grow.size
  go_wp2_with (first
    | (at_builtin; refine wpList_append_lies _ rfl (.tmp 37) (.tmp 39) 26 rfl B 5 i0 (.int .u8 0) 1 1 Try.underlying26 hi hz0 hz1 hz2 rfl (by decide) _ _ _ rfl (hown2.alloc _) ⟨w2.heap.size, 0, none⟩ 1 1 [.int .u8 0] rfl rfl (cell_one_new _ _ _) one_cells (by decide) (by unfold maxLen; omega) (by omega) (by simp; omega) _ rfl ?_; intro g3 c3 w3 hown3 hgrow3 hat3 hlt3)
    | (at_builtin; refine wpList_append_nothing _ rfl (.tmp 41) (.tmp 42) 26 rfl 5 i0 Try.underlying26 hi _ _ _ _ _ ?_ rfl rfl ?_; (rcases hown3.2 with ⟨h, _⟩ | ⟨_, _, _, h, _, _, hle, _⟩; (cases h); (cases h; exact hle))))
  go_ret
  exact ⟨g3, c3, rfl, hown3, (hput1.trans hput2).trans ((Put.alloc w2 _ _).trans (Put.mk1 hgrow3 hat3 rfl)), hlt3⟩

set_option maxHeartbeats 1000000 in
theorem appendBinary_pos (B n m : Nat) (key : ByteArray) (sv : Value) (xs : List Value) (b o : Nat) (c : Nat) (bs : List UInt8) (w : World) (hown : w.ownsRow B 5 1 sv n xs) (hB : B ≤ w.heap.size) (hlim : n + key.size + m ≤ 16777216)
    (hm : bs.length = m) (h0 : 0 < m) (hrd : ∀ j u, (Lib.byteCells bs)[j]? = some u → w.cell? ⟨b, o + j, none⟩ = some u) (hap : sv.ownBlock ≠ some b) :
    Calls Try.prog 39 #[sv, .string key, .int .u8 0, .slice (some ⟨b, o, none⟩) m c] w fun e w' => ∃ g cap, e = .returned (.slice (some ⟨g, 0, none⟩) (n + 1 + key.size + 1 + 4 + 1 + m) cap) ∧
      w'.ownsRow B 5 1 (.slice (some ⟨g, 0, none⟩) (n + 1 + key.size + 1 + 4 + 1 + m) cap) (n + 1 + key.size + 1 + 4 + 1 + m) (xs ++ [.int .u8 5] ++ strCells key ++ [.int .u8 0] ++ Lib.byteCells (Lib.leBytes 4 m) ++ [.int .u8 0] ++ Lib.byteCells bs) ∧
      Put w w' sv.ownBlock (some g) ∧ g < w'.heap.size := by
  obtain ⟨i0, hi, hz0, hz1, hz2⟩ := info_parts info5
  have R0 : Rd w (some ⟨b, o, none⟩) bs := ⟨fun _ => ⟨b, o, rfl, hrd⟩⟩
  have hne : bs ≠ [] := by intro e; rw [e] at hm; simp at hm; omega
  have A0 : ∀ ad, some (⟨b, o, none⟩ : Addr) = some ad → sv.ownBlock ≠ some ad.block := fun ad h => by injection h with h; subst h; exact hap
  have HM : Hid (bs.length = m) := hm
  clear hm hrd hap
  go_enter Try.func39, Try.ntmps39
  go_wp2_with fail
  refine (appendKey_own B n 5 key sv xs w hown hB (by omega)).mono ?_
  rintro e w1 ⟨g1, c1, rfl, hown1, hput1, hlt1⟩
  have s1 := hput1.grow.size
  go_wp2_with fail
  refine (appendU32_own B _ m (by omega) _ _ w1 hown1 (by omega) (by omega)).mono ?_
  rintro e w2 ⟨g2, c2, rfl, hown2, hput2, hlt2⟩
  have s2 := hput2.grow.size
  have hp := hput1.trans hput2
  go_wp2_with (first
    | (at_builtin; refine wpList_append_lies _ rfl (.tmp 37) (.tmp 39) 26 rfl B 5 i0 (.int .u8 0) 1 1 Try.underlying26 hi hz0 hz1 hz2 rfl (by decide) _ _ _ rfl (hown2.alloc _) ⟨w2.heap.size, 0, none⟩ 1 1 [.int .u8 0] rfl rfl (cell_one_new _ _ _) one_cells (by decide) (by unfold maxLen; omega) (by omega) (by simp; omega) _ rfl ?_; intro g3 c3 w3 hown3 hgrow3 hat3 hlt3)
    | (at_builtin; refine wpList_append_lies _ rfl (.tmp 41) (.tmp 42) 26 rfl B 5 i0 (.int .u8 0) 1 1 Try.underlying26 hi hz0 hz1 hz2 rfl (by decide) _ _ _ rfl hown3 ⟨b, o, none⟩ m c (Lib.byteCells bs) rfl ?c1 ?c2 (bytes_one bs) h0 (by unfold maxLen; omega) (by omega) (by have := hgrow3.size; simp at this; omega) _ rfl ?_))
  case c1 => rw [bytes_length, HM.out, Nat.mul_one]
  case c2 =>
    have hp3 := hp.trans ((Put.alloc w2 (.cells #[.int .u8 0] 5) _).trans (Put.mk1 hgrow3 hat3 rfl))
    obtain ⟨b', o', he, hc⟩ := (R0.put hp3 A0).bytes hne
    injection he with he
    injection he with e1 e2 _
    subst e1
    subst e2
    intro j u hj
    rw [Addr.add_lit]
    exact hc j u hj
  intro g4 c4 w4 hown4 hgrow4 hat4 hlt4
  go_wp2
  go_ret
  exact ⟨g4, c4, rfl, by simpa using hown4, (hp.trans ((Put.alloc w2 _ _).trans (Put.mk1 hgrow3 hat3 rfl))).trans (Put.mk1 hgrow4 hat4 rfl), hlt4⟩

/-- One generic binary element. -/
def elemB (key data : List UInt8) : List UInt8 := [5] ++ key ++ [0] ++ Lib.leBytes 4 data.length ++ [0] ++ data

theorem elemB_length (key data : List UInt8) : (elemB key data).length = key.length + data.length + 7 := by
  unfold elemB
  simp [Lib.leBytes_length]
  omega

theorem cells_elem (bs : List UInt8) (key : ByteArray) (data : List UInt8) :
    Lib.byteCells bs ++ [.int .u8 5] ++ strCells key ++ [.int .u8 0] ++ Lib.byteCells (Lib.leBytes 4 data.length) ++ [.int .u8 0] ++ Lib.byteCells data = Lib.byteCells (bs ++ elemB key.data.toList data) := by
  unfold elemB Lib.byteCells strCells
  simp

theorem data_length (key : ByteArray) : key.data.toList.length = key.size := by rw [Array.length_toList]; rfl

/-- A slice owns these bytes. -/
def Own (w : World) (B : Nat) (v : Value) (bs : List UInt8) : Prop := w.ownsRow B 5 1 v bs.length (Lib.byteCells bs)

theorem appendBinary (B : Nat) (key : ByteArray) (sv : Value) (bs : List UInt8) (a : Option Addr) (c : Nat) (data : List UInt8) (w : World) (hown : Own w B sv bs) (hB : B ≤ w.heap.size) (hlim : bs.length + key.size + data.length ≤ 16777216)
    (hrd : Rd w a data) (hap : ∀ ad, a = some ad → sv.ownBlock ≠ some ad.block) :
    Calls Try.prog 39 #[sv, .string key, .int .u8 0, .slice a data.length c] w fun e w' => ∃ g cap, e = .returned (.slice (some ⟨g, 0, none⟩) (bs ++ elemB key.data.toList data).length cap) ∧
      Own w' B (.slice (some ⟨g, 0, none⟩) (bs ++ elemB key.data.toList data).length cap) (bs ++ elemB key.data.toList data) ∧ Put w w' sv.ownBlock (some g) ∧ g < w'.heap.size := by
  have hL : (bs ++ elemB key.data.toList data).length = bs.length + 1 + key.size + 1 + 4 + 1 + data.length := by
    rw [List.length_append, elemB_length, data_length]
    omega
  unfold Own
  rw [hL]
  by_cases h0 : data = []
  · subst h0
    refine (appendBinary_nil B bs.length key sv (Lib.byteCells bs) a c w hown hB (by simp at hlim; omega)).mono ?_
    rintro e w' ⟨g, cap, rfl, h1, h2, h3⟩
    have e1 := cells_elem bs key []
    simp only [List.length_nil, show Lib.byteCells [] = [] from rfl, List.append_nil] at e1
    rw [e1] at h1
    exact ⟨g, cap, rfl, h1, h2, h3⟩
  · obtain ⟨b, o, rfl, hc⟩ := hrd.bytes h0
    refine (appendBinary_pos B bs.length data.length key sv (Lib.byteCells bs) b o c data w hown hB hlim rfl (List.length_pos_iff.2 h0) hc (hap _ rfl)).mono ?_
    rintro e w' ⟨g, cap, rfl, h1, h2, h3⟩
    rw [cells_elem bs key data] at h1
    exact ⟨g, cap, rfl, h1, h2, h3⟩

end Go.Proofs.Qxb6612690a.Bin
