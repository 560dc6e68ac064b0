import Derived.Test.Qxb6612690aProg
import Derived.WalkKit
import Derived.WalkSpells
import Derived.Lib.AppendStr
import Derived.Deep.AppendLies
import Derived.Lib.Walk
import Derived.Lib.Endian
import Derived.Lib.EndianBits
import Derived.Lib.UnsafeStr
namespace Go.Proofs.Qxb6612690a.App
open Go.RowKit Go.Lib

/-- Appending a string's bytes onto an owned row: where the new slice lies. -/
theorem run_append_string_lies {P : Program} (w : World) (base : Nat) (t u ty e : TypeId) (i : TypeInfo) (ht : P.underlying t = some (.slice e)) (hu : P.underlying u = some .string) (hi : P.info? e = some i) (hz : i.zero = some (.int .u8 0))
    (hsize : i.size = 1) (hby : i.bytes = 1)
    (v : Value) (n : Nat) (xs : List Value) (hown : w.ownsRow base e 1 v n xs) (s : ByteArray) (hpos : 0 < n + s.size)
    (h63 : n + s.size ≤ maxLen) (hbytes : n + s.size ≤ 140737488355328) (hbase : base ≤ w.heap.size) :
    ∃ g cap w', (Builtin.append_ #[t, u] ty #[v, .string s]).run P w = .ok (.slice (some ⟨g, 0, none⟩) (n + s.size) cap) w' ∧ w'.ownsRow base e 1 (.slice (some ⟨g, 0, none⟩) (n + s.size) cap) (n + s.size) (xs ++ strCells s) ∧
      w.grownBy w' v.ownBlock ∧ (v.ownBlock = some g ∨ w.heap.size ≤ g) ∧ g < w'.heap.size := by
  obtain ⟨v', w', hr, h2, h3, _⟩ := run_append_own_string (P := P) w base t u ty e i ht hu hi hz hsize hby v n xs hown s h63 hbytes hbase
  obtain ⟨g, cap, rfl, _, hlt⟩ := h2.form hpos
  refine ⟨g, cap, w', hr, h2, h3, ?_, hlt⟩
  rcases hown.2 with ⟨rfl, rfl⟩ | ⟨g0, cap0, cur, rfl, hbg, hg, hnc, hcm, hcs, htake⟩
  · obtain rfl : xs = [] := List.eq_nil_of_length_eq_zero (by simpa using hown.1)
    obtain ⟨v2, w2, hr2, k2, _, _⟩ := run_append_own_string (P := P) w w.heap.size t u ty e i ht hu hi hz hsize hby _ 0 [] (World.ownsRow_nil w w.heap.size e 1) s h63 hbytes (Nat.le_refl _)
    rw [hr] at hr2
    injection hr2 with e1 e2
    subst e1
    obtain ⟨g2, c2, hv2, hle, _⟩ := k2.form hpos
    injection hv2 with ea _ _
    injection ea with ea
    injection ea with eb
    exact .inr (by omega)
  · by_cases hroom : n + s.size ≤ cap0
    · have hr2 := run_append_room_string (P := P) w t u ty e i ht hu hi hsize g0 n cap0 cur hg s hroom (by omega)
      rw [hr] at hr2
      injection hr2 with e1 e2
      injection e1 with ea _ _
      injection ea with ea
      injection ea with eb
      exact .inl (by simp [Value.ownBlock, eb])
    · have hxl : xs.length = n := by simpa using hown.1
      have holds : ∀ j u, xs[j]? = some u → w.cell? ((⟨g0, 0, none⟩ : Addr).add j) = some u := hown.cells (g := g0) rfl
      have hr2 := run_append_grow_string (P := P) w t u ty e i (.int .u8 0) ht hu hi hz ⟨g0, 0, none⟩ n cap0 xs (by rw [hsize]; simpa using hxl) holds s (by omega) (by simp only [maxLen] at h63; omega) (by rw [hby]; exact growslice_fits (by omega) (by omega))
      rw [hr] at hr2
      injection hr2 with e1 e2
      injection e1 with ea _ _
      injection ea with ea
      injection ea with eb
      exact .inr (by omega)

theorem wpList_append_string_lies {P : Program} (w : World) {ops : Array Oper} {rest : List Oper} {o : Oper} {a : Act} {Q : Exit → Act → World → Prop} (hgd : o.guard = none) (sl x : Operand) (t u : TypeId)
    (ho : o.op = .call { callee := .builtin .append, args := #[sl, x], argTypes := #[t, u] })
    (base : Nat) (e : TypeId) (i : TypeInfo) (ht : P.underlying t = some (.slice e)) (hu : P.underlying u = some .string) (hi : P.info? e = some i) (hz : i.zero = some (.int .u8 0))
    (hsize : i.size = 1) (hby : i.bytes = 1)
    (v : Value) (n : Nat) (xs : List Value) (hs : a.eval sl = v) (hown : w.ownsRow base e 1 v n xs) (s : ByteArray) (hx : a.eval x = .string s) (hpos : 0 < n + s.size)
    (h63 : n + s.size ≤ maxLen) (hbytes : n + s.size ≤ 140737488355328) (hbase : base ≤ w.heap.size)
    (h : ∀ g cap w', w'.ownsRow base e 1 (.slice (some ⟨g, 0, none⟩) (n + s.size) cap) (n + s.size) (xs ++ strCells s) → w.grownBy w' v.ownBlock → (v.ownBlock = some g ∨ w.heap.size ≤ g) → g < w'.heap.size → wpList P ops Q rest (a.put o.dst (.slice (some ⟨g, 0, none⟩) (n + s.size) cap)) w') : wpList P ops Q (o :: rest) a w := by
  refine wpList_plain hgd fun K hK => ?_
  obtain ⟨g, cap, w', hr, h2, h3, h4, h5⟩ := run_append_string_lies (P := P) w base t u o.type e i ht hu hi hz hsize hby v n xs hown s hpos h63 hbytes hbase
  unfold Oper.wp execOp
  simp only [ho, resolve, invoke, builtin, Sem.run_bind, Sem.run_pure, Result.andThen_ok, List.map_toArray, List.map_cons, List.map_nil, hs, hx, hr]
  exact hK _ _ (h g cap w' h2 h3 h4 h5)

theorem info5 : (Try.prog.info? 5).map (fun i => (i.zero, i.size, i.bytes)) = some (some (.int .u8 0), 1, 1) := by kernel_rfl

theorem one_cells {k : IntKind} {z : Int} : ∀ u ∈ [Value.int k z], u.oneCell' = true := by
  intro u hu
  simp at hu
  subst hu
  rfl

/-- What a call leaves that appends onto an owned row: only that row's block and new blocks have turned; the new row lies in the old one's block or in a new one. -/
structure Put (w w' : World) (o o' : Option Nat) : Prop where
  grow : w.grownBy w' o
  lies : ∀ g, o' = some g → o = some g ∨ w.heap.size ≤ g

theorem Put.refl (w : World) (o : Option Nat) : Put w w o o := ⟨⟨rfl, rfl, rfl, Nat.le_refl _, fun _ _ _ => rfl⟩, fun _ h => .inl h⟩

theorem Put.trans {w w1 w2 : World} {o o1 o2 : Option Nat} (h : Put w w1 o o1) (k : Put w1 w2 o1 o2) : Put w w2 o o2 := by
  refine ⟨⟨k.grow.os.trans h.grow.os, k.grow.tape.trans h.grow.tape, k.grow.output.trans h.grow.output, Nat.le_trans h.grow.size k.grow.size, fun i hi hne => ?_⟩, fun g hg => ?_⟩
  · have hi1 := Nat.lt_of_lt_of_le hi h.grow.size
    refine (k.grow.block i hi1 (fun e => ?_)).trans (h.grow.block i hi hne)
    rcases h.lies i e.symm with h1 | h1
    · exact hne h1.symm
    · omega
  · rcases k.lies g hg with h1 | h1
    · exact h.lies g h1
    · exact .inr (Nat.le_trans h.grow.size h1)

theorem Put.alloc (w : World) (x : Obj) (o : Option Nat) : Put w (w.alloc x) o o := ⟨World.grownBy_alloc w x o, fun _ h => .inl h⟩

theorem Put.mk1 {w w' : World} {o : Option Nat} {g H : Nat} (hg : w.grownBy w' o) (hat : o = some g ∨ g = H) (hH : w.heap.size = H) : Put w w' o (some g) :=
  ⟨hg, fun k hk => by injection hk with hk; subst hk; exact hat.imp id (fun e => by omega)⟩

theorem Put.mk2 {w w' : World} {o : Option Nat} {g : Nat} (hg : w.grownBy w' o) (hat : o = some g ∨ w.heap.size ≤ g) : Put w w' o (some g) :=
  ⟨hg, fun k hk => by injection hk with hk; subst hk; exact hat⟩

-- bson.appendKey onto a row that the call owns.
set_option maxHeartbeats 400000 in
theorem appendKey_own (B n : Nat) (t : Int) (key : ByteArray) (sv : Value) (xs : List Value) (w : World) (hown : w.ownsRow B 5 1 sv n xs) (hB : B ≤ w.heap.size) (hlim : n + key.size + 2 ≤ 140737488355328) :
    Calls Try.prog 28 #[sv, .int .u8 t, .string key] w fun e w' => ∃ g cap, e = .returned (.slice (some ⟨g, 0, none⟩) (n + 1 + key.size + 1) cap) ∧
      w'.ownsRow B 5 1 (.slice (some ⟨g, 0, none⟩) (n + 1 + key.size + 1) cap) (n + 1 + key.size + 1) (xs ++ [.int .u8 t] ++ strCells key ++ [.int .u8 0]) ∧
      Put w w' sv.ownBlock (some g) ∧ g < w'.heap.size := by
  obtain ⟨i0, hi, hz0, hz1, hz2⟩ := info_parts info5
  go_enter Try.func28, Try.ntmps28
  go_wp2_with (first
    | (at_builtin; refine wpList_append_lies _ rfl (.tmp 7) (.tmp 9) 26 rfl B 5 i0 (.int .u8 0) 1 1 Try.underlying26 hi hz0 hz1 hz2 rfl (by decide) _ _ _ rfl (hown.alloc _) ⟨w.heap.size, 0, none⟩ 1 1 [.int .u8 t] rfl rfl (cell_one_new _ _ _) one_cells (by decide) (by unfold maxLen; omega) (by omega) (by simp; omega) _ rfl ?_; intro g1 c1 w1 hown1 hgrow1 hat1 hlt1)
    | (at_builtin; refine wpList_append_string_lies _ rfl (.tmp 11) (.tmp 12) 26 9 rfl B 5 i0 Try.underlying26 Try.underlying9 hi hz0 hz1 hz2 _ _ _ rfl hown1 key rfl (by omega) (by unfold maxLen; omega) (by omega) (by have := hgrow1.size; simp at this; omega) ?_; intro g2 c2 w2 hown2 hgrow2 hat2 hlt2)
    | (at_builtin; refine wpList_append_lies _ rfl (.tmp 14) (.tmp 15) 26 rfl B 5 i0 (.int .u8 0) 1 1 Try.underlying26 hi hz0 hz1 hz2 rfl (by decide) _ _ _ rfl (hown2.alloc _) ⟨w2.heap.size, 0, none⟩ 1 1 [.int .u8 0] rfl rfl (cell_one_new _ _ _) one_cells (by decide) (by unfold maxLen; omega) (by omega) (by have := hgrow1.size; have := hgrow2.size; simp at *; omega) _ rfl ?_; intro g3 c3 w3 hown3 hgrow3 hat3 hlt3))
  go_ret
  exact ⟨g3, c3, rfl, hown3, (((Put.alloc w _ _).trans (Put.mk1 hgrow1 hat1 rfl)).trans (Put.mk2 hgrow2 hat2)).trans ((Put.alloc w2 _ _).trans (Put.mk1 hgrow3 hat3 rfl)), hlt3⟩

theorem cells8 (v : Nat) (hv : v < 18446744073709551616) : Lib.byteCells (Lib.leBytes 8 v) = [Value.int .u8 ((v : Int) % 256), Value.int .u8 ((v : Int) / 256 % 256), Value.int .u8 ((v : Int) / 65536 % 256), Value.int .u8 ((v : Int) / 16777216 % 256), Value.int .u8 ((v : Int) / 4294967296 % 256), Value.int .u8 ((v : Int) / 1099511627776 % 256), Value.int .u8 ((v : Int) / 281474976710656 % 256), Value.int .u8 ((v : Int) / 72057594037927936)] := by
  have e0 : ((v % 256 : Nat) : Int) = (v : Int) % 256 := by omega
  have e1 : ((v / 256 % 256 : Nat) : Int) = (v : Int) / 256 % 256 := by omega
  have e2 : ((v / 256 / 256 % 256 : Nat) : Int) = (v : Int) / 65536 % 256 := by omega
  have e3 : ((v / 256 / 256 / 256 % 256 : Nat) : Int) = (v : Int) / 16777216 % 256 := by omega
  have e4 : ((v / 256 / 256 / 256 / 256 % 256 : Nat) : Int) = (v : Int) / 4294967296 % 256 := by omega
  have e5 : ((v / 256 / 256 / 256 / 256 / 256 % 256 : Nat) : Int) = (v : Int) / 1099511627776 % 256 := by omega
  have e6 : ((v / 256 / 256 / 256 / 256 / 256 / 256 % 256 : Nat) : Int) = (v : Int) / 281474976710656 % 256 := by omega
  have e7 : ((v / 256 / 256 / 256 / 256 / 256 / 256 / 256 % 256 : Nat) : Int) = (v : Int) / 72057594037927936 := by omega
  simp only [Lib.byteCells, Lib.leBytes, List.map, Lib.toUInt8_mod, e0, e1, e2, e3, e4, e5, e6, e7]

theorem cells4 (v : Nat) (hv : v < 4294967296) : Lib.byteCells (Lib.leBytes 4 v) = [Value.int .u8 ((v : Int) % 256), Value.int .u8 ((v : Int) / 256 % 256), Value.int .u8 ((v : Int) / 65536 % 256), Value.int .u8 ((v : Int) / 16777216)] := by
  have e0 : ((v % 256 : Nat) : Int) = (v : Int) % 256 := by omega
  have e1 : ((v / 256 % 256 : Nat) : Int) = (v : Int) / 256 % 256 := by omega
  have e2 : ((v / 256 / 256 % 256 : Nat) : Int) = (v : Int) / 65536 % 256 := by omega
  have e3 : ((v / 256 / 256 / 256 % 256 : Nat) : Int) = (v : Int) / 16777216 := by omega
  simp only [Lib.byteCells, Lib.leBytes, List.map, Lib.toUInt8_mod, e0, e1, e2, e3]

set_option maxHeartbeats 1000000 in
set_option maxRecDepth 100000 in
theorem appendU64_own (B n v : Nat) (hv : v < 18446744073709551616) (sv : Value) (xs : List Value) (w : World) (hown : w.ownsRow B 5 1 sv n xs) (hB : B ≤ w.heap.size) (hlim : n + 8 ≤ 140737488355328) :
    Calls Try.prog 29 #[.agg #[], sv, .int .u64 v] w fun e w' => ∃ g cap, e = .returned (.slice (some ⟨g, 0, none⟩) (n + 8) cap) ∧
      w'.ownsRow B 5 1 (.slice (some ⟨g, 0, none⟩) (n + 8) cap) (n + 8) (xs ++ Lib.byteCells (Lib.leBytes 8 v)) ∧
      Put w w' sv.ownBlock (some g) ∧ g < w'.heap.size := by
  obtain ⟨i0, hi, hz0, hz1, hz2⟩ := info_parts info5
  have hb := cells8 v hv
  go_enter Try.func29, Try.ntmps29
  go_wp2_with (at_builtin; refine wpList_append_lies _ rfl _ _ 26 rfl B 5 i0 (.int .u8 0) 1 1 Try.underlying26 hi hz0 hz1 hz2 rfl (by decide) _ _ _ rfl ((hown.alloc _).alloc _) _ 8 8 [Value.int .u8 ((v : Int) % 256), Value.int .u8 ((v : Int) / 256 % 256), Value.int .u8 ((v : Int) / 65536 % 256), Value.int .u8 ((v : Int) / 16777216 % 256), Value.int .u8 ((v : Int) / 4294967296 % 256), Value.int .u8 ((v : Int) / 1099511627776 % 256), Value.int .u8 ((v : Int) / 281474976710656 % 256), Value.int .u8 ((v : Int) / 72057594037927936)] rfl rfl ?c1 ?c2 (by decide) ?c3 ?c4 ?c5 _ rfl ?_)
  case c1 =>
    intro j u hj
    match j, hj with
    | 0, hj => simp at hj; subst hj; simp [Addr.add]
    | 1, hj => simp at hj; subst hj; simp [Addr.add]
    | 2, hj => simp at hj; subst hj; simp [Addr.add]
    | 3, hj => simp at hj; subst hj; simp [Addr.add]
    | 4, hj => simp at hj; subst hj; simp [Addr.add]
    | 5, hj => simp at hj; subst hj; simp [Addr.add]
    | 6, hj => simp at hj; subst hj; simp [Addr.add]
    | 7, hj => simp at hj; subst hj; simp [Addr.add]
  case c2 => intro u hu; simp at hu; rcases hu with rfl | rfl | rfl | rfl | rfl | rfl | rfl | rfl <;> rfl
  case c3 => unfold maxLen; omega
  case c4 => omega
  case c5 => simp; omega
  intro g cap w2 hown' hgrow hat hlt
  go_wp2
  go_ret
  exact ⟨g, cap, rfl, by rw [hb]; exact hown', ((Put.alloc w _ _).trans (Put.alloc _ _ _)).trans (Put.mk1 hgrow hat (by simp)), hlt⟩

set_option maxHeartbeats 1000000 in
set_option maxRecDepth 100000 in
theorem appendU32_own (B n v : Nat) (hv : v < 4294967296) (sv : Value) (xs : List Value) (w : World) (hown : w.ownsRow B 5 1 sv n xs) (hB : B ≤ w.heap.size) (hlim : n + 4 ≤ 140737488355328) :
    Calls Try.prog 30 #[.agg #[], sv, .int .u32 v] w fun e w' => ∃ g cap, e = .returned (.slice (some ⟨g, 0, none⟩) (n + 4) cap) ∧
      w'.ownsRow B 5 1 (.slice (some ⟨g, 0, none⟩) (n + 4) cap) (n + 4) (xs ++ Lib.byteCells (Lib.leBytes 4 v)) ∧
      Put w w' sv.ownBlock (some g) ∧ g < w'.heap.size := by
  obtain ⟨i0, hi, hz0, hz1, hz2⟩ := info_parts info5
  have hb := cells4 v hv
  go_enter Try.func30, Try.ntmps30
  go_wp2_with (at_builtin; refine wpList_append_lies _ rfl _ _ 26 rfl B 5 i0 (.int .u8 0) 1 1 Try.underlying26 hi hz0 hz1 hz2 rfl (by decide) _ _ _ rfl ((hown.alloc _).alloc _) _ 4 4 [Value.int .u8 ((v : Int) % 256), Value.int .u8 ((v : Int) / 256 % 256), Value.int .u8 ((v : Int) / 65536 % 256), Value.int .u8 ((v : Int) / 16777216)] rfl rfl ?c1 ?c2 (by decide) ?c3 ?c4 ?c5 _ rfl ?_)
  case c1 =>
    intro j u hj
    match j, hj with
    | 0, hj => simp at hj; subst hj; simp [Addr.add]
    | 1, hj => simp at hj; subst hj; simp [Addr.add]
    | 2, hj => simp at hj; subst hj; simp [Addr.add]
    | 3, hj => simp at hj; subst hj; simp [Addr.add]
  case c2 => intro u hu; simp at hu; rcases hu with rfl | rfl | rfl | rfl <;> rfl
  case c3 => unfold maxLen; omega
  case c4 => omega
  case c5 => simp; omega
  intro g cap w2 hown' hgrow hat hlt
  go_wp2
  go_ret
  exact ⟨g, cap, rfl, by rw [hb]; exact hown', ((Put.alloc w _ _).trans (Put.alloc _ _ _)).trans (Put.mk1 hgrow hat (by simp)), hlt⟩

end Go.Proofs.Qxb6612690a.App
