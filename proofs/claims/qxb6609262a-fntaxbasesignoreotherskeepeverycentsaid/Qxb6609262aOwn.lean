import Derived.Test.Qxb6609262aIdx
import Derived.Test.Qxb6609262aPlain
namespace Go.Proofs.Qxb6609262a.Own
open Go.RowKit Go.Proofs.Qxb6609262a.Sum Go.Proofs.Qxb6609262a.Bal Go.Proofs.Qxb6609262a.In Go.Proofs.Qxb6609262a.Keys Go.Proofs.Qxb6609262a.Plain Go.Proofs.Qxb6609262a.Idx

/-! ### The bases as a row of the call's own -/
def tbc (b : TB) : List Value := [ptr b.key, .string b.cur, .int .i64 b.line, .int .i64 (hiOf b.deb), .int .u64 (loOf b.deb), .int .i64 (hiOf b.cre), .int .u64 (loOf b.cre)]
def flat (bs : List TB) : List Value := bs.flatMap tbc

theorem flat_nil : flat [] = [] := rfl
theorem flat_cons (b : TB) (bs : List TB) : flat (b :: bs) = tbc b ++ flat bs := rfl
theorem flat_app (bs cs : List TB) : flat (bs ++ cs) = flat bs ++ flat cs := List.flatMap_append ..
theorem flat_one (b : TB) : flat [b] = tbc b := by simp [flat]
theorem flat_len : ∀ bs : List TB, (flat bs).length = bs.length * 7
  | [] => rfl
  | b :: bs => by rw [flat_cons, List.length_append, flat_len bs, List.length_cons]; simp [tbc]; omega

theorem flat_get : ∀ (bs : List TB) (j k : Nat) (_ : k < 7) (hj : j < bs.length), (flat bs)[j * 7 + k]? = (tbc bs[j])[k]?
  | [], j, k, _, hj => absurd hj (Nat.not_lt_zero _)
  | b :: bs, 0, k, hk, _ => by
    rw [flat_cons, List.getElem?_append_left (by simp [tbc]; omega), Nat.zero_mul, Nat.zero_add]
    rfl
  | b :: bs, j + 1, k, hk, hj => by
    rw [flat_cons, List.getElem?_append_right (by simp [tbc]; omega), show (j + 1) * 7 + k - (tbc b).length = j * 7 + k from by simp [tbc]; omega, flat_get bs j k hk (by simpa using hj)]
    rfl

theorem set_right {α : Type} (a b : List α) (k : Nat) (v : α) (n : Nat) (h : a.length = n) : (a ++ b).set (n + k) v = a ++ b.set k v := by
  subst h
  rw [List.set_append, if_neg (by omega), Nat.add_sub_cancel_left]

theorem flat_set : ∀ (bs : List TB) (j : Nat) (hj : j < bs.length) (x : TB), ((((flat bs).set (j * 7 + 3 + 1) (.int .u64 (loOf (bs[j].deb + x.deb)))).set (j * 7 + 3) (.int .i64 (hiOf (bs[j].deb + x.deb)))).set (j * 7 + 3 + 2 + 1) (.int .u64 (loOf (bs[j].cre + x.cre)))).set (j * 7 + 3 + 2) (.int .i64 (hiOf (bs[j].cre + x.cre))) = flat (bs.set j (bs[j].plus x))
  | [], j, hj, _ => absurd hj (Nat.not_lt_zero _)
  | b :: bs, 0, _, x => by
    rw [List.set_cons_zero, flat_cons, flat_cons, Nat.zero_mul, Nat.zero_add]
    rfl
  | b :: bs, j + 1, hj, x => by
    have ih := flat_set bs j (by simpa using hj) x
    rw [List.set_cons_succ, flat_cons, flat_cons]
    have e : (j + 1) * 7 + 3 = 7 + (j * 7 + 3) := by omega
    rw [e, Nat.add_assoc 7 (j * 7 + 3) 2, Nat.add_assoc 7 (j * 7 + 3 + 2) 1, Nat.add_assoc 7 (j * 7 + 3) 1,
      set_right _ _ _ _ 7 rfl, set_right _ _ _ _ 7 rfl, set_right _ _ _ _ 7 rfl, set_right _ _ _ _ 7 rfl]
    exact congrArg _ ih

def ky (bs : List TB) (j : Nat) : Nat := ((bs[j]?).bind (·.key)).getD 0
def cu (bs : List TB) (j : Nat) : ByteArray := ((bs[j]?).map (·.cur)).getD ⟨#[]⟩
def li (bs : List TB) (j : Nat) : Int := ((bs[j]?).map (·.line)).getD 0
def de (bs : List TB) (j : Nat) : Int := ((bs[j]?).map (·.deb)).getD 0
def cr (bs : List TB) (j : Nat) : Int := ((bs[j]?).map (·.cre)).getD 0
theorem cu_at {bs : List TB} {j : Nat} (h : j < bs.length) : cu bs j = bs[j].cur := by simp [cu, h]
theorem li_at {bs : List TB} {j : Nat} (h : j < bs.length) : li bs j = bs[j].line := by simp [li, h]
theorem de_at {bs : List TB} {j : Nat} (h : j < bs.length) : de bs j = bs[j].deb := by simp [de, h]
theorem cr_at {bs : List TB} {j : Nat} (h : j < bs.length) : cr bs j = bs[j].cre := by simp [cr, h]

/-- Every base has a key, and it lives. -/
def Keyed (w : World) (bs : List TB) : Prop := ∀ b ∈ bs, ∃ g, b.key = some g ∧ Live w g
theorem Keyed.at {w : World} {bs : List TB} (h : Keyed w bs) {j : Nat} (hj : j < bs.length) : bs[j].key = some (ky bs j) ∧ Live w (ky bs j) := by
  obtain ⟨g, h1, h2⟩ := h _ (List.getElem_mem hj)
  have e : ky bs j = g := by simp [ky, hj, h1]
  rw [e]
  exact ⟨h1, h2⟩

theorem own_bs {w : World} {base g m cap : Nat} {bs : List TB} (h : w.ownsRow base 55 7 (.slice (some ⟨g, 0, none⟩) m cap) m (flat bs)) (hm : bs.length = m) (hk : Keyed w bs) : Bs w g m (ky bs) (cu bs) (li bs) (de bs) (cr bs) := by
  subst hm
  have c : ∀ j k, j < bs.length → (hk : k < 7) → w.cell? ⟨g, j * 7 + k, none⟩ = (flat bs)[j * 7 + k]? := fun j k hj hk => h.cellAt (j * 7 + k) (by omega)
  refine ⟨fun j hj => ?_, fun j hj => ?_, fun j hj => ?_, fun j hj => ?_, fun j hj => ?_, fun j hj => ?_, fun j hj => ?_, fun j hj => (hk.at hj).2⟩
  · have := c j 0 hj (by omega)
    rw [flat_get bs j 0 (by omega) hj, Nat.add_zero] at this
    rw [this]
    simp [tbc, (hk.at hj).1, ptr]
  all_goals first
    | (rw [c j 1 hj (by omega), flat_get bs j 1 (by omega) hj, cu_at hj]; rfl)
    | (rw [c j 2 hj (by omega), flat_get bs j 2 (by omega) hj, li_at hj]; rfl)
    | (rw [c j 3 hj (by omega), flat_get bs j 3 (by omega) hj, de_at hj]; rfl)
    | (rw [c j 4 hj (by omega), flat_get bs j 4 (by omega) hj, de_at hj]; rfl)
    | (rw [c j 5 hj (by omega), flat_get bs j 5 (by omega) hj, cr_at hj]; rfl)
    | (rw [c j 6 hj (by omega), flat_get bs j 6 (by omega) hj, cr_at hj]; rfl)

theorem found_congr {f f' : Nat → Bool} {m : Nat} {e : Ending} (h : Idx.Found f m e) (hf : ∀ j, j < m → f j = f' j) : Idx.Found f' m e := by
  rcases h with ⟨j, h1, h2, h3⟩ | ⟨h1, h2⟩
  · exact .inl ⟨j, h1, (hf j h1).symm.trans h2, h3⟩
  · exact .inr ⟨fun j hj => (hf j hj).symm.trans (h1 j hj), h2⟩

def hitAt (bs : List TB) (x : TB) (j : Nat) : Bool := ((bs[j]?).map (·.hit x)).getD false
theorem hitAt_at {bs : List TB} (x : TB) {j : Nat} (h : j < bs.length) : hitAt bs x j = bs[j].hit x := by simp [hitAt, h]

theorem idx_own (base gx pb : Nat) (v : Value) (bs : List TB) (x : TB) (w : World) (hm : bs.length ≤ 4096) (h : w.ownsRow base 55 7 v bs.length (flat bs)) (hk : Keyed w bs) (hx : x.key = some gx) (hl : Live w gx)
    (h1 : w.cell? ⟨pb, 1, none⟩ = some (.string x.cur)) (h9 : w.cell? ⟨pb, 9, none⟩ = some (.pointer (some ⟨gx, 0, none⟩))) :
    Calls Try.prog 18 #[v, .func (.func 19) #[] #[.pointer (some ⟨pb, 0, none⟩)]] w fun e w' => Idx.Found (hitAt bs x) bs.length e ∧ Below w.heap.size w w' := by
  rcases h.2 with ⟨rfl, h0⟩ | ⟨g, cap, c, rfl, _, hg, _⟩
  · rw [h0]
    exact idx_none none 0 0 _ _ w (Nat.le_refl _)
  · have hlt : g < w.heap.size := (Array.getElem?_eq_some_iff.1 hg).1
    refine (idx_row g bs.length cap gx x.cur (ky bs) (cu bs) (li bs) (de bs) (cr bs) pb w hm hlt (own_bs h rfl hk) hl h1 h9).mono ?_
    rintro e w' ⟨hf, hb⟩
    refine ⟨found_congr hf fun j hj => ?_, hb⟩
    rw [hitAt_at x hj]
    unfold hits TB.hit
    rw [cu_at hj, (hk.at hj).1, hx]
    congr 1

theorem own_heap {w w' : World} {base e size : Nat} {g n cap : Nat} {xs : List Value} (h : w.ownsRow base e size (.slice (some ⟨g, 0, none⟩) n cap) n xs) (hh : w'.heap[g]? = w.heap[g]?) : w'.ownsRow base e size (.slice (some ⟨g, 0, none⟩) n cap) n xs := by
  rcases h.2 with ⟨h', _⟩ | ⟨g', cap', cur, h', hb, hg, r⟩
  · cases h'
  · obtain ⟨rfl, rfl⟩ : g = g' ∧ cap = cap' := by injection h' with h1 h2 h3; injection h1 with h1; injection h1 with h1; exact ⟨h1, h3⟩
    exact ⟨h.1, .inr ⟨g, cap, cur, rfl, hb, hh.trans hg, r⟩⟩

theorem own_lt {w : World} {base e size : Nat} {g n cap : Nat} {xs : List Value} (h : w.ownsRow base e size (.slice (some ⟨g, 0, none⟩) n cap) n xs) : g < w.heap.size ∧ base ≤ g := by
  rcases h.2 with ⟨h', _⟩ | ⟨g', cap', cur, h', hb, hg, r⟩
  · cases h'
  · obtain ⟨rfl, rfl⟩ : g = g' ∧ cap = cap' := by injection h' with h1 h2 h3; injection h1 with h1; injection h1 with h1; exact ⟨h1, h3⟩
    exact ⟨(Array.getElem?_eq_some_iff.1 hg).1, hb⟩

/-- 'bases[j].add(p)'. -/
theorem add_own {w : World} {base g m cap : Nat} {bs : List TB} (h : w.ownsRow base 55 7 (.slice (some ⟨g, 0, none⟩) m cap) m (flat bs)) (hm : bs.length = m) {j : Nat} (hj : j < bs.length) (x : TB) (hbd : Bd 4096 bs[j])
    (hb0 : -9223372036854775808 ≤ x.deb) (hb1 : x.deb ≤ 9223372036854775807) (hb2 : -9223372036854775808 ≤ x.cre) (hb3 : x.cre ≤ 9223372036854775807) (x0 x1 x2 x5 x6 x7 x8 x9 : Value) (hB : base ≤ w.heap.size) :
    Calls Try.prog 20 #[.pointer (some ⟨g, j * 7 + 3, none⟩), .agg #[x0, x1, x2, .int .i64 x.deb, .int .i64 x.cre, x5, x6, x7, x8, x9]] w fun e w' => e = .returned (.tuple #[]) ∧
      w'.ownsRow base 55 7 (.slice (some ⟨g, 0, none⟩) m cap) m (flat (bs.set j (bs[j].plus x))) ∧ Below base w w' ∧ ∀ k, k ≠ g → k < w.heap.size → w'.heap[k]? = w.heap[k]? := by
  subst hm
  have c : ∀ k, (hk : k < 7) → w.cell? ⟨g, j * 7 + k, none⟩ = (tbc bs[j])[k]? := fun k hk => (h.cellAt (j * 7 + k) (by omega)).trans (flat_get bs j k hk hj)
  obtain ⟨hlt, hge⟩ := own_lt h
  unfold Bd at hbd
  refine (bal_any g (j * 7 + 3) bs[j].deb bs[j].cre x.deb x.cre x0 x1 x2 x5 x6 x7 x8 x9 w (by omega) (by omega) (by omega) (by omega) hb0 hb1 hb2 hb3 (c 3 (by decide)) (c 4 (by decide)) (c 5 (by decide)) (c 6 (by decide)) (fun k => h.frozenAt k)).mono ?_
  rintro e w' ⟨rfl, hs⟩
  refine ⟨rfl, ?_, ?_, fun k hk hl => ?_⟩
  · rw [← flat_set bs j hj x]
    have h1 := own_heap h (w' := w.alloc (.cells #[x0, x1, x2, .int .i64 x.deb, .int .i64 x.cre, x5, x6, x7, x8, x9] 61)) (Below.heap_alloc _ _ _ hlt)
    have h2 := ((((h1.stored (j * 7 + 3 + 1) (.int .u64 (loOf (bs[j].deb + x.deb)))).1.stored (j * 7 + 3) (.int .i64 (hiOf (bs[j].deb + x.deb)))).1.stored (j * 7 + 3 + 2 + 1) (.int .u64 (loOf (bs[j].cre + x.cre)))).1.stored (j * 7 + 3 + 2) (.int .i64 (hiOf (bs[j].cre + x.cre)))).1
    refine own_heap h2 ?_
    rw [hs.heap]
    unfold putSum
    rfl
  · refine Below.trans (b := putSum (putSum (w.alloc (.cells #[x0, x1, x2, .int .i64 x.deb, .int .i64 x.cre, x5, x6, x7, x8, x9] 61)) g (j * 7 + 3) (bs[j].deb + x.deb)) g (j * 7 + 3 + 2) (bs[j].cre + x.cre)) ?_ ⟨hs.os, hs.tape, hs.output, by rw [hs.heap]; exact Nat.le_refl _, fun k _ => by rw [hs.heap]⟩
    unfold putSum
    exact (((((Below.refl base w).alloc hB _).setCell (p := ⟨g, j * 7 + 3 + 1, none⟩) hge _).setCell (p := ⟨g, j * 7 + 3, none⟩) hge _).setCell (p := ⟨g, j * 7 + 3 + 2 + 1, none⟩) hge _).setCell (p := ⟨g, j * 7 + 3 + 2, none⟩) hge _
  · rw [hs.heap]
    unfold putSum
    rw [Below.heap_setCell _ _ _ _ hk, Below.heap_setCell _ _ _ _ hk, Below.heap_setCell _ _ _ _ hk, Below.heap_setCell _ _ _ _ hk, Below.heap_alloc _ _ _ hl]

end Go.Proofs.Qxb6609262a.Own
