import Derived.Test.Qxb6609262aOwn
import Derived.Deep.AppendLies
import Derived.Deep.MidRow
import Derived.Test.Qxb6609262aVou2
import Derived.Test.Qxb6609262aKeep
namespace Go.Proofs.Qxb6609262a.Fil
open Go.RowKit Go.Proofs.Qxb6609262a.Sum Go.Proofs.Qxb6609262a.Bal Go.Proofs.Qxb6609262a.In Go.Proofs.Qxb6609262a.Keys Go.Proofs.Qxb6609262a.Plain Go.Proofs.Qxb6609262a.Idx Go.Proofs.Qxb6609262a.Own Go.Proofs.Qxb6609262a.Vou Go.Proofs.Qxb6609262a.Vou2 Go.Proofs.Qxb6609262a.Keep

/-! ### The rows of what counts -/
def six (t : TP) : List Value := [.int .i64 t.line, .string t.cur, .int .i64 t.deb, .int .i64 t.cre, .bool t.tax, .int .i64 t.key]
def psl (T : Nat → TP) (l : List Nat) : List Value := l.flatMap fun i => six (T i)
def ksl (K : Nat → Option Nat) (l : List Nat) : List Value := l.map fun i => ptr (K i)

theorem psl_snoc (T : Nat → TP) (l : List Nat) (i : Nat) : psl T (l ++ [i]) = psl T l ++ six (T i) := by simp [psl]
theorem ksl_snoc (K : Nat → Option Nat) (l : List Nat) (i : Nat) : ksl K (l ++ [i]) = ksl K l ++ [ptr (K i)] := by simp [ksl]

theorem psl_get (T : Nat → TP) : ∀ (l : List Nat) (j k : Nat) (_ : k < 6) (hj : j < l.length), (psl T l)[j * 6 + k]? = (six (T l[j]))[k]?
  | [], j, k, _, hj => absurd hj (Nat.not_lt_zero _)
  | b :: bs, 0, k, hk, _ => by
    rw [show psl T (b :: bs) = six (T b) ++ psl T bs from rfl, List.getElem?_append_left (by simp [six]; omega), Nat.zero_mul, Nat.zero_add]
    rfl
  | b :: bs, j + 1, k, hk, hj => by
    rw [show psl T (b :: bs) = six (T b) ++ psl T bs from rfl, List.getElem?_append_right (by simp [six]; omega), show (j + 1) * 6 + k - (six (T b)).length = j * 6 + k from by simp [six]; omega, psl_get T bs j k hk (by simpa using hj)]
    rfl

theorem pick_at {l : List Nat} {j : Nat} (h : j < l.length) : pick l j = l[j] := by simp [pick, h]

theorem own_ps {w : World} {base g m cap : Nat} {T : Nat → TP} {l : List Nat} (h : w.ownsRow base 33 6 (.slice (some ⟨g, 0, none⟩) m cap) m (psl T l)) (hm : l.length = m) (hf : ∀ j, j < m → (T (pick l j)).Fit) : Ps w g 0 m (fun j => T (pick l j)) := by
  subst hm
  have c : ∀ j k, j < l.length → (hk : k < 6) → w.cell? ⟨g, j * 6 + k, none⟩ = (six (T (pick l j)))[k]? := fun j k hj hk => by
    rw [h.cellAt (j * 6 + k) (by omega), psl_get T l j k hk hj, pick_at hj]
  have c' : ∀ j k, j < l.length → (hk : k < 6) → w.cell? ⟨g, 0 + j * 6 + k, none⟩ = (six (T (pick l j)))[k]? := fun j k hj hk => by
    rw [Nat.zero_add]; exact c j k hj hk
  exact ⟨fun j hj => c' j 0 hj (by decide), fun j hj => c' j 1 hj (by decide), fun j hj => c' j 2 hj (by decide), fun j hj => c' j 3 hj (by decide), fun j hj => c' j 4 hj (by decide), fun j hj => c' j 5 hj (by decide), hf⟩

theorem own_ks {w : World} {base g m cap : Nat} {K : Nat → Option Nat} {l : List Nat} (h : w.ownsRow base 35 1 (.slice (some ⟨g, 0, none⟩) m cap) m (ksl K l)) (hm : l.length = m) : ∀ j, j < m → w.cell? ⟨g, j, none⟩ = some (ptr (K (pick l j))) := by
  subst hm
  intro j hj
  rw [h.cellAt j (by omega), pick_at hj]
  simp [ksl, hj]

/-- Rows of two types are two rows. -/
theorem own_apart {w : World} {base e size base' e' size' : Nat} {v v' : Value} {n n' : Nat} {xs xs' : List Value} (h : w.ownsRow base e size v n xs) (h' : w.ownsRow base' e' size' v' n' xs') (hne : e ≠ e') {g : Nat} (hg : v.ownBlock = some g) : some g ≠ v'.ownBlock := by
  intro e2
  rcases h.2 with ⟨h0, _⟩ | ⟨a, cap, cur, h0, _, ha, _⟩
  · rw [h0] at hg; cases hg
  · rw [h0] at hg
    have ea : a = g := by simpa [Value.ownBlock] using hg
    subst ea
    rcases h'.2 with ⟨h1, _⟩ | ⟨a', cap', cur', h1, _, ha', _⟩
    · rw [h1] at e2; cases e2
    · rw [h1] at e2
      have eb : a = a' := by simpa [Value.ownBlock] using e2
      subst eb
      rw [ha] at ha'
      simp at ha'
      exact hne ha'.2

/-- A row stands where another grows. -/
theorem own_grown {w w' : World} {base e size : Nat} {v : Value} {n : Nat} {xs : List Value} {row : Option Nat} (h : w.ownsRow base e size v n xs) (hg : w.grownBy w' row) (hne : ∀ g, v.ownBlock = some g → some g ≠ row) : w'.ownsRow base e size v n xs := by
  rcases h.2 with ⟨h0, h1⟩ | ⟨g, cap, cur, h0, hb, ha, r⟩
  · exact ⟨h.1, .inl ⟨h0, h1⟩⟩
  · exact ⟨h.1, .inr ⟨g, cap, cur, h0, hb, (hg.block g (Array.getElem?_eq_some_iff.1 ha).1 (hne g (by rw [h0]; rfl))).trans ha, r⟩⟩

def zero33 : Array Value := #[.int .i64 0, .string ⟨#[]⟩, .int .i64 0, .int .i64 0, .bool false, .int .i64 0]
theorem info33 : (Try.prog.info? 33).map (fun i => (i.zero, i.size, i.bytes)) = some (some (.agg zero33), 6, 56) := by kernel_rfl

theorem app22 {ops : Array Oper} {rest : List Oper} {o : Oper} {a : Act} {w1 : World} {Q : Exit → Act → World → Prop} (hgd : o.guard = none) (s x : Operand) (ho : o.op = .call { callee := .builtin .append, args := #[s, x], argTypes := #[22, 22] })
    (base : Nat) (v : Value) (n : Nat) (xs : List Value) (hs : a.eval s = v) (hown : w1.ownsRow base 33 6 v n xs) (news : List Value) (hx : a.eval x = .slice (some ⟨w1.heap.size, 0, none⟩) 1 1) (hl : news.length = 6) (h1 : ∀ u ∈ news, u.oneCell' = true)
    (hn : n ≤ 4096) (hbase : base ≤ w1.heap.size)
    (h : ∀ g cap w', w'.ownsRow base 33 6 (.slice (some ⟨g, 0, none⟩) (n + 1) cap) (n + 1) (xs ++ news) → (w1.alloc (.cells news.toArray 33)).grownBy w' v.ownBlock → (v.ownBlock = some g ∨ g = w1.heap.size + 1) → g < w'.heap.size → wpList Try.prog ops Q rest (a.put o.dst (.slice (some ⟨g, 0, none⟩) (n + 1) cap)) w') :
    wpList Try.prog ops Q (o :: rest) a (w1.alloc (.cells news.toArray 33)) := by
  obtain ⟨i, hi, hz, hs', hb⟩ := info_parts info33
  have hm : (4097 : Nat) ≤ maxLen := by decide
  refine wpList_append_lies (w1.alloc (.cells news.toArray 33)) hgd s x 22 ho base 33 i (.agg zero33) 6 56 Try.underlying22 hi hz hs' hb rfl (by decide) v n xs hs (hown.alloc _) ⟨w1.heap.size, 0, none⟩ 1 1 news hx (by omega) (fun j u hu => ?_) h1 (by decide) (by omega) (by omega) (by simp; omega) (w1.heap.size + 1) (by simp) h
  rw [Addr.add_mid, Nat.zero_add]
  simp only [World.cell?, Go.Deep.blk_alloc_new, List.getElem?_toArray]
  exact hu

theorem app25 {ops : Array Oper} {rest : List Oper} {o : Oper} {a : Act} {w1 : World} {Q : Exit → Act → World → Prop} (hgd : o.guard = none) (s x : Operand) (ho : o.op = .call { callee := .builtin .append, args := #[s, x], argTypes := #[25, 25] })
    (base : Nat) (v : Value) (n : Nat) (xs : List Value) (hs : a.eval s = v) (hown : w1.ownsRow base 35 1 v n xs) (news : List Value) (hx : a.eval x = .slice (some ⟨w1.heap.size, 0, none⟩) 1 1) (hl : news.length = 1) (h1 : ∀ u ∈ news, u.oneCell' = true)
    (hn : n ≤ 4096) (hbase : base ≤ w1.heap.size)
    (h : ∀ g cap w', w'.ownsRow base 35 1 (.slice (some ⟨g, 0, none⟩) (n + 1) cap) (n + 1) (xs ++ news) → (w1.alloc (.cells news.toArray 35)).grownBy w' v.ownBlock → (v.ownBlock = some g ∨ g = w1.heap.size + 1) → g < w'.heap.size → wpList Try.prog ops Q rest (a.put o.dst (.slice (some ⟨g, 0, none⟩) (n + 1) cap)) w') :
    wpList Try.prog ops Q (o :: rest) a (w1.alloc (.cells news.toArray 35)) := by
  obtain ⟨i, hi, hz, hs', hb⟩ := info_parts info35
  have hm : (4097 : Nat) ≤ maxLen := by decide
  refine wpList_append_lies (w1.alloc (.cells news.toArray 35)) hgd s x 25 ho base 35 i (.pointer none) 1 8 Try.underlying25 hi hz hs' hb rfl (by decide) v n xs hs (hown.alloc _) ⟨w1.heap.size, 0, none⟩ 1 1 news hx (by omega) (fun j u hu => ?_) h1 (by decide) (by omega) (by omega) (by simp; omega) (w1.heap.size + 1) (by simp) h
  rw [Addr.add_mid, Nat.zero_add]
  simp only [World.cell?, Go.Deep.blk_alloc_new, List.getElem?_toArray]
  exact hu

/-- toVoucher at the two rows. -/
theorem vou_own {w : World} {base : Nat} {v v' : Value} {m : Nat} {T : Nat → TP} {K : Nat → Option Nat} {l : List Nat} (hm : l.length = m) (h4 : m ≤ 4096) (h : w.ownsRow base 33 6 v m (psl T l)) (h' : w.ownsRow base 35 1 v' m (ksl K l)) (hf : ∀ j, j < m → (T (pick l j)).Fit) :
    Calls Try.prog 9 #[v, v'] w fun e w' => ∃ gv gp, e = .returned (.pointer (some ⟨gv, 0, none⟩)) ∧ w'.cell? ⟨gv, 7, none⟩ = some (.slice (some ⟨gp, 0, none⟩) m m) ∧ w'.rowIs gp 61 (m * 10) (srow 10 (pcells (fun j => T (pick l j)) (fun j => K (pick l j))) pzero.toList m) ∧ w.heap.size ≤ gp ∧ w.heap.size ≤ gv ∧ gp ≠ gv ∧ Below w.heap.size w w' := by
  rcases h.2 with ⟨rfl, h0⟩ | ⟨g, cap, cur, rfl, _, hg, _⟩
  · subst h0
    rcases h'.2 with ⟨rfl, _⟩ | ⟨g', cap', cur', rfl, _⟩
    · exact vou_nil none none 0 0 0 _ _ w (Nat.le_refl _)
    · exact vou_nil none (some ⟨g', 0, none⟩) 0 0 cap' _ _ w (Nat.le_refl _)
  · rcases h'.2 with ⟨rfl, h0⟩ | ⟨g', cap', cur', rfl, _, hg', _⟩
    · subst h0
      exact vou_nil (some ⟨g, 0, none⟩) none 0 cap 0 _ _ w (Nat.le_refl _)
    · exact vou_any g 0 m cap g' cap' _ _ w h4 (Array.getElem?_eq_some_iff.1 hg).1 (own_ps h hm hf) (Array.getElem?_eq_some_iff.1 hg').1 (own_ks h' hm)

/-! ### Two bases alike are equal -/
theorem stood38 : Try.prog.stoodInHeld 38 = false := by kernel_rfl

theorem neq_base (g : Nat) (c : ByteArray) (l d0 d1 e0 e1 : Int) (w : World) : (binOp .neq 38 (.agg #[.pointer (some ⟨g, 0, none⟩), .string c, .int .i64 l, .int .i64 d0, .int .u64 d1, .int .i64 e0, .int .u64 e1]) (.agg #[.pointer (some ⟨g, 0, none⟩), .string c, .int .i64 l, .int .i64 d0, .int .u64 d1, .int .i64 e0, .int .u64 e1])).run Try.prog w = .ok (.bool false) w := by
  obtain ⟨i, hi⟩ : ∃ i, Try.prog.info? 47 = some i := by
    have := info47
    cases e : Try.prog.info? 47 with
    | none => rw [e] at this; cases this
    | some i => exact ⟨i, rfl⟩
  have hk : ∀ d : Nat, (Op.equalIn (d + 1) 35 (.pointer (some ⟨g, 0, none⟩)) (.pointer (some ⟨g, 0, none⟩))).run Try.prog w = .ok true w := fun d => by
    simp [Op.equalIn, run_underlying Try.underlying35, sizeOf, typeInfo, hi, run_sameAddr_same]
  have hs : ∀ d : Nat, (Op.equalIn (d + 1) 9 (.string c) (.string c)).run Try.prog w = .ok true w := fun d => by
    simp [Op.equalIn, run_underlying Try.underlying9, beq_toListBytes]
  have h3 : ∀ (d : Nat) (x : Int), (Op.equalIn (d + 1) 3 (.int .i64 x) (.int .i64 x)).run Try.prog w = .ok true w := fun d x => by
    simp [Op.equalIn, run_underlying Try.underlying3]
  have h2 : ∀ (d : Nat) (x : Int), (Op.equalIn (d + 1) 2 (.int .i64 x) (.int .i64 x)).run Try.prog w = .ok true w := fun d x => by
    simp [Op.equalIn, run_underlying Try.underlying2]
  have h36 : ∀ (d : Nat) (x : Int), (Op.equalIn (d + 1) 36 (.int .u64 x) (.int .u64 x)).run Try.prog w = .ok true w := fun d x => by
    simp [Op.equalIn, run_underlying Try.underlying36]
  have ht : Try.prog.underlying 38 = some (.struct (Try.prog.fieldsOf 38)) := by unfold Program.fieldsOf; rw [Try.underlying38]
  simp only [binOp]
  simp only [Op.equal, Op.maxDepth]
  have := run_equalIn_struct w 9999 38 #[.pointer (some ⟨g, 0, none⟩), .string c, .int .i64 l, .int .i64 d0, .int .u64 d1, .int .i64 e0, .int .u64 e1] #[.pointer (some ⟨g, 0, none⟩), .string c, .int .i64 l, .int .i64 d0, .int .u64 d1, .int .i64 e0, .int .u64 e1] ht stood38
  simp only [Sem.run_bind, this]
  simp [Op.eqFields, Program.fieldsOf, Try.underlying38, part, isAgg, run_underlying Try.underlying35, run_underlying Try.underlying9, run_underlying Try.underlying3, run_underlying Try.underlying2, run_underlying Try.underlying36, hk 9998, hs 9998, h3 9998, h2 9998, h36 9998]

end Go.Proofs.Qxb6609262a.Fil
