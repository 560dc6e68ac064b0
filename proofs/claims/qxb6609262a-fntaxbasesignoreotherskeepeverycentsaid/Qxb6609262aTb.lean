import Derived.Test.Qxb6609262aOwn
import Derived.Test.Qxb6609262aVou
import Derived.Deep.MidRow
import Derived.Deep.AppendLies
namespace Go.Proofs.Qxb6609262a.Tb
open Go.RowKit Go.Proofs.Qxb6609262a.Sum Go.Proofs.Qxb6609262a.Bal Go.Proofs.Qxb6609262a.In Go.Proofs.Qxb6609262a.Keys Go.Proofs.Qxb6609262a.Plain Go.Proofs.Qxb6609262a.Idx Go.Proofs.Qxb6609262a.Own Go.Proofs.Qxb6609262a.Vou

theorem size61 : (Try.prog.info? 61).map (·.size) = some 10 := by kernel_rfl

theorem prange {w : World} {gp n i : Nat} {T : Nat → TP} {K : Nat → Option Nat} (hr : w.rowIs gp 61 (n * 10) (srow 10 (pcells T K) pzero.toList n)) (hi : i < n) : w.rangeAt gp (i * 10) (pcells T K i) := by
  intro j v hv
  have hj : j < 10 := (List.getElem?_eq_some_iff.1 hv).1
  have h := hr.cell (i := i * 10 + j) (by omega)
  rw [srow_at hj hi, hv] at h
  exact h

theorem cells10 {w : World} {b : Nat} {x0 x1 x2 x3 x4 x5 x6 x7 x8 x9 : Value} (h : w.heap[b]? = some (.cells #[x0, x1, x2, x3, x4, x5, x6, x7, x8, x9] 61 (0, 0))) :
    w.cell? ⟨b, 0, none⟩ = some x0 ∧ w.cell? ⟨b, 1, none⟩ = some x1 ∧ w.cell? ⟨b, 2, none⟩ = some x2 ∧ w.cell? ⟨b, 3, none⟩ = some x3 ∧ w.cell? ⟨b, 4, none⟩ = some x4 ∧ w.cell? ⟨b, 5, none⟩ = some x5 ∧ w.cell? ⟨b, 6, none⟩ = some x6 ∧ w.cell? ⟨b, 7, none⟩ = some x7 ∧ w.cell? ⟨b, 8, none⟩ = some x8 ∧ w.cell? ⟨b, 9, none⟩ = some x9 := by
  simp [World.cell?, h]

theorem own_below {w w' : World} {base e size : Nat} {v : Value} {n : Nat} {xs : List Value} (h : w.ownsRow base e size v n xs) {B : Nat} (hb : Below B w w') (hB : w.heap.size ≤ B) : w'.ownsRow base e size v n xs := by
  rcases h.2 with ⟨h', h0⟩ | ⟨g, cap, cur, h', hbb, hg, r⟩
  · exact ⟨h.1, .inl ⟨h', h0⟩⟩
  · have hlt : g < w.heap.size := (Array.getElem?_eq_some_iff.1 hg).1
    exact ⟨h.1, .inr ⟨g, cap, cur, h', hbb, (hb.block g (by omega)).trans hg, r⟩⟩

theorem own_slice {w : World} {base e size : Nat} {v : Value} {n : Nat} {xs : List Value} (h : w.ownsRow base e size v n xs) (hn : 0 < n) : ∃ g cap, v = .slice (some ⟨g, 0, none⟩) n cap := by
  rcases h.2 with ⟨h', h0⟩ | ⟨g, cap, cur, h', hbb, hg, r⟩
  · omega
  · exact ⟨g, cap, h'⟩

def tzero : Array Value := #[.pointer none, .string ⟨#[]⟩, .int .i64 0, .int .i64 0, .int .u64 0, .int .i64 0, .int .u64 0]
theorem info55 : (Try.prog.info? 55).map (fun i => (i.zero, i.size, i.bytes)) = some (some (.agg tzero), 7, 64) := by kernel_rfl

theorem keyed {T : Nat → TP} {K : Nat → Option Nat} {n i : Nat} {w w' : World} (hal : Alive K n w) (hi : i ≤ n) (hb : Below w.heap.size w w') : Keyed w' (run T K i) := by
  intro b hb'
  obtain ⟨j, hj, e⟩ := mem_run T K i b hb'
  have hs := key_run T K i b hb'
  obtain ⟨g, hg⟩ := Option.isSome_iff_exists.1 hs
  have hl := hal j (by omega) g (e.symm.trans hg)
  exact ⟨g, hg, hl.below hb hl.lt⟩

theorem app48 {ops : Array Oper} {rest : List Oper} {o : Oper} {a : Act} {w1 : World} {Q : Exit → Act → World → Prop} (hgd : o.guard = none) (s x : Operand) (ho : o.op = .call { callee := .builtin .append, args := #[s, x], argTypes := #[48, 48] })
    (base : Nat) (v : Value) (n : Nat) (xs : List Value) (hs : a.eval s = v) (hown : w1.ownsRow base 55 7 v n xs) (news : List Value) (hx : a.eval x = .slice (some ⟨w1.heap.size, 0, none⟩) 1 1) (hl : news.length = 7) (h1 : ∀ u ∈ news, u.oneCell' = true)
    (hn : n ≤ 4096) (hbase : base ≤ w1.heap.size)
    (h : ∀ g cap w', w'.ownsRow base 55 7 (.slice (some ⟨g, 0, none⟩) (n + 1) cap) (n + 1) (xs ++ news) → (w1.alloc (.cells news.toArray 55)).grownBy w' v.ownBlock → (v.ownBlock = some g ∨ g = w1.heap.size + 1) → g < w'.heap.size → wpList Try.prog ops Q rest (a.put o.dst (.slice (some ⟨g, 0, none⟩) (n + 1) cap)) w') :
    wpList Try.prog ops Q (o :: rest) a (w1.alloc (.cells news.toArray 55)) := by
  obtain ⟨i55, hi55, hz55, hs55, hb55⟩ := info_parts info55
  have hm : (4097 : Nat) ≤ maxLen := by decide
  refine wpList_append_lies (w1.alloc (.cells news.toArray 55)) hgd s x 48 ho base 55 i55 (.agg tzero) 7 64 Try.underlying48 hi55 hz55 hs55 hb55 rfl (by decide) v n xs hs (hown.alloc _) ⟨w1.heap.size, 0, none⟩ 1 1 news hx (by omega) (fun j u hu => ?_) h1 (by decide) (by omega) (by omega) (by simp; omega) (w1.heap.size + 1) (by simp) h
  rw [Addr.add_mid, Nat.zero_add]
  simp only [World.cell?, Go.Deep.blk_alloc_new, List.getElem?_toArray]
  exact hu

theorem flat_snoc (bs : List TB) (gx : Nat) (cu : ByteArray) (l : Int) : flat bs ++ [.pointer (some ⟨gx, 0, none⟩), .string cu, .int .i64 l, .int .i64 0, .int .u64 0, .int .i64 0, .int .u64 0] = flat (bs ++ [⟨some gx, cu, l, 0, 0⟩]) := by
  rw [flat_app, flat_one]
  simp [tbc, ptr, hiOf, loOf]

/-- 'bases[len(bases)-1].add(p)' behind the append. -/
theorem add_last {w : World} {base g gx cap : Nat} {bs : List TB} {x : TB} (hx : x.key = some gx) (h : w.ownsRow base 55 7 (.slice (some ⟨g, 0, none⟩) (bs.length + 1) cap) (bs.length + 1) (flat bs ++ [.pointer (some ⟨gx, 0, none⟩), .string x.cur, .int .i64 x.line, .int .i64 0, .int .u64 0, .int .i64 0, .int .u64 0]))
    (hb0 : -9223372036854775808 ≤ x.deb) (hb1 : x.deb ≤ 9223372036854775807) (hb2 : -9223372036854775808 ≤ x.cre) (hb3 : x.cre ≤ 9223372036854775807) (x0 x1 x2 x5 x6 x7 x8 x9 : Value) (hB : base ≤ w.heap.size) :
    Calls Try.prog 20 #[.pointer (some ⟨g, bs.length * 7 + 3, none⟩), .agg #[x0, x1, x2, .int .i64 x.deb, .int .i64 x.cre, x5, x6, x7, x8, x9]] w fun e w' => e = .returned (.tuple #[]) ∧
      w'.ownsRow base 55 7 (.slice (some ⟨g, 0, none⟩) (bs.length + 1) cap) (bs.length + 1) (flat (bs ++ [x])) ∧ Below base w w' ∧ ∀ k, k ≠ g → k < w.heap.size → w'.heap[k]? = w.heap[k]? := by
  rw [flat_snoc] at h
  have hl : (bs ++ [(⟨some gx, x.cur, x.line, 0, 0⟩ : TB)]).length = bs.length + 1 := by simp
  have hj : bs.length < (bs ++ [(⟨some gx, x.cur, x.line, 0, 0⟩ : TB)]).length := by simp
  have e : (bs ++ [(⟨some gx, x.cur, x.line, 0, 0⟩ : TB)])[bs.length] = ⟨some gx, x.cur, x.line, 0, 0⟩ := by simp
  refine (add_own h hl hj x (by rw [e]; unfold Bd; simp) hb0 hb1 hb2 hb3 x0 x1 x2 x5 x6 x7 x8 x9 hB).mono ?_
  rintro e' w' ⟨rfl, h1, h2, h3⟩
  refine ⟨rfl, ?_, h2, h3⟩
  rw [e, List.set_append, if_neg (by omega), Nat.sub_self, List.set_cons_zero] at h1
  have ex : (TB.plus ⟨some gx, x.cur, x.line, 0, 0⟩ x) = x := by
    obtain ⟨k, c, l, d, r⟩ := x
    simp only at hx
    subst hx
    simp [TB.plus]
  rw [ex] at h1
  exact h1

theorem own_block {w : World} {base e size : Nat} {v : Value} {n : Nat} {xs : List Value} (h : w.ownsRow base e size v n xs) {k : Nat} (hk : v.ownBlock = some k) : k < w.heap.size ∧ base ≤ k := by
  rcases h.2 with ⟨h', h0⟩ | ⟨g, cap, cur, h', hbb, hg, r⟩
  · rw [h'] at hk; cases hk
  · rw [h'] at hk
    have e : g = k := by simpa [Value.ownBlock] using hk
    subst e
    exact ⟨(Array.getElem?_eq_some_iff.1 hg).1, hbb⟩

theorem Hid.mk' {p : Prop} (h : p) : Hid p := h

theorem run_no {T : Nat → TP} {K : Nat → Option Nat} {i : Nat} (h : cn T K i = false) : run T K (i + 1) = run T K i := by
  rw [run, h]; rfl
theorem run_yes {T : Nat → TP} {K : Nat → Option Nat} {i : Nat} (h : cn T K i = true) : run T K (i + 1) = put (run T K i) (item T K i) := by
  rw [run, h]; rfl

set_option maxRecDepth 10000 in
set_option maxHeartbeats 2000000 in
theorem tb_any (gv gp n : Nat) (T : Nat → TP) (K : Nat → Option Nat) (w : World) (hn : n ≤ 4096) (hf : ∀ j, j < n → (T j).Fit) (hv : w.cell? ⟨gv, 7, none⟩ = some (.slice (some ⟨gp, 0, none⟩) n n)) (hr : w.rowIs gp 61 (n * 10) (srow 10 (pcells T K) pzero.toList n)) (hal : Alive K n w) :
    Calls Try.prog 16 #[.pointer (some ⟨gv, 0, none⟩)] w fun e w' => ∃ v, e = .returned v ∧ w'.ownsRow w.heap.size 55 7 v (run T K n).length (flat (run T K n)) ∧ Below w.heap.size w w' := by
  have hgp : gp < w.heap.size := hr.lt
  go_enter Try.func16, Try.ntmps16
  go_wp2
  go_loopg [3, 12] n (fun k v iv wr => ∃ (i : Nat), Aside (k + i = n) ∧ i ≤ n ∧ iv = .int .i64 i ∧ wr.ownsRow w.heap.size 55 7 v (run T K i).length (flat (run T K i)) ∧ Below w.heap.size w wr)
  case atStart => exact ⟨0, Nat.add_zero _, Nat.zero_le _, rfl, ⟨rfl, .inl ⟨rfl, rfl⟩⟩, Below.refl _ _⟩
  case round =>
    obtain ⟨i, hA, hi, rfl, ho, hbl⟩ := hrel
    by_cases hlt : i < n
    · have hlt' : (i : Int) < (n : Int) := by omega
      have hrr : wr.rowIs gp 61 (n * 10) (srow 10 (pcells T K) pzero.toList n) := by
        obtain ⟨c, h1, h2, h3⟩ := hr
        exact ⟨c, (hbl.block gp hgp).trans h1, h2, h3⟩
      have hra := prange hrr hlt
      unfold pcells at hra
      cases htx : (T i).tax
      · rw [htx] at hra
        cases hK : K i with
        | none =>
          rw [hK] at hra
          have HR : Hid (wr.rangeAt gp (i * 10) [.int .i64 (T i).line, .string (T i).cur, .int .i64 0, .int .i64 (T i).deb, .int .i64 (T i).cre, .string ⟨#[]⟩, .int .i64 0, .bool false, .string ⟨#[]⟩, .pointer none]) := hra
          have hc : cn T K i = false := by unfold cn; rw [hK]; simp
          have HN : Hid (run T K (i + 1) = run T K i) := run_no hc
          clear hc htx hK hra hrr
          go_wp2_with (refine wpList_load_mid rfl _ _ rfl _ _ rfl _ _ HR.out Try.underlying61 rfl size61 ?_)
          go_roundg (gk - 1)
          case measure => have := hA.out; omega
          case rel => exact ⟨i + 1, by have := hA.out; show _ = _; omega, by omega, by go_num, by rw [HN.out]; exact ho.alloc _, hbl.alloc hbl.size _⟩
        | some gx =>
          rw [hK] at hra
          have HR : Hid (wr.rangeAt gp (i * 10) [.int .i64 (T i).line, .string (T i).cur, .int .i64 0, .int .i64 (T i).deb, .int .i64 (T i).cre, .string ⟨#[]⟩, .int .i64 0, .bool false, .string ⟨#[]⟩, .pointer (some ⟨gx, 0, none⟩)]) := hra
          have hc : cn T K i = true := by unfold cn; rw [hK, htx]; rfl
          have HN : Hid (run T K (i + 1) = put (run T K i) (item T K i)) := run_yes hc
          have HKI : Hid (K i = some gx) := hK
          have HTI : Hid ((T i).tax = false) := htx
          clear hc htx hK hra hrr
          go_wp2_with (refine wpList_load_mid rfl _ _ rfl _ _ rfl _ _ HR.out Try.underlying61 rfl size61 ?_)
          have hWl := hbl.alloc hbl.size (.cells #[.int .i64 (T i).line, .string (T i).cur, .int .i64 0, .int .i64 (T i).deb, .int .i64 (T i).cre, .string ⟨#[]⟩, .int .i64 0, .bool false, .string ⟨#[]⟩, .pointer (some ⟨gx, 0, none⟩)] 61)
          have hlx : Live w gx := hal i hlt gx HKI.out
          have hlen := len_run T K i
          refine (idx_own w.heap.size gx wr.heap.size u3 (run T K i) (item T K i) _ (by omega) (ho.alloc _) (keyed hal hi hWl) HKI.out (hlx.below hWl hlx.lt) (by simp [item]) (by simp)).mono ?_
          rintro e w1 ⟨hfd, hb1⟩
          have hpw : w1.heap[wr.heap.size]? = some (.cells #[.int .i64 (T i).line, .string (T i).cur, .int .i64 0, .int .i64 (T i).deb, .int .i64 (T i).cre, .string ⟨#[]⟩, .int .i64 0, .bool false, .string ⟨#[]⟩, .pointer (some ⟨gx, 0, none⟩)] 61 (0, 0)) := (hb1.block wr.heap.size (by simp)).trans (Go.Deep.blk_alloc_new _ _)
          have ho1 := own_below (ho.alloc _) hb1 (Nat.le_refl _)
          have hbw : Below w.heap.size w w1 := hWl.trans (hb1.mono (by have := hbl.size; simp; omega))
          have hsz : wr.heap.size < w1.heap.size := (Array.getElem?_eq_some_iff.1 hpw).1
          have hgl : ∀ g n cap, u3 = .slice (some ⟨g, 0, none⟩) n cap → g < wr.heap.size := fun g n cap hu => by
            rcases ho.2 with ⟨h', h0⟩ | ⟨g', cap', cur, h', hbb, hg, r⟩
            · rw [hu] at h'; cases h'
            · rw [hu] at h'
              injection h' with h1 h2 h3
              injection h1 with h1
              injection h1 with h1
              rw [h1]
              exact (Array.getElem?_eq_some_iff.1 hg).1
          have hft := hf i hlt
          have hbds := bd_run T K n hf i hi
          have up : ∀ b, Bd i b → Bd 4096 b := fun b h => by unfold Bd at *; omega
          rcases hfd with ⟨j, hj, hh, rfl⟩ | ⟨hno, rfl⟩
          · obtain ⟨g, cap, rfl⟩ := own_slice ho1 (by omega)
            have hgw := hgl g _ cap rfl
            rw [hitAt_at _ hj] at hh
            have K20 := add_own (w := w1.drew) ho1 rfl hj (item T K i) (up _ (hbds _ (List.getElem_mem hj))) hft.deb.1 hft.deb.2 hft.cre.1 hft.cre.2 (.int .i64 (T i).line) (.string (T i).cur) (.int .i64 0) (.string ⟨#[]⟩) (.int .i64 0) (.bool false) (.string ⟨#[]⟩) (.pointer (some ⟨gx, 0, none⟩)) hbw.size
            have HE : Hid (run T K (i + 1) = (run T K i).set j ((run T K i)[j].plus (item T K i))) := HN.out.trans (put_set (dist_run T K i) hj hh)
            have H20 := Hid.mk' K20
            have hj1 : (j : Int) < ((run T K i).length : Int) := by omega
            have hj0 : ¬ ((j : Int) < 0) := by omega
            have HP : Hid (w1.heap[wr.heap.size]? = some (.cells #[.int .i64 (T i).line, .string (T i).cur, .int .i64 0, .int .i64 (T i).deb, .int .i64 (T i).cre, .string ⟨#[]⟩, .int .i64 0, .bool false, .string ⟨#[]⟩, .pointer (some ⟨gx, 0, none⟩)] 61 (0, 0))) := hpw
            have hbds' := Hid.out (p := True) trivial
            clear K20 hh hpw hbds up hbds'
            go_wp2_with fail
            go_region_held3 (fun w' => w'.cell? ⟨wr.heap.size, 0, none⟩ = some (.int .i64 (T i).line) ∧ w'.cell? ⟨wr.heap.size, 1, none⟩ = some (.string (T i).cur) ∧ w'.cell? ⟨wr.heap.size, 2, none⟩ = some (.int .i64 0) ∧ w'.cell? ⟨wr.heap.size, 3, none⟩ = some (.int .i64 (T i).deb) ∧ w'.cell? ⟨wr.heap.size, 4, none⟩ = some (.int .i64 (T i).cre) ∧ w'.cell? ⟨wr.heap.size, 5, none⟩ = some (.string ⟨#[]⟩) ∧ w'.cell? ⟨wr.heap.size, 6, none⟩ = some (.int .i64 0) ∧ w'.cell? ⟨wr.heap.size, 7, none⟩ = some (.bool false) ∧ w'.cell? ⟨wr.heap.size, 8, none⟩ = some (.string ⟨#[]⟩) ∧ w'.cell? ⟨wr.heap.size, 9, none⟩ = some (.pointer (some ⟨gx, 0, none⟩)))
              (first | exact cells10 (w := w1.drew) HP.out | exact cells10 hpw2)
              (first | (go_at_call 20; refine H20.out.mono ?_; rintro e w2 ⟨rfl, ho2, hb2, hk2⟩; have hpw2 := (hk2 wr.heap.size (Nat.ne_of_gt hgw) hsz).trans HP.out))
            go_wp2
            go_roundg (gk - 1)
            case measure => have := hA.out; omega
            case rel => exact ⟨i + 1, by have := hA.out; show _ = _; omega, by omega, by go_num, by rw [HE.out, List.length_set]; exact ho2, hbw.drew.trans hb2⟩
          · obtain ⟨q0, q1, q2, q3, q4, q5, q6, q7, q8, q9⟩ := cells10 hpw
            have HE : Hid (run T K (i + 1) = run T K i ++ [item T K i]) := HN.out.trans (put_new fun j hj => by rw [← hitAt_at _ hj]; exact hno j hj)
            have HO := Hid.mk' ho1
            have HL := Hid.mk' (show (run T K i).length ≤ 4096 by omega)
            have HONE : Hid (∀ u ∈ ([.pointer (some ⟨gx, 0, none⟩), .string (T i).cur, .int .i64 (T i).line, .int .i64 0, .int .u64 0, .int .i64 0, .int .u64 0] : List Value), u.oneCell' = true) := by unfold Hid; simp [Value.oneCell']
            have HBW := Hid.mk' hbw.size
            have hl0 : ((run T K i).length : Int) ≤ 4096 := by omega
            have hl1 : ((run T K i).length : Int) < ((run T K i).length : Int) + 1 := by omega
            have HOB := Hid.mk' (fun k => own_block (k := k) ho)
            clear hlen ho1
            go_wp2_with (refine app48 rfl _ _ rfl w.heap.size u3 (run T K i).length (flat (run T K i)) rfl HO.out [.pointer (some ⟨gx, 0, none⟩), .string (T i).cur, .int .i64 (T i).line, .int .i64 0, .int .u64 0, .int .i64 0, .int .u64 0] rfl rfl HONE.out HL.out HBW.out (fun g cap w2 hown2 hgr hat hg2 => ?_))
            have hpw1 : w2.heap[wr.heap.size]? = some (.cells #[.int .i64 (T i).line, .string (T i).cur, .int .i64 0, .int .i64 (T i).deb, .int .i64 (T i).cre, .string ⟨#[]⟩, .int .i64 0, .bool false, .string ⟨#[]⟩, .pointer (some ⟨gx, 0, none⟩)] 61 (0, 0)) := (hgr.block wr.heap.size (by simp; omega) (fun e => by have := (HOB.out _ e.symm).1; omega)).trans ((Below.heap_alloc _ _ _ hsz).trans hpw)
            have hgn : wr.heap.size ≠ g := by
              rcases hat with h' | h'
              · have := (HOB.out _ h').1; omega
              · omega
            have hbw2 : Below w.heap.size w w2 := (hbw.alloc hbw.size _).grown hgr (by have := hbw.size; simp; omega) (fun k hk => (HOB.out k hk).2)
            have hsz2 : wr.heap.size < w2.heap.size := (Array.getElem?_eq_some_iff.1 hpw1).1
            have K20 := add_last (w := w2.drew) (x := item T K i) HKI.out hown2 hft.deb.1 hft.deb.2 hft.cre.1 hft.cre.2 (.int .i64 (T i).line) (.string (T i).cur) (.int .i64 0) (.string ⟨#[]⟩) (.int .i64 0) (.bool false) (.string ⟨#[]⟩) (.pointer (some ⟨gx, 0, none⟩)) hbw2.size
            have H20 := Hid.mk' K20
            have HP := Hid.mk' hpw1
            clear K20 hpw1 hpw hown2 hgr hat q0 q1 q2 q3 q4 q5 q6 q7 q8 q9
            go_region_held3 (fun w' => w'.cell? ⟨wr.heap.size, 0, none⟩ = some (.int .i64 (T i).line) ∧ w'.cell? ⟨wr.heap.size, 1, none⟩ = some (.string (T i).cur) ∧ w'.cell? ⟨wr.heap.size, 2, none⟩ = some (.int .i64 0) ∧ w'.cell? ⟨wr.heap.size, 3, none⟩ = some (.int .i64 (T i).deb) ∧ w'.cell? ⟨wr.heap.size, 4, none⟩ = some (.int .i64 (T i).cre) ∧ w'.cell? ⟨wr.heap.size, 5, none⟩ = some (.string ⟨#[]⟩) ∧ w'.cell? ⟨wr.heap.size, 6, none⟩ = some (.int .i64 0) ∧ w'.cell? ⟨wr.heap.size, 7, none⟩ = some (.bool false) ∧ w'.cell? ⟨wr.heap.size, 8, none⟩ = some (.string ⟨#[]⟩) ∧ w'.cell? ⟨wr.heap.size, 9, none⟩ = some (.pointer (some ⟨gx, 0, none⟩)))
              (first | exact cells10 (w := w2.drew) HP.out | exact cells10 hpw2)
              (first | (go_at_call 20; refine H20.out.mono ?_; rintro e w3 ⟨rfl, ho2, hb2, hk2⟩; have hpw2 := (hk2 wr.heap.size hgn hsz2).trans HP.out))
            go_wp2
            go_roundg (gk - 1)
            case measure => have := hA.out; omega
            case rel => exact ⟨i + 1, by have := hA.out; show _ = _; omega, by omega, by go_num, by rw [HE.out, List.length_append]; exact ho2, hbw2.drew.trans hb2⟩
      · rw [htx] at hra
        obtain ⟨x, hx⟩ : ∃ x, ptr (K i) = .pointer x := ⟨_, rfl⟩
        rw [hx] at hra
        have HR : Hid (wr.rangeAt gp (i * 10) [.int .i64 (T i).line, .string (T i).cur, .int .i64 0, .int .i64 (T i).deb, .int .i64 (T i).cre, .string ⟨#[]⟩, .int .i64 0, .bool true, .string ⟨#[]⟩, .pointer x]) := hra
        have hc : cn T K i = false := by unfold cn; rw [htx]; simp
        have HN : Hid (run T K (i + 1) = run T K i) := run_no hc
        clear hc htx hra hx hrr
        go_wp2_with (refine wpList_load_mid rfl _ _ rfl _ _ rfl _ _ HR.out Try.underlying61 rfl size61 ?_)
        go_roundg (gk - 1)
        case measure => have := hA.out; omega
        case rel => exact ⟨i + 1, by have := hA.out; show _ = _; omega, by omega, by go_num, by rw [HN.out]; exact ho.alloc _, hbl.alloc hbl.size _⟩
    · go_wp2
      go_ret
      obtain rfl : i = n := by omega
      exact ⟨_, rfl, ho, hbl⟩

end Go.Proofs.Qxb6609262a.Tb
