import Derived.Test.Qxb6609262aGsum
import Derived.Test.Qxb6609262aKeys
namespace Go.Proofs.Qxb6609262a.Plain
open Go.Proofs.Qxb6609262a.In Go.Proofs.Qxb6609262a.Gsum Go.Proofs.Qxb6609262a.Keys

/-! ### What taxBases computes, with no Go in sight -/
/-- A base: key, currency, line, and the two sums. -/
structure TB where
  key : Option Nat
  cur : ByteArray
  line : Int
  deb : Int
  cre : Int

def TB.hit (b x : TB) : Bool := b.key == x.key && b.cur.toList == x.cur.toList
def TB.plus (b x : TB) : TB := ⟨b.key, b.cur, b.line, b.deb + x.deb, b.cre + x.cre⟩
def TB.fold (x b : TB) : TB := if b.hit x then b.plus x else b

def put (bs : List TB) (x : TB) : List TB := if bs.any (·.hit x) then bs.map (TB.fold x) else bs ++ [x]
def item (T : Nat → TP) (K : Nat → Option Nat) (i : Nat) : TB := ⟨K i, (T i).cur, (T i).line, (T i).deb, (T i).cre⟩
def cn (T : Nat → TP) (K : Nat → Option Nat) (i : Nat) : Bool := !(T i).tax && (K i).isSome
def run (T : Nat → TP) (K : Nat → Option Nat) : Nat → List TB
  | 0 => []
  | i + 1 => if cn T K i then put (run T K i) (item T K i) else run T K i

theorem fold_key (x b : TB) : (TB.fold x b).key = b.key := by unfold TB.fold; split <;> rfl
theorem fold_cur (x b : TB) : (TB.fold x b).cur = b.cur := by unfold TB.fold; split <;> rfl
theorem fold_line (x b : TB) : (TB.fold x b).line = b.line := by unfold TB.fold; split <;> rfl
theorem hit_fold (x b y : TB) : (TB.fold x b).hit y = b.hit y := by unfold TB.hit; rw [fold_key, fold_cur]
theorem hit_fold2 (x b y : TB) : y.hit (TB.fold x b) = y.hit b := by unfold TB.hit; rw [fold_key, fold_cur]
theorem hit_comm (a b : TB) : a.hit b = b.hit a := by
  unfold TB.hit
  rw [Bool.eq_iff_iff]
  simp only [Bool.and_eq_true, beq_iff_eq]
  exact ⟨fun h => ⟨h.1.symm, h.2.symm⟩, fun h => ⟨h.1.symm, h.2.symm⟩⟩
theorem hit_trans {a b c : TB} (h1 : a.hit b = true) (h2 : b.hit c = true) : a.hit c = true := by
  unfold TB.hit at *
  simp only [Bool.and_eq_true, beq_iff_eq] at *
  exact ⟨h1.1.trans h2.1, h1.2.trans h2.2⟩

/-- No two bases share key and currency. -/
def Dist (bs : List TB) : Prop := bs.Pairwise fun a b => a.hit b = false

theorem dist_put {bs : List TB} (h : Dist bs) (x : TB) : Dist (put bs x) := by
  unfold put
  split
  · unfold Dist
    rw [List.pairwise_map]
    refine h.imp (fun {a b} hab => ?_)
    rw [hit_fold, hit_fold2]
    exact hab
  · rename_i hn
    unfold Dist
    rw [List.pairwise_append]
    refine ⟨h, List.pairwise_singleton _ _, fun a ha b hb => ?_⟩
    rw [List.mem_singleton.1 hb]
    cases e : a.hit x
    · rfl
    · exact absurd (List.any_eq_true.2 ⟨a, ha, e⟩) hn

theorem dist_run (T : Nat → TP) (K : Nat → Option Nat) : ∀ t, Dist (run T K t)
  | 0 => List.Pairwise.nil
  | t + 1 => by
    unfold run
    split
    · exact dist_put (dist_run T K t) _
    · exact dist_run T K t

theorem key_put {bs : List TB} {x : TB} (h : ∀ b ∈ bs, b.key.isSome = true) (hx : x.key.isSome = true) : ∀ b ∈ put bs x, b.key.isSome = true := by
  intro b hb
  unfold put at hb
  split at hb
  · obtain ⟨c, hc, rfl⟩ := List.mem_map.1 hb
    rw [fold_key]
    exact h c hc
  · rcases List.mem_append.1 hb with hb | hb
    · exact h b hb
    · rw [List.mem_singleton.1 hb]; exact hx

theorem key_run (T : Nat → TP) (K : Nat → Option Nat) : ∀ t, ∀ b ∈ run T K t, b.key.isSome = true
  | 0 => fun b hb => absurd hb (List.not_mem_nil)
  | t + 1 => by
    unfold run
    split
    · rename_i hc
      refine key_put (key_run T K t) ?_
      unfold cn at hc
      simp only [Bool.and_eq_true] at hc
      exact hc.2
    · exact key_run T K t

/-- Every base's key is one of the postings' keys. -/
theorem mem_run (T : Nat → TP) (K : Nat → Option Nat) : ∀ t, ∀ b ∈ run T K t, ∃ j, j < t ∧ b.key = K j
  | 0 => fun b hb => absurd hb (List.not_mem_nil)
  | t + 1 => by
    intro b hb
    unfold run at hb
    split at hb
    · unfold put at hb
      split at hb
      · obtain ⟨c, hc, rfl⟩ := List.mem_map.1 hb
        obtain ⟨j, hj, e⟩ := mem_run T K t c hc
        exact ⟨j, by omega, by rw [fold_key]; exact e⟩
      · rcases List.mem_append.1 hb with hb | hb
        · obtain ⟨j, hj, e⟩ := mem_run T K t b hb
          exact ⟨j, by omega, e⟩
        · rw [List.mem_singleton.1 hb]; exact ⟨t, by omega, rfl⟩
    · obtain ⟨j, hj, e⟩ := mem_run T K t b hb
      exact ⟨j, by omega, e⟩

def Bd (t : Nat) (b : TB) : Prop := -9223372036854775808 * (t : Int) ≤ b.deb ∧ b.deb ≤ 9223372036854775808 * (t : Int) ∧ -9223372036854775808 * (t : Int) ≤ b.cre ∧ b.cre ≤ 9223372036854775808 * (t : Int)

theorem bd_run (T : Nat → TP) (K : Nat → Option Nat) (n : Nat) (hf : ∀ j, j < n → (T j).Fit) : ∀ t, t ≤ n → ∀ b ∈ run T K t, Bd t b
  | 0, _ => fun b hb => absurd hb (List.not_mem_nil)
  | t + 1, ht => by
    intro b hb
    have ih := bd_run T K n hf t (by omega)
    have hd := (hf t (by omega)).deb
    have hc := (hf t (by omega)).cre
    have up : ∀ c, Bd t c → Bd (t + 1) c := fun c h => by unfold Bd at *; omega
    unfold run at hb
    split at hb
    · unfold put at hb
      split at hb
      · obtain ⟨c, hc', rfl⟩ := List.mem_map.1 hb
        have h1 := ih c hc'
        unfold TB.fold
        split
        · unfold Bd TB.plus item at *
          simp only
          omega
        · exact up c h1
      · rcases List.mem_append.1 hb with hb | hb
        · exact up b (ih b hb)
        · rw [List.mem_singleton.1 hb]
          unfold Bd item
          simp only
          omega
    · exact up b (ih b hb)

theorem len_put (bs : List TB) (x : TB) : (put bs x).length ≤ bs.length + 1 := by
  unfold put
  split <;> simp
theorem len_run (T : Nat → TP) (K : Nat → Option Nat) : ∀ t, (run T K t).length ≤ t
  | 0 => Nat.le_refl _
  | t + 1 => by
    have ih := len_run T K t
    have := len_put (run T K t) (item T K t)
    unfold run
    split <;> omega

/-- At the one index that fits, put is a set. -/
theorem put_set {bs : List TB} (hd : Dist bs) {x : TB} {j : Nat} (hj : j < bs.length) (hh : bs[j].hit x = true) : put bs x = bs.set j (bs[j].plus x) := by
  have ha : bs.any (·.hit x) = true := List.any_eq_true.2 ⟨bs[j], List.getElem_mem hj, hh⟩
  unfold put
  rw [if_pos ha]
  apply List.ext_getElem
  · simp
  · intro i h1 h2
    simp only [List.length_map] at h1
    rw [List.getElem_map, List.getElem_set]
    by_cases e : j = i
    · subst e
      rw [if_pos rfl]
      unfold TB.fold
      rw [if_pos hh]
    · rw [if_neg e]
      unfold TB.fold
      rw [if_neg]
      intro hi
      have hp := List.pairwise_iff_getElem.1 hd
      have hx : bs[i].hit bs[j] = true := hit_trans hi (by rw [hit_comm]; exact hh)
      by_cases hl : i < j
      · rw [hp i j h1 hj hl] at hx
        cases hx
      · have hl2 : j < i := by omega
        have := hp j i hj h1 hl2
        rw [hit_comm] at this
        rw [this] at hx
        cases hx

theorem put_new {bs : List TB} {x : TB} (h : ∀ j (hj : j < bs.length), bs[j].hit x = false) : put bs x = bs ++ [x] := by
  unfold put
  rw [if_neg]
  intro ha
  obtain ⟨b, hb, hh⟩ := List.any_eq_true.1 ha
  obtain ⟨j, hj, rfl⟩ := List.getElem_of_mem hb
  rw [h j hj] at hh
  cases hh

/-! ### The closed form: the first posting of each pair -/
def new (T : Nat → TP) (K : Nat → Option Nat) (i : Nat) : Bool := cn T K i && (List.range i).all fun j => !(cn T K j && (item T K j).hit (item T K i))
def firsts (T : Nat → TP) (K : Nat → Option Nat) : Nat → List Nat
  | 0 => []
  | t + 1 => if new T K t then firsts T K t ++ [t] else firsts T K t
def tot (T : Nat → TP) (K : Nat → Option Nat) (d : Bool) (i : Nat) : Nat → Int
  | 0 => 0
  | t + 1 => tot T K d i t + if cn T K t && (item T K t).hit (item T K i) then amt d (T t) else 0
def entry (T : Nat → TP) (K : Nat → Option Nat) (t i : Nat) : TB := ⟨K i, (T i).cur, (T i).line, tot T K true i t, tot T K false i t⟩

theorem new_iff (T : Nat → TP) (K : Nat → Option Nat) (i : Nat) : new T K i = true ↔ cn T K i = true ∧ ∀ j, j < i → cn T K j = true → (item T K j).hit (item T K i) = false := by
  unfold new
  rw [Bool.and_eq_true, List.all_eq_true]
  refine ⟨fun ⟨h1, h2⟩ => ⟨h1, fun j hj hc => ?_⟩, fun ⟨h1, h2⟩ => ⟨h1, fun j hj => ?_⟩⟩
  · have := h2 j (List.mem_range.2 hj)
    rw [hc, Bool.true_and] at this
    simpa using this
  · cases hc : cn T K j
    · rfl
    · rw [h2 j (List.mem_range.1 hj) hc]; rfl

theorem mem_firsts (T : Nat → TP) (K : Nat → Option Nat) (i : Nat) : ∀ t, i ∈ firsts T K t ↔ i < t ∧ new T K i = true
  | 0 => by simp [firsts]
  | t + 1 => by
    have ih := mem_firsts T K i t
    unfold firsts
    split
    · rename_i hn
      rw [List.mem_append, List.mem_singleton, ih]
      refine ⟨fun h => ?_, fun ⟨h1, h2⟩ => ?_⟩
      · rcases h with ⟨h1, h2⟩ | rfl
        · exact ⟨by omega, h2⟩
        · exact ⟨by omega, hn⟩
      · by_cases e : i = t
        · exact .inr e
        · exact .inl ⟨by omega, h2⟩
    · rename_i hn
      rw [ih]
      refine ⟨fun ⟨h1, h2⟩ => ⟨by omega, h2⟩, fun ⟨h1, h2⟩ => ⟨?_, h2⟩⟩
      by_cases e : i = t
      · subst e; exact absurd h2 hn
      · omega

theorem ex_first (T : Nat → TP) (K : Nat → Option Nat) : ∀ j, cn T K j = true → ∃ i, i ≤ j ∧ new T K i = true ∧ (item T K i).hit (item T K j) = true := by
  intro j
  induction j using Nat.strongRecOn with
  | ind j ih =>
    intro hc
    by_cases hn : new T K j = true
    · exact ⟨j, Nat.le_refl _, hn, by simp [TB.hit]⟩
    · rw [new_iff] at hn
      have : ∃ j', j' < j ∧ cn T K j' = true ∧ (item T K j').hit (item T K j) = true := by
        refine Classical.byContradiction fun hno => hn ⟨hc, fun j' h1 h2 => ?_⟩
        cases e : (item T K j').hit (item T K j)
        · rfl
        · exact absurd ⟨j', h1, h2, e⟩ hno
      obtain ⟨j', h1, h2, h3⟩ := this
      obtain ⟨i, h4, h5, h6⟩ := ih j' h1 h2
      exact ⟨i, by omega, h5, hit_trans h6 h3⟩

theorem tot_zero (T : Nat → TP) (K : Nat → Option Nat) (d : Bool) (i : Nat) : ∀ m, (∀ j, j < m → cn T K j = true → (item T K j).hit (item T K i) = false) → tot T K d i m = 0
  | 0, _ => rfl
  | m + 1, h => by
    unfold tot
    rw [tot_zero T K d i m (fun j hj => h j (by omega))]
    cases hc : cn T K m
    · rfl
    · rw [h m (by omega) hc]; rfl

theorem run_eq (T : Nat → TP) (K : Nat → Option Nat) : ∀ t, run T K t = (firsts T K t).map (entry T K t)
  | 0 => rfl
  | t + 1 => by
    have ih := run_eq T K t
    unfold run
    by_cases hc : cn T K t = true
    · rw [if_pos hc, ih]
      have hh : ∀ i, (entry T K t i).hit (item T K t) = (item T K i).hit (item T K t) := fun i => rfl
      by_cases hn : new T K t = true
      · have hno := ((new_iff T K t).1 hn).2
        rw [put_new (fun j hj => ?_)]
        · rw [show firsts T K (t + 1) = firsts T K t ++ [t] from by rw [firsts]; exact if_pos hn, List.map_append]
          congr 1
          · refine List.map_congr_left fun i hi => ?_
            obtain ⟨h1, h2⟩ := (mem_firsts T K i t).1 hi
            have h3 := hno i h1 ((new_iff T K i).1 h2).1
            rw [hit_comm] at h3
            simp only [entry, tot, h3, Bool.and_false, Bool.false_eq_true, if_false, Int.add_zero]
          · have hz : ∀ d, tot T K d t t = 0 := fun d => tot_zero T K d t t hno
            have hs : (item T K t).hit (item T K t) = true := by simp [TB.hit]
            simp only [List.map_cons, List.map_nil, entry, tot, hz, hc, hs, Bool.and_self, if_true, Int.zero_add]
            rfl
        · rw [List.getElem_map, hh]
          simp only [List.length_map] at hj
          obtain ⟨h1, h2⟩ := (mem_firsts T K _ t).1 (List.getElem_mem hj)
          exact hno _ h1 ((new_iff T K _).1 h2).1
      · have hf : firsts T K (t + 1) = firsts T K t := by rw [firsts]; exact if_neg hn
        rw [hf]
        obtain ⟨i, h1, h2, h3⟩ := ex_first T K t hc
        have hne : i ≠ t := by rintro rfl; exact hn h2
        have hi : i ∈ firsts T K t := (mem_firsts T K i t).2 ⟨by omega, h2⟩
        unfold put
        rw [if_pos (List.any_eq_true.2 ⟨_, List.mem_map_of_mem hi, (hh i).trans h3⟩), List.map_map]
        refine List.map_congr_left fun i' _ => ?_
        show TB.fold (item T K t) (entry T K t i') = _
        unfold TB.fold
        rw [hh, hit_comm]
        by_cases h4 : (item T K t).hit (item T K i') = true
        · rw [if_pos h4]
          simp only [entry, tot, hc, h4, Bool.and_self, if_true]
          rfl
        · have h5 : (item T K t).hit (item T K i') = false := by simpa using h4
          rw [if_neg h4]
          simp only [entry, tot, h5, Bool.and_false, Bool.false_eq_true, if_false, Int.add_zero]
    · have hn : new T K t = false := by
        unfold new
        rw [show cn T K t = false from by simpa using hc]; rfl
      have hc' : cn T K t = false := by simpa using hc
      rw [if_neg hc, ih]
      rw [show firsts T K (t + 1) = firsts T K t from by rw [firsts]; exact if_neg (by rw [hn]; decide)]
      refine List.map_congr_left fun i _ => ?_
      simp only [entry, tot, hc', Bool.false_and, Bool.false_eq_true, if_false, Int.add_zero]

theorem firsts_pre (T : Nat → TP) (K : Nat → Option Nat) (t : Nat) : ∀ m, ∃ r, firsts T K (t + m) = firsts T K t ++ r
  | 0 => ⟨[], by simp⟩
  | m + 1 => by
    obtain ⟨r, h⟩ := firsts_pre T K t m
    rw [show t + (m + 1) = t + m + 1 from rfl, firsts]
    split
    · exact ⟨r ++ [t + m], by rw [h, List.append_assoc]⟩
    · exact ⟨r, h⟩

/-- The base of the first posting i stands at the place that its number among the firsts says. -/
theorem run_at (T : Nat → TP) (K : Nat → Option Nat) {i n : Nat} (hi : i < n) (hn : new T K i = true) : (run T K n)[(firsts T K i).length]? = some (entry T K n i) := by
  obtain ⟨r, h⟩ := firsts_pre T K (i + 1) (n - (i + 1))
  rw [show i + 1 + (n - (i + 1)) = n from by omega, firsts, if_pos hn] at h
  rw [run_eq, h, List.getElem?_map, List.append_assoc, List.getElem?_append_right (Nat.le_refl _), Nat.sub_self]
  rfl

theorem run_len (T : Nat → TP) (K : Nat → Option Nat) (n : Nat) : (run T K n).length = (firsts T K n).length := by rw [run_eq, List.length_map]

theorem firsts_lt (T : Nat → TP) (K : Nat → Option Nat) {i n : Nat} (hi : i < n) (hn : new T K i = true) : (firsts T K i).length < (run T K n).length := by
  have h := run_at T K hi hn
  exact (List.getElem?_eq_some_iff.1 h).1

/-! ### The keys tell the postings apart as their Key fields do -/
theorem cn_cnt {T : Nat → TP} {K : Nat → Option Nat} {n i : Nat} (hk : KeyOk T n K) (hi : i < n) : cn T K i = cnt (T i) := by
  have h := hk.noKey i hi
  unfold cn cnt
  congr 1
  cases e : K i
  · have h0 := h.1 e
    simp
    omega
  · have h0 : ¬ (T i).key < 0 := fun h0 => by have := h.2 h0; rw [e] at this; cases this
    simp
    omega

theorem hit_same {T : Nat → TP} {K : Nat → Option Nat} {n i j : Nat} (hk : KeyOk T n K) (hi : i < n) (hj : j < n) : same (T j) (T i) = (cn T K j && cn T K i && (item T K j).hit (item T K i)) := by
  rw [cn_cnt hk hi, cn_cnt hk hj]
  unfold same
  cases hci : cnt (T i)
  · simp
  · cases hcj : cnt (T j)
    · simp
    · have h1 : 0 ≤ (T i).key := by unfold cnt at hci; simp at hci; exact hci.2
      have h2 : 0 ≤ (T j).key := by unfold cnt at hcj; simp at hcj; exact hcj.2
      have h := hk.same j i hj hi h2 h1
      unfold TB.hit item
      simp only [Bool.true_and]
      congr 1
      rw [Bool.eq_iff_iff, beq_iff_eq, beq_iff_eq]
      exact h.symm

theorem new_same {T : Nat → TP} {K : Nat → Option Nat} {n i : Nat} (hk : KeyOk T n K) (hi : i < n) : new T K i = true ↔ cnt (T i) = true ∧ ∀ j, j < i → same (T j) (T i) = false := by
  rw [new_iff, cn_cnt hk hi]
  refine ⟨fun ⟨h1, h2⟩ => ⟨h1, fun j hj => ?_⟩, fun ⟨h1, h2⟩ => ⟨h1, fun j hj hc => ?_⟩⟩
  · rw [hit_same hk hi (by omega)]
    cases hc : cn T K j
    · rfl
    · rw [h2 j hj hc]; simp
  · have := h2 j hj
    rw [hit_same hk hi (by omega), hc, cn_cnt hk hi, h1] at this
    simpa using this

theorem tot_sum {T : Nat → TP} {K : Nat → Option Nat} {n i : Nat} (hk : KeyOk T n K) (hi : i < n) (hn : new T K i = true) (d : Bool) : ∀ m, i + m ≤ n → tot T K d i (i + m) = sumZ T (T i) d i m
  | 0, _ => tot_zero T K d i i ((new_iff T K i).1 hn).2
  | m + 1, h => by
    rw [show i + (m + 1) = i + m + 1 from rfl, tot, sumZ, tot_sum hk hi hn d m (by omega)]
    congr 1
    unfold Gsum.part
    rw [hit_same hk hi (by omega), ((new_iff T K i).1 hn).1, Bool.and_true]

theorem entry_sum {T : Nat → TP} {K : Nat → Option Nat} {n i : Nat} (hk : KeyOk T n K) (hi : i < n) (hn : new T K i = true) : entry T K n i = ⟨K i, (T i).cur, (T i).line, sumZ T (T i) true i (n - i), sumZ T (T i) false i (n - i)⟩ := by
  have h := fun d => tot_sum hk hi hn d (n - i) (by omega)
  rw [show i + (n - i) = n from by omega] at h
  unfold entry
  rw [h, h]

end Go.Proofs.Qxb6609262a.Plain
