import Derived.Test.Qxb6609262aIn
import Derived.Deep.Slices
import Derived.OpenShut
namespace Go.Proofs.Qxb6609262a.Frame
open Go.RowKit Go.ChangeShapes Go.WideShapes Go.Proofs.Qxb6609262a.In

theorem cells33 : Try.prog.cellsOf 33 = 6 := by kernel_rfl
theorem cells3 : Try.prog.cellsOf 3 = 1 := by kernel_rfl
theorem cells9 : Try.prog.cellsOf 9 = 1 := by kernel_rfl
theorem cells2 : Try.prog.cellsOf 2 = 1 := by kernel_rfl
theorem cells4 : Try.prog.cellsOf 4 = 1 := by kernel_rfl

theorem wf64 {z : Int} (h : (Lit.int .i64 z).wf = true) : -9223372036854775808 ≤ z ∧ z ≤ 9223372036854775807 := by
  simp [Lit.wf] at h
  obtain ⟨h1, h2⟩ := h
  have e1 : IntKind.i64.min = -9223372036854775808 := by decide
  have e2 : IntKind.i64.max = 9223372036854775807 := by decide
  omega

theorem open_tp {H : Type} {enc : TypeId × Value → H} {W : World} {base : Nat} {spare : Nat → Bool} {held : Bool} {n : Nat} {cs : List Value} {x : DataW H × List MemPlace} (h : DataW.trod enc Try.prog W base spare held n 33 cs = some x) :
    ∃ t : TP, t.Fit ∧ cs = [.int .i64 t.line, .string t.cur, .int .i64 t.deb, .int .i64 t.cre, .bool t.tax, .int .i64 t.key] := by
  obtain ⟨xs, k, hk, hxy, hl, hxl, hf⟩ := DataW.trod_struct Try.underlying33 h
  rw [cells33] at hl
  match cs, hl, xs, hxl with
  | [v0, v1, v2, v3, v4, v5], _, [y0, y1, y2, y3, y4, y5], _ =>
    have g0 := hf 0 _ rfl
    have g1 := hf 1 _ rfl
    have g2 := hf 2 _ rfl
    have g3 := hf 3 _ rfl
    have g4 := hf 4 _ rfl
    have g5 := hf 5 _ rfl
    simp [cells3, cells9, cells2, cells4] at g0 g1 g2 g3 g4 g5
    obtain ⟨z0, e0, _, f0⟩ := DataW.trod_int Try.underlying3 g0
    obtain ⟨s1, e1, _, f1⟩ := DataW.trod_string Try.underlying9 g1
    obtain ⟨z2, e2, _, f2⟩ := DataW.trod_int Try.underlying2 g2
    obtain ⟨z3, e3, _, f3⟩ := DataW.trod_int Try.underlying2 g3
    obtain ⟨b4, e4, _⟩ := DataW.trod_bool Try.underlying4 g4
    obtain ⟨z5, e5, _, f5⟩ := DataW.trod_int Try.underlying3 g5
    simp only [List.cons.injEq, and_true] at e0 e1 e2 e3 e4 e5
    subst e0 e1 e2 e3 e4 e5
    exact ⟨⟨z0, s1, z2, z3, b4, z5⟩, ⟨wf64 f0, wf64 f2, wf64 f3, wf64 f5, f1⟩, rfl⟩

theorem open_ps {H : Type} {enc : TypeId × Value → H} {W : World} {spare : Nat → Bool} {held : Bool} {fuel len cap : Nat} {a : Option Addr} {x : DataW H × List MemPlace} (h : DataW.trod enc Try.prog W 0 spare held fuel 22 [.slice a len cap] = some x) (hn : 0 < len) :
    ∃ b o T, a = some ⟨b, o, none⟩ ∧ len ≤ maxLen ∧ Ps W b o len T := by
  rcases Go.Deep.open_slice Try.underlying22 h with ⟨h0, _⟩ | ⟨ad, len', cap', m, n, D, Pl, hcs, hb, hl, hm, hmm, _, hx⟩
  · simp at h0
    omega
  · simp at hcs
    obtain ⟨rfl, rfl, rfl⟩ := hcs
    have hlm : len ≤ m := by rw [hmm]; split <;> omega
    have each : ∀ i, i < len → ∃ t : TP, t.Fit ∧ ∀ k, k < 6 → W.cell? (ad.add (i * 6 + k)) = [.int .i64 t.line, .string t.cur, .int .i64 t.deb, .int .i64 t.cre, .bool t.tax, .int .i64 t.key][k]? := by
      intro i hi
      obtain ⟨cs', h1, h2⟩ := hx i (by omega)
      rw [cells33] at h1
      obtain ⟨_, hlen, hcell⟩ := World.cells?_some h1
      obtain ⟨t, ht, rfl⟩ := open_tp h2
      refine ⟨t, ht, fun k hk => ?_⟩
      have := hcell k hk
      rw [Go.Deep.add_add] at this
      exact this
    haveI : Inhabited TP := ⟨⟨0, ⟨#[]⟩, 0, 0, false, 0⟩⟩
    obtain ⟨T, hT⟩ := Go.Deep.choose_lt each
    obtain ⟨b, o, sp⟩ := ad
    have hsp : sp = none := by
      have := (hT 0 hn).2 0 (by decide)
      cases sp with
      | none => rfl
      | some s =>
        exfalso
        rw [show ((⟨b, o, some s⟩ : Addr).add (0 * 6 + 0)) = ⟨b, o, some s⟩ from by simp [Addr.add]] at this
        unfold World.cell? at this
        split at this <;> simp at this
    subst hsp
    have c : ∀ i, i < len → ∀ k, k < 6 → W.cell? ⟨b, o + (i * 6 + k), none⟩ = [.int .i64 (T i).line, .string (T i).cur, .int .i64 (T i).deb, .int .i64 (T i).cre, .bool (T i).tax, .int .i64 (T i).key][k]? := fun i hi k hk => by
      have := (hT i hi).2 k hk
      rw [show (⟨b, o, none⟩ : Addr).add (i * 6 + k) = ⟨b, o + (i * 6 + k), none⟩ from by unfold Addr.add; split <;> simp_all] at this
      exact this
    refine ⟨b, o, T, rfl, by omega, fun i hi => c i hi 0 (by decide), fun i hi => c i hi 1 (by decide), fun i hi => c i hi 2 (by decide), fun i hi => c i hi 3 (by decide), fun i hi => c i hi 4 (by decide), fun i hi => c i hi 5 (by decide), fun i hi => (hT i hi).1⟩

end Go.Proofs.Qxb6609262a.Frame
