import Derived.Test.Qxb6614951aDoorLawA
import Derived.Test.Qxb6614951aDoorLawB
import Derived.Test.Qxb6614951aDoorEarly
import Derived.ProofKit
import Derived.OpenShut
import Derived.ShutString
import Derived.ChangeOld
import Derived.Below
import Derived.LaidMore
import Derived.Stop.Joined
import Derived.Stop.LaidErr
import Derived.Deep.Slices
import Derived.Lib.SmallJoins
namespace Go.Proofs.Qxb6614951aDoor
open Go.ChangeShapes Go.WideShapes Go.ChangeAt Go.RowKit Go.Deep Go.Joins

theorem own : ownKnob Tryd.prog.godebug = none := by kernel_rfl
theorem laidOut : laidOutB Tryd.prog = true := by kernel_rfl
/-- the listed variable's name, off the given row -/
abbrev nDef : String := Rows.fnPolicyOfAStepIsThatOfTheStepAloneSpec.vars.headD ""
abbrev laid1 : List (String × DataW Unit) := [(nDef, Rows.laid_example_com_counterstep_counterstep_defaultRetry)]
theorem gDef : Tryd.prog.globalNamed nDef = some 0 := by kernel_rfl
theorem tDef : (Tryd.prog.globals[0]?).map (·.type) = some 35 := by kernel_rfl
theorem cells3 : Tryd.prog.cellsOf 3 = 1 := by kernel_rfl
theorem cells2 : Tryd.prog.cellsOf 2 = 1 := by kernel_rfl
theorem cells33 : Tryd.prog.cellsOf 33 = 1 := by kernel_rfl
theorem cells23 : Tryd.prog.cellsOf 23 = 1 := by kernel_rfl
theorem cells25 : Tryd.prog.cellsOf 25 = 4 := by kernel_rfl
theorem cells35 : Tryd.prog.cellsOf 35 = 4 := by kernel_rfl
theorem cells40 : Tryd.prog.cellsOf 40 = 8 := by kernel_rfl

section
variable {H : Type} {enc : TypeId × Value → H} {W : World} {fuel : Nat} {held : Bool}

theorem trod_flt {t : TypeId} {k : FloatKind} {cs : List Value} {x : DataW H × List MemPlace} (ht : Tryd.prog.underlying t = some (.float k)) (h : DataW.trod enc Tryd.prog W 0 (fun _ => true) held fuel t cs = some x) :
    ∃ n, cs = [.float k n] ∧ x = (.lit (.float k n), []) := by
  cases fuel with
  | zero => simp [DataW.trod] at h
  | succ n =>
    unfold DataW.trod at h
    rw [ht] at h
    split at h <;> simp_all

theorem four (cs : List Value) (h : cs.length = 4) : ∃ a b c d, cs = [a, b, c, d] := by
  match cs, h with
  | [a, b, c, d], _ => exact ⟨a, b, c, d, rfl⟩
theorem eight (cs : List Value) (h : cs.length = 8) : ∃ a b c d e f g i, cs = [a, b, c, d, e, f, g, i] := by
  match cs, h with
  | [a, b, c, d, e, f, g, i], _ => exact ⟨a, b, c, d, e, f, g, i, rfl⟩

/-- a policy's four cells, read -/
theorem pol_cells {cs : List Value} {x : DataW H × List MemPlace} (h : DataW.trod enc Tryd.prog W 0 (fun _ => true) held fuel 25 cs = some x) :
    ∃ t : P4, cs = [.int .i64 t.a, .int .i64 t.b, .float .f64 t.f, .int .i64 t.d] := by
  obtain ⟨y0, y1, y2, y3, n, _, hl, h0, h1, h2, h3⟩ := trod_struct4 Tryd.underlying25 h
  obtain ⟨a, b, c, d, rfl⟩ := four cs (hl.trans cells25)
  simp only [cells3, cells2, cells23, List.drop_zero, List.drop_succ_cons, List.take_succ_cons, List.take_zero] at h0 h1 h2 h3
  obtain ⟨n0, e0, _⟩ := DataW.trod_int Tryd.underlying3 h0
  obtain ⟨n1, e1, _⟩ := DataW.trod_int Tryd.underlying2 h1
  obtain ⟨n2, e2, _⟩ := trod_flt Tryd.underlying23 h2
  obtain ⟨n3, e3, _⟩ := DataW.trod_int Tryd.underlying2 h3
  cases e0
  cases e1
  cases e2
  cases e3
  exact ⟨⟨n0, n1, n2, n3⟩, rfl⟩

/-- the retry policy's four cells, read -/
theorem ret_cells {cs : List Value} {x : DataW H × List MemPlace} (h : DataW.trod enc Tryd.prog W 0 (fun _ => true) held fuel 35 cs = some x) :
    ∃ t : P4, cs = [.int .i64 t.a, .int .i64 t.b, .float .f64 t.f, .int .i64 t.d] ∧ x = (.agg [.lit (.int .i64 t.a), .lit (.int .i64 t.b), .lit (.float .f64 t.f), .lit (.int .i64 t.d)], []) := by
  obtain ⟨y0, y1, y2, y3, n, hx, hl, h0, h1, h2, h3⟩ := trod_struct4 Tryd.underlying35 h
  obtain ⟨a, b, c, d, rfl⟩ := four cs (hl.trans cells35)
  simp only [cells3, cells33, cells23, List.drop_zero, List.drop_succ_cons, List.take_succ_cons, List.take_zero] at h0 h1 h2 h3
  obtain ⟨n0, e0, f0, _⟩ := DataW.trod_int Tryd.underlying3 h0
  obtain ⟨n1, e1, f1, _⟩ := DataW.trod_int Tryd.underlying33 h1
  obtain ⟨n2, e2, f2⟩ := trod_flt Tryd.underlying23 h2
  obtain ⟨n3, e3, f3, _⟩ := DataW.trod_int Tryd.underlying33 h3
  cases e0
  cases e1
  cases e2
  cases e3
  subst f0 f1 f2 f3
  exact ⟨⟨n0, n1, n2, n3⟩, rfl, by simpa using hx⟩

/-- A policy by value, as the walk wants it. -/
theorem pol_open {r : Reach} {b0 : Nat} {v : Value} {d : DataW H} {p : List MemPlace} (hv : Value.okWide Tryd.prog W r b0 25 v) (h : DataW.Trod enc Tryd.prog W 0 (fun _ => true) true 25 v d p) : ∃ t : P4, v = .agg t.v := by
  obtain ⟨cs, rfl, _⟩ := okWide_struct Tryd.underlying25 hv
  obtain ⟨fuel, hf⟩ := h
  obtain ⟨t, ht⟩ := pol_cells hf
  refine ⟨t, ?_⟩
  have e : cs.toList = t.v.toList := ht
  rw [Array.toList_inj.1 e]

/-- The step policies that came in, as the walk wants them. -/
theorem steps_open {a0 : Option Addr} {len0 cap0 : Nat} {x : DataW H × List MemPlace} (hf : DataW.trod enc Tryd.prog W 0 (fun _ => true) true fuel 22 (Value.slice a0 len0 cap0).cells.toList = some x) :
    ∃ A C : Nat → P4, (0 < len0 → ∃ b off, a0 = some ⟨b, off, none⟩ ∧ Told W b off len0 A C) ∧ len0 ≤ cap0 ∧ cap0 ≤ maxLen := by
  rcases open_slice Tryd.underlying22 hf with ⟨hcs, _⟩ | ⟨a, l, c, m, n, D, Pl, hcs, _, hl, hm, hmm, _, hx⟩
  · simp [Value.cells] at hcs
    obtain ⟨rfl, rfl, rfl⟩ := hcs
    exact ⟨fun _ => ⟨0, 0, 0, 0⟩, fun _ => ⟨0, 0, 0, 0⟩, fun h => absurd h (Nat.lt_irrefl 0), Nat.le_refl _, Nat.zero_le _⟩
  · simp [Value.cells] at hcs
    obtain ⟨rfl, rfl, rfl⟩ := hcs
    simp only [if_true] at hmm
    have each : ∀ i, i < len0 → ∃ q : P4 × P4, (∀ k v, q.1.v[k]? = some v → W.cell? (a.add (i * 8 + k)) = some v) ∧ (∀ k v, q.2.v[k]? = some v → W.cell? (a.add (i * 8 + 4 + k)) = some v) := by
      intro i hi
      obtain ⟨cs', h1, h2⟩ := hx i (by omega)
      rw [cells40] at h1
      obtain ⟨_, hlen, hcell⟩ := World.cells?_some h1
      obtain ⟨y0, y1, n', _, _, g0, g1⟩ := trod_struct2 Tryd.underlying40 h2
      obtain ⟨v0, v1, v2, v3, v4, v5, v6, v7, rfl⟩ := eight cs' hlen
      simp only [cells25, List.drop_zero, List.drop_succ_cons, List.take_succ_cons, List.take_zero] at g0 g1
      obtain ⟨t0, e0⟩ := pol_cells g0
      obtain ⟨t1, e1⟩ := pol_cells g1
      cases e0
      cases e1
      refine ⟨(t0, t1), fun k v hk => ?_, fun k v hk => ?_⟩
      · have hk4 : k < 4 := (Array.getElem?_eq_some_iff.1 hk).1
        have := hcell k (by omega)
        rw [add_add] at this
        rw [this]
        match k, hk4 with
        | 0, _ => exact hk
        | 1, _ => exact hk
        | 2, _ => exact hk
        | 3, _ => exact hk
      · have hk4 : k < 4 := (Array.getElem?_eq_some_iff.1 hk).1
        have := hcell (4 + k) (by omega)
        rw [add_add] at this
        rw [Nat.add_assoc, this]
        match k, hk4 with
        | 0, _ => exact hk
        | 1, _ => exact hk
        | 2, _ => exact hk
        | 3, _ => exact hk
    have hne : ∀ i, ∃ q : P4 × P4, i < len0 → (∀ k v, q.1.v[k]? = some v → W.cell? (a.add (i * 8 + k)) = some v) ∧ (∀ k v, q.2.v[k]? = some v → W.cell? (a.add (i * 8 + 4 + k)) = some v) := fun i => by
      by_cases hi : i < len0
      · obtain ⟨q, hq⟩ := each i hi
        exact ⟨q, fun _ => hq⟩
      · exact ⟨(⟨0, 0, 0, 0⟩, ⟨0, 0, 0, 0⟩), fun h => absurd h hi⟩
    obtain ⟨q, hq⟩ := Classical.axiomOfChoice hne
    refine ⟨fun i => (q i).1, fun i => (q i).2, fun h0 => ?_, hl, hm⟩
    obtain ⟨b, off, spot⟩ := a
    have hspot : spot = none := by
      have h := (hq 0 h0).1 0 _ rfl
      simpa [Addr.add] using World.cell?_spot h
    subst hspot
    refine ⟨b, off, rfl, fun j hj => ?_⟩
    have h := hq j hj
    have e : ∀ k, (⟨b, off, none⟩ : Addr).add k = ⟨b, off + k, none⟩ := fun k => addp b off k
    have r1 : ∀ k v, ((q j).1.v)[k]? = some v → W.cell? ⟨b, off + j * 8 + k, none⟩ = some v := fun k v hk => by
      rw [Nat.add_assoc, ← e]
      exact h.1 k v hk
    have r2 : ∀ k v, ((q j).2.v)[k]? = some v → W.cell? ⟨b, off + j * 8 + 4 + k, none⟩ = some v := fun k v hk => by
      rw [show off + j * 8 + 4 + k = off + (j * 8 + 4 + k) by omega, ← e]
      exact h.2 k v hk
    exact ⟨⟨r1 0 _ rfl, r1 1 _ rfl, r1 2 _ rfl, r1 3 _ rfl⟩, ⟨r2 0 _ rfl, r2 1 _ rfl, r2 2 _ rfl, r2 3 _ rfl⟩⟩

/-- the default policy reads behind the call as it read before -/
theorem def_later {W' : World} {cs : Array Value} {d : DataW H} {p : List MemPlace} (hs : 0 < W.heap.size) (hvar : W.var? Tryd.prog nDef = some cs)
    (hd : DataW.trod enc Tryd.prog W 0 (fun _ => true) true fuel 35 cs.toList = some (d, p)) (bel : Below W.heap.size W W') :
    DataW.TrodVars enc Tryd.prog W' (fun b => decide (b < W.heap.size)) [nDef] [d] (MemPlace.row ⟨0, 0, none⟩ cs.size ++ p) := by
  have hvar' : W'.var? Tryd.prog nDef = some cs := by
    have hb := bel.block 0 hs
    simp only [World.var?, gDef, Option.bind_some] at hvar ⊢
    rw [hb]
    exact hvar
  have lt : ∀ x ∈ p, x.block < W.heap.size := DataW.trod_lt fuel _ _ _ hd
  obtain ⟨fuel', h'⟩ := Below.trod laidOut (by kernel_rfl) (of_decide_eq_true (by kernel_rfl)) (v := .agg cs) ⟨fuel, hd⟩ bel lt
  exact trodVars_mk1 gDef tDef hvar' h'
end

/-- The door's own heap meets the condition. -/
theorem door_met (os : Os) (args : Array Value) : laidMetH Tryd.prog laid1 ((World.doorLaid Tryd.prog 400 os).forCall (fun _ _ => 0) ⟨#[], args, []⟩).memory :=
  laidMetH_of_parts3 (fuel := 9) (laidMet_of_run' 9 (by kernel_rfl) (by kernel_rfl)) (by kernel_rfl) (by kernel_rfl)

/-- what the listed variable gives the walks -/
theorem def_of_laid {W : World} (h : laidMetH Tryd.prog laid1 W) : At4 W 0 0 4 500000000 0 0 := by
  rw [MakeChecks.laidMetH_plain _ _ _ (by kernel_rfl)] at h
  obtain ⟨ps, ⟨g0, t0, cs0, f0, p0, q0, hg0, ht0, hv0, hd0, _⟩, _⟩ := h
  obtain rfl := Option.some.inj (gDef.symm.trans hg0)
  obtain rfl := Option.some.inj (tDef.symm.trans ht0)
  obtain ⟨t, hcs, hx⟩ := ret_cells hd0
  simp only [Prod.mk.injEq, Rows.laid_example_com_counterstep_counterstep_defaultRetry, DataW.agg.injEq, List.cons.injEq, DataW.lit.injEq, Lit.int.injEq, Lit.float.injEq, true_and, and_true] at hx
  obtain ⟨⟨e0, e1, e2, e3⟩, _⟩ := hx
  have c : ∀ k v, cs0.toList[k]? = some v → W.cell? ⟨0, k, none⟩ = some v := fun k v hk => by
    have := World.var?_cell gDef hv0 k
    rw [this]
    simpa using hk
  rw [hcs, ← e0, ← e1, ← e2, ← e3] at c
  exact ⟨c 0 _ rfl, c 1 _ rfl, c 2 _ rfl, c 3 _ rfl⟩
end Go.Proofs.Qxb6614951aDoor
