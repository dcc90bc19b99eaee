import Derived.Test.Qxb6618928aStart
import Derived.ProofKit
import Derived.OpenShut
import Derived.ShutString
import Derived.ChangeOld
import Derived.Below
namespace Go.Proofs.Qxb6618928a.Starts
open Go.ChangeShapes Go.WideShapes Go.ChangeAt Go.RowKit
set_option linter.unusedVariables false

theorem own : ownKnob Try.prog.godebug = none := by kernel_rfl
theorem laidOut : laidOutB Try.prog = true := by kernel_rfl
theorem cells3 : Try.prog.cellsOf 3 = 1 := by kernel_rfl
theorem cells31 : Try.prog.cellsOf 31 = 7 := by kernel_rfl

/-- A []byte that came in, as the walks want it. -/
theorem byts_open {H : Type} {enc : TypeId × Value → H} {W : World} {a0 : Option Addr} {len0 cap0 fuel : Nat} {x : DataW H × List MemPlace}
    (hf : DataW.trod enc Try.prog W 0 (fun _ => true) true fuel 24 (Value.slice a0 len0 cap0).cells.toList = some x) :
    ∃ Z : Nat → Int, Byts W a0 len0 Z ∧ len0 ≤ maxLen := by
  rcases open_ints Try.underlying24 Try.underlying5 (by kernel_rfl) hf with ⟨hcs, _⟩ | ⟨a, l, c, zs, hcs, _, hl, hm, hz, _, hcell, hws⟩
  · simp [Value.cells] at hcs
    obtain ⟨rfl, rfl, rfl⟩ := hcs
    exact ⟨fun _ => 0, fun h => absurd h (Nat.lt_irrefl 0), Nat.zero_le _⟩
  · simp [Value.cells] at hcs
    obtain ⟨rfl, rfl, rfl⟩ := hcs
    simp only [if_true] at hz
    refine ⟨fun i => zs.getD i 0, fun h0 => ?_, by omega⟩
    obtain ⟨b, off, spot⟩ := a
    have hspot : spot = none := by simpa [Addr.add] using World.cell?_spot (hcell 0 (by omega))
    subst hspot
    have hc0 := hcell 0 (by omega)
    refine ⟨b, off, rfl, by simpa [Addr.add] using World.block_lt_of_cell? _ _ hc0, fun j hj => ?_⟩
    rw [← add_plain]
    exact hcell j (by omega)

/-- seven ints by value -/
theorem arr_open {H : Type} {enc : TypeId × Value → H} {W : World} {cs : Array Value} {fuel : Nat} {x : DataW H × List MemPlace} (hsz : cs.size = 7)
    (hf : DataW.trod enc Try.prog W 0 (fun _ => true) true fuel 31 (Value.agg cs).cells.toList = some x) : ∃ st : Nat → Int, cs = f7 st := by
  obtain ⟨xs, m, _, _, _, hxl, hx⟩ := DataW.trod_array Try.underlying31 hf
  have hat : ∀ i, i < 7 → ∃ a : Int, cs[i]? = some (.int .i64 a) := by
    intro i hi
    have h1 := hx i hi
    rw [cells3, List.getElem?_eq_getElem (by omega)] at h1
    obtain ⟨a, ha, _⟩ := DataW.trod_int Try.underlying3 h1
    refine ⟨a, ?_⟩
    have hi' : i < cs.toList.length := by simpa [hsz] using hi
    simp only [Value.cells, Nat.mul_one, List.drop_eq_getElem_cons hi', List.take_succ_cons, List.take_zero, List.cons.injEq, and_true] at ha
    rw [← ha]
    simp [hsz, hi]
  refine ⟨fun i => intOf (cs.getD i (.int .i64 0)), ?_⟩
  apply Array.ext_getElem?
  intro i
  by_cases hi : i < 7
  · obtain ⟨a, ha⟩ := hat i hi
    rw [f7_at _ hi, ha]
    simp [Array.getD_eq_getD_getElem?, ha, intOf]
  · rw [Array.getElem?_eq_none (by omega), Array.getElem?_eq_none (by simp; omega)]

set_option maxRecDepth 100000 in
theorem lifted (os : Os) (started : os.Started) (H : Type) (enc : TypeId × Value → H) :
    ReturnsInHanded {} Try.checked os 5 .any (Rows.fnIsStringDependsOnItsStartByteAloneSpec.pre6 enc Try.prog Try.f5 Rows.fnIsStringDependsOnItsStartByteAloneRow.domain false) (Rows.fnIsStringDependsOnItsStartByteAloneSpec.post enc Try.prog Try.f5 false true false false) := by
  refine returnsInHanded_of_change (C := Try.checked) own started (by kernel_rfl) Try.func5
    (ChangeSpec.witness6 (enc := enc) (C := Try.checked) false ⟨#[], #[.slice none 0 0, .agg #[.int .i64 0, .int .i64 0, .int .i64 0, .int .i64 0, .int .i64 0, .int .i64 0, .int .i64 0], .int .i64 0, .int .i64 0, .int .i64 0, .int .u8 0], []⟩ 8 (by kernel_rfl) (by kernel_rfl) (by kernel_rfl) (by kernel_rfl)) ?_
  intro W base args ds gs before hval0 hW hcnd _
  have hval : ∀ (j : Nat) t v, Try.f5.params[j]? = some t → args[j]? = some v → Value.okWide Try.prog W .any base t v := hval0
  have hW' := hW
  obtain ⟨p, q, hA0, hV, rfl, hfz, hnd⟩ := hW
  have hA : DataW.TrodAll enc Try.prog W 0 (fun _ => true) true Try.f5.params.toList args.toList ds p := hA0
  rw [Try.params5] at hA hval
  obtain ⟨v0, vs0, d0, ds0, p0, q0, hargs, rfl, rfl, h0, r0⟩ := trodAll_cons hA
  obtain ⟨v1, vs1, d1, ds1, p1, q1, rfl, rfl, rfl, h1, r1⟩ := trodAll_cons r0
  obtain ⟨v2, vs2, d2, ds2, p2, q2, rfl, rfl, rfl, h2, r2⟩ := trodAll_cons r1
  obtain ⟨v3, vs3, d3, ds3, p3, q3, rfl, rfl, rfl, h3, r3⟩ := trodAll_cons r2
  obtain ⟨v4, vs4, d4, ds4, p4, q4, rfl, rfl, rfl, h4, r4⟩ := trodAll_cons r3
  obtain ⟨v5, vs5, d5, ds5, p5, q5, rfl, rfl, rfl, h5, r5⟩ := trodAll_cons r4
  obtain ⟨rfl, rfl, rfl⟩ := trodAll_nil r5
  obtain rfl : args = #[v0, v1, v2, v3, v4, v5] := by cases args; simp_all
  obtain ⟨rfl, rfl⟩ := trodVars_none hV
  obtain ⟨a0, len0, cap0, rfl⟩ := okWide_slice Try.underlying24 (hval 0 24 v0 rfl rfl)
  have k0 := h0
  have lt0 : ∀ x ∈ p0, x.block < W.heap.size := by obtain ⟨m, hm⟩ := k0; exact DataW.trod_lt m _ _ _ hm
  have k1 := h1
  have lt1 : ∀ x ∈ p1, x.block < W.heap.size := by obtain ⟨m, hm⟩ := k1; exact DataW.trod_lt m _ _ _ hm
  obtain ⟨Z, hZ, hl0⟩ : ∃ Z : Nat → Int, Byts W a0 len0 Z ∧ len0 ≤ maxLen := by
    obtain ⟨fuel, hf⟩ := h0
    exact byts_open hf
  obtain ⟨cs, rfl, hsz, _⟩ : ∃ cs, v1 = .agg cs ∧ cs.size = Try.prog.cellsOf 31 ∧ Row.okWide Try.prog W .any base 31 cs := by
    have := hval 1 31 v1 rfl rfl
    simpa [Value.okWide, Try.underlying31] using this
  rw [cells31] at hsz
  obtain ⟨st, rfl⟩ : ∃ st : Nat → Int, cs = f7 st := by
    obtain ⟨fuel, hf⟩ := h1
    exact arr_open hsz hf
  obtain ⟨a2, rfl, rfl, rfl, w2⟩ := open_int Try.underlying3 (hval 2 3 v2 rfl rfl) h2
  obtain ⟨a3, rfl, rfl, rfl, w3⟩ := open_int Try.underlying3 (hval 3 3 v3 rfl rfl) h3
  obtain ⟨a4, rfl, rfl, rfl, w4⟩ := open_int Try.underlying3 (hval 4 3 v4 rfl rfl) h4
  obtain ⟨a5, rfl, rfl, rfl, w5⟩ := open_int Try.underlying5 (hval 5 5 v5 rfl rfl) h5
  clear hA0 hval0
  have hb := bounds_u8 w5
  refine (start_any a0 len0 cap0 st Z a2 a3 a4 a5 W hZ hl0 hb.1 hb.2).mono fun e W' ⟨he, bel⟩ => ?_
  subst he
  exact ⟨_, rfl, _, _, _, [], _, [], hW', trodAll_mk1 (shut_bool Try.underlying4 _), (trodAll_cons_mk (Below.trod laidOut (by kernel_rfl) (of_decide_eq_true (by kernel_rfl)) k0 bel lt0) (trodAll_cons_mk (Below.trod laidOut (by kernel_rfl) (of_decide_eq_true (by kernel_rfl)) k1 bel lt1) (trodAll_cons_mk (shut_int Try.underlying3 w2) (trodAll_cons_mk (shut_int Try.underlying3 w3) (trodAll_cons_mk (shut_int Try.underlying3 w4) (trodAll_cons_mk (shut_int Try.underlying5 w5) trodAll_mk0)))))), rfl, bel.frame _, fun h => by cases h⟩

end Go.Proofs.Qxb6618928a.Starts
namespace Go.Proofs.Qxb6618928a
theorem isStringDependsOnItsStartByteAlone : Rows.FnIsStringDependsOnItsStartByteAloneSaid :=
  OpenClaim.holds_of_wide 5 Try.f5 rfl rfl rfl rfl rfl rfl rfl ⟨rfl, rfl, rfl, rfl, rfl⟩ rfl rfl rfl rfl rfl (by kernel_rfl) Try.func5 (by kernel_rfl)
    (of_decide_eq_true (by kernel_rfl)) (by unfold Func.isWrapper; first | (rw [if_pos (by decide +kernel)]; kernel_rfl) | (rw [if_neg (by decide +kernel)]; exact ⟨rfl, rfl⟩))
    (fun os started H enc _ => Starts.lifted os started H enc)
end Go.Proofs.Qxb6618928a
