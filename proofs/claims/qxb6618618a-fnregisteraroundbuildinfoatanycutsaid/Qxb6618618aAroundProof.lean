import Derived.Test.Qxb6618618aAround
import Derived.ProofKit
import Derived.OpenShut
import Derived.ShutString
import Derived.ChangeOld
import Derived.Below
import Derived.SliceStrings
namespace Go.Proofs.Qxb6618618a.Around
open Go.ChangeShapes Go.WideShapes Go.ChangeAt Go.RowKit
open Go.ChangeMaps (open_string shut_string)
set_option linter.unusedVariables false

theorem own : ownKnob Try.prog.godebug = none := by kernel_rfl
theorem laidOut : laidOutB Try.prog = true := by kernel_rfl

/-- A []string that came in, as the walks want it. -/
theorem strs_open {H : Type} {enc : TypeId × Value → H} {W : World} {a0 : Option Addr} {len0 cap0 fuel : Nat} {x : DataW H × List MemPlace}
    (hf : DataW.trod enc Try.prog W 0 (fun _ => true) true fuel 22 (Value.slice a0 len0 cap0).cells.toList = some x) :
    ∃ S : Nat → ByteArray, Strs W a0 len0 S ∧ (∀ i, (S i).size ≤ maxLen) ∧ len0 ≤ maxLen := by
  rcases open_strings Try.underlying22 Try.underlying9 (by kernel_rfl) hf with ⟨hcs, _⟩ | ⟨a, l, c, ss, hcs, _, hl, hm, hz, _, hcell, hws⟩
  · simp [Value.cells] at hcs
    obtain ⟨rfl, rfl, rfl⟩ := hcs
    exact ⟨fun _ => ByteArray.empty, fun h => absurd h (Nat.lt_irrefl 0), fun _ => Nat.zero_le _, Nat.zero_le _⟩
  · simp [Value.cells] at hcs
    obtain ⟨rfl, rfl, rfl⟩ := hcs
    simp only [if_true] at hz
    refine ⟨fun i => ss.getD i ByteArray.empty, fun h0 => ?_, fun i => ?_, by omega⟩
    · obtain ⟨b, off, spot⟩ := a
      have hspot : spot = none := by simpa [Addr.add] using World.cell?_spot (hcell 0 (by omega))
      subst hspot
      have hc0 := hcell 0 (by omega)
      refine ⟨b, off, rfl, by simpa [Addr.add] using World.block_lt_of_cell? _ _ hc0, fun j hj => ?_⟩
      rw [← add_plain]
      exact hcell j (by omega)
    · by_cases hi : i < ss.length
      · show (ss.getD i ByteArray.empty).size ≤ maxLen
        rw [List.getD, List.getElem?_eq_getElem hi]
        exact hws _ (List.getElem_mem hi)
      · show (ss.getD i ByteArray.empty).size ≤ maxLen
        rw [List.getD, List.getElem?_eq_none (by omega)]
        exact Nat.zero_le _

set_option maxRecDepth 100000 in
theorem lifted (os : Os) (started : os.Started) (H : Type) (enc : TypeId × Value → H) :
    ReturnsInHanded {} Try.checked os 4 .any (Rows.fnRegisterAroundBuildInfoAtAnyCutSpec.pre6 enc Try.prog Try.f4 Rows.fnRegisterAroundBuildInfoAtAnyCutRow.domain false) (Rows.fnRegisterAroundBuildInfoAtAnyCutSpec.post enc Try.prog Try.f4 false true false false) := by
  refine returnsInHanded_of_change (C := Try.checked) own started (by kernel_rfl) Try.func4
    (ChangeSpec.witness6 (enc := enc) (C := Try.checked) false ⟨#[], #[.slice none 0 0, .int .i64 0, .string ⟨#[]⟩, .string ⟨#[]⟩], []⟩ 8 (by kernel_rfl) (by kernel_rfl) (by kernel_rfl) (by kernel_rfl)) ?_
  intro W base args ds gs before hval0 hW hcnd _
  have hval : ∀ (j : Nat) t v, Try.f4.params[j]? = some t → args[j]? = some v → Value.okWide Try.prog W .any base t v := hval0
  have hW' := hW
  obtain ⟨p, q, hA0, hV, rfl, hfz, hnd⟩ := hW
  have hA : DataW.TrodAll enc Try.prog W 0 (fun _ => true) true Try.f4.params.toList args.toList ds p := hA0
  rw [Try.params4] at hA hval
  obtain ⟨v0, vs0, d0, ds0, p0, q0, hargs, rfl, rfl, h0, r0⟩ := trodAll_cons hA
  obtain ⟨v1, vs1, d1, ds1, p1, q1, rfl, rfl, rfl, h1, r1⟩ := trodAll_cons r0
  obtain ⟨v2, vs2, d2, ds2, p2, q2, rfl, rfl, rfl, h2, r2⟩ := trodAll_cons r1
  obtain ⟨v3, vs3, d3, ds3, p3, q3, rfl, rfl, rfl, h3, r3⟩ := trodAll_cons r2
  obtain ⟨rfl, rfl, rfl⟩ := trodAll_nil r3
  obtain rfl : args = #[v0, v1, v2, v3] := by cases args; simp_all
  obtain ⟨rfl, rfl⟩ := trodVars_none hV
  obtain ⟨a0, len0, cap0, rfl⟩ := okWide_slice Try.underlying22 (hval 0 22 v0 rfl rfl)
  have k0 := h0
  have lt0 : ∀ x ∈ p0, x.block < W.heap.size := by obtain ⟨m, hm⟩ := k0; exact DataW.trod_lt m _ _ _ hm
  obtain ⟨S, hS1, hS2, hl0⟩ : ∃ S : Nat → ByteArray, Strs W a0 len0 S ∧ (∀ i, (S i).size ≤ maxLen) ∧ len0 ≤ maxLen := by
    obtain ⟨fuel, hf⟩ := h0
    exact strs_open hf
  obtain ⟨a1, rfl, rfl, rfl, w1⟩ := open_int Try.underlying3 (hval 1 3 v1 rfl rfl) h1
  obtain ⟨s2, rfl, rfl, rfl, hs2⟩ := open_string Try.underlying9 (hval 2 9 v2 rfl rfl) h2
  obtain ⟨s3, rfl, rfl, rfl, hs3⟩ := open_string Try.underlying9 (hval 3 9 v3 rfl rfl) h3
  clear hA0 hval0
  refine (around_any a0 len0 cap0 a1 S s2 s3 W hS1 hS2 hs2 hs3 hl0).mono fun e W' ⟨he, bel⟩ => ?_
  subst he
  exact ⟨_, rfl, _, _, _, [], _, [], hW', trodAll_mk1 (shut_bool Try.underlying4 _), (trodAll_cons_mk (Below.trod laidOut (by kernel_rfl) (of_decide_eq_true (by kernel_rfl)) k0 bel lt0) (trodAll_cons_mk (shut_int Try.underlying3 w1) (trodAll_cons_mk (shut_string Try.underlying9 hs2) (trodAll_cons_mk (shut_string Try.underlying9 hs3) trodAll_mk0)))), rfl, bel.frame _, fun h => by cases h⟩

end Go.Proofs.Qxb6618618a.Around
namespace Go.Proofs.Qxb6618618a
theorem registerAroundBuildInfoAtAnyCut : Rows.FnRegisterAroundBuildInfoAtAnyCutSaid :=
  OpenClaim.holds_of_wide 4 Try.f4 rfl rfl rfl rfl rfl rfl rfl ⟨rfl, rfl, rfl, rfl, rfl⟩ rfl rfl rfl rfl rfl (by kernel_rfl) Try.func4 (by kernel_rfl)
    (of_decide_eq_true (by kernel_rfl)) (by unfold Func.isWrapper; first | (rw [if_pos (by decide +kernel)]; kernel_rfl) | (rw [if_neg (by decide +kernel)]; exact ⟨rfl, rfl⟩))
    (fun os started H enc _ => Around.lifted os started H enc)
end Go.Proofs.Qxb6618618a
