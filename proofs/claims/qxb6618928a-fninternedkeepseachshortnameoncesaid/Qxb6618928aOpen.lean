import Derived.Test.Qxb6618928aBack
import Derived.ProofKit
import Derived.OpenShut
import Derived.ShutString
import Derived.ChangeOld
import Derived.Below
import Derived.Deep.Matrix
namespace Go.Proofs.Qxb6618928a
open Go.ChangeShapes Go.WideShapes Go.ChangeAt Go.RowKit Go.Deep

/-- A [][]byte that came in, as the walks want it. -/
theorem txts_open {H : Type} {enc : TypeId × Value → H} {W : World} {a0 : Option Addr} {len0 cap0 fuel : Nat} {x : DataW H × List MemPlace}
    (hf : DataW.trod enc Try.prog W 0 (fun _ => true) true fuel 22 (Value.slice a0 len0 cap0).cells.toList = some x) :
    ∃ (A : Nat → Option Addr) (N C : Nat → Nat) (Z : Nat → Nat → Int), Txts W a0 len0 A N C Z ∧ len0 ≤ maxLen := by
  rcases open_int_rows Try.underlying22 Try.underlying24 Try.underlying5 (by kernel_rfl) (by kernel_rfl) hf with ⟨hcs, _⟩ | ⟨a, l, c, A, N, C, Z, hcs, _, hl, hm, _, hr⟩
  · simp [Value.cells] at hcs
    obtain ⟨rfl, rfl, rfl⟩ := hcs
    exact ⟨fun _ => none, fun _ => 0, fun _ => 0, fun _ _ => 0, ⟨fun h => absurd h (Nat.lt_irrefl 0), fun j hj => absurd hj (Nat.not_lt_zero j)⟩, Nat.zero_le _⟩
  · simp [Value.cells] at hcs
    obtain ⟨rfl, rfl, rfl⟩ := hcs
    refine ⟨A, N, C, fun r i => (Z r).getD i 0, ⟨fun h0 => ?_, fun r hrl => ?_⟩, by omega⟩
    · obtain ⟨b, off, spot⟩ := a
      have hspot : spot = none := by simpa [Addr.add] using World.cell?_spot (hr 0 (by omega)).1
      subst hspot
      have hc0 := (hr 0 (by omega)).1
      refine ⟨b, off, rfl, by simpa [Addr.add] using World.block_lt_of_cell? _ _ hc0, fun j hj => ?_⟩
      rw [← add_plain]
      exact (hr j (by omega)).1
    · obtain ⟨_, h1, h2, h3, h4, h5, h6⟩ := hr r (by omega)
      refine ⟨fun h0 => ?_, fun i hi => ?_, by omega⟩
      · cases hA : A r with
        | none => have := h5 hA; omega
        | some a' =>
          obtain ⟨_, h7⟩ := h6 a' hA
          obtain ⟨b, off, spot⟩ := a'
          have hspot : spot = none := by simpa [Addr.add] using World.cell?_spot (h7 0 (by omega))
          subst hspot
          have hc0 := h7 0 (by omega)
          refine ⟨b, off, rfl, by simpa [Addr.add] using World.block_lt_of_cell? _ _ hc0, fun j hj => ?_⟩
          rw [← add_plain]
          exact h7 j (by omega)
      · have hi' : i < (Z r).length := by omega
        show 0 ≤ (Z r).getD i 0 ∧ (Z r).getD i 0 ≤ 255
        rw [List.getD, List.getElem?_eq_getElem hi']
        exact bounds_u8 (h4 _ (List.getElem_mem hi'))

theorem own : ownKnob Try.prog.godebug = none := by kernel_rfl
theorem laidOut : laidOutB Try.prog = true := by kernel_rfl
end Go.Proofs.Qxb6618928a
