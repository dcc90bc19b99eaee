import Derived.Test.Qxb6618953aDoorLay
import Derived.ProofKit
import Derived.OpenShut
import Derived.ShutString
import Derived.ChangeOld
import Derived.Below
import Derived.LaidMore
import Derived.Stop.Joined
import Derived.Stop.LaidErr
import Derived.Deep.Matrix
namespace Go.Proofs.Qxb6618953aDoor
open Go.ChangeShapes Go.WideShapes Go.ChangeAt Go.RowKit Go.Deep

theorem own : ownKnob Tryd.prog.godebug = none := by kernel_rfl
theorem laidOut : laidOutB Tryd.prog = true := by kernel_rfl
/-- the signature's name and the error's type name, off the given texts -/
abbrev nSig : String := Rows.fnReadHeaderByLayoutSpec.vars.headD ""
def nErr : String := match (Rows.laid_io_EOF : DataW Unit) with
  | .iface s _ => s
  | _ => ""
abbrev laid4 : List (String × DataW Unit) := [("io.ErrShortBuffer", Rows.laid_io_ErrShortBuffer), ("io.EOF", Rows.laid_io_EOF), ("io.ErrUnexpectedEOF", Rows.laid_io_ErrUnexpectedEOF), (nSig, Rows.laid_example_com_cinch_cinch_signature)]
theorem gEOF : Tryd.prog.globalNamed "io.EOF" = some 3 := by kernel_rfl
theorem gUEOF : Tryd.prog.globalNamed "io.ErrUnexpectedEOF" = some 4 := by kernel_rfl
theorem gSig : Tryd.prog.globalNamed nSig = some 0 := by kernel_rfl
theorem tEOF : (Tryd.prog.globals[3]?).map (·.type) = some 32 := by kernel_rfl
theorem tUEOF : (Tryd.prog.globals[4]?).map (·.type) = some 32 := by kernel_rfl
theorem tSig : (Tryd.prog.globals[0]?).map (·.type) = some 22 := by kernel_rfl
theorem cells73 : Tryd.prog.cellsOf 73 = 1 := by kernel_rfl
theorem cells9 : Tryd.prog.cellsOf 9 = 1 := by kernel_rfl
theorem cells5 : Tryd.prog.cellsOf 5 = 1 := by kernel_rfl
theorem row53 (u : TypeId) (h : Tryd.prog.typeName? 3 u = some nErr) : u = 53 :=
  typeName_ptr_named (nm := "errors.errorString") (by kernel_rfl) (by kernel_rfl) (by decide) u (h.trans (by kernel_rfl))

/-- The door's own heap meets the condition. -/
theorem door_met (os : Os) (args : Array Value) : laidMetH Tryd.prog laid4 ((World.doorLaid Tryd.prog 400 os).forCall (fun _ _ => 0) ⟨#[], args, []⟩).memory :=
  laidMetH_of_parts3 (fuel := 9) (laidMet_of_run' 9 (by kernel_rfl) (by kernel_rfl)) (by kernel_rfl) (by kernel_rfl)

/-- what the listed variables give the walks -/
theorem glob_of_laid {W : World} (h : laidMetH Tryd.prog laid4 W) : Glob W := by
  rw [MakeChecks.laidMetH_plain _ _ _ (by kernel_rfl)] at h
  obtain ⟨a3, s3, hv3, _⟩ := laid_sentinel h.tail gEOF tEOF Tryd.underlying32 row53 Tryd.underlying53 Tryd.underlying73 rfl rfl Tryd.underlying9 cells73 cells9
  obtain ⟨a4, s4, hv4, _⟩ := laid_sentinel h.tail.tail gUEOF tUEOF Tryd.underlying32 row53 Tryd.underlying53 Tryd.underlying73 rfl rfl Tryd.underlying9 cells73 cells9
  obtain ⟨ps, ⟨g0, t0, cs0, f0, p0, q0, hg0, ht0, hv0, hd0, _⟩, _⟩ := h.tail.tail.tail
  obtain rfl := Option.some.inj (gSig.symm.trans hg0)
  obtain rfl := Option.some.inj (tSig.symm.trans ht0)
  have hc3 : W.cell? ⟨3, 0, none⟩ = some (.iface 53 (.pointer (some a3))) := by simpa using World.var?_cell gEOF hv3 0
  have hc4 : W.cell? ⟨4, 0, none⟩ = some (.iface 53 (.pointer (some a4))) := by simpa using World.var?_cell gUEOF hv4 0
  refine ⟨World.block_lt_of_cell? _ _ hc4, ⟨a3, hc3⟩, ⟨a4, hc4⟩, ?_⟩
  rcases open_ints Tryd.underlying22 Tryd.underlying5 cells5 hd0 with ⟨_, hx⟩ | ⟨a, l, c, zs, hcs, _, hl, hm, hz, hx, _, _⟩
  · simp [Rows.laid_example_com_cinch_cinch_signature] at hx
  · have hl8 : l = 8 := by
      simp only [Prod.mk.injEq, Rows.laid_example_com_cinch_cinch_signature, DataW.slice.injEq] at hx
      have h1 := congrArg List.length hx.1.1
      simp [lits] at h1
      simp at hz
      have h2 := congrArg List.length hx.1.2
      simp [lits] at h2
      omega
    subst hl8
    refine ⟨some a, c, ?_⟩
    have := World.var?_cell gSig hv0 0
    rw [Array.eq_one_of_toList hcs] at this
    simpa using this

/-- the signature reads behind the call as it read before -/
theorem sig_later {H : Type} {enc : TypeId × Value → H} {W W' : World} {cs : Array Value} {fuel : Nat} {d : DataW H} {p : List MemPlace} (hs : 4 < W.heap.size) (hvar : W.var? Tryd.prog nSig = some cs)
    (hd : DataW.trod enc Tryd.prog W 0 (fun _ => true) true fuel 22 cs.toList = some (d, p)) (bel : Below W.heap.size W W') :
    DataW.TrodVars enc Tryd.prog W' (fun b => decide (b < W.heap.size)) [nSig] [d] (MemPlace.row ⟨0, 0, none⟩ cs.size ++ p) := by
  have hvar' : W'.var? Tryd.prog nSig = some cs := by
    have hb := bel.block 0 (by omega)
    simp only [World.var?, gSig, Option.bind_some] at hvar ⊢
    rw [hb]
    exact hvar
  have lt : ∀ x ∈ p, x.block < W.heap.size := DataW.trod_lt fuel _ _ _ hd
  obtain ⟨v, hv⟩ : ∃ v : Value, cs.toList = v.cells.toList := by
    rcases open_ints Tryd.underlying22 Tryd.underlying5 cells5 hd with ⟨hcs, _⟩ | ⟨a, l, c, zs, hcs, _⟩
    · exact ⟨.slice none 0 0, by rw [hcs]; rfl⟩
    · exact ⟨.slice (some a) l c, by rw [hcs]; rfl⟩
  rw [hv] at hd
  obtain ⟨fuel', h'⟩ := Below.trod laidOut (by kernel_rfl) (of_decide_eq_true (by kernel_rfl)) (v := v) ⟨fuel, hd⟩ bel lt
  rw [← hv] at h'
  exact trodVars_mk1 gSig tSig hvar' h'

/-- A []byte that came in, as the walks want it. -/
theorem byts_open {H : Type} {enc : TypeId × Value → H} {W : World} {a0 : Option Addr} {len0 cap0 fuel : Nat} {x : DataW H × List MemPlace}
    (hf : DataW.trod enc Tryd.prog W 0 (fun _ => true) true fuel 22 (Value.slice a0 len0 cap0).cells.toList = some x) :
    ∃ Z : Nat → Int, Bys W a0 len0 Z ∧ (∀ j, j < len0 → 0 ≤ Z j ∧ Z j ≤ 255) ∧ len0 ≤ cap0 := by
  rcases open_ints Tryd.underlying22 Tryd.underlying5 cells5 hf with ⟨hcs, _⟩ | ⟨a, l, c, zs, hcs, _, hl, hm, hz, _, hcell, hws⟩
  · simp [Value.cells] at hcs
    obtain ⟨rfl, rfl, rfl⟩ := hcs
    exact ⟨fun _ => 0, fun h => absurd h (Nat.lt_irrefl 0), fun j hj => absurd hj (Nat.not_lt_zero j), Nat.le_refl _⟩
  · simp [Value.cells] at hcs
    obtain ⟨rfl, rfl, rfl⟩ := hcs
    simp only [if_true] at hz
    refine ⟨fun i => zs.getD i 0, fun h0 => ?_, fun i hi => ?_, hl⟩
    · obtain ⟨b, off, spot⟩ := a
      have hspot : spot = none := by simpa [Addr.add] using World.cell?_spot (hcell 0 (by omega))
      subst hspot
      have hc0 := hcell 0 (by omega)
      refine ⟨b, off, rfl, by simpa [Addr.add] using World.block_lt_of_cell? _ _ hc0, fun j hj => ?_⟩
      rw [← add_plain]
      exact hcell j (by omega)
    · have hi' : i < zs.length := by omega
      show 0 ≤ zs.getD i 0 ∧ zs.getD i 0 ≤ 255
      rw [List.getD, List.getElem?_eq_getElem hi']
      exact bounds_u8 (hws _ (List.getElem_mem hi'))
end Go.Proofs.Qxb6618953aDoor
