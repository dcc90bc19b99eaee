import Derived.Test.Qxb6614951aDoorOpen
import Derived.Test.Qxb6614951aDoorTie
import Derived.Test.Qxb6614951aDoorCards
import Derived.SevenTiedAt
namespace Go.Proofs.Qxb6614951aDoor
open Go.ChangeShapes Go.WideShapes Go.ChangeAt Go.RowKit
set_option linter.unusedVariables false

/-- the law, whatever came in -/
theorem law3 (w : World) (ao : Option Addr) (n cap : Nat) (t : P4) (i kind : Int) (A C : Nat → P4) (hn : n ≤ 9223372036854775807) (hc : n ≤ cap) (hT : 0 < n → ∃ b off, ao = some ⟨b, off, none⟩ ∧ Told w b off n A C) (hD : At4 w 0 0 4 500000000 0 0) :
    Calls Tryd.prog 3 #[.slice ao n cap, .agg t.v, .int .i64 i, .int .i64 kind] w fun e w' => e = .returned (.bool true) ∧ Below w.heap.size w w' := by
  by_cases h : n ≤ 16384 ∧ 0 ≤ i ∧ i < n ∧ (kind = 1 ∨ kind = 2)
  · obtain ⟨h1, h2, h3, h4⟩ := h
    obtain ⟨j, rfl⟩ := Int.eq_ofNat_of_zero_le h2
    have hj : j < n := by omega
    obtain ⟨b, off, rfl, hT1⟩ := hT (by omega)
    rcases h4 with rfl | rfl
    · exact main3A w b off n cap j t (A j) A C h1 hj hc (Or.inr ⟨rfl, rfl⟩) hT1 hD
    · exact main3B w b off n cap j t (C j) A C h1 hj hc (Or.inl ⟨rfl, rfl⟩) hT1 hD
  · exact early3 w ao n cap t i kind hn h

set_option maxRecDepth 100000 in
theorem lifted (os : Os) (started : os.Started) (H : Type) (enc : TypeId × Value → H) :
    ReturnsInHanded {} Tryd.checked os 3 .any (fun w args => (Rows.fnPolicyOfAStepIsThatOfTheStepAloneSpec.pre enc Tryd.prog Tryd.f3 [] false w args ∧ laidMetH Tryd.prog laid1 w) ∧ sizedMet enc Tryd.prog Tryd.f3 (OpenSpec.ofChange Rows.fnPolicyOfAStepIsThatOfTheStepAloneSpec) false w args)
      (Rows.fnPolicyOfAStepIsThatOfTheStepAloneSpec.post enc Tryd.prog Tryd.f3 false true false false) := by
  refine returnsInHanded_of_change_and (C := Tryd.checked) (X := fun w _ => laidMetH Tryd.prog laid1 w) (fun _ _ _ hh h => h.of_heap hh) own started (by kernel_rfl) Tryd.func3
    (ChangeSpec.witness_shaped (enc := enc) (C := Tryd.checked) (os := os) (X := fun w _ => laidMetH Tryd.prog laid1 w) false (World.doorLaid Tryd.prog 400 os) #[.slice none 0 0, .agg #[.int .i64 0, .int .i64 0, .float .f64 0, .int .i64 0], .int .i64 0, .int .i64 0] 8 rfl (World.shaped_of_RefB (by kernel_rfl) (by kernel_rfl)) (by kernel_rfl) (by kernel_rfl) (by kernel_rfl) (door_met os _)) ?_
  intro W base args ds gs before hval0 hW _ _ hL _
  have hval : ∀ (j : Nat) t v, Tryd.f3.params[j]? = some t → args[j]? = some v → Value.okWide Tryd.prog W .any base t v := hval0
  have hW' := hW
  obtain ⟨p, q, hA0, hV0, rfl, hfz, hnd⟩ := hW
  have hA : DataW.TrodAll enc Tryd.prog W 0 (fun _ => true) true Tryd.f3.params.toList args.toList ds p := hA0
  have hV : DataW.TrodVars enc Tryd.prog W (fun _ => true) [nDef] gs q := hV0
  rw [Tryd.params3] at hA hval
  obtain ⟨v0, vs0, d0, ds0, p0, q0, hargs, rfl, rfl, h0, r0⟩ := trodAll_cons hA
  obtain ⟨v1, vs1, d1, ds1, p1, q1, rfl, rfl, rfl, h1, r1⟩ := trodAll_cons r0
  obtain ⟨v2, vs2, d2, ds2, p2, q2, rfl, rfl, rfl, h2, r2⟩ := trodAll_cons r1
  obtain ⟨v3, vs3, d3, ds3, p3, q3, rfl, rfl, rfl, h3, r3⟩ := trodAll_cons r2
  obtain ⟨rfl, rfl, rfl⟩ := trodAll_nil r3
  obtain rfl : args = #[v0, v1, v2, v3] := by cases args; simp_all
  obtain ⟨g, t, cs, fuel, d, p', rfl, hg, ht, hvar, hd, rfl⟩ := trodVars_one hV
  obtain ⟨a0, len0, cap0, rfl⟩ := okWide_slice Tryd.underlying22 (hval 0 22 v0 rfl rfl)
  have k0 := h0
  have k1 := h1
  have lt0 : ∀ x ∈ p0, x.block < W.heap.size := by obtain ⟨m, hm⟩ := k0; exact DataW.trod_lt m _ _ _ hm
  have lt1 : ∀ x ∈ p1, x.block < W.heap.size := by obtain ⟨m, hm⟩ := k1; exact DataW.trod_lt m _ _ _ hm
  obtain ⟨A, C, hT, hl0, hm0⟩ : ∃ A C : Nat → P4, (0 < len0 → ∃ b off, a0 = some ⟨b, off, none⟩ ∧ Told W b off len0 A C) ∧ len0 ≤ cap0 ∧ cap0 ≤ maxLen := by
    obtain ⟨fuel, hf⟩ := h0
    exact steps_open hf
  obtain ⟨pt, rfl⟩ := pol_open (hval 1 25 v1 rfl rfl) h1
  obtain ⟨a2, rfl, rfl, rfl, w2⟩ := open_int Tryd.underlying3 (hval 2 3 v2 rfl rfl) h2
  obtain ⟨a3, rfl, rfl, rfl, w3⟩ := open_int Tryd.underlying3 (hval 3 3 v3 rfl rfl) h3
  have hD := def_of_laid hL
  have hs : 0 < W.heap.size := World.block_lt_of_cell? _ _ hD.c0
  clear hA0 hval0
  obtain rfl := Option.some.inj (gDef.symm.trans hg)
  obtain rfl := Option.some.inj (tDef.symm.trans ht)
  refine (law3 W a0 len0 cap0 pt a2 a3 A C (Nat.le_trans hl0 hm0) hl0 hT hD).mono fun e W' ⟨he, bel⟩ => ?_
  subst he
  have hvars : DataW.TrodVars enc Tryd.prog W' (fun b => decide (b < W.heap.size)) [nDef] [d] (MemPlace.row ⟨0, 0, none⟩ cs.size ++ p') := def_later hs hvar hd bel
  exact ⟨_, rfl, _, _, _, [], _, _, hW', trodAll_mk1 (shut_bool Tryd.underlying4 _), (trodAll_cons_mk (Below.trod laidOut (by kernel_rfl) (of_decide_eq_true (by kernel_rfl)) k0 bel lt0) (trodAll_cons_mk (Below.trod laidOut (by kernel_rfl) (of_decide_eq_true (by kernel_rfl)) k1 bel lt1) (trodAll_cons_mk (shut_int Tryd.underlying3 w2) (trodAll_cons_mk (shut_int Tryd.underlying3 w3) trodAll_mk0)))), hvars, bel.frame _, fun h => by cases h⟩

theorem policyOfAStep_row : Rows.FnPolicyOfAStepIsThatOfTheStepAloneSaid :=
  OpenClaim.holds_of_wide 3 Tryd.f3 rfl rfl rfl rfl rfl rfl rfl ⟨rfl, rfl, rfl, rfl, rfl⟩ rfl rfl rfl rfl rfl (by kernel_rfl) Tryd.func3 (by kernel_rfl)
    (of_decide_eq_true (by kernel_rfl)) (by unfold Func.isWrapper; first | (rw [if_pos (by decide +kernel)]; kernel_rfl) | (rw [if_neg (by decide +kernel)]; exact ⟨rfl, rfl⟩))
    (fun os started H enc _ => lifted os started H enc)

theorem policyOfAStepIsThatOfTheStepAloneCard : Rows.FnPolicyOfAStepIsThatOfTheStepAloneCardSaid :=
  Claim7.holds_tied_plain_at .later [] [.data] true (true, "f173cafd9c5772d7dac3689fbfb3ef9efac1bf5ed1cbb4ccd7df00eae0971e5f") false
    policyOfAStep_row (fun _ h => by cases h) (by kernel_rfl) (fun _ h => by cases h) fnPolicyOfAStepIsThatOfTheStepAlone_row_tie rfl ⟨rfl, rfl⟩ (by kernel_rfl) rfl
    (fun f fn hf hfn => by
      obtain rfl : f = 3 := Option.some.inj ((show Tryd.prog.funcNamed Rows.fnPolicyOfAStepIsThatOfTheStepAloneRow.func = some 3 by kernel_rfl).symm.trans hf) |>.symm
      obtain rfl : fn = Tryd.f3 := (Option.some.inj (Tryd.func3.symm.trans hfn)).symm
      exact ⟨by kernel_rfl, fun j t ht => by
        rw [Tryd.params3] at ht
        have hm : t ∈ [22, 25, 3, 3] := by simpa using Array.mem_of_getElem? ht
        have hall : ([22, 25, 3, 3].all fun u => !Tryd.prog.wantsStandIn u) = true := by kernel_rfl
        exact (show Tryd.prog.wantsStandIn t = false by simpa using List.all_eq_true.1 hall t hm)⟩)
    (by kernel_rfl)
end Go.Proofs.Qxb6614951aDoor
