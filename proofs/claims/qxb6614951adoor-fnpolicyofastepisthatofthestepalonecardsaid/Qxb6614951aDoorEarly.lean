import Derived.Test.Qxb6614951aDoorSmall
namespace Go.Proofs.Qxb6614951aDoor
open Go.RowKit Go.Deep

set_option maxRecDepth 100000 in
set_option maxHeartbeats 800000 in
/-- the law where it answers early -/
theorem early3 (w : World) (ao : Option Addr) (n cap : Nat) (t : P4) (i kind : Int) (hn : n ≤ 9223372036854775807) (h : ¬ (n ≤ 16384 ∧ 0 ≤ i ∧ i < n ∧ (kind = 1 ∨ kind = 2))) :
    Calls Tryd.prog 3 #[.slice ao n cap, .agg t.v, .int .i64 i, .int .i64 kind] w fun e w' => e = .returned (.bool true) ∧ Below w.heap.size w w' := by
  have C4 := bytes4 ao n cap t i kind
  have b1 := below1 w (.cells t.v 25)
  by_cases h1 : n ≤ 1048576
  · have d1 : decide (n ≤ 1048576) = true := decide_eq_true h1
    go_enter Tryd.func3, Tryd.ntmps3
    go_wp2_with fail
    refine (C4 _ hn).mono ?_
    rw [d1]
    rintro e w1 ⟨rfl, hb⟩
    have HB : Hid (Below w.heap.size w w1) := b1.trans (hb.mono b1.size)
    clear C4 b1 hb d1
    by_cases h2 : n ≤ 16384
    · have h2' : ¬ (16384 < (n : Int)) := by omega
      by_cases h3 : i < 0
      · clear h hn h1 h2
        go_wp2
        go_ret
        exact ⟨rfl, HB.out⟩
      · by_cases h4 : i < (n : Int)
        · have k1 : (kind == 1) = false := beq_eq_false_iff_ne.2 (fun e => h ⟨h2, by omega, h4, Or.inl e⟩)
          have k2 : (kind == 2) = false := beq_eq_false_iff_ne.2 (fun e => h ⟨h2, by omega, h4, Or.inr e⟩)
          have k1' : ¬ kind = 1 := fun e => h ⟨h2, by omega, h4, Or.inl e⟩
          have k2' : ¬ kind = 2 := fun e => h ⟨h2, by omega, h4, Or.inr e⟩
          have k1n : (kind != 1) = true := by simp [k1']
          have k2n : (kind != 2) = true := by simp [k2']
          have h4' : ¬ ((n : Int) ≤ i) := by omega
          have h3' : 0 ≤ i := by omega
          clear h hn h1 h2
          go_wp2
          go_ret
          exact ⟨rfl, HB.out⟩
        · have h4' : (n : Int) ≤ i := by omega
          have h3' : 0 ≤ i := by omega
          clear h hn h1 h2
          go_wp2
          go_ret
          exact ⟨rfl, HB.out⟩
    · have h2' : 16384 < (n : Int) := by omega
      clear h hn h1 h2
      go_wp2
      go_ret
      exact ⟨rfl, HB.out⟩
  · have d1 : decide (n ≤ 1048576) = false := decide_eq_false h1
    go_enter Tryd.func3, Tryd.ntmps3
    go_wp2_with fail
    refine (C4 _ hn).mono ?_
    rw [d1]
    rintro e w1 ⟨rfl, hb⟩
    have HB : Hid (Below w.heap.size w w1) := b1.trans (hb.mono b1.size)
    clear C4 b1 hb d1 h
    go_wp2
    go_ret
    exact ⟨rfl, HB.out⟩
end Go.Proofs.Qxb6614951aDoor
