import Derived.Test.Qxb6614951aDoorPolx
namespace Go.Proofs.Qxb6614951aDoor
open Go.RowKit Go.Deep

theorem below1 (w : World) (A : Obj) : Below w.heap.size w (w.alloc A) := (Below.refl w.heap.size w).alloc (Nat.le_refl _) A

set_option maxRecDepth 100000 in
set_option maxHeartbeats 800000 in
theorem bytes4 (ao : Option Addr) (n c : Nat) (x : P4) (i k : Int) (w : World) (hn : n ≤ 9223372036854775807) :
    Calls Tryd.prog 4 #[.slice ao n c, .agg x.v, .int .i64 i, .int .i64 k] w fun e w' => e = .returned (.bool (decide (n ≤ 1048576))) ∧ Below w.heap.size w w' := by
  have b1 := below1 w (.cells x.v 25)
  by_cases h : n ≤ 1048576
  · rw [decide_eq_true h]
    have h1 : (n : Int) ≤ 1048576 := by omega
    have h2 : ¬ (1048576 < (n : Int)) := by omega
    go_enter Tryd.func4, Tryd.ntmps4
    go_wp2
    go_ret
    exact ⟨rfl, b1⟩
  · rw [decide_eq_false h]
    have h1 : ¬ (n : Int) ≤ 1048576 := by omega
    have h2 : 1048576 < (n : Int) := by omega
    go_enter Tryd.func4, Tryd.ntmps4
    go_wp2
    go_ret
    exact ⟨rfl, b1⟩

set_option maxRecDepth 100000 in
set_option maxHeartbeats 800000 in
theorem own6 (w : World) (b off n cap i : Nat) (kind : Int) (A C : Nat → P4) (x : P4) (hi : i < n) (hT : Told w b off n A C) (hO : Own A C i kind x) :
    Calls Tryd.prog 6 #[.slice (some ⟨b, off, none⟩) n cap, .int .i64 i, .int .i64 kind] w fun e w' => e = .returned (.agg x.v) ∧ Below w.heap.size w w' := by
  have hst := storef
  have hi' : (i : Int) < (n : Int) := by omega
  have b1 := fun A => below1 w A
  rcases hO with ⟨rfl, rfl⟩ | ⟨hk, rfl⟩
  · obtain ⟨a0, a1, a2, a3⟩ := (hT i hi).2
    have lb : b < w.heap.size := World.block_lt_of_cell? _ _ a0
    have kb : ∀ A o, (w.alloc A).cell? ⟨b, o, none⟩ = w.cell? ⟨b, o, none⟩ := fun A o => World.cell?_of_block (w := w) ((b1 A).block b lb)
    go_enter Tryd.func6, Tryd.ntmps6
    go_wp2
    refine bodyPost_ret (v := .agg (C i).v) (by simp [results, Tryd.results6, go_sem]) rfl ⟨rfl, b1 _⟩
  · obtain ⟨a0, a1, a2, a3⟩ := (hT i hi).1
    have lb : b < w.heap.size := World.block_lt_of_cell? _ _ a0
    have kb : ∀ A o, (w.alloc A).cell? ⟨b, o, none⟩ = w.cell? ⟨b, o, none⟩ := fun A o => World.cell?_of_block (w := w) ((b1 A).block b lb)
    go_enter Tryd.func6, Tryd.ntmps6
    go_wp2
    refine bodyPost_ret (v := .agg (A i).v) (by simp [results, Tryd.results6, go_sem]) rfl ⟨rfl, b1 _⟩

set_option maxRecDepth 100000 in
set_option maxHeartbeats 800000 in
theorem same7 (x : P4) (w : World) :
    Calls Tryd.prog 7 #[.agg x.v, .agg x.v] w fun e w' => e = .returned (.bool true) ∧ Below w.heap.size w w' := by
  have b2 := below2 w (.cells x.v 25) (.cells x.v 25)
  by_cases hf : FloatKind.f64.format.order x.f x.f = some Ordering.eq
  · have h1 : (FloatKind.f64.format.order x.f x.f == some Ordering.eq) = true := by rw [hf]; rfl
    have h2 : (FloatKind.f64.format.order x.f x.f != some Ordering.eq) = false := by rw [hf]; rfl
    go_enter Tryd.func7, Tryd.ntmps7
    go_wp2
    go_ret
    exact ⟨rfl, b2⟩
  · have h1 : (FloatKind.f64.format.order x.f x.f == some Ordering.eq) = false := by simp [hf]
    have h2 : (FloatKind.f64.format.order x.f x.f != some Ordering.eq) = true := by simp [hf]
    go_enter Tryd.func7, Tryd.ntmps7
    go_wp2
    go_ret
    exact ⟨rfl, b2⟩

set_option maxRecDepth 100000 in
set_option maxHeartbeats 800000 in
theorem zero8 (x : P4) (w : World) :
    Calls Tryd.prog 8 #[.agg x.v] w fun e w' => e = .returned (.bool (isZ x.a x.b x.f x.d)) ∧ Below w.heap.size w w' := by
  have b1 := below1 w (.cells x.v 25)
  have e : isZ x.a x.b x.f x.d = (x.a == 0 && (x.b == 0 && ((FloatKind.f64.format.order x.f 0 == some Ordering.eq) && x.d == 0))) := rfl
  rw [e]
  clear e
  by_cases h0 : x.a = 0 <;> by_cases h1 : x.b = 0 <;> by_cases hf : FloatKind.f64.format.order x.f 0 = some Ordering.eq <;> by_cases h3 : x.d = 0
  all_goals
    simp only [h0, h1, hf, h3, beq_self_eq_true, beq_eq_false_iff_ne.2, ne_eq, not_false_eq_true, Bool.and_true, Bool.and_false]
    go_enter Tryd.func8, Tryd.ntmps8
    go_wp2
    go_ret
    first | exact ⟨rfl, b1⟩ | exact ⟨congrArg (fun v => Ending.returned (.bool v)) (beq_eq_false_iff_ne.2 h3), b1⟩
end Go.Proofs.Qxb6614951aDoor
