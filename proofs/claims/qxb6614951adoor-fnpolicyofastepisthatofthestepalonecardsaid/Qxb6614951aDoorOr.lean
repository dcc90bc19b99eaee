import Derived.Test.Qxb6614951aDoorRetry
namespace Go.Proofs.Qxb6614951aDoor
open Go.RowKit Go.Deep

theorem guard35 : Tryd.prog.eqGuardType Tryd.prog.depth 35 = false := by kernel_rfl
theorem below3 (w : World) (A B D : Obj) : Below w.heap.size w (((w.alloc A).alloc B).alloc D) := (below2 w A B).alloc (below2 w A B).size D
theorem below4 (w : World) (A B D E : Obj) : Below w.heap.size w ((((w.alloc A).alloc B).alloc D).alloc E) := (below3 w A B D).alloc (below3 w A B D).size E
theorem below5 (w : World) (A B D E F : Obj) : Below w.heap.size w (((((w.alloc A).alloc B).alloc D).alloc E).alloc F) := (below4 w A B D E).alloc (below4 w A B D E).size F

/-- three policies in block s -/
structure Three (w : World) (s : Nat) (a b : Int) (f : Nat) (d : Int) (a' b' : Int) (f' : Nat) (d' : Int) : Prop where
  lt : s < w.heap.size
  c0 : w.cell? ⟨s, 0, none⟩ = some (.int .i64 a)
  c1 : w.cell? ⟨s, 1, none⟩ = some (.int .i64 b)
  c2 : w.cell? ⟨s, 2, none⟩ = some (.float .f64 f)
  c3 : w.cell? ⟨s, 3, none⟩ = some (.int .i64 d)
  c4 : w.cell? ⟨s, 4, none⟩ = some (.int .i64 a')
  c5 : w.cell? ⟨s, 5, none⟩ = some (.int .i64 b')
  c6 : w.cell? ⟨s, 6, none⟩ = some (.float .f64 f')
  c7 : w.cell? ⟨s, 7, none⟩ = some (.int .i64 d')
  c8 : w.cell? ⟨s, 8, none⟩ = some (.int .i64 4)
  c9 : w.cell? ⟨s, 9, none⟩ = some (.int .i64 500000000)
  ca : w.cell? ⟨s, 10, none⟩ = some (.float .f64 0)
  cb : w.cell? ⟨s, 11, none⟩ = some (.int .i64 0)

/-- what cmp.Or answers -/
def orV (a b : Int) (f : Nat) (d : Int) (a' b' : Int) (f' : Nat) (d' : Int) : Array Value :=
  if isZ a b f d = false then pc a b f d else if isZ a' b' f' d' = false then pc a' b' f' d' else pc 4 500000000 0 0

set_option maxRecDepth 100000 in
set_option maxHeartbeats 800000 in
theorem or16 (s : Nat) (a b : Int) (f : Nat) (d : Int) (a' b' : Int) (f' : Nat) (d' : Int) (w : World) (h : Three w s a b f d a' b' f' d') :
    Calls Tryd.prog 16 #[.slice (some ⟨s, 0, none⟩) 3 3] w fun e w' => e = .returned (.agg (orV a b f d a' b' f' d')) ∧ Below w.heap.size w w' := by
  obtain ⟨hs, c0, c1, c2, c3, c4, c5, c6, c7, c8, c9, ca, cb⟩ := h
  have hst := storef
  have hg := guard35
  have hc2 : ∀ A B k, ((w.alloc A).alloc B).cell? ⟨s, k, none⟩ = w.cell? ⟨s, k, none⟩ := fun A B k => World.cell?_of_block (w := w) ((below2 w A B).block s hs)
  have hc3 : ∀ A B D k, (((w.alloc A).alloc B).alloc D).cell? ⟨s, k, none⟩ = w.cell? ⟨s, k, none⟩ := fun A B D k => World.cell?_of_block (w := w) ((below3 w A B D).block s hs)
  have hc4 : ∀ A B D E k, ((((w.alloc A).alloc B).alloc D).alloc E).cell? ⟨s, k, none⟩ = w.cell? ⟨s, k, none⟩ := fun A B D E k => World.cell?_of_block (w := w) ((below4 w A B D E).block s hs)
  cases hz : isZ a b f d with
  | false =>
    have hne : ∀ w, (binOp .neq 35 (.agg (pc a b f d)) (.agg (pc 0 0 0 0))).run Tryd.prog w = .ok (.bool true) w := fun w => by rw [neq35, hz]; rfl
    rw [show orV a b f d a' b' f' d' = pc a b f d by unfold orV; rw [if_pos hz]]
    go_enter Tryd.func16, Tryd.ntmps16
    go_wp2
    refine wp_loop_rounds 1 ?_
    rw [rounds_succ]
    go_wp2
    refine bodyPost_ret (v := .agg (pc a b f d)) ?_ rfl ⟨rfl, below3 w _ _ _⟩
    simp [results, Tryd.results16, go_sem]
  | true =>
    have hne : ∀ w, (binOp .neq 35 (.agg (pc a b f d)) (.agg (pc 0 0 0 0))).run Tryd.prog w = .ok (.bool false) w := fun w => by rw [neq35, hz]; rfl
    cases hz' : isZ a' b' f' d' with
    | false =>
      have hne' : ∀ w, (binOp .neq 35 (.agg (pc a' b' f' d')) (.agg (pc 0 0 0 0))).run Tryd.prog w = .ok (.bool true) w := fun w => by rw [neq35, hz']; rfl
      rw [show orV a b f d a' b' f' d' = pc a' b' f' d' by unfold orV; rw [if_neg (by rw [hz]; decide), if_pos hz']]
      go_enter Tryd.func16, Tryd.ntmps16
      go_wp2
      refine wp_loop_rounds 2 ?_
      rw [rounds_succ]
      go_wp2
      rw [rounds_succ]
      go_wp2
      refine bodyPost_ret (v := .agg (pc a' b' f' d')) ?_ rfl ⟨rfl, below4 w _ _ _ _⟩
      simp [results, Tryd.results16, go_sem]
    | true =>
      have hne' : ∀ w, (binOp .neq 35 (.agg (pc a' b' f' d')) (.agg (pc 0 0 0 0))).run Tryd.prog w = .ok (.bool false) w := fun w => by rw [neq35, hz']; rfl
      have hne'' : ∀ w, (binOp .neq 35 (.agg (pc 4 500000000 0 0)) (.agg (pc 0 0 0 0))).run Tryd.prog w = .ok (.bool true) w := fun w => by rw [neq35]; rfl
      rw [show orV a b f d a' b' f' d' = pc 4 500000000 0 0 by unfold orV; rw [if_neg (by rw [hz]; decide), if_neg (by rw [hz']; decide)]]
      go_enter Tryd.func16, Tryd.ntmps16
      go_wp2
      refine wp_loop_rounds 3 ?_
      rw [rounds_succ]
      go_wp2
      rw [rounds_succ]
      go_wp2
      rw [rounds_succ]
      go_wp2
      refine bodyPost_ret (v := .agg (pc 4 500000000 0 0)) ?_ rfl ⟨rfl, below5 w _ _ _ _ _⟩
      simp [results, Tryd.results16, go_sem]
end Go.Proofs.Qxb6614951aDoor
