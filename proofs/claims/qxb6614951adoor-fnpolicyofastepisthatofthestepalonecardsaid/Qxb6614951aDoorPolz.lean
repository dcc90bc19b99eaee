import Derived.Test.Qxb6614951aDoorPol
namespace Go.Proofs.Qxb6614951aDoor
open Go.RowKit Go.Deep

set_option maxRecDepth 100000 in
set_option maxHeartbeats 800000 in
/-- ZZpolicy answers what policy answers -/
theorem pol12 (w : World) (g i : Nat) (kind : Int) (p q : Int) (r : Nat) (s : Int)
    (C : Calls Tryd.prog 15 #[.pointer (some ⟨g, 0, none⟩), .int .i64 i, .int .i64 kind] (w.alloc z4) fun e w' => e = .returned (.agg (pc p q r s)) ∧ Below (w.alloc z4).heap.size (w.alloc z4) w') :
    Calls Tryd.prog 12 #[.pointer (some ⟨g, 0, none⟩), .int .i64 i, .int .i64 kind] w fun e w' => e = .returned (.agg (pc p q r s)) ∧ Below w.heap.size w w' := by
  have hst := storef
  have h0 := blk_alloc_new w z4
  have b1 : Below w.heap.size w (w.alloc z4) := (Below.refl w.heap.size w).alloc (Nat.le_refl _) _
  go_enter Tryd.func12, Tryd.ntmps12
  go_wp2_with fail
  refine C.mono ?_
  rintro e w1 ⟨rfl, hb⟩
  have e0 : w1.heap[w.heap.size]? = some z4 := (hb.block _ (by simp)).trans h0
  have c' : ∀ o v, (pc 0 0 0 0)[o]? = some v → w1.cell? ⟨w.heap.size, o, none⟩ = some v := fun o v h => by unfold World.cell?; rw [e0]; exact h
  have fz : ∀ o, w1.frozen? ⟨w.heap.size, o, none⟩ = false := fun o => by unfold World.frozen?; rw [e0]; rfl
  have y0 := c' 0 _ rfl
  have y1 := c' 1 _ rfl
  have y2 := c' 2 _ rfl
  have y3 := c' 3 _ rfl
  have HB : Hid (Below w.heap.size w w1) := b1.trans (hb.mono (by simp))
  clear C hb c' e0 h0 b1
  go_wp2
  refine bodyPost_ret (v := .agg (pc p q r s)) (by simp [results, Tryd.results12, go_sem, y0, y1, y2, y3]) rfl ⟨rfl, ?_⟩
  exact below_sets HB.out (Nat.le_refl _) _ _ _ _
end Go.Proofs.Qxb6614951aDoor
