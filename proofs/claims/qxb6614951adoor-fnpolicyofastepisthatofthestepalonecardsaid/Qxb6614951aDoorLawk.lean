import Derived.Test.Qxb6614951aDoorSmall
import Derived.Test.Qxb6614951aDoorAt
namespace Go.Proofs.Qxb6614951aDoor
open Go.RowKit Go.Deep

theorem Told.later {w w' : World} {b off n : Nat} {A C : Nat → P4} (h : Told w b off n A C) (hb : Below w.heap.size w w') : Told w' b off n A C :=
  fun j hj => ⟨(h j hj).1.later hb, (h j hj).2.later hb⟩
theorem Told.one {w : World} {b off n : Nat} {A C : Nat → P4} (h : Told w b off n A C) (i : Nat) (hi : i < n) : Told w b (off + i * 8) 1 (fun _ => A i) (fun _ => C i) :=
  fun j hj => by
    obtain rfl : j = 0 := by omega
    exact h i hi

theorem addp (b o i : Nat) : (⟨b, o, none⟩ : Addr).add i = ⟨b, o + i, none⟩ := by unfold Addr.add; split <;> simp_all
/-- a policy's cells, read off its block -/
theorem blk_cell {w : World} {q : Nat} {x : P4} (h : w.heap[q]? = some (.cells x.v 25)) :
    w.cell? ⟨q, 0, none⟩ = some (.int .i64 x.a) ∧ w.cell? ⟨q, 1, none⟩ = some (.int .i64 x.b) ∧ w.cell? ⟨q, 2, none⟩ = some (.float .f64 x.f) ∧ w.cell? ⟨q, 3, none⟩ = some (.int .i64 x.d) := by
  have c : ∀ o v, x.v[o]? = some v → w.cell? ⟨q, o, none⟩ = some v := fun o v hv => by unfold World.cell?; rw [h]; exact hv
  exact ⟨c _ _ rfl, c _ _ rfl, c _ _ rfl, c _ _ rfl⟩
theorem blk_lt {w : World} {q : Nat} {o : Obj} (h : w.heap[q]? = some o) : q < w.heap.size := (Array.getElem?_eq_some_iff.1 h).1
theorem blk_keep {w w' : World} {q : Nat} {o : Obj} (h : w.heap[q]? = some o) (hb : Below w.heap.size w w') : w'.heap[q]? = some o := (hb.block q (blk_lt h)).trans h
abbrev z25 : Obj := .cells (pc 0 0 0 0) 25
/-- the variable's block, made ahead of the call -/
theorem ahead {W w3 : World} (h : Below (W.alloc z25).drew.heap.size (W.alloc z25).drew w3) : w3.heap[W.heap.size]? = some z25 ∧ Below W.heap.size W w3 := by
  have h' : Below (W.alloc z25).heap.size (W.alloc z25) w3 := ⟨h.os, h.tape, h.output, h.size, h.block⟩
  exact ⟨blk_keep (blk_alloc_new W z25) h', (below1 W z25).trans (h'.mono (below1 W z25).size)⟩
theorem zcell {w : World} {q : Nat} (h : w.heap[q]? = some z25) :
    (w.cell? ⟨q, 0, none⟩ = some (.int .i64 0) ∧ w.cell? ⟨q, 1, none⟩ = some (.int .i64 0) ∧ w.cell? ⟨q, 2, none⟩ = some (.float .f64 0) ∧ w.cell? ⟨q, 3, none⟩ = some (.int .i64 0)) ∧
      w.frozen? ⟨q, 0, none⟩ = false ∧ w.frozen? ⟨q, 1, none⟩ = false ∧ w.frozen? ⟨q, 2, none⟩ = false ∧ w.frozen? ⟨q, 3, none⟩ = false := by
  have c : ∀ o v, (pc 0 0 0 0)[o]? = some v → w.cell? ⟨q, o, none⟩ = some v := fun o v hv => by unfold World.cell?; rw [h]; exact hv
  have fz : ∀ o, w.frozen? ⟨q, o, none⟩ = false := fun o => by unfold World.frozen?; rw [h]; rfl
  exact ⟨⟨c _ _ rfl, c _ _ rfl, c _ _ rfl, c _ _ rfl⟩, fz _, fz _, fz _, fz _⟩
theorem stored4 {W w3 : World} {y : P4} (h : w3.heap[W.heap.size]? = some z25) (hb : Below W.heap.size W w3) :
    (((((w3.setCell ⟨W.heap.size, 0, none⟩ (.int .i64 y.a)).setCell ⟨W.heap.size, 1, none⟩ (.int .i64 y.b)).setCell ⟨W.heap.size, 2, none⟩ (.float .f64 y.f)).setCell ⟨W.heap.size, 3, none⟩ (.int .i64 y.d)).heap[W.heap.size]? = some (.cells y.v 25)) ∧
      Below W.heap.size W ((((w3.setCell ⟨W.heap.size, 0, none⟩ (.int .i64 y.a)).setCell ⟨W.heap.size, 1, none⟩ (.int .i64 y.b)).setCell ⟨W.heap.size, 2, none⟩ (.float .f64 y.f)).setCell ⟨W.heap.size, 3, none⟩ (.int .i64 y.d)) := by
  refine ⟨?_, below_sets hb (Nat.le_refl _) _ _ _ _⟩
  have r : w3.rowIs W.heap.size 25 4 (fun i => (pc 0 0 0 0)[i]?.getD default) := ⟨_, h, rfl, fun i hi => by simp [Array.getElem?_eq_getElem (show i < (pc 0 0 0 0).size from hi)]⟩
  obtain ⟨c, hc, hs, hv⟩ := (((r.set 0 (.int .i64 y.a)).set 1 (.int .i64 y.b)).set 2 (.float .f64 y.f)).set 3 (.int .i64 y.d)
  rw [hc]
  have e : c = y.v := by
    apply Array.ext
    · exact hs
    · intro i h1 h2
      have hi : i < 4 := by omega
      have := hv i hi
      rw [Array.getElem?_eq_getElem h1] at this
      have e := Option.some.inj this
      rw [e]
      match i, hi with
      | 0, _ => rfl
      | 1, _ => rfl
      | 2, _ => rfl
      | 3, _ => rfl
  rw [e]
theorem u22 : Tryd.prog.underlying 22 = some (.slice (Tryd.prog.elem 22)) := by kernel_rfl
theorem size22 (w : World) : (sizeOf (Tryd.prog.elem 22)).run Tryd.prog w = .ok 8 w := by kernel_rfl
/-- the step alone -/
theorem slice22 (b off n cap i : Nat) (hi : i < cap) (w : World) : (Instr.slice 22 (.slice (some ⟨b, off, none⟩) n cap) (some (.int .i64 (i : Int))) (some (.int .i64 ((i : Int) + 1))) none).run Tryd.prog w = .ok (.slice (some ⟨b, off + i * 8, none⟩) 1 (cap - i)) w := by
  rw [run_slice_lh w 22 _ n cap u22 .i64 .i64 i (i + 1) (by omega) (by omega) (by omega), size22]
  have e1 : ((i : Int) + 1).toNat = i + 1 := by omega
  simp only [Result.andThen, sliced, Int.toNat_natCast, e1, if_neg (show ¬ cap = i by omega), Nat.add_sub_cancel_left, Option.map_some, addp]
theorem sliceAt22 (b off n cap i : Nat) (hi : i < cap) (w : World) : (Instr.sliceAt 22 (.slice (some ⟨b, off, none⟩) n cap) (some (.int .i64 (i : Int))) (some (.int .i64 ((i : Int) + 1))) none).run Tryd.prog w = .ok (.slice (some ⟨b, off + i * 8, none⟩) 1 (cap - i)) w := by
  rw [run_sliceAt_slice w 22 _ _ _ _ u22, slice22 b off n cap i hi]

/-- the answer of policy, and its tie to the step's own -/
theorem orV_P4 (x t : P4) : ∃ y : P4, orV x.a x.b x.f x.d t.a t.b t.f t.d = y.v ∧ (isZ x.a x.b x.f x.d = false → y = x) := by
  by_cases h : isZ x.a x.b x.f x.d = false
  · exact ⟨x, by unfold orV; rw [if_pos h], fun _ => rfl⟩
  · obtain ⟨p, q, r, s, e⟩ := orV_pc x.a x.b x.f x.d t.a t.b t.f t.d
    exact ⟨⟨p, q, r, s⟩, e, fun h' => absurd h' h⟩

end Go.Proofs.Qxb6614951aDoor
