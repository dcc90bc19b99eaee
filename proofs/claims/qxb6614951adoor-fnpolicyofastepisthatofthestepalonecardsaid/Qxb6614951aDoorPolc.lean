import Derived.Test.Qxb6614951aDoorPol
namespace Go.Proofs.Qxb6614951aDoor
open Go.RowKit Go.Deep
set_option maxRecDepth 100000 in
set_option maxHeartbeats 1600000 in
theorem pol15C (w : World) (g T S n i : Nat) (a b : Int) (f : Nat) (d : Int) (oa ob : Int) (of : Nat) (od : Int) (ta tb : Int) (tf : Nat) (td : Int) (hi : i < n)
    (hg : w.cell? ⟨g, 0, none⟩ = some (.pointer (some ⟨T, 0, none⟩))) (hT : w.cell? ⟨T, 1, none⟩ = some (.slice (some ⟨S, 0, none⟩) n n)) (hR : At4 w T 2 ta tb tf td) (hD : At4 w 0 0 4 500000000 0 0)
    (hX : At4 w S (i * 11 + 7) a b f d) (hO : At4 w S (i * 11 + 3) oa ob of od) :
    Calls Tryd.prog 15 #[.pointer (some ⟨g, 0, none⟩), .int .i64 i, .int .i64 2] w fun e w' => e = .returned (.agg (orV a b f d ta tb tf td)) ∧ Below w.heap.size w w' := by
  have hst := storef
  obtain ⟨x0, x1, x2, x3⟩ := hX
  obtain ⟨o0, o1, o2, o3⟩ := hO
  obtain ⟨r0, r1, r2, r3⟩ := hR
  obtain ⟨d0, d1, d2, d3⟩ := hD
  have r1' : w.cell? ⟨T, 3, none⟩ = some (.int .i64 tb) := r1
  have r2' : w.cell? ⟨T, 4, none⟩ = some (.float .f64 tf) := r2
  have r3' : w.cell? ⟨T, 5, none⟩ = some (.int .i64 td) := r3
  have d1' : w.cell? ⟨0, 1, none⟩ = some (.int .i64 500000000) := d1
  have d2' : w.cell? ⟨0, 2, none⟩ = some (.float .f64 0) := d2
  have d3' : w.cell? ⟨0, 3, none⟩ = some (.int .i64 0) := d3
  clear r1 r2 r3 d1 d2 d3
  have lg : g < w.heap.size := World.block_lt_of_cell? _ _ hg
  have lT : T < w.heap.size := World.block_lt_of_cell? _ _ hT
  have lS : S < w.heap.size := World.block_lt_of_cell? _ _ x0
  have b1 : ∀ A, Below w.heap.size w (w.alloc A) := fun A => (Below.refl w.heap.size w).alloc (Nat.le_refl _) A
  have kg : ∀ A o, (w.alloc A).cell? ⟨g, o, none⟩ = w.cell? ⟨g, o, none⟩ := fun A o => World.cell?_of_block (w := w) ((b1 A).block g lg)
  have kT : ∀ A o, (w.alloc A).cell? ⟨T, o, none⟩ = w.cell? ⟨T, o, none⟩ := fun A o => World.cell?_of_block (w := w) ((b1 A).block T lT)
  have kS : ∀ A o, (w.alloc A).cell? ⟨S, o, none⟩ = w.cell? ⟨S, o, none⟩ := fun A o => World.cell?_of_block (w := w) ((b1 A).block S lS)
  have mg : ∀ A B o, ((w.alloc A).alloc B).cell? ⟨g, o, none⟩ = w.cell? ⟨g, o, none⟩ := fun A B o => World.cell?_of_block (w := w) ((below2 w A B).block g lg)
  have mT : ∀ A B o, ((w.alloc A).alloc B).cell? ⟨T, o, none⟩ = w.cell? ⟨T, o, none⟩ := fun A B o => World.cell?_of_block (w := w) ((below2 w A B).block T lT)
  have mS : ∀ A B o, ((w.alloc A).alloc B).cell? ⟨S, o, none⟩ = w.cell? ⟨S, o, none⟩ := fun A B o => World.cell?_of_block (w := w) ((below2 w A B).block S lS)
  have l0 : 0 < w.heap.size := by omega
  have m0 : ∀ A B o, ((w.alloc A).alloc B).cell? ⟨0, o, none⟩ = w.cell? ⟨0, o, none⟩ := fun A B o => World.cell?_of_block (w := w) ((below2 w A B).block 0 l0)
  have hi' : (i : Int) < (n : Int) := by omega
  obtain ⟨p, q, r, s, ho⟩ := orV_pc a b f d ta tb tf td
  rw [ho]
  have C16 := call16 w (.cells (pc a b f d) 35) a b f d ta tb tf td p q r s ho
  clear ho
  go_enter Tryd.func15, Tryd.ntmps15
  go_wp2_with fail
  go_region_with (go_at_call 16; refine (C16 _ (by exact rfl) (by exact rfl) (by exact rfl) (by exact rfl)).mono ?_; rintro e w1 ⟨rfl, ⟨⟨y0, y1, y2, y3⟩, g0, g1, g2, g3⟩, HB⟩)
  all_goals clear C16
  all_goals go_wp2
  all_goals (refine bodyPost_ret (v := .agg (pc p q r s)) (by simp [results, Tryd.results15, go_sem, y0, y1, y2, y3]) rfl ⟨rfl, ?_⟩)
  all_goals exact below_sets HB.out (Nat.le_refl _) _ _ _ _
end Go.Proofs.Qxb6614951aDoor
