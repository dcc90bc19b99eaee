import Derived.Test.Qxb6614951aDoorOr
import Derived.Deep.RegionLaw
namespace Go.Proofs.Qxb6614951aDoor
open Go.RowKit Go.Deep

/-- a policy's four cells at an address -/
structure At4 (w : World) (s o : Nat) (a b : Int) (f : Nat) (d : Int) : Prop where
  c0 : w.cell? ⟨s, o, none⟩ = some (.int .i64 a)
  c1 : w.cell? ⟨s, o + 1, none⟩ = some (.int .i64 b)
  c2 : w.cell? ⟨s, o + 2, none⟩ = some (.float .f64 f)
  c3 : w.cell? ⟨s, o + 3, none⟩ = some (.int .i64 d)
theorem At4.later {w w' : World} {s o : Nat} {a b : Int} {f : Nat} {d : Int} (h : At4 w s o a b f d) (e : w'.heap[s]? = w.heap[s]?) : At4 w' s o a b f d :=
  ⟨(World.cell?_of_block (w := w) e).trans h.c0, (World.cell?_of_block (w := w) e).trans h.c1, (World.cell?_of_block (w := w) e).trans h.c2, (World.cell?_of_block (w := w) e).trans h.c3⟩

theorem orV_pc (a b : Int) (f : Nat) (d : Int) (a' b' : Int) (f' : Nat) (d' : Int) : ∃ p q r s, orV a b f d a' b' f' d' = pc p q r s := by
  unfold orV
  split
  · exact ⟨_, _, _, _, rfl⟩
  · split
    · exact ⟨_, _, _, _, rfl⟩
    · exact ⟨_, _, _, _, rfl⟩

/-- the twelve cells handed to cmp.Or -/
abbrev tw (a b : Int) (f : Nat) (d : Int) (a' b' : Int) (f' : Nat) (d' : Int) : Array Value :=
  #[.int .i64 a, .int .i64 b, .float .f64 f, .int .i64 d, .int .i64 a', .int .i64 b', .float .f64 f', .int .i64 d', .int .i64 4, .int .i64 500000000, .float .f64 0, .int .i64 0]
abbrev z4 : Obj := .cells (pc 0 0 0 0) 35

theorem call16 (w : World) (B : Obj) (a b : Int) (f : Nat) (d : Int) (a' b' : Int) (f' : Nat) (d' : Int) (p q : Int) (r : Nat) (s : Int) (ho : orV a b f d a' b' f' d' = pc p q r s) (W : World)
    (h1 : W.heap = (((w.alloc z4).alloc B).alloc (.cells (tw a b f d a' b' f' d') 35)).heap) (h2 : W.os = w.os) (h3 : W.tape = w.tape) (h4 : W.output = w.output) :
    Calls Tryd.prog 16 #[.slice (some ⟨w.heap.size + 2, 0, none⟩) 3 3] W fun e w' => e = .returned (.agg (pc p q r s)) ∧
      ((w'.cell? ⟨w.heap.size, 0, none⟩ = some (.int .i64 0) ∧ w'.cell? ⟨w.heap.size, 1, none⟩ = some (.int .i64 0) ∧ w'.cell? ⟨w.heap.size, 2, none⟩ = some (.float .f64 0) ∧ w'.cell? ⟨w.heap.size, 3, none⟩ = some (.int .i64 0)) ∧
        w'.frozen? ⟨w.heap.size, 0, none⟩ = false ∧ w'.frozen? ⟨w.heap.size, 1, none⟩ = false ∧ w'.frozen? ⟨w.heap.size, 2, none⟩ = false ∧ w'.frozen? ⟨w.heap.size, 3, none⟩ = false) ∧
      Hid (Below w.heap.size w w') := by
  have hsz : W.heap.size = w.heap.size + 3 := by rw [h1]; simp
  have e2 : W.heap[w.heap.size + 2]? = some (.cells (tw a b f d a' b' f' d') 35) := by
    rw [h1]
    have h := blk_alloc_new ((w.alloc z4).alloc B) (.cells (tw a b f d a' b' f' d') 35)
    have e : ((w.alloc z4).alloc B).heap.size = w.heap.size + 2 := by simp
    rw [e] at h
    exact h
  have e0 : W.heap[w.heap.size]? = some z4 := by
    rw [h1]
    have h := blk_alloc_new w z4
    exact ((Below.heap_alloc _ _ _ (by simp; omega)).trans (Below.heap_alloc _ _ _ (by simp))).trans h
  have c : ∀ o v, (tw a b f d a' b' f' d')[o]? = some v → W.cell? ⟨w.heap.size + 2, o, none⟩ = some v := fun o v h => by unfold World.cell?; rw [e2]; exact h
  have T : Three W (w.heap.size + 2) a b f d a' b' f' d' := ⟨by omega, c _ _ rfl, c _ _ rfl, c _ _ rfl, c _ _ rfl, c _ _ rfl, c _ _ rfl, c _ _ rfl, c _ _ rfl, c _ _ rfl, c _ _ rfl, c _ _ rfl, c _ _ rfl⟩
  have R := or16 (w.heap.size + 2) a b f d a' b' f' d' W T
  rw [ho] at R
  refine R.mono ?_
  rintro e w' ⟨rfl, hb⟩
  have e0' : w'.heap[w.heap.size]? = some z4 := (hb.block _ (by omega)).trans e0
  have c' : ∀ o v, (pc 0 0 0 0)[o]? = some v → w'.cell? ⟨w.heap.size, o, none⟩ = some v := fun o v h => by unfold World.cell?; rw [e0']; exact h
  have fz : ∀ o, w'.frozen? ⟨w.heap.size, o, none⟩ = false := fun o => by unfold World.frozen?; rw [e0']; rfl
  have hW : Below w.heap.size w W := ⟨h2, h3, h4, by omega, fun k hk => by rw [h1]; exact (below3 w _ _ _).block k hk⟩
  exact ⟨rfl, ⟨⟨c' _ _ rfl, c' _ _ rfl, c' _ _ rfl, c' _ _ rfl⟩, fz _, fz _, fz _, fz _⟩, hW.trans (hb.mono (by omega))⟩

theorem below_sets {w w1 : World} {k : Nat} (h : Below w.heap.size w w1) (hk : w.heap.size ≤ k) (v0 v1 v2 v3 : Value) :
    Below w.heap.size w ((((w1.setCell ⟨k, 0, none⟩ v0).setCell ⟨k, 1, none⟩ v1).setCell ⟨k, 2, none⟩ v2).setCell ⟨k, 3, none⟩ v3) :=
  (((h.setCell (p := ⟨k, 0, none⟩) hk v0).setCell (p := ⟨k, 1, none⟩) hk v1).setCell (p := ⟨k, 2, none⟩) hk v2).setCell (p := ⟨k, 3, none⟩) hk v3

set_option maxRecDepth 100000 in
set_option maxHeartbeats 1600000 in
theorem pol15A (w : World) (g T S n i : Nat) (kind : Int) (a b : Int) (f : Nat) (d : Int) (ta tb : Int) (tf : Nat) (td : Int) (hi : i < n) (hk : (kind == 2) = false)
    (hg : w.cell? ⟨g, 0, none⟩ = some (.pointer (some ⟨T, 0, none⟩))) (hT : w.cell? ⟨T, 1, none⟩ = some (.slice (some ⟨S, 0, none⟩) n n)) (hR : At4 w T 2 ta tb tf td) (hD : At4 w 0 0 4 500000000 0 0)
    (hX : At4 w S (i * 11 + 3) a b f d) :
    Calls Tryd.prog 15 #[.pointer (some ⟨g, 0, none⟩), .int .i64 i, .int .i64 kind] w fun e w' => e = .returned (.agg (orV a b f d ta tb tf td)) ∧ Below w.heap.size w w' := by
  have hst := storef
  obtain ⟨x0, x1, x2, x3⟩ := hX
  obtain ⟨r0, r1, r2, r3⟩ := hR
  obtain ⟨d0, d1, d2, d3⟩ := hD
  have r1' : w.cell? ⟨T, 3, none⟩ = some (.int .i64 tb) := r1
  have r2' : w.cell? ⟨T, 4, none⟩ = some (.float .f64 tf) := r2
  have r3' : w.cell? ⟨T, 5, none⟩ = some (.int .i64 td) := r3
  have d1' : w.cell? ⟨0, 1, none⟩ = some (.int .i64 500000000) := d1
  have d2' : w.cell? ⟨0, 2, none⟩ = some (.float .f64 0) := d2
  have d3' : w.cell? ⟨0, 3, none⟩ = some (.int .i64 0) := d3
  clear r1 r2 r3 d1 d2 d3
  have lg : g < w.heap.size := World.block_lt_of_cell? _ _ hg
  have lT : T < w.heap.size := World.block_lt_of_cell? _ _ hT
  have lS : S < w.heap.size := World.block_lt_of_cell? _ _ x0
  have l0 : 0 < w.heap.size := by omega
  have b1 : ∀ A, Below w.heap.size w (w.alloc A) := fun A => (Below.refl w.heap.size w).alloc (Nat.le_refl _) A
  have kg : ∀ A o, (w.alloc A).cell? ⟨g, o, none⟩ = w.cell? ⟨g, o, none⟩ := fun A o => World.cell?_of_block (w := w) ((b1 A).block g lg)
  have kT : ∀ A o, (w.alloc A).cell? ⟨T, o, none⟩ = w.cell? ⟨T, o, none⟩ := fun A o => World.cell?_of_block (w := w) ((b1 A).block T lT)
  have kS : ∀ A o, (w.alloc A).cell? ⟨S, o, none⟩ = w.cell? ⟨S, o, none⟩ := fun A o => World.cell?_of_block (w := w) ((b1 A).block S lS)
  have mg : ∀ A B o, ((w.alloc A).alloc B).cell? ⟨g, o, none⟩ = w.cell? ⟨g, o, none⟩ := fun A B o => World.cell?_of_block (w := w) ((below2 w A B).block g lg)
  have mT : ∀ A B o, ((w.alloc A).alloc B).cell? ⟨T, o, none⟩ = w.cell? ⟨T, o, none⟩ := fun A B o => World.cell?_of_block (w := w) ((below2 w A B).block T lT)
  have mS : ∀ A B o, ((w.alloc A).alloc B).cell? ⟨S, o, none⟩ = w.cell? ⟨S, o, none⟩ := fun A B o => World.cell?_of_block (w := w) ((below2 w A B).block S lS)
  have m0 : ∀ A B o, ((w.alloc A).alloc B).cell? ⟨0, o, none⟩ = w.cell? ⟨0, o, none⟩ := fun A B o => World.cell?_of_block (w := w) ((below2 w A B).block 0 l0)
  have hi' : (i : Int) < (n : Int) := by omega
  obtain ⟨p, q, r, s, ho⟩ := orV_pc a b f d ta tb tf td
  rw [ho]
  have C16 := call16 w (.cells (pc a b f d) 35) a b f d ta tb tf td p q r s ho
  clear ho
  go_enter Tryd.func15, Tryd.ntmps15
  go_wp2_with fail
  go_region_with (go_at_call 16; refine (C16 _ (by exact rfl) (by exact rfl) (by exact rfl) (by exact rfl)).mono ?_; rintro e w1 ⟨rfl, ⟨⟨y0, y1, y2, y3⟩, g0, g1, g2, g3⟩, HB⟩)
  all_goals clear C16
  all_goals go_wp2
  all_goals (refine bodyPost_ret (v := .agg (pc p q r s)) (by simp [results, Tryd.results15, go_sem, y0, y1, y2, y3]) rfl ⟨rfl, ?_⟩)
  all_goals exact below_sets HB.out (Nat.le_refl _) _ _ _ _
end Go.Proofs.Qxb6614951aDoor
