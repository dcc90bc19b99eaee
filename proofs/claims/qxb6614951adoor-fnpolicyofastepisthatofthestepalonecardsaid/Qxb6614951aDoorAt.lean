import Derived.Test.Qxb6614951aDoorPolx
namespace Go.Proofs.Qxb6614951aDoor
open Go.RowKit Go.Deep

abbrev tobj (S n : Nat) (t : P4) : Obj := .cells #[.string ⟨#[]⟩, .slice (some ⟨S, 0, none⟩) n n, .int .i64 t.a, .int .i64 t.b, .float .f64 t.f, .int .i64 t.d] 38
theorem alloc_size (w : World) (o : Obj) : (w.alloc o).heap.size = w.heap.size + 1 := by simp
theorem startA (w w1 : World) (n : Nat) (t : P4) (A C : Nat → P4) (cs : Array Value) (B0 : Obj) (hcs : cs.size = n * 11)
    (hb : Below (((w.alloc B0).alloc (.cells (pc 0 0 0 0) 25)).alloc (.cells cs 44)).drew.heap.size (((w.alloc B0).alloc (.cells (pc 0 0 0 0) 25)).alloc (.cells cs 44)).drew w1) :
    Ctx w (w1.alloc (tobj (w.heap.size + 1 + 1) n t)) w1.heap.size (w.heap.size + 1 + 1) n t A C 0 0 := by
  have hb : Below (((w.alloc B0).alloc (.cells (pc 0 0 0 0) 25)).alloc (.cells cs 44)).heap.size (((w.alloc B0).alloc (.cells (pc 0 0 0 0) 25)).alloc (.cells cs 44)) w1 := ⟨hb.os, hb.tape, hb.output, hb.size, hb.block⟩
  have s1 := alloc_size w B0
  have s2 := alloc_size (w.alloc B0) (.cells (pc 0 0 0 0) 25)
  have s3 := alloc_size ((w.alloc B0).alloc (.cells (pc 0 0 0 0) 25)) (.cells cs 44)
  have e2 := blk_alloc_new ((w.alloc B0).alloc (.cells (pc 0 0 0 0) 25)) (.cells cs 44)
  have e1 := blk_alloc_new (w.alloc B0) (.cells (pc 0 0 0 0) 25)
  have e1' := (Below.heap_alloc ((w.alloc B0).alloc (.cells (pc 0 0 0 0) 25)) (.cells cs 44) (w.alloc B0).heap.size (by omega)).trans e1
  have sz := hb.size
  have l1 : ∀ k, k < w1.heap.size → (w1.alloc (tobj (w.heap.size + 1 + 1) n t)).heap[k]? = w1.heap[k]? := fun k hk => Below.heap_alloc _ _ _ hk
  rw [s2, s1] at e2
  rw [s1] at e1'
  have f2 := (l1 _ (by omega)).trans ((hb.block (w.heap.size + 1 + 1) (by omega)).trans e2)
  have f1 := (l1 _ (by omega)).trans ((hb.block (w.heap.size + 1) (by omega)).trans e1')
  refine Ctx.start ?_ (blk_alloc_new _ _) f1 cs hcs f2 (by omega) (by omega) (by omega)
  exact ((below3 w _ _ _).trans (hb.mono (by omega))).alloc (by omega) _
theorem startB (w w1 : World) (n : Nat) (t : P4) (A C : Nat → P4) (cs : Array Value) (B0 : Obj) (hcs : cs.size = n * 11)
    (hb : Below ((w.alloc B0).alloc (.cells (pc 0 0 0 0) 25)).drew.heap.size ((w.alloc B0).alloc (.cells (pc 0 0 0 0) 25)).drew w1) :
    Ctx w ((w1.alloc (.cells cs 44)).alloc (tobj w1.heap.size n t)) (w1.heap.size + 1) w1.heap.size n t A C 0 0 := by
  have hb : Below ((w.alloc B0).alloc (.cells (pc 0 0 0 0) 25)).heap.size ((w.alloc B0).alloc (.cells (pc 0 0 0 0) 25)) w1 := ⟨hb.os, hb.tape, hb.output, hb.size, hb.block⟩
  have s1 := alloc_size w B0
  have s2 := alloc_size (w.alloc B0) (.cells (pc 0 0 0 0) 25)
  have s3 := alloc_size w1 (.cells cs 44)
  have e1 := blk_alloc_new (w.alloc B0) (.cells (pc 0 0 0 0) 25)
  have e2 := blk_alloc_new w1 (.cells cs 44)
  have e3 := blk_alloc_new (w1.alloc (.cells cs 44)) (tobj w1.heap.size n t)
  have sz := hb.size
  have l1 : ∀ k, k < w1.heap.size + 1 → ((w1.alloc (.cells cs 44)).alloc (tobj w1.heap.size n t)).heap[k]? = (w1.alloc (.cells cs 44)).heap[k]? := fun k hk => Below.heap_alloc _ _ _ (by omega)
  have l2 : ∀ k, k < w1.heap.size → (w1.alloc (.cells cs 44)).heap[k]? = w1.heap[k]? := fun k hk => Below.heap_alloc _ _ _ hk
  rw [s1] at e1
  rw [s3] at e3
  have f2 := (l1 _ (by omega)).trans e2
  have f1 := (l1 _ (by omega)).trans ((l2 _ (by omega)).trans ((hb.block (w.heap.size + 1) (by omega)).trans e1))
  refine Ctx.start ?_ e3 f1 cs hcs f2 (by omega) (by omega) (by omega)
  exact (((below2 w _ _).trans (hb.mono (by omega))).alloc (by omega) _).alloc (by omega) _

/-- a policy's cells, read in a later world -/
theorem At.later {w w' : World} {s o : Nat} {x : P4} (h : At w s o x) (hb : Below w.heap.size w w') : At w' s o x := At4.later h (hb.block s (World.block_lt_of_cell? _ _ h.c0))

set_option maxRecDepth 100000 in
set_option maxHeartbeats 1600000 in
theorem at5 (w : World) (b off n cap i : Nat) (kind : Int) (A C : Nat → P4) (t : P4) (hi : i < n) (hn : n ≤ 16384) (hT : Told w b off n A C) (hD : At4 w 0 0 4 500000000 0 0) (x : P4) (hO : Own A C i kind x) (p q : Int) (r : Nat) (s : Int) (hor : Hid (orV x.a x.b x.f x.d t.a t.b t.f t.d = pc p q r s)) :
    Calls Tryd.prog 5 #[.slice (some ⟨b, off, none⟩) n cap, .agg t.v, .int .i64 i, .int .i64 kind] w fun e w' => e = .returned (.agg (pc p q r s)) ∧ Below w.heap.size w w' := by
  have hst := storef
  have C9 := retry9 t.a t.b t.f t.d
  have hn' : (n : Int) ≤ 16384 := by omega
  have hn'' : ¬ ((n : Int) < 0) := by omega
  have HT : Hid (Told w b off n A C) := hT
  have HD : Hid (At4 w 0 0 4 500000000 0 0) := hD
  clear hT hD
  obtain ⟨cs, hcs0, hmk⟩ := mk32 n hn
  have hcs : Hid (cs.size = n * 11) := hcs0
  clear hcs0
  go_enter Tryd.func5, Tryd.ntmps5
  go_wp2_with fail
  go_cut [9] from 16 to 22 (fun x wx => ∃ T S, x = .pointer (some ⟨T, 0, none⟩) ∧ Hid (Ctx w wx T S n t A C 0 0))
  case first =>
    go_region_with (go_at_call 9; refine (C9 _).mono ?_; rintro e w1 ⟨rfl, HB⟩)
    all_goals go_wp2_with fail
    all_goals go_meet
    · exact ⟨_, _, rfl, startA w w1 n t A C cs _ hcs.out HB⟩
    · exact ⟨_, _, rfl, startA w w1 n t A C cs _ hcs.out HB⟩
    · exact ⟨_, _, rfl, startB w w1 n t A C cs _ hcs.out HB⟩
  case rest =>
    obtain ⟨T, S, rfl, hc0⟩ := hcut
    clear C9 hmk hcs
    go_wp2_with fail
    go_loopw [10] (fun x wr => ∃ k : Nat, k ≤ n ∧ x = .int .i64 k ∧ Hid (Ctx w wr T S n t A C k k)) (fun x _ => n - (intOf x).toNat)
    case atStart => exact ⟨0, Nat.zero_le _, rfl, hc0⟩
    case round =>
      obtain ⟨k, hk, rfl, hc⟩ := hrel
      by_cases hlt : k < n
      · have hi1 : (k : Int) < (n : Int) := by omega
        have hi0 : (0 : Int) ≤ (k : Int) := by omega
        have t1 := hc.out.t1
        obtain ⟨hA, hC⟩ := HT.out k hlt
        obtain ⟨a0, a1, a2, a3⟩ := hA.later hc.out.below
        have C9 := retry9 (A k).a (A k).b (A k).f (A k).d
        have hob : k * 11 + 3 + 3 < n * 11 := by omega
        go_wp2_with fail
        go_cut [10] from 23 to 54 (fun x wx => x = .int .i64 k ∧ Hid (Ctx w wx T S n t A C (k + 1) k))
        case first =>
          go_region_with (go_at_call 9; refine (C9 _).mono ?_; rintro e w1 ⟨rfl, HB⟩; have HC : Hid (Ctx w w1 T S n t A C k k) := hc.out.call ⟨HB.os, HB.tape, HB.output, HB.size, HB.block⟩; obtain ⟨v0, v1, v2, v3, s0, s1, s2, s3, f0, f1, f2, f3⟩ := HC.out.cells _ hob; have t1x := HC.out.t1; clear HB t1 a0 a1 a2 a3 C9)
          all_goals go_wp2_with fail
          all_goals go_meet
          all_goals exact ⟨rfl, HC.out.putA⟩
        case rest =>
          obtain ⟨rfl, hc1⟩ := hcut
          clear t1 a0 a1 a2 a3 C9 hob hc
          have t1 := hc1.out.t1
          obtain ⟨a0, a1, a2, a3⟩ := hC.later hc1.out.below
          have C9 := retry9 (C k).a (C k).b (C k).f (C k).d
          have hob : k * 11 + 7 + 3 < n * 11 := by omega
          go_wp2_with fail
          go_region_with (go_at_call 9; refine (C9 _).mono ?_; rintro e w1 ⟨rfl, HB⟩; have HC : Hid (Ctx w w1 T S n t A C (k + 1) k) := hc1.out.call ⟨HB.os, HB.tape, HB.output, HB.size, HB.block⟩; obtain ⟨v0, v1, v2, v3, s0, s1, s2, s3, f0, f1, f2, f3⟩ := HC.out.cells _ hob; have t1x := HC.out.t1; clear HB t1 a0 a1 a2 a3 C9)
          all_goals go_wp2
          all_goals go_roundw
          all_goals first | exact ⟨k + 1, by omega, by go_num, HC.out.putC⟩ | (simp [intOf]; omega)
      · have hkn : k = n := by omega
        subst hkn
        have C10 := new10 ⟨T, 0, none⟩ wr
        go_wp2_with fail
        refine C10.mono ?_
        rintro e w2 ⟨g, rfl, H2⟩
        clear C10
        have hc2 : Hid (Ctx w w2 T S k t A C k k) := hc.out.call H2.out.2.2
        have C12 := polx w w2 T S k g i kind t x A C hc2.out hi hO HD.out H2.out.2.1 p q r s hor.out
        go_wp2_with fail
        refine C12.mono ?_
        rintro e w3 ⟨rfl, hb3⟩
        clear C12 H2
        have hc3 : Hid (Ctx w w3 T S k t A C k k) := hc2.out.call hb3
        have C11 := fields11 p q r s w3
        clear hb3
        go_wp2_with fail
        refine C11.mono ?_
        rintro e w4 ⟨rfl, hb4⟩
        clear C11
        have hc4 : Hid (Ctx w w4 T S k t A C k k) := hc3.out.call hb4
        clear hb4
        have c' : ∀ o v, (pc 0 0 0 0)[o]? = some v → w4.cell? ⟨w.heap.size + 1, o, none⟩ = some v := fun o v h => by unfold World.cell?; rw [hc4.out.res]; exact h
        have fz : ∀ o, w4.frozen? ⟨w.heap.size + 1, o, none⟩ = false := fun o => by unfold World.frozen?; rw [hc4.out.res]; rfl
        have y0 := c' 0 _ rfl
        have y1 := c' 1 _ rfl
        have y2 := c' 2 _ rfl
        have y3 := c' 3 _ rfl
        clear c'
        go_wp2
        refine bodyPost_ret (v := .agg (pc p q r s)) (by simp [results, Tryd.results5, go_sem, y0, y1, y2, y3]) rfl ⟨rfl, ?_⟩
        exact below_sets hc4.out.below (Nat.le_succ _) _ _ _ _
end Go.Proofs.Qxb6614951aDoor
