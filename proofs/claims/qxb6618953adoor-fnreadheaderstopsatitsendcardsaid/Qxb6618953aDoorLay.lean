import Derived.Test.Qxb6618953aDoorSame
namespace Go.Proofs.Qxb6618953aDoor
open Go.RowKit Go.Deep

/-- 'copy(dst, src)' of bytes, dst a new row of n cells, src n bytes from wherever: an equation for the walk -/
theorem copy_run {P : Program} {w : World} (t e ty : TypeId) (hu : P.underlying t = some (.slice e)) (hsz : (P.info? e).map (·.size) = some 1)
    (g n c1 c2 : Nat) (sp : Option Addr) (Z : Nat → Int) (hrow : ∃ f, w.rowIs g e n f) (hsrc : 0 < n → ∃ b off, sp = some ⟨b, off, none⟩ ∧ ∀ j, j < n → w.cell? ⟨b, off + j, none⟩ = some (.int .u8 (Z j))) :
    ∃ w', (Builtin.copy_ #[t, t] ty #[.slice (some ⟨g, 0, none⟩) n c1, .slice sp n c2]).run P w = .ok (.int .i64 n) w' ∧ w'.rowIs g e n (fun i => .int .u8 (Z i)) ∧ w.grownBy w' (some g) := by
  obtain ⟨f, c, hc, hcn, hcf⟩ := hrow
  by_cases h0 : n = 0
  · subst h0
    refine ⟨w, run_copy_none (P := P) w t t ty e _ sp 0 c1 0 c2 hu hsz rfl, ⟨c, hc, hcn, fun i hi => absurd hi (Nat.not_lt_zero i)⟩, ⟨rfl, rfl, rfl, Nat.le_refl _, fun _ _ _ => rfl⟩⟩
  · obtain ⟨b, off, rfl, hcell⟩ := hsrc (by omega)
    have hl : ((List.range n).map (fun i => Value.int .u8 (Z i))).length = n := by simp
    have hrun := run_copy_row (P := P) w t t ty e g 0 n c1 ⟨b, off, none⟩ n c2 c e ((List.range n).map (fun i => Value.int .u8 (Z i))) hu hsz hc (by rw [hl]; exact (Nat.min_self n).symm) (fun j v hv => by
      simp only [List.getElem?_map, Option.map_eq_some_iff] at hv
      obtain ⟨j', hj', rfl⟩ := hv
      obtain ⟨hlt, rfl⟩ := List.getElem?_eq_some_iff.1 hj'
      rw [show (⟨b, off, none⟩ : Addr).add j = ⟨b, off + j, none⟩ from Go.WideShapes.add_plain _ _ _, hcell j (by simpa using hlt)]
      simp) (by rw [hl]; omega) (fun v hv => by
      simp at hv
      obtain ⟨i, _, rfl⟩ := hv
      rfl)
    rw [hl] at hrun
    refine ⟨_, hrun, ⟨_, setRow_heap w g _ _ e _ hc, ?_, fun i hi => ?_⟩, ⟨rfl, rfl, rfl, by simp [World.setRow], fun k _ hk => setRow_other w g k _ (fun e => hk (by rw [e]))⟩⟩
    · simp
      omega
    · have hd : List.drop n c.toList = [] := List.drop_eq_nil_of_le (by simp [hcn])
      simp [hi, hd]

/-- the copy that the law makes first -/
theorem copied (w : World) (ao : Option Addr) (N c : Nat) (Z : Nat → Int) (hb : Bys w ao N Z) :
    ∃ w', (∀ ty, (Builtin.copy_ #[22, 22] ty #[.slice (some ⟨w.heap.size, 0, none⟩) N N, .slice ao N c]).run Tryd.prog (w.alloc (.cells (madeCells #[.int .u8 0] N) 5)) = .ok (.int .i64 N) w') ∧
      w'.rowIs w.heap.size 5 N (fun i => .int .u8 (Z i)) ∧ Below w.heap.size w w' := by
  have b1 := (Below.refl w.heap.size w).alloc (Nat.le_refl _) (.cells (madeCells #[.int .u8 0] N) 5)
  have hsrc : 0 < N → ∃ b off, ao = some ⟨b, off, none⟩ ∧ ∀ j, j < N → (w.alloc (.cells (madeCells #[.int .u8 0] N) 5)).cell? ⟨b, off + j, none⟩ = some (.int .u8 (Z j)) := fun h => by
    obtain ⟨b, off, e, h1, h2⟩ := hb h
    exact ⟨b, off, e, fun j hj => (b1.cell (p := ⟨b, off + j, none⟩) h1).trans (h2 j hj)⟩
  obtain ⟨w', h1, h2, h3⟩ := copy_run (P := Tryd.prog) 22 5 0 Tryd.underlying22 size5 w.heap.size N N c ao Z ⟨_, World.rowIs_made w (.int .u8 0) N 5⟩ hsrc
  refine ⟨w', fun ty => ?_, h2, b1.grown h3 b1.size (fun k hk => by cases hk; exact Nat.le_refl _)⟩
  exact h1

theorem bys_sub {W : World} {d N : Nat} {Z : Nat → Int} (h : Bys W (some ⟨d, 0, none⟩) N Z) (a m : Nat) (ham : a + m ≤ N) : Bys W (some ⟨d, a, none⟩) m (fun j => Z (a + j)) := fun hm => by
  obtain ⟨b, off, e, h1, h2⟩ := h (by omega)
  cases e
  exact ⟨d, a, rfl, h1, fun j hj => by have := h2 (a + j) (by omega); rwa [Nat.zero_add] at this⟩
theorem bys_zero {W : World} {p : Option Addr} {Z : Nat → Int} : Bys W p 0 Z := fun h => absurd h (Nat.lt_irrefl 0)
theorem Bys.qt {W W' : World} {p : Option Addr} {n : Nat} {Z : Nat → Int} (h : Bys W p n Z) (q : Qt W W') : Bys W' p n Z := h.later (q.below _)
theorem Bys.cells {W : World} {d N : Nat} {Z : Nat → Int} (h : Bys W (some ⟨d, 0, none⟩) N Z) (i : Nat) (hi : i < N) : W.cell? ⟨d, 0 + i, none⟩ = some (.int .u8 (Z i)) := by
  obtain ⟨b, off, e, h1, h2⟩ := h (by omega)
  cases e
  exact h2 i hi

theorem at7 {W : World} {d N : Nat} {Z : Nat → Int} (h : Bys W (some ⟨d, 0, none⟩) N Z) (hZ : ∀ j, j < N → 0 ≤ Z j ∧ Z j ≤ 255) (hN : N ≤ 2097152) (i : Nat) (hi : i + 1 < N) (c : Nat) :
    Calls Tryd.prog 7 #[.slice (some ⟨d, 0, none⟩) N c, .int .i64 i] W fun e w' => e = .returned (.int .i64 (u16 Z i)) ∧ Qt W w' :=
  u16At7 W d 0 N c Z i hi hN (h.cells i (by omega)) (h.cells (i + 1) hi) (hZ i (by omega)) (hZ (i + 1) hi)

/-- sameStringBytes at a name that was read -/
theorem name9 {T : ByteArray} {Z : Nat → Int} {a b : Nat} (hT : T = sub Z a b) (hZ : ∀ i, a ≤ i → i < b → 0 ≤ Z i ∧ Z i ≤ 255) (ao : Option Addr) (n c : Nat) (w : World) (he : n = b - a) (hn : n ≤ 2097152) (hb : Bys w ao n (fun j => Z (a + j))) :
    Calls Tryd.prog 9 #[.string T, .slice ao n c] w fun e w' => e = .returned (.bool true) ∧ Qt w w' := by
  rw [hT]
  exact sameN9 ao a b n c Z w hb hn he hZ

set_option maxRecDepth 100000 in
set_option maxHeartbeats 1600000 in
theorem lay3 (w : World) (ao : Option Addr) (N c : Nat) (Z : Nat → Int) (hG : Glob w) (hb : Bys w ao N Z) (hZ : ∀ j, j < N → 0 ≤ Z j ∧ Z j ≤ 255) (hNc : N ≤ c) :
    Calls Tryd.prog 3 #[.slice ao N c] w fun e w' => e = .returned (.bool true) ∧ Below w.heap.size w w' := by
  have q22 : ∀ (w : World) (r : Option Addr) (l c : Nat), (binOp .neq 22 (.slice r l c) (.slice none 0 0)).run Tryd.prog w = .ok (.bool (!r.isNone)) w := fun w r l c => run_neq_slice_nil_any w _ _ r l c 0 0 Tryd.underlying22
  go_enter Tryd.func3, Tryd.ntmps3
  go_wp2_with fail
  refine (bytes5 ao N c w).mono ?_
  rintro e w1 ⟨⟨r, rfl⟩, rfl⟩
  cases r with
  | false =>
    go_wp2
    go_ret
    exact ⟨rfl, Below.refl _ _⟩
  | true =>
    by_cases hN : 1048576 < N
    · have h1 : (N : Int) > 1048576 := by omega
      clear hb hZ hG
      go_wp2
      go_ret
      exact ⟨rfl, Below.refl _ _⟩
    · have h1 : ¬ ((N : Int) > 1048576) := by omega
      cases ao with
      | none =>
        obtain rfl : N = 0 := by
          apply Nat.eq_zero_of_not_pos
          intro h
          obtain ⟨_, _, e, _⟩ := hb h
          cases e
        have C := zz6 w1 none 0 c Z hG hb (by omega) (by omega) hZ
        clear hZ hG
        go_wp2_with fail
        refine C.mono ?_
        rintro e w3 ⟨hp, P, c3, n0, n1, fl, rfl, hR, hB3, hc3, hbel⟩
        have HW : Hid (Below w1.heap.size w1 w3) := hbel
        clear C q22 hb hbel
        rcases hR with ⟨r1, r2, r3, r4, r5⟩ | ⟨r1, _⟩ | ⟨r1, _⟩ | ⟨r1, _⟩
        · obtain rfl : fl = true := by simpa using r5
          subst r2
          have C8 := same8 hp none 0 c3 c Z w3 hB3 bys_zero (by omega)
          have C9a : ∀ W ao c, Calls Tryd.prog 9 #[.string n0, .slice ao 0 c] W fun e w' => e = .returned (.bool true) ∧ Qt W w' := fun W ao c => name9 r3 (fun i h1 h2 => absurd h2 (by omega)) ao 0 c W rfl (by omega) bys_zero
          have C9b : ∀ W ao c, Calls Tryd.prog 9 #[.string n1, .slice ao 0 c] W fun e w' => e = .returned (.bool true) ∧ Qt W w' := fun W ao c => name9 r4 (fun i h1 h2 => absurd h2 (by omega)) ao 0 c W rfl (by omega) bys_zero
          clear r3 r4 hB3
          go_wp2_with fail
          refine C8.mono ?_
          rintro e w4 ⟨rfl, q4⟩
          go_wp2_with fail
          refine (C9a _ _ _).mono ?_
          rintro e w5 ⟨rfl, q5⟩
          go_wp2_with fail
          refine (C9b _ _ _).mono ?_
          rintro e w6 ⟨rfl, q6⟩
          go_wp2
          go_ret
          exact ⟨rfl, HW.out.trans ((q4.trans (q5.trans q6)).below _)⟩
        · omega
        · omega
        · omega
      | some aa =>
        have hmk := run_make_row' (P := Tryd.prog) 22 5 (.int .u8 0) 1 Tryd.underlying22 info5 rfl .i64 .i64 N (by omega) (by omega)
        obtain ⟨w2, hcp, hrow, hbel2⟩ := copied w1 (some aa) N c Z hb
        have hB2 : Bys w2 (some ⟨w1.heap.size, 0, none⟩) N Z := fun _ => ⟨w1.heap.size, 0, rfl, hrow.lt, fun j hj => by rw [Nat.zero_add]; exact hrow.cell hj⟩
        have C := zz6 w2 (some ⟨w1.heap.size, 0, none⟩) N N Z (hG.later hbel2) hB2 (by omega) (Nat.le_refl _) hZ
        clear hG
        go_wp2_with fail
        refine C.mono ?_
        rintro e w3 ⟨hp, P, c3, n0, n1, fl, rfl, hR, hB3, hc3, hbel⟩
        have hD := hB2.later hbel
        have HW : Hid (Below w1.heap.size w1 w3) := hbel2.trans (hbel.mono hbel2.size)
        clear C hcp hmk q22 hB2 hbel hbel2 hrow hb
        rcases hR with ⟨r1, r2, r3, r4, r5⟩ | ⟨r1, r2, r3, r4, r5, r6⟩ | ⟨r1, r2, r3, r4, r5, r6⟩ | ⟨r1, r2, r3, r4, r5⟩
        · obtain rfl : fl = true := by simpa using r5
          subst r2
          have C8 := same8 hp (some ⟨w1.heap.size, 0, none⟩) P c3 P Z w3 hB3 hD (by omega)
          have C9a : ∀ W ao c, Calls Tryd.prog 9 #[.string n0, .slice ao 0 c] W fun e w' => e = .returned (.bool true) ∧ Qt W w' := fun W ao c => name9 r3 (fun i h1 h2 => absurd h2 (by omega)) ao 0 c W rfl (by omega) bys_zero
          have C9b : ∀ W ao c, Calls Tryd.prog 9 #[.string n1, .slice ao 0 c] W fun e w' => e = .returned (.bool true) ∧ Qt W w' := fun W ao c => name9 r4 (fun i h1 h2 => absurd h2 (by omega)) ao 0 c W rfl (by omega) bys_zero
          have t1 : ¬ ((P : Int) ≥ 12) := by omega
          clear r3 r4 hD hB3 hZ
          go_wp2_with fail
          refine C8.mono ?_
          rintro e w4 ⟨rfl, q4⟩
          go_wp2_with fail
          refine (C9a _ _ _).mono ?_
          rintro e w5 ⟨rfl, q5⟩
          go_wp2_with fail
          refine (C9b _ _ _).mono ?_
          rintro e w6 ⟨rfl, q6⟩
          go_wp2
          go_ret
          exact ⟨rfl, HW.out.trans ((q4.trans (q5.trans q6)).below _)⟩
        · obtain rfl : fl = true := by simpa using r6
          subst r3
          have hL := u16_lt Z 10 P hZ (by omega)
          obtain ⟨L0, hL0⟩ : ∃ L0, L0 = u16 Z 10 := ⟨_, rfl⟩
          rw [← hL0] at hL r2 r4
          obtain ⟨e0, he0⟩ : ∃ e0, e0 = 12 + L0 := ⟨_, rfl⟩
          obtain ⟨t0, ht0⟩ : ∃ t0, t0 = min (12 + L0) P := ⟨_, rfl⟩
          rw [← ht0] at r4
          have C7 : Calls Tryd.prog 7 #[.slice (some ⟨w1.heap.size, 0, none⟩) P P, .int .i64 10] w3 fun e w' => e = .returned (.int .i64 L0) ∧ Qt w3 w' := by rw [hL0]; exact at7 hD hZ (by omega) 10 (by omega) P
          have C8 : ∀ W, Qt w3 W → Calls Tryd.prog 8 #[.slice hp P c3, .slice (some ⟨w1.heap.size, 0, none⟩) P P] W fun e w' => e = .returned (.bool true) ∧ Qt W w' := fun W q => same8 hp (some ⟨w1.heap.size, 0, none⟩) P c3 P Z W (hB3.qt q) (hD.qt q) (by omega)
          have C9a : ∀ W ao c, Bys W ao (t0 - 12) (fun j => Z (12 + j)) → Calls Tryd.prog 9 #[.string n0, .slice ao (t0 - 12) c] W fun e w' => e = .returned (.bool true) ∧ Qt W w' := fun W ao c h => name9 r4 (fun i h1 h2 => hZ i (by omega)) ao (t0 - 12) c W rfl (by omega) h
          have HB : Hid (∀ W, Qt w3 W → Bys W (some ⟨w1.heap.size, 12, none⟩) (t0 - 12) (fun j => Z (12 + j))) := fun W q => bys_sub (hD.qt q) 12 (t0 - 12) (by omega)
          have C9b : ∀ W ao c, Calls Tryd.prog 9 #[.string n1, .slice ao 0 c] W fun e w' => e = .returned (.bool true) ∧ Qt W w' := fun W ao c => name9 r5 (fun i h1 h2 => absurd h2 (by omega)) ao 0 c W rfl (by omega) bys_zero
          have t1 : ((P : Int) ≥ 12) := by omega
          have t2 : (12 : Int) + (L0 : Int) = (e0 : Int) := by omega
          have t3 : min (e0 : Int) (P : Int) = (t0 : Int) := by omega
          have t4 : ¬ ((P : Int) ≥ (e0 : Int) + 2) := by omega
          have t5 : (t0 : Int) ≤ (P : Int) := by omega
          have t6 : (12 : Int) ≤ (t0 : Int) := by omega
          have t7 : e0 ≤ 100000 := by omega
          clear r2 r4 r5 r6 hD hB3 hZ hL0 he0 ht0
          go_wp2_with fail
          refine C7.mono ?_
          rintro e w4 ⟨rfl, q4⟩
          go_wp2_with fail
          refine (C8 _ q4).mono ?_
          rintro e w5 ⟨rfl, q5⟩
          go_wp2_with fail
          · refine (C9a w5 (some ⟨w1.heap.size, 0, none⟩) 0 (by rw [show t0 - 12 = 0 by omega]; exact bys_zero)).mono ?_
            rintro e w6 ⟨rfl, q6⟩
            go_wp2_with fail
            refine (C9b _ _ _).mono ?_
            rintro e w7 ⟨rfl, q7⟩
            go_wp2
            go_ret
            exact ⟨rfl, HW.out.trans ((q4.trans (q5.trans (q6.trans q7))).below _)⟩
          · refine (C9a _ _ _ (HB.out _ (q4.trans q5))).mono ?_
            rintro e w6 ⟨rfl, q6⟩
            go_wp2_with fail
            refine (C9b _ _ _).mono ?_
            rintro e w7 ⟨rfl, q7⟩
            go_wp2
            go_ret
            exact ⟨rfl, HW.out.trans ((q4.trans (q5.trans (q6.trans q7))).below _)⟩
        · obtain rfl : fl = true := by simpa using r6
          subst r3
          have hL := u16_lt Z 10 P hZ (by omega)
          obtain ⟨L0, hL0⟩ : ∃ L0, L0 = u16 Z 10 := ⟨_, rfl⟩
          rw [← hL0] at hL r1 r2 r4 r5
          obtain ⟨e0, he0⟩ : ∃ e0, e0 = 12 + L0 := ⟨_, rfl⟩
          rw [← he0] at r1 r2 r4 r5
          have hL' := u16_lt Z e0 P hZ (by omega)
          obtain ⟨L1, hL1⟩ : ∃ L1, L1 = u16 Z e0 := ⟨_, rfl⟩
          rw [← hL1] at r2 r5 hL'
          obtain ⟨e1, he1⟩ : ∃ e1, e1 = e0 + 2 + L1 := ⟨_, rfl⟩
          obtain ⟨t0, ht0⟩ : ∃ t0, t0 = min (e0 + 2 + L1) P := ⟨_, rfl⟩
          rw [← ht0] at r5
          have C7 : Calls Tryd.prog 7 #[.slice (some ⟨w1.heap.size, 0, none⟩) P P, .int .i64 10] w3 fun e w' => e = .returned (.int .i64 L0) ∧ Qt w3 w' := by rw [hL0]; exact at7 hD hZ (by omega) 10 (by omega) P
          have C7b : ∀ W, Qt w3 W → Calls Tryd.prog 7 #[.slice (some ⟨w1.heap.size, 0, none⟩) P P, .int .i64 e0] W fun e w' => e = .returned (.int .i64 L1) ∧ Qt W w' := fun W q => by rw [hL1]; exact at7 (hD.qt q) hZ (by omega) e0 (by omega) P
          have C8 : ∀ W, Qt w3 W → Calls Tryd.prog 8 #[.slice hp P c3, .slice (some ⟨w1.heap.size, 0, none⟩) P P] W fun e w' => e = .returned (.bool true) ∧ Qt W w' := fun W q => same8 hp (some ⟨w1.heap.size, 0, none⟩) P c3 P Z W (hB3.qt q) (hD.qt q) (by omega)
          have C9a : ∀ W c, Qt w3 W → Calls Tryd.prog 9 #[.string n0, .slice (some ⟨w1.heap.size, 12, none⟩) (e0 - 12) c] W fun e w' => e = .returned (.bool true) ∧ Qt W w' := fun W c q => name9 r4 (fun i h1 h2 => hZ i (by omega)) _ (e0 - 12) c W rfl (by omega) (bys_sub (hD.qt q) 12 (e0 - 12) (by omega))
          have C9b : ∀ W c, Qt w3 W → Calls Tryd.prog 9 #[.string n1, .slice (some ⟨w1.heap.size, e0 + 2, none⟩) (t0 - (e0 + 2)) c] W fun e w' => e = .returned (.bool true) ∧ Qt W w' := fun W c q => name9 r5 (fun i h1 h2 => hZ i (by omega)) _ (t0 - (e0 + 2)) c W rfl (by omega) (bys_sub (hD.qt q) (e0 + 2) (t0 - (e0 + 2)) (by omega))
          have C9z : P = e0 + 2 → ∀ W ao c, Calls Tryd.prog 9 #[.string n1, .slice ao (t0 - (e0 + 2)) c] W fun e w' => e = .returned (.bool true) ∧ Qt W w' := fun h W ao c => name9 r5 (fun i h1 h2 => absurd h2 (by omega)) ao (t0 - (e0 + 2)) c W rfl (by omega) (by rw [show t0 - (e0 + 2) = 0 by omega]; exact bys_zero)
          have t1 : ((P : Int) ≥ 12) := by omega
          have t2 : (12 : Int) + (L0 : Int) = (e0 : Int) := by omega
          have t3 : min (e0 : Int) (P : Int) = (e0 : Int) := by omega
          have t4 : ((P : Int) ≥ (e0 : Int) + 2) := by omega
          have t5 : (e0 : Int) + 2 + (L1 : Int) = (e1 : Int) := by omega
          have t6 : min (e1 : Int) (P : Int) = (t0 : Int) := by omega
          have t7 : e0 ≤ 100000 := by omega
          have t8 : e1 ≤ 200000 := by omega
          have t9 : ¬ ((P : Int) ≥ (e1 : Int) + 4) := by omega
          have ta : (t0 : Int) ≤ (P : Int) := by omega
          have tb : (e0 : Int) + 2 ≤ (t0 : Int) := by omega
          have tc : ¬ (P = 12) := by omega
          have td : (12 : Int) ≤ (e0 : Int) := by omega
          have te : (e0 : Int) ≤ (P : Int) := by omega
          clear r1 r2 r4 r5 r6 hD hB3 hZ hL0 he0 ht0 hL1 he1
          go_wp2_with fail
          refine C7.mono ?_
          rintro e w4 ⟨rfl, q4⟩
          go_wp2_with fail
          refine (C7b _ q4).mono ?_
          rintro e w5 ⟨rfl, q5⟩
          go_wp2_with fail
          refine (C8 _ (q4.trans q5)).mono ?_
          rintro e w6 ⟨rfl, q6⟩
          go_wp2_with fail
          refine (C9a _ _ (q4.trans (q5.trans q6))).mono ?_
          rintro e w7 ⟨rfl, q7⟩
          go_wp2_with fail
          · refine (C9z (by omega) w7 (some ⟨w1.heap.size, 0, none⟩) 0).mono ?_
            rintro e w8 ⟨rfl, q8⟩
            go_wp2
            go_ret
            exact ⟨rfl, HW.out.trans ((q4.trans (q5.trans (q6.trans (q7.trans q8)))).below _)⟩
          · refine (C9b _ _ (q4.trans (q5.trans (q6.trans q7)))).mono ?_
            rintro e w8 ⟨rfl, q8⟩
            go_wp2
            go_ret
            exact ⟨rfl, HW.out.trans ((q4.trans (q5.trans (q6.trans (q7.trans q8)))).below _)⟩
        · obtain rfl : fl = false := by simpa using r5
          have hL := u16_lt Z 10 N hZ (by omega)
          obtain ⟨L0, hL0⟩ : ∃ L0, L0 = u16 Z 10 := ⟨_, rfl⟩
          rw [← hL0] at hL r1 r2 r3 r4
          obtain ⟨e0, he0⟩ : ∃ e0, e0 = 12 + L0 := ⟨_, rfl⟩
          rw [← he0] at r1 r2 r3 r4
          have hL' := u16_lt Z e0 N hZ (by omega)
          obtain ⟨L1, hL1⟩ : ∃ L1, L1 = u16 Z e0 := ⟨_, rfl⟩
          rw [← hL1] at r1 r2 r4 hL'
          obtain ⟨e1, he1⟩ : ∃ e1, e1 = e0 + 2 + L1 := ⟨_, rfl⟩
          rw [← he1] at r1 r2 r4
          have C7 : Calls Tryd.prog 7 #[.slice (some ⟨w1.heap.size, 0, none⟩) N N, .int .i64 10] w3 fun e w' => e = .returned (.int .i64 L0) ∧ Qt w3 w' := by rw [hL0]; exact at7 hD hZ (by omega) 10 (by omega) N
          have C7b : ∀ W, Qt w3 W → Calls Tryd.prog 7 #[.slice (some ⟨w1.heap.size, 0, none⟩) N N, .int .i64 e0] W fun e w' => e = .returned (.int .i64 L1) ∧ Qt W w' := fun W q => by rw [hL1]; exact at7 (hD.qt q) hZ (by omega) e0 (by omega) N
          have C8 : ∀ W, Qt w3 W → Calls Tryd.prog 8 #[.slice hp P c3, .slice (some ⟨w1.heap.size, 0, none⟩) P N] W fun e w' => e = .returned (.bool true) ∧ Qt W w' := fun W q => same8 hp (some ⟨w1.heap.size, 0, none⟩) P c3 N Z W (hB3.qt q) (by
            have := bys_sub (hD.qt q) 0 P (by omega)
            simpa using this) (by omega)
          have C9a : ∀ W c, Qt w3 W → Calls Tryd.prog 9 #[.string n0, .slice (some ⟨w1.heap.size, 12, none⟩) (e0 - 12) c] W fun e w' => e = .returned (.bool true) ∧ Qt W w' := fun W c q => name9 r3 (fun i h1 h2 => hZ i (by omega)) _ (e0 - 12) c W rfl (by omega) (bys_sub (hD.qt q) 12 (e0 - 12) (by omega))
          have C9b : ∀ W c, Qt w3 W → Calls Tryd.prog 9 #[.string n1, .slice (some ⟨w1.heap.size, e0 + 2, none⟩) (e1 - (e0 + 2)) c] W fun e w' => e = .returned (.bool true) ∧ Qt W w' := fun W c q => name9 r4 (fun i h1 h2 => hZ i (by omega)) _ (e1 - (e0 + 2)) c W rfl (by omega) (bys_sub (hD.qt q) (e0 + 2) (e1 - (e0 + 2)) (by omega))
          have t1 : ((N : Int) ≥ 12) := by omega
          have t2 : (12 : Int) + (L0 : Int) = (e0 : Int) := by omega
          have t3 : min (e0 : Int) (N : Int) = (e0 : Int) := by omega
          have t4 : ((N : Int) ≥ (e0 : Int) + 2) := by omega
          have t5 : (e0 : Int) + 2 + (L1 : Int) = (e1 : Int) := by omega
          have t6 : min (e1 : Int) (N : Int) = (e1 : Int) := by omega
          have t7 : e0 ≤ 100000 := by omega
          have t8 : e1 ≤ 200000 := by omega
          have t9 : ((N : Int) ≥ (e1 : Int) + 4) := by omega
          have ta : (e1 : Int) ≤ (N : Int) := by omega
          have tb : (e0 : Int) + 2 ≤ (e1 : Int) := by omega
          have tc : ¬ (N = 12) := by omega
          have td : (12 : Int) ≤ (e0 : Int) := by omega
          have te : (e0 : Int) ≤ (N : Int) := by omega
          have tf : ¬ (N = e0 + 2) := by omega
          have tg : (e1 : Int) + 4 = (P : Int) := by omega
          have th : (P : Int) ≤ (N : Int) := by omega
          clear r1 r2 r3 r4 r5 hD hB3 hZ hL0 he0 hL1 he1
          go_wp2_with fail
          refine C7.mono ?_
          rintro e w4 ⟨rfl, q4⟩
          go_wp2_with fail
          refine (C7b _ q4).mono ?_
          rintro e w5 ⟨rfl, q5⟩
          go_wp2_with fail
          refine (C8 _ (q4.trans q5)).mono ?_
          rintro e w6 ⟨rfl, q6⟩
          go_wp2_with fail
          refine (C9a _ _ (q4.trans (q5.trans q6))).mono ?_
          rintro e w7 ⟨rfl, q7⟩
          go_wp2_with fail
          refine (C9b _ _ (q4.trans (q5.trans (q6.trans q7)))).mono ?_
          rintro e w8 ⟨rfl, q8⟩
          go_wp2
          go_ret
          exact ⟨rfl, HW.out.trans ((q4.trans (q5.trans (q6.trans (q7.trans q8)))).below _)⟩
end Go.Proofs.Qxb6618953aDoor
