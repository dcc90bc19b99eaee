import Derived.Test.Qxb6618953aDoorPlain
namespace Go.Proofs.Qxb6618953aDoor
open Go.RowKit Go.Deep

theorem jz_eq {Z Y : Nat → Int} {N P : Nat} (h : P ≤ N) : ∀ j, j < P → (if j < N then Z j else Y (j - N)) = Z j := fun _ hj => if_pos (Nat.lt_of_lt_of_le hj h)
theorem lt_int {a b : Nat} (h : a < b) : (a : Int) < (b : Int) := by omega
theorem nlt_int {a b : Nat} (h : ¬ a < b) : ¬ (a : Int) < (b : Int) := by omega
theorem on_trans {a b c : World} (h : Below a.heap.size a b) (k : Below b.heap.size b c) : Below a.heap.size a c := h.trans (k.mono h.size)
theorem Qt.on {a b : World} (h : Qt a b) : Below a.heap.size a b := h.below _

set_option maxRecDepth 100000 in
set_option maxHeartbeats 4000000 in
theorem end4 (w : World) (ao to_ : Option Addr) (N c M tc : Nat) (k : Int) (Z Y : Nat → Int) (hG : Glob w) (hb : Bys w ao N Z) (hZ : ∀ j, j < N → 0 ≤ Z j ∧ Z j ≤ 255) (hNc : N ≤ c)
    (ht : Bys w to_ M Y) (hY : ∀ j, j < M → 0 ≤ Y j ∧ Y j ≤ 255) :
    Calls Tryd.prog 4 #[.slice ao N c, .slice to_ M tc, .int .i64 k] w fun e w' => e = .returned (.bool true) ∧ Below w.heap.size w w' := by
  have q22 : ∀ (w : World) (r : Option Addr) (l c : Nat), (binOp .neq 22 (.slice r l c) (.slice none 0 0)).run Tryd.prog w = .ok (.bool (!r.isNone)) w := fun w r l c => run_neq_slice_nil_any w _ _ r l c 0 0 Tryd.underlying22
  go_enter Tryd.func4, Tryd.ntmps4
  go_wp2_with fail
  refine (bytes10 ao to_ N c M tc k w).mono ?_
  rintro e w1 ⟨⟨r, rfl⟩, rfl⟩
  cases r with
  | false =>
    go_wp2
    go_ret
    exact ⟨rfl, Below.refl _ _⟩
  | true =>
    by_cases hN : 524288 < N
    · have h1 : (N : Int) > 524288 := by omega
      clear hb hZ hG ht hY
      go_wp2
      go_ret
      exact ⟨rfl, Below.refl _ _⟩
    by_cases hM : 524288 < M
    · have h1 : ¬ (N : Int) > 524288 := by omega
      have h2 : (M : Int) > 524288 := by omega
      clear hb hZ hG ht hY
      go_wp2
      go_ret
      exact ⟨rfl, Below.refl _ _⟩
    have h1 : ¬ (N : Int) > 524288 := by omega
    have h2 : ¬ (M : Int) > 524288 := by omega
    by_cases hk0 : k < 0
    · clear hb hZ hG ht hY
      go_wp2
      go_ret
      exact ⟨rfl, Below.refl _ _⟩
    obtain ⟨K, rfl⟩ := Int.eq_ofNat_of_zero_le (by omega : 0 ≤ k)
    by_cases hKN : N < K
    · have h3 : (K : Int) > (N : Int) := by omega
      clear hb hZ hG ht hY
      go_wp2
      go_ret
      exact ⟨rfl, Below.refl _ _⟩
    have h3 : ¬ (K : Int) > (N : Int) := by omega
    have h4 : ¬ (K : Int) < 0 := by omega
    cases ao with
    | none =>
      obtain rfl : N = 0 := by
        apply Nat.eq_zero_of_not_pos
        intro h
        obtain ⟨_, _, e, _⟩ := hb h
        cases e
      obtain rfl : K = 0 := by omega
      have C := zz6 w1 none 0 c Z hG hb (by omega) (by omega) hZ
      have C2 : ∀ W, Below w1.heap.size w1 W → Calls Tryd.prog 6 #[.slice none 0 c] W (Said W 0 Z) := fun W hb' => zz6 W none 0 c Z (hG.later hb') bys_zero (by omega) (by omega) hZ
      have hk : ((0 : Nat) : Int) = 0 := rfl
      clear hZ hG
      go_wp2_with fail
      refine C.mono ?_
      rintro e w3 ⟨hp, P, c3, n0, n1, fl, rfl, hR, hB3, hc3, hbel⟩
      have hP : P = 0 := by have := hR.le; omega
      subst hP
      obtain rfl : fl = true := by
        cases fl with
        | true => rfl
        | false => have := (hR.good rfl).2.1; omega
      have C8 := same8 hp none 0 c3 c Z w3 hB3 bys_zero (by omega)
      clear C hb
      go_wp2_with fail
      refine C8.mono ?_
      rintro e w4 ⟨rfl, q4⟩
      go_wp2_with fail
      refine (C2 _ (hbel.trans (q4.below _))).mono ?_
      rintro e w5 ⟨hp', P', c5, m0, m1, fl', rfl, hR', hB5, hc5, hbel5⟩
      obtain ⟨_, k1, rfl⟩ := hR.cut_fail (by simp) (Nat.le_refl 0) hR'
      obtain rfl : fl' = true := by simpa using k1
      have C8' := same8 hp' none 0 c5 c Z w5 hB5 bys_zero (by omega)
      go_wp2_with fail
      refine C8'.mono ?_
      rintro e w6 ⟨rfl, q6⟩
      go_wp2
      go_ret
      have b4 := hbel.trans (q4.below _)
      exact ⟨rfl, (b4.trans (hbel5.mono b4.size)).trans (q6.below _)⟩
    | some aa =>
      have hmk := run_make_row' (P := Tryd.prog) 22 5 (.int .u8 0) 1 Tryd.underlying22 info5 rfl .i64 .i64 N (by omega) (by omega)
      obtain ⟨w2, hcp, hrow, hbel2⟩ := copied w1 (some aa) N c Z hb
      have hB2 : Bys w2 (some ⟨w1.heap.size, 0, none⟩) N Z := fun _ => ⟨w1.heap.size, 0, rfl, hrow.lt, fun j hj => by rw [Nat.zero_add]; exact hrow.cell hj⟩
      have hG2 := hG.later hbel2
      have ht2 := ht.later hbel2
      have C := zz6 w2 (some ⟨w1.heap.size, 0, none⟩) N N Z hG2 hB2 (by omega) (Nat.le_refl _) hZ
      clear hG ht hb hrow
      go_wp2_with fail
      refine C.mono ?_
      rintro e w3 ⟨hp, P, c3, n0, n1, fl, rfl, hR, hB3, hc3, hbel3⟩
      have hD3 := hB2.later hbel3
      have hG3 := hG2.later hbel3
      have ht3 := ht2.later hbel3
      have hPN := hR.le
      have C8 := same8 hp (some ⟨w1.heap.size, 0, none⟩) P c3 N Z w3 hB3 (hD3.short hPN) (by omega)
      have h5 : ¬ (P : Int) > (N : Int) := by omega
      have h5' : (P : Int) ≤ (N : Int) := by omega
      have HW3 : Hid (Below w1.heap.size w1 w3) := hbel2.trans (hbel3.mono hbel2.size)
      clear C hcp hmk q22 hB2 hG2 ht2 hbel2 hbel3
      go_wp2_with fail
      refine C8.mono ?_
      rintro e w4 ⟨rfl, q4⟩
      have C2 := zz6 w4 (some ⟨w1.heap.size, 0, none⟩) K N Z (hG3.later q4.on) ((hD3.later q4.on).short (by omega)) (by omega) (by omega) (fun j hj => hZ j (by omega))
      clear C8
      go_wp2_with fail
      refine C2.mono ?_
      rintro e w5 ⟨hp', P', c5, m0, m1, fl', rfl, hR', hB5, hc5, hbel5⟩
      have b35 := on_trans q4.on hbel5
      clear C2
      cases fl with
      | true =>
        obtain ⟨hPe, k1, hPe'⟩ := hR.cut_fail (by simp) (show K ≤ N by omega) hR'
        subst hPe
        subst hPe'
        obtain rfl : fl' = true := by simpa using k1
        have C8' := same8 hp' (some ⟨w1.heap.size, 0, none⟩) P' c5 P Z w5 hB5 ((hD3.later b35).short (by omega)) (by omega)
        clear hR hR' hB3 hB5 hD3 hG3 ht3 hZ hY k1
        go_wp2_with fail
        refine C8'.mono ?_
        rintro e w6 ⟨rfl, q6⟩
        go_wp2
        go_ret
        exact ⟨rfl, (HW3.out.trans (b35.mono HW3.out.size)).trans (q6.below _)⟩
      | false =>
        obtain ⟨_, gP, g0, g1⟩ := hR.good rfl
        obtain ⟨L0, hL0⟩ : ∃ L0, L0 = u16 Z 10 := ⟨_, rfl⟩
        rw [← hL0] at gP g0 g1
        obtain ⟨e0, he0⟩ : ∃ e0, e0 = 12 + L0 := ⟨_, rfl⟩
        rw [← he0] at gP g0 g1
        obtain ⟨L1, hL1⟩ : ∃ L1, L1 = u16 Z e0 := ⟨_, rfl⟩
        rw [← hL1] at gP g1
        obtain ⟨s1, hs1⟩ : ∃ s1, s1 = e0 + 2 := ⟨_, rfl⟩
        rw [← hs1] at g1
        obtain ⟨e1, he1⟩ : ∃ e1, e1 = s1 + L1 := ⟨_, rfl⟩
        rw [← he1] at g1
        have z0 : n0.size = L0 := by rw [g0, sub_size]; omega
        have z1 : n1.size = L1 := by rw [g1, sub_size]; omega
        obtain ⟨hb, ho, rfl, _, _⟩ := hB3 (by omega)
        have hB3' := hB3.later b35
        have C7a : Calls Tryd.prog 7 #[.slice (some ⟨hb, ho, none⟩) P c3, .int .i64 10] w5 fun e w' => e = .returned (.int .i64 L0) ∧ Qt w5 w' := by rw [hL0]; exact at7' hB3' (fun j hj => hZ j (by omega)) (by omega) 10 (by omega) c3
        have C7b : ∀ W, Qt w5 W → Calls Tryd.prog 7 #[.slice (some ⟨hb, ho, none⟩) P c3, .int .i64 e0] W fun e w' => e = .returned (.int .i64 L1) ∧ Qt W w' := fun W q => by rw [hL1]; exact at7' (hB3'.qt q) (fun j hj => hZ j (by omega)) (by omega) e0 (by omega) c3
        have C9a : ∀ W cc, Qt w5 W → Calls Tryd.prog 9 #[.string n0, .slice (some ⟨hb, ho + 12, none⟩) (e0 - 12) cc] W fun e w' => e = .returned (.bool true) ∧ Qt W w' := fun W cc q => name9 g0 (fun i h1 h2 => hZ i (by omega)) _ (e0 - 12) cc W rfl (by omega) ((hB3'.qt q).from 12 (e0 - 12) (by omega))
        have C9b : ∀ W cc, Qt w5 W → Calls Tryd.prog 9 #[.string n1, .slice (some ⟨hb, ho + s1, none⟩) (e1 - s1) cc] W fun e w' => e = .returned (.bool true) ∧ Qt W w' := fun W cc q => name9 g1 (fun i h1 h2 => hZ i (by omega)) _ (e1 - s1) cc W rfl (by omega) ((hB3'.qt q).from s1 (e1 - s1) (by omega))
        have t1 : (18 : Int) + (L0 : Int) + (L1 : Int) = (P : Int) := by omega
        have t2 : (12 : Int) + (L0 : Int) = (e0 : Int) := by omega
        have t3 : (14 : Int) + (L0 : Int) = (s1 : Int) := by omega
        have t4 : (s1 : Int) + (L1 : Int) = (e1 : Int) := by omega
        have t5 : ¬ (c3 = 12) := by omega
        have t6 : ¬ (c3 = s1) := by omega
        have t7 : (12 : Int) ≤ (e0 : Int) := by omega
        have t8 : (s1 : Int) ≤ (e1 : Int) := by omega
        have t9 : (e0 : Int) ≤ (P : Int) := by omega
        have ta : (e1 : Int) ≤ (P : Int) := by omega
        have tb : (P : Int) ≤ (c3 : Int) := by omega
        have tc' : (e0 : Int) ≤ (c3 : Int) := by omega
        have td : (e1 : Int) ≤ (c3 : Int) := by omega
        have te : P ≤ 524288 := by omega
        have tf : L0 ≤ 524288 := by omega
        have tg : L1 ≤ 524288 := by omega
        have th : e0 ≤ 524288 := by omega
        have ti : e1 ≤ 524288 := by omega
        have tj : s1 ≤ 524288 := by omega
        have HG : Hid (P ≤ N ∧ 18 ≤ P) := ⟨hPN, by omega⟩
        clear gP g0 g1 hL0 hL1 he0 he1 hs1 hB3
        go_wp2_with fail
        refine C7a.mono ?_
        rintro e w6 ⟨rfl, q6⟩
        go_wp2_with fail
        refine (C7b _ q6).mono ?_
        rintro e w7 ⟨rfl, q7⟩
        go_wp2_with fail
        refine (C9a _ _ (q6.trans q7)).mono ?_
        rintro e w8 ⟨rfl, q8⟩
        go_wp2_with fail
        refine (C9b _ _ (q6.trans (q7.trans q8))).mono ?_
        rintro e w9 ⟨rfl, q9⟩
        have q59 := q6.trans (q7.trans (q8.trans q9))
        have b39 := on_trans b35 q59.on
        obtain ⟨hPN', hP18⟩ := HG.out
        have hD9 := hD3.later b39
        have hG9 := hG3.later b39
        obtain ⟨wa, wb, hcp1, hcp2, hrow, hbj⟩ := joined w9 w1.heap.size N M tc to_ Z Y hD9 (ht3.later b39) (by omega)
        have hjZ : ∀ j, j < N + M → 0 ≤ (if j < N then Z j else Y (j - N)) ∧ (if j < N then Z j else Y (j - N)) ≤ 255 := fun j hj => by
          by_cases h : j < N
          · rw [if_pos h]; exact hZ j h
          · rw [if_neg h]; exact hY (j - N) (by omega)
        have hBj : Bys wb (some ⟨w9.heap.size, 0, none⟩) (N + M) (fun i => if i < N then Z i else Y (i - N)) := fun _ => ⟨w9.heap.size, 0, rfl, hrow.lt, fun j hj => by rw [Nat.zero_add]; exact hrow.cell hj⟩
        have C6 := zz6 wb (some ⟨w9.heap.size, 0, none⟩) (N + M) (N + M) _ (hG9.later hbj) hBj (by omega) (Nat.le_refl _) hjZ
        have hP21 : P ≤ 2097152 := by omega
        have hKN' : K ≤ N := by omega
        have HPM : Hid (P ≤ N + M) := by show _ ≤ _; omega
        have hN63 : N ≤ 524288 := by omega
        have hM63 : M ≤ 524288 := by omega
        clear C7a C7b C9a C9b hrow hBj hjZ hD9 hG9 t1 t2 t3 t4 t5 t6 t7 t8 t9 ta tb tc' td te tf tg th ti tj z0 z1 HG h1 h2 h4 h5 h5' hN hM hk0 hKN hPN hc3 hc5
        rcases Nat.eq_zero_or_pos M with hM0 | hM0
        · subst hM0
          have hmk := run_make_row' (P := Tryd.prog) 22 5 (.int .u8 0) 1 Tryd.underlying22 info5 rfl .i64 .i64 N (by omega) (by omega)
          simp only [Nat.add_zero] at hcp1 C6
          have hcpB := fun ty => hcp2 ty ⟨w9.heap.size, 0, none⟩ (fun h => absurd h (by omega))
          clear hcp2
          go_wp2_with fail
          refine C6.mono ?_
          rintro e wc ⟨hq, P2, c7, j0, j1, fl2, rfl, hR2, hB7, hc7, hbel7⟩
          obtain ⟨k2, hP2, rfl, rfl⟩ := hR.grow (by simp) HPM.out (jz_eq hPN') hR2
          subst hP2
          obtain rfl : fl2 = false := by simpa using k2
          have b9c := on_trans hbj hbel7
          have b5c := on_trans q59.on b9c
          have b3c := on_trans b35 b5c
          have C8a := same8 hq (some ⟨hb, ho, none⟩) P2 c7 c3 Z wc (hB7.congr (jz_eq hPN')) (hB3'.later b5c) hP21
          clear C6 hR2 hB7 hcp1 hcpB hmk
          go_wp2_with fail
          refine C8a.mono ?_
          rintro e wd ⟨rfl, qd⟩
          have b5d := on_trans b5c qd.on
          have b3d := on_trans b3c qd.on
          have HWd : Hid (Below w1.heap.size w1 wd) := HW3.out.trans (b3d.mono HW3.out.size)
          by_cases hKP : K < P2
          · obtain ⟨k3, hk3⟩ := hR.cut_short (by simp) hKP hR'
            subst hk3
            obtain rfl : fl' = true := by simpa using k3
            have C8b := same8 hp' (some ⟨w1.heap.size, 0, none⟩) P' c5 N Z wd (hB5.later b5d) ((hD3.later b3d).short hKN') (Nat.le_trans (Nat.le_of_lt hKP) hP21)
            have u1 : (P' : Int) < (P2 : Int) := lt_int hKP
            clear hR hR' hB5 hD3 hG3 ht3 hZ hY hB3' C8a
            go_wp2_with fail
            refine C8b.mono ?_
            rintro e we ⟨rfl, qe⟩
            go_wp2
            go_ret
            exact ⟨rfl, HWd.out.trans (qe.below _)⟩
          · obtain ⟨k3, hk3, _⟩ := hR.grow (by simp) (Nat.le_of_not_lt hKP) (fun j hj => rfl) hR'
            subst hk3
            obtain rfl : fl' = false := by simpa using k3
            have C8b := same8 hp' (some ⟨hb, ho, none⟩) P' c5 c3 Z wd (hB5.later b5d) (hB3'.later b5d) hP21
            have u1 : ¬ (K : Int) < (P' : Int) := nlt_int hKP
            clear hR hR' hB5 hD3 hG3 ht3 hZ hY hB3' C8a
            go_wp2_with fail
            refine C8b.mono ?_
            rintro e we ⟨rfl, qe⟩
            go_wp2
            go_ret
            exact ⟨rfl, HWd.out.trans (qe.below _)⟩
        · have hcpB := fun ty => hcp2 ty ⟨w9.heap.size, N, none⟩ (fun _ => rfl)
          obtain ⟨S, hS⟩ : ∃ S, S = N + M := ⟨_, rfl⟩
          rw [← hS] at hcp1 C6
          have hmk := run_make_row' (P := Tryd.prog) 22 5 (.int .u8 0) 1 Tryd.underlying22 info5 rfl .i64 .i64 S (by omega) (by omega)
          have v1 : (N : Int) + (M : Int) = (S : Int) := by omega
          have v2 : S - N = M := by omega
          have v3 : ¬ (S = N) := by omega
          have v4 : (N : Int) ≤ (S : Int) := by omega
          have v5 : S ≤ 1048576 := by omega
          have v6 := wrap_small S S (Nat.le_refl _) v5
          have v7 := wrapk_small S S (Nat.le_refl _) v5
          have HS : Hid (S = N + M) := hS
          clear hcp2 hS
          go_wp2_with fail
          refine C6.mono ?_
          rintro e wc ⟨hq, P2, c7, j0, j1, fl2, rfl, hR2, hB7, hc7, hbel7⟩
          obtain ⟨k2, hP2, rfl, rfl⟩ := hR.grow (by simp) (Nat.le_trans HPM.out (Nat.le_of_eq HS.out.symm)) (jz_eq hPN') hR2
          subst hP2
          obtain rfl : fl2 = false := by simpa using k2
          have b9c := on_trans hbj hbel7
          have b5c := on_trans q59.on b9c
          have b3c := on_trans b35 b5c
          have C8a := same8 hq (some ⟨hb, ho, none⟩) P2 c7 c3 Z wc (hB7.congr (jz_eq hPN')) (hB3'.later b5c) hP21
          clear C6 hR2 hB7 hcp1 hcpB hmk v1 v2 v3 v4 v5 v6 v7 HS
          go_wp2_with fail
          refine C8a.mono ?_
          rintro e wd ⟨rfl, qd⟩
          have b5d := on_trans b5c qd.on
          have b3d := on_trans b3c qd.on
          have HWd : Hid (Below w1.heap.size w1 wd) := HW3.out.trans (b3d.mono HW3.out.size)
          by_cases hKP : K < P2
          · obtain ⟨k3, hk3⟩ := hR.cut_short (by simp) hKP hR'
            subst hk3
            obtain rfl : fl' = true := by simpa using k3
            have C8b := same8 hp' (some ⟨w1.heap.size, 0, none⟩) P' c5 N Z wd (hB5.later b5d) ((hD3.later b3d).short hKN') (Nat.le_trans (Nat.le_of_lt hKP) hP21)
            have u1 : (P' : Int) < (P2 : Int) := lt_int hKP
            clear hR hR' hB5 hD3 hG3 ht3 hZ hY hB3' C8a
            go_wp2_with fail
            refine C8b.mono ?_
            rintro e we ⟨rfl, qe⟩
            go_wp2
            go_ret
            exact ⟨rfl, HWd.out.trans (qe.below _)⟩
          · obtain ⟨k3, hk3, _⟩ := hR.grow (by simp) (Nat.le_of_not_lt hKP) (fun j hj => rfl) hR'
            subst hk3
            obtain rfl : fl' = false := by simpa using k3
            have C8b := same8 hp' (some ⟨hb, ho, none⟩) P' c5 c3 Z wd (hB5.later b5d) (hB3'.later b5d) hP21
            have u1 : ¬ (K : Int) < (P' : Int) := nlt_int hKP
            clear hR hR' hB5 hD3 hG3 ht3 hZ hY hB3' C8a
            go_wp2_with fail
            refine C8b.mono ?_
            rintro e we ⟨rfl, qe⟩
            go_wp2
            go_ret
            exact ⟨rfl, HWd.out.trans (qe.below _)⟩
end Go.Proofs.Qxb6618953aDoor
