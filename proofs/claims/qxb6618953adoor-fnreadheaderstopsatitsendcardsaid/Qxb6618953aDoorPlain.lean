import Derived.Test.Qxb6618953aDoorLay
namespace Go.Proofs.Qxb6618953aDoor
open Go.RowKit Go.Deep

theorem u16_congr {Z Y : Nat → Int} {i N : Nat} (h : ∀ j, j < N → Y j = Z j) (hi : i + 1 < N) : u16 Y i = u16 Z i := by
  unfold u16
  rw [h i (by omega), h (i + 1) hi]
theorem sub_congr {Z Y : Nat → Int} {a b N : Nat} (h : ∀ j, j < N → Y j = Z j) (hb : b ≤ N) : sub Y a b = sub Z a b := by
  unfold sub
  congr 1
  apply List.map_congr_left
  intro j hj
  have : j < b - a := by simpa using hj
  exact h _ (by omega)

theorem Res.le {N : Nat} {Z : Nat → Int} {P : Nat} {n0 n1 : ByteArray} {ok : Prop} (h : Res N Z P n0 n1 ok) : P ≤ N := by
  rcases h with ⟨_, h2, _⟩ | ⟨_, _, h2, _⟩ | ⟨_, _, h2, _⟩ | ⟨h1, h2, _⟩ <;> omega
/-- a cut of what fails fails, all of it read -/
theorem Res.cut_fail {N K : Nat} {Z : Nat → Int} {P P' : Nat} {n0 n1 m0 m1 : ByteArray} {ok ok' : Prop} (h : Res N Z P n0 n1 ok) (hno : ¬ ok) (hK : K ≤ N) (h' : Res K Z P' m0 m1 ok') : P = N ∧ ¬ ok' ∧ P' = K := by
  have h2 : P = N ∧ N < 12 + u16 Z 10 + 2 + u16 Z (12 + u16 Z 10) + 4 := by
    rcases h with ⟨r1, r2, _⟩ | ⟨r1, r2, r3, _⟩ | ⟨r1, r2, r3, _⟩ | ⟨r1, r2, r3, r4, r5⟩
    · exact ⟨r2, by omega⟩
    · exact ⟨r3, by omega⟩
    · exact ⟨r3, by omega⟩
    · exact absurd r5 hno
  refine ⟨h2.1, ?_⟩
  rcases h' with ⟨r1, r2, _, _, r5⟩ | ⟨r1, r2, r3, _, _, r5⟩ | ⟨r1, r2, r3, _, _, r5⟩ | ⟨r1, r2, r3, r4, r5⟩
  · exact ⟨r5, r2⟩
  · exact ⟨r5, r3⟩
  · exact ⟨r5, r3⟩
  · omega
/-- what a good header is -/
theorem Res.good {N : Nat} {Z : Nat → Int} {P : Nat} {n0 n1 : ByteArray} {ok : Prop} (h : Res N Z P n0 n1 ok) (hok : ok) :
    P ≤ N ∧ P = 18 + u16 Z 10 + u16 Z (12 + u16 Z 10) ∧ n0 = sub Z 12 (12 + u16 Z 10) ∧ n1 = sub Z (12 + u16 Z 10 + 2) (12 + u16 Z 10 + 2 + u16 Z (12 + u16 Z 10)) := by
  rcases h with ⟨_, _, _, _, r5⟩ | ⟨_, _, _, _, _, r5⟩ | ⟨_, _, _, _, _, r5⟩ | ⟨r1, r2, r3, r4, r5⟩
  · exact absurd hok r5
  · exact absurd hok r5
  · exact absurd hok r5
  · exact ⟨by omega, by omega, r3, r4⟩
/-- bytes behind it change nothing; so a cut that holds it -/
theorem Res.grow {N K : Nat} {Z Y : Nat → Int} {P P' : Nat} {n0 n1 m0 m1 : ByteArray} {ok ok' : Prop} (h : Res N Z P n0 n1 ok) (hok : ok) (hK : P ≤ K) (hY : ∀ j, j < P → Y j = Z j) (h' : Res K Y P' m0 m1 ok') : ok' ∧ P' = P ∧ m0 = n0 ∧ m1 = n1 := by
  obtain ⟨_, e1, e2, e3⟩ := h.good hok
  have a1 : u16 Y 10 = u16 Z 10 := u16_congr hY (by omega)
  have a2 : u16 Y (12 + u16 Z 10) = u16 Z (12 + u16 Z 10) := u16_congr hY (by omega)
  rcases h' with ⟨r1, _⟩ | ⟨r1, r2, _⟩ | ⟨r1, r2, _⟩ | ⟨r1, r2, r3, r4, r5⟩
  · omega
  · rw [a1] at r2; omega
  · rw [a1, a2] at r2; omega
  · rw [a1, a2] at r2 r4
    rw [a1] at r3
    exact ⟨r5, by omega, by rw [r3, e2, sub_congr hY (by omega)], by rw [r4, e3, sub_congr hY (by omega)]⟩
/-- a cut shorter than the header fails -/
theorem Res.cut_short {N K : Nat} {Z : Nat → Int} {P P' : Nat} {n0 n1 m0 m1 : ByteArray} {ok ok' : Prop} (h : Res N Z P n0 n1 ok) (hok : ok) (hK : K < P) (h' : Res K Z P' m0 m1 ok') : ¬ ok' ∧ P' = K := by
  obtain ⟨_, e1, _⟩ := h.good hok
  rcases h' with ⟨r1, r2, _, _, r5⟩ | ⟨r1, r2, r3, _, _, r5⟩ | ⟨r1, r2, r3, _, _, r5⟩ | ⟨r1, r2, r3, r4, r5⟩
  · exact ⟨r5, r2⟩
  · exact ⟨r5, r3⟩
  · exact ⟨r5, r3⟩
  · omega

theorem Bys.congr {W : World} {p : Option Addr} {n : Nat} {Z Y : Nat → Int} (h : Bys W p n Z) (e : ∀ j, j < n → Z j = Y j) : Bys W p n Y := fun hn => by
  obtain ⟨b, off, h1, h2, h3⟩ := h hn
  exact ⟨b, off, h1, h2, fun j hj => by rw [h3 j hj, e j hj]⟩
theorem Bys.short {W : World} {p : Option Addr} {n m : Nat} {Z : Nat → Int} (h : Bys W p n Z) (hm : m ≤ n) : Bys W p m Z := fun hm0 => by
  obtain ⟨b, off, h1, h2, h3⟩ := h (by omega)
  exact ⟨b, off, h1, h2, fun j hj => h3 j (by omega)⟩
theorem Bys.from {W : World} {b off n : Nat} {Z : Nat → Int} (h : Bys W (some ⟨b, off, none⟩) n Z) (a m : Nat) (ham : a + m ≤ n) : Bys W (some ⟨b, off + a, none⟩) m (fun j => Z (a + j)) := fun hm => by
  obtain ⟨b', off', e, h1, h2⟩ := h (by omega)
  cases e
  exact ⟨b, off + a, rfl, h1, fun j hj => by rw [Nat.add_assoc]; exact h2 (a + j) (by omega)⟩
theorem at7' {W : World} {b off n : Nat} {Z : Nat → Int} (h : Bys W (some ⟨b, off, none⟩) n Z) (hZ : ∀ j, j < n → 0 ≤ Z j ∧ Z j ≤ 255) (hN : n ≤ 2097152) (i : Nat) (hi : i + 1 < n) (c : Nat) :
    Calls Tryd.prog 7 #[.slice (some ⟨b, off, none⟩) n c, .int .i64 i] W fun e w' => e = .returned (.int .i64 (u16 Z i)) ∧ Qt W w' := by
  obtain ⟨b', off', e, h1, h2⟩ := h (by omega)
  cases e
  exact u16At7 W b off n c Z i hi hN (h2 i (by omega)) (h2 (i + 1) hi) (hZ i (by omega)) (hZ (i + 1) hi)

/-- the joined bytes: made, then the data copied in, then the tail -/
theorem joined (w : World) (d N M tc : Nat) (to_ : Option Addr) (Z Y : Nat → Int) (hD : Bys w (some ⟨d, 0, none⟩) N Z) (hT : Bys w to_ M Y) (hN : 0 < N) :
    ∃ w1 w2, (∀ ty, (Builtin.copy_ #[22, 22] ty #[.slice (some ⟨w.heap.size, 0, none⟩) (N + M) (N + M), .slice (some ⟨d, 0, none⟩) N N]).run Tryd.prog (w.alloc (.cells (madeCells #[.int .u8 0] (N + M)) 5)) = .ok (.int .i64 N) w1) ∧
      (∀ ty (p : Addr), (0 < M → p = ⟨w.heap.size, N, none⟩) → (Builtin.copy_ #[22, 22] ty #[.slice (some p) M M, .slice to_ M tc]).run Tryd.prog w1 = .ok (.int .i64 M) w2) ∧
      w2.rowIs w.heap.size 5 (N + M) (fun i => .int .u8 (if i < N then Z i else Y (i - N))) ∧ Below w.heap.size w w2 := by
  have b1 := (Below.refl w.heap.size w).alloc (Nat.le_refl _) (.cells (madeCells #[.int .u8 0] (N + M)) 5)
  obtain ⟨cur, hcur, hsz, hf⟩ := World.rowIs_made w (.int .u8 0) (N + M) 5
  obtain ⟨arr, a1, a2, a3⟩ := copy_eq w.heap.size 0 (N + M) (N + M) (N + M) d 0 N N N 5 Z _ (by omega) (by omega) cur hsz hf
  obtain ⟨W, hW⟩ : ∃ W, W = w.alloc (.cells (madeCells #[.int .u8 0] (N + M)) 5) := ⟨_, rfl⟩
  rw [← hW] at b1 hcur ⊢
  obtain ⟨d', off', e, hd1, hd2⟩ := hD hN
  cases e
  have hr1 := fun ty => a3 W ty hcur (fun j hj => (b1.cell (p := ⟨d, 0 + j, none⟩) hd1).trans (hd2 j hj))
  have row1 : (W.setRow w.heap.size arr).heap[w.heap.size]? = some (.cells arr 5 (0, 0)) := setRow_heap W w.heap.size _ _ 5 _ hcur
  have b2 : Below w.heap.size w (W.setRow w.heap.size arr) := below_setRow b1 (Nat.le_refl _) arr
  by_cases hM : M = 0
  · subst hM
    refine ⟨_, W.setRow w.heap.size arr, hr1, fun ty p _ => run_copy_none (P := Tryd.prog) _ 22 22 ty 5 _ _ 0 _ 0 _ Tryd.underlying22 size5 rfl, ⟨arr, row1, a1, fun i hi => ?_⟩, b2⟩
    rw [a2 i hi, if_pos ⟨by omega, by omega⟩]
    show some (Value.int .u8 (Z i)) = some (Value.int .u8 (if i < N then Z i else Y (i - N)))
    rw [if_pos (by omega)]
  · obtain ⟨tb, toff, rfl, ht1, ht2⟩ := hT (by omega)
    obtain ⟨arr2, c1, c2, c3⟩ := copy_eq w.heap.size N (N + M) M M tb toff M tc M 5 Y _ (by omega) (by omega) arr a1 a2
    have hr2 := fun ty => c3 (W.setRow w.heap.size arr) ty row1 (fun j hj => (b2.cell (p := ⟨tb, toff + j, none⟩) ht1).trans (ht2 j hj))
    refine ⟨_, (W.setRow w.heap.size arr).setRow w.heap.size arr2, hr1, fun ty p hp => ?_, ⟨arr2, setRow_heap _ w.heap.size _ _ 5 _ row1, c1, fun i hi => ?_⟩, below_setRow b2 (Nat.le_refl _) arr2⟩
    · rw [hp (by omega)]
      exact hr2 ty
    · rw [c2 i hi]
      by_cases h1 : i < N
      · rw [if_neg (by omega), if_pos ⟨by omega, by omega⟩]
        show some (Value.int .u8 (Z i)) = some (Value.int .u8 (if i < N then Z i else Y (i - N)))
        rw [if_pos h1]
      · rw [if_pos ⟨by omega, by omega⟩]
        show some (Value.int .u8 (Y (i - N))) = some (Value.int .u8 (if i < N then Z i else Y (i - N)))
        rw [if_neg h1]
end Go.Proofs.Qxb6618953aDoor
