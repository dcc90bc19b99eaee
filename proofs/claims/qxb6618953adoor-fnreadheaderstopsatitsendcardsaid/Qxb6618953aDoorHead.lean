import Derived.Test.Qxb6618953aDoorInv
import Derived.Deep.CutRange
namespace Go.Proofs.Qxb6618953aDoor
open Go.RowKit Go.Deep

abbrev E2 : Obj := .cells #[.string ⟨#[]⟩, .string ⟨#[]⟩] 30

/-- what readHeader answers on N bytes Z: P bytes read, the two names, whether it went well -/
def Res (N : Nat) (Z : Nat → Int) (P : Nat) (n0 n1 : ByteArray) (ok : Prop) : Prop :=
  (N < 12 ∧ P = N ∧ n0 = sub Z 0 0 ∧ n1 = sub Z 0 0 ∧ ¬ ok) ∨
  (12 ≤ N ∧ N < 12 + u16 Z 10 + 2 ∧ P = N ∧ n0 = sub Z 12 (min (12 + u16 Z 10) N) ∧ n1 = sub Z 0 0 ∧ ¬ ok) ∨
  (12 + u16 Z 10 + 2 ≤ N ∧ N < 12 + u16 Z 10 + 2 + u16 Z (12 + u16 Z 10) + 4 ∧ P = N ∧ n0 = sub Z 12 (12 + u16 Z 10) ∧ n1 = sub Z (12 + u16 Z 10 + 2) (min (12 + u16 Z 10 + 2 + u16 Z (12 + u16 Z 10)) N) ∧ ¬ ok) ∨
  (12 + u16 Z 10 + 2 + u16 Z (12 + u16 Z 10) + 4 ≤ N ∧ P = 12 + u16 Z 10 + 2 + u16 Z (12 + u16 Z 10) + 4 ∧ n0 = sub Z 12 (12 + u16 Z 10) ∧ n1 = sub Z (12 + u16 Z 10 + 2) (12 + u16 Z 10 + 2 + u16 Z (12 + u16 Z 10)) ∧ ok)

theorem Inv.start {w : World} {g N sc : Nat} {sp : Option Addr} {Z : Nat → Int} (hx : Ctx w g w.heap.size sp N sc Z) (hr : Rdr w g sp N sc 0) : Inv w ((w.alloc E2).alloc E2) g w.heap.size sp N sc Z ⟨#[]⟩ ⟨#[]⟩ none 0 0 := by
  have b1 := (Below.refl w.heap.size w).alloc (Nat.le_refl _) E2
  have b2 := b1.alloc b1.size E2
  obtain ⟨pr, T, hr⟩ := hr
  have e1 : (w.alloc E2).heap.size = w.heap.size + 1 := by simp
  have h1 := blk_alloc_new (w.alloc E2) E2
  have h0 : ((w.alloc E2).alloc E2).heap[w.heap.size]? = some E2 := (blk_alloc_lt (w.alloc E2) E2 w.heap.size (by omega)).trans (blk_alloc_new w E2)
  rw [e1] at h1
  refine ⟨hx.later (KB.of_below b2), KB.of_below b2, ⟨pr, T, hr.of_block (b2.block _ hr.lt)⟩, ⟨by omega, by omega, .inl ⟨rfl, rfl⟩⟩, ⟨30, _, h1, rfl, fun i hi => ?_⟩, ⟨30, nm ⟨#[]⟩ ⟨#[]⟩, _, h0, rfl, fun i hi => ?_⟩, by simp, hr.lt, by omega⟩
  · match i, hi with
    | 0, _ => rfl
    | 1, _ => rfl
  · match i, hi with
    | 0, _ => rfl
    | 1, _ => rfl

/-- what the walk reads and writes of the two own blocks -/
theorem Inv.facts {w0 W : World} {g B : Nat} {sp : Option Addr} {N sc : Nat} {Z : Nat → Int} {n0 n1 : ByteArray} {hp : Option Addr} {p c : Nat} (I : Inv w0 W g B sp N sc Z n0 n1 hp p c) :
    W.cell? ⟨B + 1, 0, none⟩ = some (.string n0) ∧ W.cell? ⟨B + 1, 1, none⟩ = some (.string n1) ∧ W.frozen? ⟨B + 1, 0, none⟩ = false ∧ W.frozen? ⟨B + 1, 1, none⟩ = false ∧
    (∃ x, W.cell? ⟨B, 0, none⟩ = some x) ∧ (∃ y, W.cell? ⟨B, 1, none⟩ = some y) ∧ W.frozen? ⟨B, 0, none⟩ = false ∧ W.frozen? ⟨B, 1, none⟩ = false := by
  obtain ⟨T, h⟩ := I.names
  obtain ⟨T2, f, h2⟩ := I.res
  exact ⟨h.cell (by decide), h.cell (by decide), h.frozen 0, h.frozen 1, ⟨_, h2.cell (by decide)⟩, ⟨_, h2.cell (by decide)⟩, h2.frozen 0, h2.frozen 1⟩

theorem Inv.done {w0 W : World} {g B : Nat} {sp : Option Addr} {N sc : Nat} {Z : Nat → Int} {n0 n1 : ByteArray} {hp : Option Addr} {p c : Nat} (I : Inv w0 W g B sp N sc Z n0 n1 hp p c) (x y : Value) :
    Hd ((W.setCell ⟨B, 0, none⟩ x).setCell ⟨B, 1, none⟩ y) g B hp p c Z ∧ KB g B w0 ((W.setCell ⟨B, 0, none⟩ x).setCell ⟨B, 1, none⟩ y) := by
  have I1 := I.store B 0 x (.inl rfl) n0 n1 (by
    obtain ⟨T, h⟩ := I.names
    exact ⟨T, h.setOther (a := ⟨B, 0, none⟩) (show B + 1 ≠ B by omega) x⟩)
  have I2 := I1.store B 1 y (.inl rfl) n0 n1 (by
    obtain ⟨T, h⟩ := I1.names
    exact ⟨T, h.setOther (a := ⟨B, 1, none⟩) (show B + 1 ≠ B by omega) y⟩)
  obtain ⟨h1, h2, h3⟩ := I2.hd
  refine ⟨⟨h1, h2, ?_⟩, I2.kb⟩
  rcases h3 with h3 | ⟨h, e1, e2, e3⟩
  · exact .inl h3
  · exact .inr ⟨h, e1, by omega, e3⟩

theorem Qt.below {w w' : World} (h : Qt w w') (B : Nat) : Below B w w' := ⟨h.os, h.tape, h.output, by rw [h.heap]; exact Nat.le_refl _, fun _ _ => by rw [h.heap]⟩

/-- the length that stands at s - 2, and the name behind it -/
theorem Inv.u16 {w0 W : World} {g B : Nat} {sp : Option Addr} {N sc : Nat} {Z : Nat → Int} {n0 n1 : ByteArray} {h : Nat} {s c : Nat} (I : Inv w0 W g B sp N sc Z n0 n1 (some ⟨h, 0, none⟩) (s + 2) c) (W' : World) (q : Qt W W') (dc : Nat) :
    Calls Tryd.prog 14 #[.agg #[], .slice (some ⟨h, s, none⟩) 2 dc] W' fun e w' => e = .returned (.int .u16 (Qxb6618953aDoor.u16 Z s)) ∧ Hid (Inv w0 w' g B sp N sc Z n0 n1 (some ⟨h, 0, none⟩) (s + 2) c) := by
  have I' := I.grown (q.below _)
  obtain ⟨_, hpc, ⟨h0, _⟩ | ⟨h1, e1, _, _, f, hf1, hf2⟩⟩ := I'.hd
  · cases h0
  · cases e1
    have hpN := I.pN
    exact (u16_14 W' h s dc Z s ((hf1.cell (by omega)).trans (by rw [hf2 _ (by omega)])) ((hf1.cell (by omega)).trans (by rw [hf2 _ (by omega)])) (I.ctx.byte _ (by omega)) (I.ctx.byte _ (by omega)) hf1.lt).mono (fun e w' ⟨k1, k2⟩ => ⟨k1, I'.grown k2⟩)
theorem Inv.some {w0 W : World} {g B : Nat} {sp : Option Addr} {N sc : Nat} {Z : Nat → Int} {n0 n1 : ByteArray} {hp : Option Addr} {p c : Nat} (I : Inv w0 W g B sp N sc Z n0 n1 hp p c) (h : 0 < p) : ∃ b, hp = some ⟨b, 0, none⟩ := by
  obtain ⟨_, hpc, ⟨_, h0⟩ | ⟨h1, e1, _⟩⟩ := I.hd
  · omega
  · exact ⟨h1, e1⟩
theorem u16_lt (Z : Nat → Int) (i N : Nat) (hb : ∀ j, j < N → 0 ≤ Z j ∧ Z j ≤ 255) (hi : i + 1 < N) : u16 Z i ≤ 65535 := by
  have h1 := hb i (by omega)
  have h2 := hb (i + 1) hi
  unfold u16
  omega

/-- the end that the walk meets -/
def Told (w : World) (g N : Nat) (Z : Nat → Int) (e : Ending) (w' : World) : Prop :=
  ∃ hp P c n0 n1 v ok, e = .returned (.tuple #[.slice hp P c, .agg #[.string n0, .string n1], v]) ∧ Res N Z P n0 n1 ok ∧ Err ok v ∧ Hd w' g w.heap.size hp P c Z ∧ KB g w.heap.size w w'
theorem told_mk {w W : World} {g N P c : Nat} {Z : Nat → Int} {hp : Option Addr} {n0 n1 : ByteArray} {v : Value} {W' : World} (ok : Prop) (hR : Res N Z P n0 n1 ok) (hE : Err ok v)
    (hD : Hd W g w.heap.size hp P c Z ∧ KB g w.heap.size w W) (q : Qt W W') : Told w g N Z (.returned (.tuple #[.slice hp P c, .agg #[.string n0, .string n1], v])) W' := by
  obtain ⟨⟨h1, h2, h3⟩, kb⟩ := hD
  refine ⟨hp, P, c, n0, n1, v, ok, rfl, hR, hE, ⟨h1, h2, ?_⟩, kb.trans (q.kb _ _)⟩
  rcases h3 with h3 | ⟨h, e1, e2, e3, e4⟩
  · exact .inl h3
  · exact .inr ⟨h, e1, e2, e3, e4.heap (by rw [q.heap])⟩

theorem resA {N : Nat} {Z : Nat → Int} {L0 p3 : Nat} {T0 : ByteArray} (hL : L0 = u16 Z 10) (hT : T0 = sub Z 12 p3) (h : p3 = N ∧ N < 12 + L0) (h12 : 12 ≤ p3) : Res N Z p3 T0 ⟨#[]⟩ False := by
  obtain ⟨rfl, h2⟩ := h
  refine .inr (.inl ⟨h12, by omega, rfl, ?_, rfl, not_false⟩)
  rw [hT, ← hL, Nat.min_eq_right (by omega)]
theorem resB {N : Nat} {Z : Nat → Int} {L0 p3 p4 : Nat} {T0 : ByteArray} (hL : L0 = u16 Z 10) (hT : T0 = sub Z 12 p3) (hp : p3 = 12 + L0) (hN : p3 ≤ N) (h : p4 = N ∧ N < p3 + 2) : Res N Z p4 T0 ⟨#[]⟩ False := by
  obtain ⟨rfl, h2⟩ := h
  refine .inr (.inl ⟨by omega, by omega, rfl, ?_, rfl, not_false⟩)
  rw [hT, ← hL, Nat.min_eq_left (by omega), hp]
theorem resC {N : Nat} {Z : Nat → Int} {L0 p3 L1 p6 p8 : Nat} {T0 T1 : ByteArray} (hL : L0 = u16 Z 10) (hT : T0 = sub Z 12 p3) (hp : p3 = 12 + L0) (hN : p3 + 2 ≤ N) (hL1 : L1 = u16 Z p3) (hT1 : T1 = sub Z (p3 + 2) p6) (h6 : p6 = min (p3 + 2 + L1) N)
    (h : p8 = N ∧ N < p3 + 2 + L1 + 4) : Res N Z p8 T0 T1 False := by
  obtain ⟨rfl, h2⟩ := h
  subst hp
  refine .inr (.inr (.inl ⟨by omega, ?_, rfl, ?_, ?_, not_false⟩))
  · rw [← hL, ← hL1]; exact h2
  · rw [hT, ← hL]
  · rw [hT1, ← hL, ← hL1, h6]
theorem resD {N : Nat} {Z : Nat → Int} {L0 p3 L1 p6 p8 : Nat} {T0 T1 : ByteArray} (hL : L0 = u16 Z 10) (hT : T0 = sub Z 12 p3) (hp : p3 = 12 + L0) (hL1 : L1 = u16 Z p3) (hT1 : T1 = sub Z (p3 + 2) p6) (h6 : p6 = p3 + 2 + L1)
    (h : p8 = p6 + 4) (h8 : p8 ≤ N) : Res N Z p8 T0 T1 True := by
  subst hp; subst h6; subst h
  refine .inr (.inr (.inr ⟨?_, ?_, ?_, ?_, trivial⟩))
  · rw [← hL, ← hL1]; exact h8
  · rw [← hL, ← hL1]
  · rw [hT, ← hL]
  · rw [hT1, ← hL, ← hL1]

theorem arA {p a N : Nat} (h : p = min a N) (k : a ≤ N) : p = a := by omega
theorem arB {p a N : Nat} (h : p = min a N) : p ≤ N := by omega
theorem arC {p8 p6 N s : Nat} (h : p8 = min (p6 + 4) N) (k : ¬ p6 + 4 ≤ N) (e : p6 = s) : p8 = N ∧ N < s + 4 := by omega
theorem arD {p6 N s : Nat} (h : p6 = min s N) (k : ¬ s ≤ N) : p6 = N ∧ N < s + 4 := by omega
theorem wrap_small (p N : Nat) (h1 : p ≤ N) (h2 : N ≤ 1048576) : wrap64 (p : Int) = p := by unfold wrap64; omega
theorem wrapk_small (p N : Nat) (h1 : p ≤ N) (h2 : N ≤ 1048576) : IntKind.i64.wrap (p : Int) = p := by rw [IntKind.wrap_i64]; omega

set_option maxRecDepth 100000 in
set_option maxHeartbeats 4000000 in
theorem head11 (w : World) (g N sc : Nat) (sp : Option Addr) (Z : Nat → Int) (hx : Ctx w g w.heap.size sp N sc Z) (hr : Rdr w g sp N sc 0) :
    Calls Tryd.prog 11 #[.iface 35 (.pointer (some ⟨g, 0, none⟩))] w (Told w g N Z) := by
  have I0 := Inv.start hx hr
  have HZ : Hid (∀ j, j < N → 0 ≤ Z j ∧ Z j ≤ 255) := hx.byte
  have HN : N ≤ 1048576 := hx.len
  obtain ⟨sa, s8, hsig⟩ := I0.ctx.sig
  have HI : Hid (Inv w ((w.alloc E2).alloc E2) g w.heap.size sp N sc Z ⟨#[]⟩ ⟨#[]⟩ none 0 0) := I0
  clear I0 hx hr
  obtain ⟨p1, hp1e⟩ : ∃ p1, p1 = min (0 + 10) N := ⟨_, rfl⟩
  go_enter Tryd.func11, Tryd.ntmps11
  go_wp2_with fail
  refine (HI.out.append 10 (by omega) p1 hp1e).mono ?_
  rintro e w1 ⟨hp1, c1, v1, rfl, H1⟩
  clear HI hsig
  rcases H1.out with ⟨⟨hok, rfl⟩ | ⟨hno, a, rfl⟩, I1⟩
  · obtain rfl : p1 = 10 := by omega
    have HI1 : Hid (Inv w w1 g w.heap.size sp N sc Z ⟨#[]⟩ ⟨#[]⟩ hp1 10 c1) := I1
    clear I1 H1 hp1e
    obtain ⟨p2, HP2⟩ : ∃ p2, Hid (p2 = min (10 + 2) N) := ⟨_, show _ = _ from rfl⟩
    go_wp2_with fail
    refine wp_loop_rounds 3 ?_
    rw [rounds_succ]
    go_wp2_with fail
    refine (HI1.out.append 2 (by omega) p2 HP2.out).mono ?_
    have hp2e := HP2.out
    clear HP2
    rintro e w2 ⟨hp2, c2, v2, rfl, H2⟩
    rcases H2.out with ⟨⟨hok2, rfl⟩ | ⟨hno, a, rfl⟩, I2⟩
    · obtain rfl : p2 = 12 := by omega
      obtain ⟨h2, rfl⟩ := I2.some (by omega)
      have hc2 : ¬ (c2 = 10) := by have := I2.hd.2.1; omega
      have hc2' : 12 ≤ c2 := I2.hd.2.1
      have hL := u16_lt Z 10 N HZ.out (by omega)
      obtain ⟨L0, hL0⟩ : ∃ L0, L0 = u16 Z 10 := ⟨_, rfl⟩
      have C14 : ∀ W dc, Qt w2 W → Calls Tryd.prog 14 #[.agg #[], .slice (some ⟨h2, 10, none⟩) 2 dc] W fun e w' => e = .returned (.int .u16 L0) ∧ Hid (Inv w w' g w.heap.size sp N sc Z ⟨#[]⟩ ⟨#[]⟩ (some ⟨h2, 0, none⟩) 12 c2) := fun W dc q => by rw [hL0]; exact Inv.u16 (s := 10) I2 W q dc
      obtain ⟨p3, hp3e⟩ : ∃ p3, p3 = min (12 + L0) N := ⟨_, rfl⟩
      rw [← hL0] at hL
      have C13 : ∀ W0 W, Inv w W0 g w.heap.size sp N sc Z ⟨#[]⟩ ⟨#[]⟩ (some ⟨h2, 0, none⟩) 12 c2 → Qt W0 W → Calls Tryd.prog 13 #[.slice (some ⟨h2, 0, none⟩) 12 c2, .iface 35 (.pointer (some ⟨g, 0, none⟩)), .int .i64 L0] W fun e w' => ∃ hp' c' v, e = .returned (.tuple #[.slice hp' p3 c', v]) ∧
          Hid (Err (12 + L0 ≤ N) v ∧ Inv w w' g w.heap.size sp N sc Z ⟨#[]⟩ ⟨#[]⟩ hp' p3 c') := fun W0 W I q => (I.grown (q.below _)).append L0 (by omega) p3 hp3e
      have hwr : IntKind.i64.wrap (L0 : Int) = L0 := by rw [IntKind.wrap_i64]; omega
      have HP3 : Hid (p3 = min (12 + L0) N) := hp3e
      have HL0 : Hid (L0 = u16 Z 10) := hL0
      clear I2 H2 hp2e hL0 hp3e
      go_wp2_with fail
      go_cut [6, 7] from 39 to 51 (fun s6 s7 wx => ∃ hp4 c4, s6 = .slice hp4 p3 c4 ∧ Hid (Err (12 + L0 ≤ N) s7 ∧ Inv w wx g w.heap.size sp N sc Z ⟨#[]⟩ ⟨#[]⟩ hp4 p3 c4))
      case first =>
        go_region_with (first | (go_at_call 14; refine (C14 w2.drew _ (by exact ⟨rfl, rfl, rfl, rfl⟩)).mono ?_; rintro e w3 ⟨rfl, H3⟩) | (go_at_call 13; refine (C13 w3 w3 H3.out (by exact ⟨rfl, rfl, rfl, rfl⟩)).mono ?_; rintro e w4 ⟨hp4, c4, v4, rfl, H4⟩))
        all_goals (go_wp2_with fail; go_meet; exact ⟨hp4, c4, rfl, H4⟩)
      case rest =>
        obtain ⟨hp4, c4, rfl, H4⟩ := hcut
        clear C13 C14 hwr HI1 hc2 hc2'
        have hp3e := HP3.out
        have I4 := H4.out.2
        obtain ⟨h4, rfl⟩ := I4.some (by omega)
        obtain ⟨h4', e4, hcv⟩ := conv22 I4.hd 12 (by omega) (by simp) (c4 - 12)
        cases e4
        obtain ⟨T0, hT0⟩ : ∃ T, T = sub Z 12 p3 := ⟨_, rfl⟩
        rw [← hT0] at hcv
        have HT0 : Hid (T0 = sub Z 12 p3) := hT0
        clear hT0
        obtain ⟨m0, m1, f0, f1, -, -, -, -⟩ := I4.facts
        have HI5 : Hid (Inv w (wc.setCell ⟨w.heap.size + 1, 0, none⟩ (.string T0)) g w.heap.size sp N sc Z T0 ⟨#[]⟩ (some ⟨h4, 0, none⟩) p3 c4) := I4.name0 T0
        have hc4 : p3 ≤ c4 := I4.hd.2.1
        have hc12 : 12 ≤ p3 := by omega
        have HE4 : Hid (Err (12 + L0 ≤ N) u7) := H4.out.1
        clear hp3e I4 H4
        go_wp2_with fail
        all_goals (
          clear hcv
          try subst h
          have hp3e := HP3.out
          rcases HE4.out with ⟨hok4, rfl⟩ | ⟨hno4, a, rfl⟩
          · have HP3' : Hid (p3 = 12 + L0) := by show _ = _; omega
            have hp3N : p3 ≤ N := by omega
            obtain ⟨p4, HP4⟩ : ∃ p4, Hid (p4 = min (p3 + 2) N) := ⟨_, show _ = _ from rfl⟩
            clear hp3e HP3 hok4 HE4
            rw [rounds_succ]
            go_wp2_with fail
            refine (HI5.out.append 2 (by omega) p4 HP4.out).mono ?_
            rintro e w5 ⟨hp5, c5, v5, rfl, H5⟩
            have hp4e := HP4.out
            rcases H5.out with ⟨⟨hok5, rfl⟩ | ⟨hno5, a, rfl⟩, I5⟩
            · obtain rfl : p4 = p3 + 2 := by omega
              obtain ⟨h5, rfl⟩ := I5.some (by omega)
              have hc5' : p3 + 2 ≤ c5 := I5.hd.2.1
              have hc5 : ¬ (c5 = p3) := by omega
              have hL1 := u16_lt Z p3 N HZ.out (by omega)
              obtain ⟨L1, hL1e⟩ : ∃ L1, L1 = u16 Z p3 := ⟨_, rfl⟩
              have C14 : ∀ W dc, Qt w5 W → Calls Tryd.prog 14 #[.agg #[], .slice (some ⟨h5, p3, none⟩) 2 dc] W fun e w' => e = .returned (.int .u16 L1) ∧ Hid (Inv w w' g w.heap.size sp N sc Z T0 ⟨#[]⟩ (some ⟨h5, 0, none⟩) (p3 + 2) c5) := fun W dc q => by rw [hL1e]; exact Inv.u16 (s := p3) I5 W q dc
              obtain ⟨p6, hp6e⟩ : ∃ p6, p6 = min (p3 + 2 + L1) N := ⟨_, rfl⟩
              rw [← hL1e] at hL1
              have C13 : ∀ W0 W, Inv w W0 g w.heap.size sp N sc Z T0 ⟨#[]⟩ (some ⟨h5, 0, none⟩) (p3 + 2) c5 → Qt W0 W → Calls Tryd.prog 13 #[.slice (some ⟨h5, 0, none⟩) (p3 + 2) c5, .iface 35 (.pointer (some ⟨g, 0, none⟩)), .int .i64 L1] W fun e w' => ∃ hp' c' v, e = .returned (.tuple #[.slice hp' p6 c', v]) ∧
                  Hid (Err (p3 + 2 + L1 ≤ N) v ∧ Inv w w' g w.heap.size sp N sc Z T0 ⟨#[]⟩ hp' p6 c') := fun W0 W I q => (I.grown (q.below _)).append L1 (by omega) p6 hp6e
              have hwr : IntKind.i64.wrap (L1 : Int) = L1 := by rw [IntKind.wrap_i64]; omega
              have HP6 : Hid (p6 = min (p3 + 2 + L1) N) := hp6e
              have HL1 : Hid (L1 = u16 Z p3) := hL1e
              have hp3N2 : p3 + 2 ≤ N := by omega
              have hs1 := wrap_small p3 N hp3N HN
              have hs4 := wrapk_small p3 N hp3N HN
              clear I5 H5 hp4e hL1e hp6e HP4 hok5
              go_wp2_with fail
              go_cut [6, 7] from 39 to 51 (fun s6 s7 wx => ∃ hp6 c6, s6 = .slice hp6 p6 c6 ∧ Hid (Err (p3 + 2 + L1 ≤ N) s7 ∧ Inv w wx g w.heap.size sp N sc Z T0 ⟨#[]⟩ hp6 p6 c6))
              case first =>
                go_region_with (first | (go_at_call 14; refine (C14 w5.drew _ (by exact ⟨rfl, rfl, rfl, rfl⟩)).mono ?_; rintro e w6 ⟨rfl, H6⟩) | (go_at_call 13; refine (C13 w6 w6 H6.out (by exact ⟨rfl, rfl, rfl, rfl⟩)).mono ?_; rintro e w7 ⟨hp7, c7, v7, rfl, H7⟩))
                all_goals (go_wp2_with fail; go_meet; exact ⟨hp7, c7, rfl, H7⟩)
              case rest =>
                obtain ⟨hp6, c6, rfl, H6⟩ := hcut
                clear C13 C14 hwr hc5 hc5' HI5
                have hp6e := HP6.out
                have I6 := H6.out.2
                obtain ⟨h6, rfl⟩ := I6.some (by omega)
                obtain ⟨h6', e6, hcv⟩ := conv22 I6.hd (p3 + 2) (by omega) (by simp) (c6 - (p3 + 2))
                cases e6
                obtain ⟨T1, hT1⟩ : ∃ T, T = sub Z (p3 + 2) p6 := ⟨_, rfl⟩
                rw [← hT1] at hcv
                have HT1 : Hid (T1 = sub Z (p3 + 2) p6) := hT1
                clear hT1
                obtain ⟨m0, m1, f0, f1, -, -, -, -⟩ := I6.facts
                have HI7 : Hid (Inv w (wc.setCell ⟨w.heap.size + 1, 1, none⟩ (.string T1)) g w.heap.size sp N sc Z T0 T1 (some ⟨h6, 0, none⟩) p6 c6) := I6.name1 T1
                have hc6 : p6 ≤ c6 := I6.hd.2.1
                have hc62 : p3 + 2 ≤ p6 := by omega
                have hp6N : p6 ≤ N := by omega
                have HE6 : Hid (Err (p3 + 2 + L1 ≤ N) u7) := H6.out.1
                clear hp6e I6 H6
                go_wp2_with fail
                all_goals (
                  clear hcv
                  try subst h
                  have hp6e := HP6.out
                  rcases HE6.out with ⟨hok6, rfl⟩ | ⟨hno6, a, rfl⟩
                  · have HP6' : Hid (p6 = p3 + 2 + L1) := arA hp6e hok6
                    obtain ⟨p8, HP8⟩ : ∃ p8, Hid (p8 = min (p6 + 4) N) := ⟨_, show _ = _ from rfl⟩
                    clear hp6e hok6 HE6
                    rw [rounds_succ]
                    go_wp2_with fail
                    refine (HI7.out.append 4 (by decide) p8 HP8.out).mono ?_
                    rintro e w9 ⟨hp9, c9, v9, rfl, H9⟩
                    have hp8e := HP8.out
                    rcases H9.out with ⟨⟨hok9, rfl⟩ | ⟨hno9, a, rfl⟩, I9⟩
                    · obtain ⟨m0', m1', f0', f1', ⟨x, x0⟩, ⟨y, y0⟩, g0, g1⟩ := I9.facts
                      have HI : Hid _ := I9.done (.string T0) (.string T1)
                      have HR : Hid (Res N Z p8 T0 T1 True) := resD HL0.out HT0.out HP3'.out HL1.out HT1.out HP6'.out (arA hp8e hok9) (arB hp8e)
                      clear I9 H9 hp8e hok9 HP8 HI7
                      go_wp2_with fail
                      go_region
                      go_wp2
                      refine bodyPost_ret (v := .tuple #[.slice hp9 p8 c9, .agg #[.string T0, .string T1], .nilIface]) ?_ rfl ?_
                      · simp [results, Tryd.results11, go_sem, x0, y0]
                      · exact told_mk True HR.out (.inl ⟨trivial, rfl⟩) HI.out ⟨rfl, rfl, rfl, rfl⟩
                    · obtain ⟨m0', m1', f0', f1', ⟨x, x0⟩, ⟨y, y0⟩, g0, g1⟩ := I9.facts
                      have HI : Hid _ := I9.done (.string T0) (.string T1)
                      have hp6q := HP6'.out
                      have HR : Hid (Res N Z p8 T0 T1 False) := resC HL0.out HT0.out HP3'.out hp3N2 HL1.out HT1.out HP6.out (arC hp8e hno9 hp6q)
                      clear I9 H9 hp8e hno9 HP8 HI7 hp6q
                      go_wp2_with fail
                      go_region
                      go_wp2
                      refine bodyPost_ret (v := .tuple #[.slice hp9 p8 c9, .agg #[.string T0, .string T1], .iface 53 (.pointer (some a))]) ?_ rfl ?_
                      · simp [results, Tryd.results11, go_sem, x0, y0]
                      · exact told_mk False HR.out (.inr ⟨not_false, a, rfl⟩) HI.out ⟨rfl, rfl, rfl, rfl⟩
                  · obtain ⟨m0', m1', f0', f1', ⟨x, x0⟩, ⟨y, y0⟩, g0, g1⟩ := HI7.out.facts
                    have HI : Hid _ := HI7.out.done (.string T0) (.string T1)
                    have HR : Hid (Res N Z p6 T0 T1 False) := resC HL0.out HT0.out HP3'.out hp3N2 HL1.out HT1.out HP6.out (arD hp6e hno6)
                    clear hp6e hno6 HE6 HI7 HP6
                    rw [rounds_succ]
                    go_wp2_with fail
                    go_region
                    go_wp2
                    first | refine bodyPost_ret (v := .tuple #[.slice (some ⟨h6, 0, none⟩) p6 c6, .agg #[.string T0, .string T1], .iface 53 (.pointer (some a))]) ?_ rfl ?_ | refine bodyPost_ret (v := .tuple #[.slice (some ⟨h6, 0, none⟩) p6 (p3 + 2), .agg #[.string T0, .string T1], .iface 53 (.pointer (some a))]) ?_ rfl ?_
                    · simp [results, Tryd.results11, go_sem, x0, y0]
                    · exact told_mk False HR.out (.inr ⟨not_false, a, rfl⟩) HI.out ⟨rfl, rfl, rfl, rfl⟩)
            · have HP3'' : Hid (p4 = N ∧ N < p3 + 2) := ⟨by omega, by omega⟩
              obtain ⟨m0', m1', f0', f1', ⟨x, x0⟩, ⟨y, y0⟩, g0, g1⟩ := I5.facts
              have HI : Hid _ := I5.done (.string T0) (.string ⟨#[]⟩)
              have HR : Hid (Res N Z p4 T0 ⟨#[]⟩ False) := resB HL0.out HT0.out HP3'.out hp3N HP3''.out
              clear I5 H5 hp4e HP4 hno5 HI5
              go_wp2_with fail
              go_region
              go_wp2
              refine bodyPost_ret (v := .tuple #[.slice hp5 p4 c5, .agg #[.string T0, .string ⟨#[]⟩], .iface 53 (.pointer (some a))]) ?_ rfl ?_
              · simp [results, Tryd.results11, go_sem, x0, y0]
              · exact told_mk False HR.out (.inr ⟨not_false, a, rfl⟩) HI.out ⟨rfl, rfl, rfl, rfl⟩
          · have HP3' : Hid (p3 = N ∧ N < 12 + L0) := ⟨by omega, by omega⟩
            obtain ⟨m0', m1', f0', f1', ⟨x, x0⟩, ⟨y, y0⟩, g0, g1⟩ := HI5.out.facts
            have HI : Hid _ := HI5.out.done (.string T0) (.string ⟨#[]⟩)
            have HR : Hid (Res N Z p3 T0 ⟨#[]⟩ False) := resA HL0.out HT0.out HP3'.out hc12
            clear hp3e HP3 hno4 HI5 HE4
            rw [rounds_succ]
            go_wp2_with fail
            go_region
            go_wp2
            first | refine bodyPost_ret (v := .tuple #[.slice (some ⟨h4, 0, none⟩) p3 c4, .agg #[.string T0, .string ⟨#[]⟩], .iface 53 (.pointer (some a))]) ?_ rfl ?_ | refine bodyPost_ret (v := .tuple #[.slice (some ⟨h4, 0, none⟩) p3 12, .agg #[.string T0, .string ⟨#[]⟩], .iface 53 (.pointer (some a))]) ?_ rfl ?_
            · simp [results, Tryd.results11, go_sem, x0, y0]
            · exact told_mk False HR.out (.inr ⟨not_false, a, rfl⟩) HI.out ⟨rfl, rfl, rfl, rfl⟩)
    · obtain rfl : p2 = N := by omega
      obtain ⟨m0, m1, f0, f1, ⟨x, x0⟩, ⟨y, y0⟩, g0, g1⟩ := I2.facts
      have HI : Hid _ := I2.done (.string ⟨#[]⟩) (.string ⟨#[]⟩)
      have HR : Hid (Res p2 Z p2 ⟨#[]⟩ ⟨#[]⟩ False) := .inl ⟨by omega, rfl, rfl, rfl, not_false⟩
      clear I2 H2 hp2e
      go_wp2_with fail
      go_region
      go_wp2
      refine bodyPost_ret (v := .tuple #[.slice hp2 p2 c2, .agg #[.string ⟨#[]⟩, .string ⟨#[]⟩], .iface 53 (.pointer (some a))]) ?_ rfl ?_
      · simp [results, Tryd.results11, go_sem, x0, y0]
      · exact told_mk False HR.out (.inr ⟨not_false, a, rfl⟩) HI.out ⟨rfl, rfl, rfl, rfl⟩
  · obtain rfl : p1 = N := by omega
    obtain ⟨m0, m1, f0, f1, ⟨x, x0⟩, ⟨y, y0⟩, g0, g1⟩ := I1.facts
    have HI : Hid _ := I1.done (.string ⟨#[]⟩) (.string ⟨#[]⟩)
    have HR : Hid (Res p1 Z p1 ⟨#[]⟩ ⟨#[]⟩ False) := .inl ⟨by omega, rfl, rfl, rfl, not_false⟩
    clear I1 H1 hp1e
    go_wp2_with fail
    refine wp_loop_rounds 1 ?_
    rw [rounds_succ]
    go_wp2
    go_region
    go_wp2
    refine bodyPost_ret (v := .tuple #[.slice hp1 p1 c1, .agg #[.string ⟨#[]⟩, .string ⟨#[]⟩], .iface 53 (.pointer (some a))]) ?_ rfl ?_
    · simp [results, Tryd.results11, go_sem, x0, y0]
    · exact told_mk False HR.out (.inr ⟨not_false, a, rfl⟩) HI.out ⟨rfl, rfl, rfl, rfl⟩
end Go.Proofs.Qxb6618953aDoor
