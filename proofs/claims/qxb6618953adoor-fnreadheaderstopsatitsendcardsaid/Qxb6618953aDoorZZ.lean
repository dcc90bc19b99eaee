import Derived.Test.Qxb6618953aDoorHead
namespace Go.Proofs.Qxb6618953aDoor
open Go.RowKit Go.Deep

/-- the package-level variables on the road -/
structure Glob (w : World) : Prop where
  size : 4 < w.heap.size
  eof : ∃ a, w.cell? ⟨3, 0, none⟩ = some (.iface 53 (.pointer (some a)))
  ueof : ∃ a, w.cell? ⟨4, 0, none⟩ = some (.iface 53 (.pointer (some a)))
  sig : ∃ a c, w.cell? ⟨0, 0, none⟩ = some (.slice a 8 c)
theorem Glob.later {w w' : World} (h : Glob w) (b : Below w.heap.size w w') : Glob w' := by
  have hs := h.size
  obtain ⟨a3, h3⟩ := h.eof
  obtain ⟨a4, h4⟩ := h.ueof
  obtain ⟨a0, c0, h0⟩ := h.sig
  exact ⟨Nat.lt_of_lt_of_le hs b.size, ⟨a3, (b.cell (p := ⟨3, 0, none⟩) (show 3 < w.heap.size by omega)).trans h3⟩, ⟨a4, (b.cell (p := ⟨4, 0, none⟩) hs).trans h4⟩, ⟨a0, c0, (b.cell (p := ⟨0, 0, none⟩) (show 0 < w.heap.size by omega)).trans h0⟩⟩
theorem Bys.later {w w' : World} {ao : Option Addr} {n : Nat} {Z : Nat → Int} (h : Bys w ao n Z) (hb : Below w.heap.size w w') : Bys w' ao n Z := fun hn => by
  obtain ⟨b, off, e, h1, h2⟩ := h hn
  exact ⟨b, off, e, Nat.lt_of_lt_of_le h1 hb.size, fun j hj => (hb.cell (p := ⟨b, off + j, none⟩) h1).trans (h2 j hj)⟩

set_option maxRecDepth 100000 in
set_option maxHeartbeats 800000 in
theorem new12 (w : World) (sp : Option Addr) (N sc : Nat) :
    Calls Tryd.prog 12 #[.slice sp N sc] w fun e w' => e = .returned (.pointer (some ⟨w.heap.size, 0, none⟩)) ∧ w' = w.alloc (.cells #[.slice sp N sc, .int .i64 0, .int .i64 (-1)] 47) := by
  go_enter Tryd.func12, Tryd.ntmps12
  go_wp2
  go_ret
  exact ⟨rfl, rfl⟩

/-- what ZZreadHeader says -/
def Said (w : World) (N : Nat) (Z : Nat → Int) (e : Ending) (w' : World) : Prop :=
  ∃ hp P c n0 n1 fl, e = .returned (.tuple #[.slice hp P c, .string n0, .string n1, .bool fl]) ∧ Res N Z P n0 n1 (fl = false) ∧ Bys w' hp P Z ∧ P ≤ c ∧ Below w.heap.size w w'

theorem head_in (w : World) (sp : Option Addr) (N sc : Nat) (Z : Nat → Int) (hG : Glob w) (hb : Bys w sp N Z) (hN : N ≤ 1048576) (hs : N ≤ sc) (hZ : ∀ j, j < N → 0 ≤ Z j ∧ Z j ≤ 255) :
    Calls Tryd.prog 11 #[.iface 35 (.pointer (some ⟨w.heap.size, 0, none⟩))] (w.alloc (.cells #[.slice sp N sc, .int .i64 0, .int .i64 (-1)] 47)) fun e w' =>
      ∃ hp P c n0 n1 v ok, e = .returned (.tuple #[.slice hp P c, .agg #[.string n0, .string n1], v]) ∧ Hid (Res N Z P n0 n1 ok ∧ Err ok v ∧ Bys w' hp P Z ∧ P ≤ c ∧ Below w.heap.size w w') := by
  have b1 := (Below.refl w.heap.size w).alloc (Nat.le_refl _) (.cells #[.slice sp N sc, .int .i64 0, .int .i64 (-1)] 47)
  obtain ⟨W, hW⟩ : ∃ W, W = w.alloc (.cells #[.slice sp N sc, .int .i64 0, .int .i64 (-1)] 47) := ⟨_, rfl⟩
  rw [← hW] at b1 ⊢
  have hG1 := hG.later b1
  have hs1 : W.heap.size = w.heap.size + 1 := by rw [hW]; simp
  have hrow : W.rowIs w.heap.size 47 3 (rdf sp N sc 0 (-1)) := by
    rw [hW]
    refine ⟨_, blk_alloc_new w _, rfl, fun i hi => ?_⟩
    match i, hi with
    | 0, _ => rfl
    | 1, _ => rfl
    | 2, _ => rfl
  have hx : Ctx W w.heap.size W.heap.size sp N sc Z := by
    refine ⟨fun h0 => ?_, hs, hN, hZ, hG.size, hG1.size, hG1.eof, hG1.ueof, hG1.sig⟩
    obtain ⟨b, off, e, k1, k2⟩ := hb h0
    exact ⟨b, off, e, by omega, by omega, fun j hj => (b1.cell (p := ⟨b, off + j, none⟩) k1).trans (k2 j hj)⟩
  refine (head11 W w.heap.size N sc sp Z hx ⟨-1, 47, hrow⟩).mono ?_
  rintro e w' ⟨hp, P, c, n0, n1, v, ok, rfl, hR, hE, ⟨hd1, hd2, hd3⟩, kb⟩
  refine ⟨hp, P, c, n0, n1, v, ok, rfl, hR, hE, fun hP => ?_, hd2, ⟨kb.os.trans b1.os, kb.tape.trans b1.tape, kb.output.trans b1.output, Nat.le_trans b1.size kb.size, fun k hk => (kb.block k (by omega) (by omega)).trans (b1.block k hk)⟩⟩
  rcases hd3 with ⟨_, h0⟩ | ⟨h, e1, e2, e3, f, e4, e5⟩
  · omega
  · exact ⟨h, 0, e1, e4.lt, fun j hj => by rw [Nat.zero_add, e4.cell (by omega), e5 j hj]⟩

theorem said_mk {w W W' : World} {N P c : Nat} {Z : Nat → Int} {hp : Option Addr} {n0 n1 : ByteArray} (fl : Bool) {ok : Prop} (hR : Res N Z P n0 n1 ok) (hok : ok ↔ fl = false) (hB : Bys W hp P Z) (hc : P ≤ c) (hW : Below w.heap.size w W) (h2 : Below W.heap.size W W') :
    Said w N Z (.returned (.tuple #[.slice hp P c, .string n0, .string n1, .bool fl])) W' := by
  obtain rfl : ok = (fl = false) := propext hok
  exact ⟨hp, P, c, n0, n1, fl, rfl, hR, hB.later h2, hc, hW.trans (h2.mono hW.size)⟩

set_option maxRecDepth 100000 in
set_option maxHeartbeats 800000 in
theorem zz6 (w : World) (sp : Option Addr) (N sc : Nat) (Z : Nat → Int) (hG : Glob w) (hb : Bys w sp N Z) (hN : N ≤ 1048576) (hs : N ≤ sc) (hZ : ∀ j, j < N → 0 ≤ Z j ∧ Z j ≤ 255) :
    Calls Tryd.prog 6 #[.slice sp N sc] w (Said w N Z) := by
  have C := head_in w sp N sc Z hG hb hN hs hZ
  have C12 := new12 w sp N sc
  clear hG hb hZ
  go_enter Tryd.func6, Tryd.ntmps6
  go_wp2_with fail
  refine C12.mono ?_
  rintro e w1 ⟨rfl, rfl⟩
  go_wp2_with fail
  refine C.mono ?_
  rintro e w2 ⟨hp, P, c, n0, n1, v, ok, rfl, H⟩
  clear C C12
  obtain ⟨hR, hE, hB, hc, hW⟩ := H.out
  rcases hE with ⟨hok, rfl⟩ | ⟨hno, a, rfl⟩
  · have HR : Hid (Res N Z P n0 n1 ok) := hR
    have HO : Hid ok := hok
    have b3 : ∀ A, Below w2.heap.size w2 (w2.alloc A) := fun A => (Below.refl w2.heap.size w2).alloc (Nat.le_refl _) A
    clear hR hok H
    go_wp2
    go_quiet (fail)
    go_wp2
    refine bodyPost_ret (v := .tuple #[.slice hp P c, .string n0, .string n1, .bool false]) (by simp [results, Tryd.results6, go_sem]) rfl ?_
    exact said_mk false HR.out ⟨fun _ => rfl, fun _ => HO.out⟩ hB hc hW ⟨rfl, rfl, rfl, (b3 _).size, (b3 _).block⟩
  · have HR : Hid (Res N Z P n0 n1 ok) := hR
    have HO : Hid (¬ ok) := hno
    have b3 : ∀ A, Below w2.heap.size w2 (w2.alloc A) := fun A => (Below.refl w2.heap.size w2).alloc (Nat.le_refl _) A
    clear hR hno H
    go_wp2
    go_quiet (fail)
    go_wp2
    refine bodyPost_ret (v := .tuple #[.slice hp P c, .string n0, .string n1, .bool true]) (by simp [results, Tryd.results6, go_sem]) rfl ?_
    exact said_mk true HR.out ⟨fun h => absurd h HO.out, fun h => by cases h⟩ hB hc hW ⟨rfl, rfl, rfl, (b3 _).size, (b3 _).block⟩
end Go.Proofs.Qxb6618953aDoor
