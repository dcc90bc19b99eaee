import Derived.Test.Qxb6618953aDoorFull
import Derived.Lib.AppendZerosOnto
import Derived.Lib.Walk
import Derived.Lib.SliceRun
namespace Go.Proofs.Qxb6618953aDoor
open Go.RowKit Go.Deep

theorem info5 : (Tryd.prog.info? 5).map (fun i => (i.zero, i.size, i.bytes)) = some (some (.int .u8 0), 1, 1) := by kernel_rfl

/-- block g is as it was -/
def SameAt (g : Nat) (w w' : World) : Prop := w'.heap[g]? = w.heap[g]?

/-- the header as a slice: p bytes of the data so far, in a row of the reading's own -/
def Hd (w : World) (g B : Nat) (hp : Option Addr) (p c : Nat) (Z : Nat → Int) : Prop :=
  c ≤ 9223372036854775807 ∧ p ≤ c ∧ ((hp = none ∧ c = 0) ∨ ∃ h, hp = some ⟨h, 0, none⟩ ∧ B ≤ h ∧ h ≠ g ∧ Hrow w h c p Z)

set_option maxRecDepth 100000 in
set_option maxHeartbeats 2000000 in
theorem grow15 (w : World) (g B : Nat) (hp : Option Addr) (p c n : Nat) (Z : Nat → Int) (hd : Hd w g B hp p c Z) (hn : 0 < n) (hn20 : n ≤ 1048576) (hp20 : p ≤ 1048576) (hB : B ≤ w.heap.size) (hg : g < w.heap.size) :
    Calls Tryd.prog 15 #[.slice hp p c, .int .i64 n] w fun e w' => ∃ h c', e = .returned (.slice (some ⟨h, 0, none⟩) p c') ∧ Hid (c' ≤ 9223372036854775807 ∧ p + n ≤ c' ∧ B ≤ h ∧ h ≠ g ∧ Hrow w' h c' p Z ∧ KB g B w w' ∧ SameAt g w w') := by
  obtain ⟨hc63, hpc, hh⟩ := hd
  have h1 : ¬ ((n : Int) < 0) := by omega
  have h2 : wrap64 ((c : Int) - (p : Int)) = (c : Int) - (p : Int) := by unfold wrap64; omega
  have h3 : wrap64 ((n : Int) - ((c : Int) - (p : Int))) = (n : Int) - ((c : Int) - (p : Int)) := by unfold wrap64; omega
  by_cases hroom : p + n ≤ c
  · have h4 : ¬ ((n : Int) - ((c : Int) - (p : Int)) > 0) := by omega
    rcases hh with ⟨_, h0⟩ | ⟨h, rfl, hhB, hhg, hrow⟩
    · omega
    have HH : Hid (c ≤ 9223372036854775807 ∧ p + n ≤ c ∧ B ≤ h ∧ h ≠ g ∧ Hrow w h c p Z) := ⟨hc63, hroom, hhB, hhg, hrow⟩
    clear hrow
    go_enter Tryd.func15, Tryd.ntmps15
    go_wp2
    go_ret
    obtain ⟨a1, a2, a3, a4, a5⟩ := HH.out
    exact ⟨h, c, rfl, a1, a2, a3, a4, a5, KB.refl _ _ _, show _ = _ from rfl⟩
  · have h4 : (n : Int) - ((c : Int) - (p : Int)) > 0 := by omega
    obtain ⟨cs, hcl, hold, hcs⟩ : ∃ cs : List Value, cs.length = c ∧ (Builtin.firstCells 1 c (.slice hp c c)).run Tryd.prog w.drew = .ok cs.toArray w.drew ∧ ∀ k, k < p → cs[k]? = some (.int .u8 (Z k)) := by
      rcases hh with ⟨rfl, rfl⟩ | ⟨h, rfl, hhB, hhg, f, ⟨cur, hcur, hsz, hcf⟩, hrow⟩
      · exact ⟨[], rfl, run_firstCells_none w.drew 1 0 0 0, fun k hk => absurd hk (by omega)⟩
      · refine ⟨cur.toList, by simp [hsz], run_firstCells_some w.drew 1 c ⟨h, 0, none⟩ c c cur.toList (by simp [hsz]) (fun j v hj => ?_), fun k hk => ?_⟩
        · rw [show (⟨h, 0, none⟩ : Addr).add j = ⟨h, 0 + j, none⟩ from Go.WideShapes.add_plain _ _ _]
          have : cur[j]? = some v := by simpa using hj
          simp only [Nat.zero_add]
          show w.cell? _ = _
          simp [World.cell?, hcur, this]
        · have := hcf k (by omega)
          rw [hrow k hk] at this
          simpa using this
    obtain ⟨i0, hi0, hzz⟩ := Option.map_eq_some_iff.1 info5
    simp only [Prod.mk.injEq] at hzz
    obtain ⟨hz0, hs0, hb0⟩ := hzz
    have hck : c + (p + n - c) = p + n := by omega
    have hrz : ∀ ty, (Builtin.append_ #[22, 3] ty #[.slice hp c c, .int .i64 ((n : Int) - ((c : Int) - (p : Int)))]).run Tryd.prog w =
        .ok (.slice (some ⟨w.heap.size, 0, none⟩) (p + n) (grownCap w (p + n) c 5)) (w.drew.alloc (.cells (cs.toArray ++ Builtin.zeroCells (Value.int .u8 0).cells (p + n - c) ++ Builtin.zeroCells (Value.int .u8 0).cells (grownCap w (p + n) c 5 - (p + n))) 5)) := fun ty => by
      have h := Lib.run_append_grow_zeros w 22 3 ty 5 i0 (.int .u8 0) .i64 .i64 Tryd.underlying22 Tryd.underlying3 hi0 hz0 hp c c cs (by rw [hs0]; exact hold) (p + n - c) (by omega) (by omega) (by omega) (by omega)
        (by rw [hb0]; omega) (by rw [hck, hb0]; exact growslice_fits (by omega) (by omega))
      rw [hck] at h
      rw [show (n : Int) - ((c : Int) - (p : Int)) = ((p + n - c : Nat) : Int) by omega]
      exact h
    have hGn : p + n ≤ grownCap w (p + n) c 5 := grownCap_ge w _ _ _
    obtain ⟨G, hG⟩ : ∃ G, G = grownCap w (p + n) c 5 := ⟨_, rfl⟩
    have hG63 : G ≤ 9223372036854775807 := by
      have := grownCap_le_maxLen w (p + n) c 5 (by unfold maxLen; omega)
      rw [← hG] at this
      unfold maxLen at this
      omega
    rw [← hG] at hrz hGn
    have hzc : ∀ k, (Builtin.zeroCells (Value.int .u8 0).cells k).size = k := fun k => by simp [Builtin.zeroCells, Value.cells]
    obtain ⟨arr, harr⟩ : ∃ arr, arr = cs.toArray ++ Builtin.zeroCells (Value.int .u8 0).cells (p + n - c) ++ Builtin.zeroCells (Value.int .u8 0).cells (G - (p + n)) := ⟨_, rfl⟩
    have hasz : arr.size = G := by
      rw [harr]
      simp [hzc, hcl]
      omega
    have hat : ∀ k, k < p → arr[k]? = some (.int .u8 (Z k)) := fun k hk => by
      rw [harr, Array.getElem?_append_left (by simp [hzc, hcl]; omega), Array.getElem?_append_left (by simp [hcl]; omega)]
      simp [hcs k hk]
    rw [← harr] at hrz
    have HH : Hid (Hrow (w.drew.alloc (.cells arr 5)) w.heap.size G p Z) := by
      refine ⟨fun k => arr.getD k .nilIface, ⟨_, blk_alloc_new w.drew _, hasz, fun i hi => ?_⟩, fun k hk => ?_⟩
      · show _ = some (arr.getD i .nilIface)
        rw [Array.getD_eq_getD_getElem?, Array.getElem?_eq_getElem (by omega)]
        rfl
      · show arr.getD k .nilIface = _
        rw [Array.getD_eq_getD_getElem?, hat k hk]
        rfl
    have HB : Hid (KB g B w (w.drew.alloc (.cells arr 5)) ∧ SameAt g w (w.drew.alloc (.cells arr 5))) :=
      ⟨⟨rfl, rfl, rfl, by simp, fun k hk _ => blk_alloc_lt w.drew _ k (by show k < w.heap.size; omega)⟩, blk_alloc_lt w.drew _ g hg⟩
    obtain ⟨L, hL⟩ : ∃ L, L = p + n := ⟨_, rfl⟩
    rw [← hL] at hrz hGn
    have hpL : p ≤ L := by omega
    have HG : Hid (p + n ≤ G) := by show _ ≤ _; omega
    have hnil : hp = none → c = 0 := fun e => by
      rcases hh with ⟨_, h⟩ | ⟨h, h', _⟩
      · exact h
      · rw [h'] at e; cases e
    clear hold hck hcs hcl hzc hG hi0 hz0 hs0 hb0 hh harr hasz hat hL
    go_enter Tryd.func15, Tryd.ntmps15
    cases hp with
    | none =>
      have h0 := hnil rfl
      subst h0
      obtain rfl : p = 0 := by omega
      go_wp2_with (at_builtin; refine Lib.wpList_append_run _ rfl _ _ _ _ rfl _ _ rfl rfl _ _ (hrz _) ?_)
      all_goals go_ret
      all_goals exact ⟨w.heap.size, G, rfl, hG63, by have := HG.out; omega, hB, by omega, HH.out, HB.out⟩
    | some a =>
      obtain ⟨ab, ao, asp⟩ := a
      go_wp2_with (at_builtin; refine Lib.wpList_append_run _ rfl _ _ _ _ rfl _ _ rfl rfl _ _ (hrz _) ?_)
      all_goals go_ret
      all_goals exact ⟨w.heap.size, G, rfl, hG63, by have := HG.out; omega, hB, by omega, HH.out, HB.out⟩
end Go.Proofs.Qxb6618953aDoor
