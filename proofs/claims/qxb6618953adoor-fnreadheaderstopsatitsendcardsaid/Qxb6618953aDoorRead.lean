import Derived.Test.Qxb6618953aDoorRows
import Derived.WalkKit
import Derived.WalkSpells
import Derived.WalkLawsBesides
import Derived.RegionTactic
import Derived.BigRegion
import Derived.Deep.QuietTactic
import Derived.BigQuiet
import Derived.Deep.OwnRows
import Derived.Deep.RegionLaw
import Derived.Laws.CopyOwn
namespace Go.Proofs.Qxb6618953aDoor
open Go.RowKit Go.Deep

/-- the cells of a bytes.Reader over (sp, N, sc), at place i -/
def rdf (sp : Option Addr) (N sc i : Nat) (pr : Int) : Nat → Value
  | 0 => .slice sp N sc
  | 1 => .int .i64 i
  | _ => .int .i64 pr
/-- a bytes.Reader lies in block g -/
def Rdr (w : World) (g : Nat) (sp : Option Addr) (N sc i : Nat) : Prop := ∃ pr T, w.rowIs g T 3 (rdf sp N sc i pr)

/-- What the walks are told of a []byte. -/
def Bys (w : World) (ao : Option Addr) (n : Nat) (Z : Nat → Int) : Prop :=
  0 < n → ∃ b off, ao = some ⟨b, off, none⟩ ∧ b < w.heap.size ∧ ∀ j, j < n → w.cell? ⟨b, off + j, none⟩ = some (.int .u8 (Z j))

/-- all that the row lay in is as it was, but for block g -/
structure KB (g B : Nat) (w w' : World) : Prop where
  os : w'.os = w.os
  tape : w'.tape = w.tape
  output : w'.output = w.output
  size : w.heap.size ≤ w'.heap.size
  block : ∀ k, k < B → k ≠ g → w'.heap[k]? = w.heap[k]?
theorem KB.refl (g B : Nat) (w : World) : KB g B w w := ⟨rfl, rfl, rfl, Nat.le_refl _, fun _ _ _ => rfl⟩
theorem KB.trans {g B : Nat} {a b c : World} (h : KB g B a b) (k : KB g B b c) : KB g B a c :=
  ⟨k.os.trans h.os, k.tape.trans h.tape, k.output.trans h.output, Nat.le_trans h.size k.size, fun i hi hg => (k.block i hi hg).trans (h.block i hi hg)⟩
theorem KB.cell {g B : Nat} {w w' : World} (h : KB g B w w') {b o : Nat} (hb : b < B) (hg : b ≠ g) : w'.cell? ⟨b, o, none⟩ = w.cell? ⟨b, o, none⟩ := World.cell?_of_block (w := w) (h.block b hb hg)
theorem KB.of_below {g B : Nat} {w w' : World} (h : Below B w w') : KB g B w w' := ⟨h.os, h.tape, h.output, h.size, fun k hk _ => h.block k hk⟩
theorem KB.drewN {g B : Nat} {w w' : World} (h : KB g B w w') (n : Nat) : KB g B w (w'.drewN n) := ⟨h.os, h.tape, h.output, h.size, h.block⟩

theorem step_copy_eq {P : Program} {ops : Array Oper} {o : Oper} {a : Act} {w : World} {K : Act → World → Prop} {Q : Exit → Act → World → Prop} {E : Prop}
    (hg : o.guard = none) (d x : Operand) (hop : o.op = Op.call { callee := Callee.builtin Builtin.copy, args := #[d, x], argTypes := #[22, 22] })
    (v u : Value) (hd : a.eval d = v) (hx : a.eval x = u) (v' : Value) (R : World → Prop) (hr : ∃ w', (Builtin.copy_ #[22, 22] o.type #[v, u]).run P w = .ok v' w' ∧ R w') (hK : ∀ w', R w' → K (a.put o.dst v') w') :
    if Region.wanted o (yielded ops a.tmps) = true then Oper.wp P o a w K Q else E := by
  rw [if_pos (by simp [Region.wanted, hg])]
  unfold Oper.wp
  obtain ⟨w', hr, h2⟩ := hr
  simp [execOp, hop, resolve, invoke, builtin, hd, hx, hr, Result.andThen]
  exact hK w' h2

theorem size5 : (Tryd.prog.info? 5).map (·.size) = some 1 := by kernel_rfl

/-- only draws -/
structure Qt (w w' : World) : Prop where
  os : w'.os = w.os
  tape : w'.tape = w.tape
  output : w'.output = w.output
  heap : w'.heap = w.heap
theorem Qt.kb {w w' : World} (h : Qt w w') (g B : Nat) : KB g B w w' := ⟨h.os, h.tape, h.output, by rw [h.heap]; exact Nat.le_refl _, fun _ _ _ => by rw [h.heap]⟩
theorem Qt.cell {w w' : World} (h : Qt w w') (a : Addr) : w'.cell? a = w.cell? a := by simp [World.cell?, h.heap]

set_option maxRecDepth 100000 in
set_option maxHeartbeats 800000 in
/-- Read, nothing left -/
theorem read_end (w : World) (g N sc : Nat) (sp ho : Option Addr) (m c : Nat) (E : Value) (hr : Rdr w g sp N sc N) (hE : w.cell? ⟨3, 0, none⟩ = some E) :
    Calls Tryd.prog 34 #[.pointer (some ⟨g, 0, none⟩), .slice ho m c] w fun e w' => e = .returned (.tuple #[.int .i64 0, E]) ∧ Qt w w' := by
  obtain ⟨pr, T, hrow⟩ := hr
  have c0 : w.cell? ⟨g, 0, none⟩ = some (.slice sp N sc) := hrow.cell (by decide)
  have c1 : w.cell? ⟨g, 1, none⟩ = some (.int .i64 N) := hrow.cell (by decide)
  clear hrow
  go_enter Tryd.func34, Tryd.ntmps34
  go_wp2
  go_quiet (fail)
  go_wp2
  go_quiet (fail)
  go_wp2
  go_ret2
  exact ⟨rfl, ⟨rfl, rfl, rfl, rfl⟩⟩

/-- 'copy(row[o:o+m], src)': an equation for every world with that row -/
theorem copy_eq (h o C m dc b off M sc q : Nat) (T : TypeId) (Z : Nat → Int) (f : Nat → Value) (hfit : o + m ≤ C) (hq : q = min M m) (cur : Array Value) (hsz : cur.size = C) (hf : ∀ i, i < C → cur[i]? = some (f i)) :
    ∃ arr : Array Value, arr.size = C ∧ (∀ i, i < C → arr[i]? = some (if o ≤ i ∧ i < o + q then .int .u8 (Z (i - o)) else f i)) ∧
      ∀ (W : World) (ty : TypeId), W.heap[h]? = some (.cells cur T (0, 0)) → (∀ j, j < q → W.cell? ⟨b, off + j, none⟩ = some (.int .u8 (Z j))) →
        (Builtin.copy_ #[22, 22] ty #[.slice (some ⟨h, o, none⟩) m dc, .slice (some ⟨b, off, none⟩) M sc]).run Tryd.prog W = .ok (.int .i64 q) (W.setRow h arr) := by
  have hl : ((List.range q).map (fun i => Value.int .u8 (Z i))).length = q := by simp
  have hqm : q ≤ m := by omega
  refine ⟨(cur.toList.take o ++ ((List.range q).map (fun i => Value.int .u8 (Z i))) ++ cur.toList.drop (o + q)).toArray, ?_, ?_, ?_⟩
  · simp
    omega
  · intro i hi
    have hc := hf i hi
    by_cases h1 : i < o
    · rw [if_neg (by omega)]
      rw [← hc]
      simp only [List.getElem?_toArray, List.append_assoc]
      rw [List.getElem?_append_left (by simp; omega), List.getElem?_take_of_lt h1]
      simp
    · by_cases h2 : i < o + q
      · rw [if_pos ⟨by omega, h2⟩]
        simp only [List.getElem?_toArray, List.append_assoc]
        rw [List.getElem?_append_right (by simp; omega), List.getElem?_append_left (by simp; omega)]
        have : min o cur.size = o := by omega
        simp [this]
        exact ⟨i - o, by rw [List.getElem?_range (by omega)], rfl⟩
      · rw [if_neg (by omega)]
        rw [← hc]
        simp only [List.getElem?_toArray]
        rw [List.getElem?_append_right (by simp; omega), List.getElem?_drop]
        have h3 : o + q + (i - (List.take o cur.toList ++ (List.range q).map (fun i => Value.int .u8 (Z i))).length) = i := by simp; omega
        rw [h3]
        simp
  · intro W ty hW hs
    have hrun := run_copy_row (P := Tryd.prog) W 22 22 ty 5 h o m dc ⟨b, off, none⟩ M sc cur T ((List.range q).map (fun i => Value.int .u8 (Z i))) Tryd.underlying22 size5 hW (by rw [hl, hq]) (fun j v hv => by
      simp only [List.getElem?_map, Option.map_eq_some_iff] at hv
      obtain ⟨j', hj', rfl⟩ := hv
      obtain ⟨hlt, rfl⟩ := List.getElem?_eq_some_iff.1 hj'
      rw [show (⟨b, off, none⟩ : Addr).add j = ⟨b, off + j, none⟩ from Go.WideShapes.add_plain _ _ _, hs j (by simpa using hlt)]
      simp) (by rw [hl]; omega) (fun v hv => by
      simp at hv
      obtain ⟨i, _, rfl⟩ := hv
      rfl)
    rw [hl] at hrun
    exact hrun

set_option maxRecDepth 100000 in
set_option maxHeartbeats 800000 in
/-- Read of m bytes into the row h from place i on, the reader standing at i -/
theorem read_some (w : World) (g N sc b off h i m dc C : Nat) (Z : Nat → Int) (f : Nat → Value) (hr : Rdr w g (some ⟨b, off, none⟩) N sc i) (hN : N ≤ 1048576) (hi : i < N) (hNs : N ≤ sc) (hm : i + m ≤ C)
    (hrow : w.rowIs h 5 C f) (hZ : ∀ j, j < N → w.cell? ⟨b, off + j, none⟩ = some (.int .u8 (Z j))) (hbg : b ≠ g) (hhg : h ≠ g) (hm63 : m ≤ 1048576) :
    Calls Tryd.prog 34 #[.pointer (some ⟨g, 0, none⟩), .slice (some ⟨h, i, none⟩) m dc] w fun e w' => e = .returned (.tuple #[.int .i64 (min (N - i) m : Nat), .nilIface]) ∧
      Rdr w' g (some ⟨b, off, none⟩) N sc (i + min (N - i) m) ∧ w'.rowIs h 5 C (fun k => if i ≤ k ∧ k < i + min (N - i) m then .int .u8 (Z k) else f k) ∧ (∀ B, B ≤ h → KB g B w w') ∧ w'.heap.size = w.heap.size := by
  obtain ⟨q, hq⟩ : ∃ q, q = min (N - i) m := ⟨_, rfl⟩
  rw [← hq]
  obtain ⟨pr, T, hrd⟩ := hr
  have c0 : w.cell? ⟨g, 0, none⟩ = some (.slice (some ⟨b, off, none⟩) N sc) := hrd.cell (by decide)
  have c1 : w.cell? ⟨g, 1, none⟩ = some (.int .i64 i) := hrd.cell (by decide)
  have c2 : w.cell? ⟨g, 2, none⟩ = some (.int .i64 pr) := hrd.cell (by decide)
  have f1 := hrd.frozen 1
  have f2 := hrd.frozen 2
  obtain ⟨cur, hcur, hsz, hf⟩ := hrow
  obtain ⟨arr, ha1, ha2, hcp⟩ := copy_eq h i C m dc b (off + i) (N - i) (sc - i) q 5 (fun j => Z (i + j)) f hm hq cur hsz hf
  have hlt : ¬ ((N : Int) ≤ (i : Int)) := by omega
  have hle : (i : Int) ≤ (N : Int) := by omega
  have hne : ¬ (sc = i) := by omega
  have END : (∀ W : World, W.os = w.os → W.tape = w.tape → W.output = w.output → W.heap = (w.setCell ⟨g, 2, none⟩ (.int .i64 (-1))).heap → ∀ W', W' = (W.setRow h arr).setCell ⟨g, 1, none⟩ (.int .i64 (i + q : Nat)) →
      Rdr W' g (some ⟨b, off, none⟩) N sc (i + q) ∧ W'.rowIs h 5 C (fun k => if i ≤ k ∧ k < i + q then .int .u8 (Z k) else f k) ∧ (∀ B, B ≤ h → KB g B w W') ∧ W'.heap.size = w.heap.size) := by
    intro W e1 e2 e3 e4 W' e5
    have hblk : ∀ k, k ≠ g → k ≠ h → W'.heap[k]? = w.heap[k]? := fun k h1 h2 => by
      rw [e5, blk_setCell_other _ _ _ _ h1, setRow_other W h k _ h2, e4, blk_setCell_other _ _ _ _ h1]
    have hsize : W'.heap.size = w.heap.size := by
      rw [e5]
      simp [World.setRow, World.setCell, e4]
    refine ⟨⟨-1, T, ?_⟩, ?_, fun B hB => ⟨by rw [e5]; exact e1, by rw [e5]; exact e2, by rw [e5]; exact e3, by rw [hsize]; exact Nat.le_refl _, fun k hk hkg => hblk k hkg (by omega)⟩, hsize⟩
    · have r1 := hrd.set 2 (.int .i64 (-1))
      have r2 : W.rowIs g T 3 (fun j => if j = 2 then .int .i64 (-1) else rdf (some ⟨b, off, none⟩) N sc i pr j) := r1.of_block (by rw [e4])
      have r3 := (r2.of_block (setRow_other W h g arr hhg.symm)).set 1 (.int .i64 (i + q : Nat))
      rw [e5]
      exact r3.congr (fun j hj => by
        match j, hj with
        | 0, _ => rfl
        | 1, _ => rfl
        | 2, _ => rfl)
    · have hWh : W.heap[h]? = some (.cells cur 5 (0, 0)) := by rw [e4, blk_setCell_other _ _ _ _ hhg]; exact hcur
      have r1 : (W.setRow h arr).rowIs h 5 C (fun k => if i ≤ k ∧ k < i + q then .int .u8 (Z (i + (k - i))) else f k) := ⟨arr, setRow_heap W h _ _ 5 _ hWh, ha1, ha2⟩
      rw [e5]
      exact (r1.setOther (a := ⟨g, 1, none⟩) hhg _).congr (fun k _ => by
        by_cases hk : i ≤ k ∧ k < i + q
        · simp only [hk, and_self, if_true]
          rw [show i + (k - i) = k by omega]
        · simp only [hk, if_false])
  have hcp' : ∀ (W : World) (ty : TypeId), W.os = w.os → W.tape = w.tape → W.output = w.output → W.heap = (w.setCell ⟨g, 2, none⟩ (.int .i64 (-1))).heap →
      ∃ W2, (Builtin.copy_ #[22, 22] ty #[.slice (some ⟨h, i, none⟩) m dc, .slice (some ⟨b, off + i, none⟩) (N - i) (sc - i)]).run Tryd.prog W = .ok (.int .i64 q) W2 ∧ (W2.cell? ⟨g, 1, none⟩ = some (.int .i64 i) ∧ W2.frozen? ⟨g, 1, none⟩ = false ∧
        Hid (∀ W', W' = W2.setCell ⟨g, 1, none⟩ (.int .i64 (i + q : Nat)) → Rdr W' g (some ⟨b, off, none⟩) N sc (i + q) ∧ W'.rowIs h 5 C (fun k => if i ≤ k ∧ k < i + q then .int .u8 (Z k) else f k) ∧ (∀ B, B ≤ h → KB g B w W') ∧ W'.heap.size = w.heap.size)) := fun W ty e1 e2 e3 e4 => by
    have hW : ∀ k, k ≠ g → W.heap[k]? = w.heap[k]? := fun k hk => by rw [e4, blk_setCell_other _ _ _ _ hk]
    have r1 := hrd.set 2 (.int .i64 (-1))
    have r2 : W.rowIs g T 3 (fun j => if j = 2 then .int .i64 (-1) else rdf (some ⟨b, off, none⟩) N sc i pr j) := r1.of_block (by rw [e4])
    have r3 := r2.of_block (setRow_other W h g arr hhg.symm)
    exact ⟨W.setRow h arr, hcp W ty ((hW h hhg).trans hcur) (fun j hj => by
      rw [World.cell?_of_block (w := w) (hW b hbg), Nat.add_assoc]
      exact hZ (i + j) (by omega)), r3.cell (by decide), r3.frozen 1, END W e1 e2 e3 e4⟩
  have hqle : i + q ≤ 2097152 := by omega
  clear hrd ha1 ha2 hsz hf hcp hq hZ hcur END
  go_enter Tryd.func34, Tryd.ntmps34
  go_wp2
  go_quiet (fail)
  go_wp2
  go_region_law (refine step_copy_eq rfl _ _ rfl (.slice (some ⟨h, i, none⟩) m dc) (.slice (some ⟨b, off + i, none⟩) (N - i) (sc - i)) (by simp [Act.eval, Act.put]) (by simp [Act.eval, Act.put]) _ _ (hcp' _ _ rfl rfl rfl rfl) ?_; rintro W2 ⟨k1, k2, END⟩)
  all_goals clear hcp'
  all_goals go_wp2
  all_goals go_ret2
  all_goals exact ⟨rfl, END.out _ rfl⟩
end Go.Proofs.Qxb6618953aDoor
