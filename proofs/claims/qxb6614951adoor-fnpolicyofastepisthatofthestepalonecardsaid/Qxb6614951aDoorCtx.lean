import Derived.Test.Qxb6614951aDoorPolz
import Derived.Laws.MakeOwn
namespace Go.Proofs.Qxb6614951aDoor
open Go.RowKit Go.Deep

/-- a policy -/
structure P4 where
  a : Int
  b : Int
  f : Nat
  d : Int
abbrev P4.v (x : P4) : Array Value := pc x.a x.b x.f x.d
def At (w : World) (s o : Nat) (x : P4) : Prop := At4 w s o x.a x.b x.f x.d

/-- what lies in the slice of step policies -/
def Told (w : World) (b off n : Nat) (A C : Nat → P4) : Prop := ∀ j, j < n → At w b (off + j * 8) (A j) ∧ At w b (off + j * 8 + 4) (C j)

theorem underlying32 : Tryd.prog.underlying 32 = some (.slice 44) := by kernel_rfl
theorem info44 : (Tryd.prog.info? 44).map (fun i => (i.zero.isSome, i.size, i.bytes)) = some (true, 11, 96) := by kernel_rfl
/-- the steps made -/
theorem mk32 (n : Nat) (hn : n ≤ 16384) : ∃ cs : Array Value, cs.size = n * 11 ∧ ∀ w : World, (Instr.makeSlice 32 (.int .i64 n) (.int .i64 n)).run Tryd.prog w = .ok (.slice (some ⟨w.heap.size, 0, none⟩) n n) (w.alloc (.cells cs 44)) := by
  obtain ⟨i, hi, he⟩ := Option.map_eq_some_iff.1 info44
  simp only [Prod.mk.injEq] at he
  obtain ⟨hz, hs, hb⟩ := he
  obtain ⟨z, hz⟩ := Option.isSome_iff_exists.1 hz
  refine ⟨madeCells z.cells (n * 11), size_madeCells _ _, fun w => ?_⟩
  have h := run_make (P := Tryd.prog) w 32 44 i z underlying32 hi hz .i64 .i64 n n (by omega) (by omega) (by rw [hb]; omega) (by omega)
  rw [hs, Int.toNat_natCast] at h
  exact h

/-- the four cells hold policy x -/
def Has4 (f : Nat → Value) (o : Nat) (x : P4) : Prop := f o = .int .i64 x.a ∧ f (o + 1) = .int .i64 x.b ∧ f (o + 2) = .float .f64 x.f ∧ f (o + 3) = .int .i64 x.d

/-- as the steps are being laid: k actions and m compensations stand -/
structure Ctx (w wx : World) (T S n : Nat) (t : P4) (A C : Nat → P4) (k m : Nat) : Prop where
  below : Below w.heap.size w wx
  tt : wx.heap[T]? = some (.cells #[.string ⟨#[]⟩, .slice (some ⟨S, 0, none⟩) n n, .int .i64 t.a, .int .i64 t.b, .float .f64 t.f, .int .i64 t.d] 38)
  res : wx.heap[w.heap.size + 1]? = some (.cells (pc 0 0 0 0) 25)
  lt : w.heap.size + 1 < T
  ls : w.heap.size + 1 < S
  ne : T ≠ S
  row : ∃ f, wx.rowIs S 44 (n * 11) f ∧ (∀ j, j < k → Has4 f (j * 11 + 3) (A j)) ∧ (∀ j, j < m → Has4 f (j * 11 + 7) (C j))

theorem Ctx.call {w wx w1 : World} {T S n : Nat} {t : P4} {A C : Nat → P4} {k m : Nat} (h : Ctx w wx T S n t A C k m) (hb : Below wx.heap.size wx w1) : Ctx w w1 T S n t A C k m := by
  obtain ⟨f, hr, h1, h2⟩ := h.row
  have lT : T < wx.heap.size := (Array.getElem?_eq_some_iff.1 h.tt).1
  have lr : w.heap.size + 1 < wx.heap.size := (Array.getElem?_eq_some_iff.1 h.res).1
  exact ⟨h.below.trans (hb.mono h.below.size), (hb.block _ lT).trans h.tt, (hb.block _ lr).trans h.res, h.lt, h.ls, h.ne, f, hr.of_block (hb.block _ hr.lt), h1, h2⟩

/-- four cells of the row set -/
def put4 (f : Nat → Value) (o : Nat) (x : P4) : Nat → Value := fun j => if j = o + 3 then .int .i64 x.d else if j = o + 2 then .float .f64 x.f else if j = o + 1 then .int .i64 x.b else if j = o then .int .i64 x.a else f j
theorem put4_at (f : Nat → Value) (o : Nat) (x : P4) : Has4 (put4 f o x) o x := by
  unfold put4 Has4
  simp
theorem put4_off (f : Nat → Value) (o : Nat) (x : P4) (o' : Nat) (y : P4) (h : Has4 f o' y) (hd : o' + 3 < o ∨ o + 3 < o') : Has4 (put4 f o x) o' y := by
  obtain ⟨h0, h1, h2, h3⟩ := h
  have e : ∀ q, q < 4 → put4 f o x (o' + q) = f (o' + q) := fun q hq => by unfold put4; rw [if_neg (by omega), if_neg (by omega), if_neg (by omega), if_neg (by omega)]
  exact ⟨(e 0 (by omega)).trans h0, (e 1 (by omega)).trans h1, (e 2 (by omega)).trans h2, (e 3 (by omega)).trans h3⟩

/-- a policy stored at offset o of block S -/
abbrev sets (w : World) (S o : Nat) (x : P4) : World := (((w.setCell ⟨S, o, none⟩ (.int .i64 x.a)).setCell ⟨S, o + 1, none⟩ (.int .i64 x.b)).setCell ⟨S, o + 2, none⟩ (.float .f64 x.f)).setCell ⟨S, o + 3, none⟩ (.int .i64 x.d)

theorem Ctx.put {w wx : World} {T S n : Nat} {t : P4} {A C : Nat → P4} {k m : Nat} (h : Ctx w wx T S n t A C k m) (o : Nat) (x : P4) (k' m' : Nat)
    (hA : ∀ j, j < k' → (j * 11 + 3 = o ∧ A j = x) ∨ (j < k ∧ (j * 11 + 6 < o ∨ o + 3 < j * 11 + 3)))
    (hC : ∀ j, j < m' → (j * 11 + 7 = o ∧ C j = x) ∨ (j < m ∧ (j * 11 + 10 < o ∨ o + 3 < j * 11 + 7))) : Ctx w (sets wx S o x) T S n t A C k' m' := by
  obtain ⟨f, hr, h1, h2⟩ := h.row
  have hS : w.heap.size ≤ S := by have := h.ls; omega
  have hb : Below w.heap.size w (sets wx S o x) :=
    (((h.below.setCell (p := ⟨S, o, none⟩) hS _).setCell (p := ⟨S, o + 1, none⟩) hS _).setCell (p := ⟨S, o + 2, none⟩) hS _).setCell (p := ⟨S, o + 3, none⟩) hS _
  have oth : ∀ B, B ≠ S → (sets wx S o x).heap[B]? = wx.heap[B]? := fun B hB => by
    rw [Below.heap_setCell _ _ _ _ hB, Below.heap_setCell _ _ _ _ hB, Below.heap_setCell _ _ _ _ hB, Below.heap_setCell _ _ _ _ hB]
  have row : (sets wx S o x).rowIs S 44 (n * 11) (put4 f o x) := (((hr.set o _).set (o + 1) _).set (o + 2) _).set (o + 3) _
  refine ⟨hb, (oth T h.ne).trans h.tt, (oth _ (by have := h.ls; omega)).trans h.res, h.lt, h.ls, h.ne, put4 f o x, row, fun j hj => ?_, fun j hj => ?_⟩
  · rcases hA j hj with ⟨rfl, rfl⟩ | ⟨hk, hd⟩
    · exact put4_at f _ _
    · exact put4_off f o x _ _ (h1 j hk) hd
  · rcases hC j hj with ⟨rfl, rfl⟩ | ⟨hk, hd⟩
    · exact put4_at f _ _
    · exact put4_off f o x _ _ (h2 j hk) hd
theorem Ctx.putA {w wx : World} {T S n : Nat} {t : P4} {A C : Nat → P4} {k : Nat} (h : Ctx w wx T S n t A C k k) : Ctx w (sets wx S (k * 11 + 3) (A k)) T S n t A C (k + 1) k :=
  h.put _ _ _ _ (fun j hj => by
    by_cases e : j = k
    · subst e; exact Or.inl ⟨rfl, rfl⟩
    · exact Or.inr ⟨by omega, by omega⟩) (fun j hj => Or.inr ⟨hj, by omega⟩)
theorem Ctx.putC {w wx : World} {T S n : Nat} {t : P4} {A C : Nat → P4} {k : Nat} (h : Ctx w wx T S n t A C (k + 1) k) : Ctx w (sets wx S (k * 11 + 7) (C k)) T S n t A C (k + 1) (k + 1) :=
  h.put _ _ _ _ (fun j hj => Or.inr ⟨hj, by omega⟩) (fun j hj => by
    by_cases e : j = k
    · subst e; exact Or.inl ⟨rfl, rfl⟩
    · exact Or.inr ⟨by omega, by omega⟩)

/-- four cells of the row, to be written -/
theorem Ctx.cells {w wx : World} {T S n : Nat} {t : P4} {A C : Nat → P4} {k m : Nat} (h : Ctx w wx T S n t A C k m) (o : Nat) (ho : o + 3 < n * 11) :
    ∃ v0 v1 v2 v3, wx.cell? ⟨S, o, none⟩ = some v0 ∧ wx.cell? ⟨S, o + 1, none⟩ = some v1 ∧ wx.cell? ⟨S, o + 2, none⟩ = some v2 ∧ wx.cell? ⟨S, o + 3, none⟩ = some v3 ∧
      wx.frozen? ⟨S, o, none⟩ = false ∧ wx.frozen? ⟨S, o + 1, none⟩ = false ∧ wx.frozen? ⟨S, o + 2, none⟩ = false ∧ wx.frozen? ⟨S, o + 3, none⟩ = false := by
  obtain ⟨f, hr, _⟩ := h.row
  exact ⟨_, _, _, _, hr.cell (by omega), hr.cell (by omega), hr.cell (by omega), hr.cell (by omega), hr.frozen _, hr.frozen _, hr.frozen _, hr.frozen _⟩

theorem Ctx.t1 {w wx : World} {T S n : Nat} {t : P4} {A C : Nat → P4} {k m : Nat} (h : Ctx w wx T S n t A C k m) : wx.cell? ⟨T, 1, none⟩ = some (.slice (some ⟨S, 0, none⟩) n n) := by
  unfold World.cell?
  rw [h.tt]
  rfl

/-- the state behind the making -/
theorem Ctx.start {w W : World} {n : Nat} {t : P4} {A C : Nat → P4} {T S : Nat} (hb : Below w.heap.size w W) (ht : W.heap[T]? = some (.cells #[.string ⟨#[]⟩, .slice (some ⟨S, 0, none⟩) n n, .int .i64 t.a, .int .i64 t.b, .float .f64 t.f, .int .i64 t.d] 38))
    (hr : W.heap[w.heap.size + 1]? = some (.cells (pc 0 0 0 0) 25)) (cs : Array Value) (hcs : cs.size = n * 11) (hs : W.heap[S]? = some (.cells cs 44)) (lt : w.heap.size + 1 < T) (ls : w.heap.size + 1 < S) (ne : T ≠ S) : Ctx w W T S n t A C 0 0 :=
  ⟨hb, ht, hr, lt, ls, ne, fun i => cs[i]?.getD default, hcs ▸ ⟨cs, hs, rfl, fun i hi => by simp [Array.getElem?_eq_getElem hi]⟩, fun j hj => absurd hj (Nat.not_lt_zero j), fun j hj => absurd hj (Nat.not_lt_zero j)⟩

end Go.Proofs.Qxb6614951aDoor
