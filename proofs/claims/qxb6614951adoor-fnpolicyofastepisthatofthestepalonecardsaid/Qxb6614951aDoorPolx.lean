import Derived.Test.Qxb6614951aDoorPolc
import Derived.Test.Qxb6614951aDoorCtx
namespace Go.Proofs.Qxb6614951aDoor
open Go.RowKit Go.Deep

/-- the step's own policy for the kind of call -/
def Own (A C : Nat → P4) (i : Nat) (kind : Int) (x : P4) : Prop := (kind = 2 ∧ x = C i) ∨ ((kind == 2) = false ∧ x = A i)

theorem has_at {w : World} {S n o : Nat} {f : Nat → Value} {x : P4} (hr : w.rowIs S 44 n f) (h : Has4 f o x) (ho : o + 3 < n) : At4 w S o x.a x.b x.f x.d :=
  ⟨(hr.cell (by omega)).trans (congrArg some h.1), (hr.cell (by omega)).trans (congrArg some h.2.1), (hr.cell (by omega)).trans (congrArg some h.2.2.1), (hr.cell (by omega)).trans (congrArg some h.2.2.2)⟩

theorem At4.below {w w' : World} {s o : Nat} {a b : Int} {f : Nat} {d : Int} (h : At4 w s o a b f d) (hb : Below w.heap.size w w') : At4 w' s o a b f d := h.later (hb.block s (World.block_lt_of_cell? _ _ h.c0))

/-- ZZpolicy, the steps laid -/
theorem polx (w w2 : World) (T S n g i : Nat) (kind : Int) (t x : P4) (A C : Nat → P4) (h : Ctx w w2 T S n t A C n n) (hi : i < n) (ho : Own A C i kind x) (hD : At4 w 0 0 4 500000000 0 0)
    (hg : w2.cell? ⟨g, 0, none⟩ = some (.pointer (some ⟨T, 0, none⟩))) (p q : Int) (r : Nat) (s : Int) (hor : orV x.a x.b x.f x.d t.a t.b t.f t.d = pc p q r s) :
    Calls Tryd.prog 12 #[.pointer (some ⟨g, 0, none⟩), .int .i64 i, .int .i64 kind] w2 fun e w' => e = .returned (.agg (pc p q r s)) ∧ Below w2.heap.size w2 w' := by
  have b1 : Below w2.heap.size w2 (w2.alloc z4) := (Below.refl w2.heap.size w2).alloc (Nat.le_refl _) _
  have h1 := h.call b1
  obtain ⟨f, hr, fA, fC⟩ := h1.row
  have hg1 : (w2.alloc z4).cell? ⟨g, 0, none⟩ = some (.pointer (some ⟨T, 0, none⟩)) := (b1.cell (p := ⟨g, 0, none⟩) (World.block_lt_of_cell? _ _ hg)).trans hg
  have hR : At4 (w2.alloc z4) T 2 t.a t.b t.f t.d := by
    have c : ∀ o v, (#[.string ⟨#[]⟩, .slice (some ⟨S, 0, none⟩) n n, .int .i64 t.a, .int .i64 t.b, .float .f64 t.f, .int .i64 t.d] : Array Value)[o]? = some v → (w2.alloc z4).cell? ⟨T, o, none⟩ = some v := fun o v hv => by
      unfold World.cell?
      rw [h1.tt]
      exact hv
    exact ⟨c _ _ rfl, c _ _ rfl, c _ _ rfl, c _ _ rfl⟩
  have hD1 : At4 (w2.alloc z4) 0 0 4 500000000 0 0 := hD.below h1.below
  have aA := has_at hr (fA i hi) (by omega)
  have aC := has_at hr (fC i hi) (by omega)
  refine pol12 w2 g i kind p q r s ?_
  rw [← hor]
  rcases ho with ⟨rfl, rfl⟩ | ⟨hk, rfl⟩
  · exact pol15C _ g T S n i _ _ _ _ _ _ _ _ _ _ _ _ hi hg1 h1.t1 hR hD1 aC aA
  · exact pol15A _ g T S n i kind _ _ _ _ _ _ _ _ hi hk hg1 h1.t1 hR hD1 aA
end Go.Proofs.Qxb6614951aDoor
