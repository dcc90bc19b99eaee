import Derived.WalkKit
import Derived.Deep.OwnRows
import Derived.Laws.CopyOwn
namespace Go.Proofs.Qxb6618928a
open Go.RowKit

/-- 'copy(dst, src)' of bytes, dst a row of n cells that the call itself made, src n bytes from wherever: an equation for the walk. -/
theorem copy_run {P : Program} {w : World} (t e ty : TypeId) (hu : P.underlying t = some (.slice e)) (hsz : (P.info? e).map (·.size) = some 1)
    (g n c1 c2 : Nat) (sp : Option Addr) (Z : Nat → Int) (hrow : ∃ f, w.rowIs g e n f) (hsrc : 0 < n → ∃ b off, sp = some ⟨b, off, none⟩ ∧ ∀ j, j < n → w.cell? ⟨b, off + j, none⟩ = some (.int .u8 (Z j))) :
    ∃ w', (Builtin.copy_ #[t, t] ty #[.slice (some ⟨g, 0, none⟩) n c1, .slice sp n c2]).run P w = .ok (.int .i64 n) w' ∧ w'.rowIs g e n (fun i => .int .u8 (Z i)) ∧ w.grownBy w' (some g) := by
  obtain ⟨f, c, hc, hcn, hcf⟩ := hrow
  by_cases h0 : n = 0
  · subst h0
    refine ⟨w, run_copy_none (P := P) w t t ty e _ sp 0 c1 0 c2 hu hsz rfl, ⟨c, hc, hcn, fun i hi => absurd hi (Nat.not_lt_zero i)⟩, ⟨rfl, rfl, rfl, Nat.le_refl _, fun _ _ _ => rfl⟩⟩
  · obtain ⟨b, off, rfl, hcell⟩ := hsrc (by omega)
    have hl : ((List.range n).map (fun i => Value.int .u8 (Z i))).length = n := by simp
    have hrun := run_copy_row (P := P) w t t ty e g 0 n c1 ⟨b, off, none⟩ n c2 c e ((List.range n).map (fun i => Value.int .u8 (Z i))) hu hsz hc (by rw [hl]; exact (Nat.min_self n).symm) (fun j v hv => by
      simp only [List.getElem?_map, Option.map_eq_some_iff] at hv
      obtain ⟨j', hj', rfl⟩ := hv
      obtain ⟨hlt, rfl⟩ := List.getElem?_eq_some_iff.1 hj'
      rw [show (⟨b, off, none⟩ : Addr).add j = ⟨b, off + j, none⟩ from Go.WideShapes.add_plain _ _ _, hcell j (by simpa using hlt)]
      simp) (by rw [hl]; omega) (fun v hv => by
      simp at hv
      obtain ⟨i, _, rfl⟩ := hv
      rfl)
    rw [hl] at hrun
    refine ⟨_, hrun, ⟨_, setRow_heap w g _ _ e _ hc, ?_, fun i hi => ?_⟩, ⟨rfl, rfl, rfl, by simp [World.setRow], fun k _ hk => setRow_other w g k _ (fun e => hk (by rw [e]))⟩⟩
    · simp
      omega
    · have hd : List.drop n c.toList = [] := List.drop_eq_nil_of_le (by simp [hcn])
      simp [hi, hd]

/-- A run of n bytes in a block, of whatever make. -/
theorem rowIs_after {w w' : World} {B g n : Nat} {t : TypeId} {f : Nat → Value} (h : w.rowIs g t n f) (hb : Below B w w') (hg : g < B) : w'.rowIs g t n f := h.of_block (hb.block g hg)
end Go.Proofs.Qxb6618928a
