import Derived.Test.Qxb6618953aDoorApp
import Derived.Laws.BitsAllLaws
import Derived.Lib.QuoteBits
namespace Go.Proofs.Qxb6618953aDoor
open Go.RowKit Go.Deep

/-- the big-endian number at i -/
def u16 (Z : Nat → Int) (i : Nat) : Nat := (Z i * 256 + Z (i + 1)).toNat
theorem or_mul8 (a b : Nat) (h : a < 256) : a ||| (b * 256) = b * 256 + a := by
  rw [show b * 256 = b * 2 ^ 8 from rfl, Nat.or_comm, ← Nat.shiftLeft_eq, Nat.shiftLeft_add_eq_or_of_lt h]
theorem u16_or (x y : Int) (a0 : 0 ≤ x) (b0 : x ≤ 255) (a1 : 0 ≤ y) (b1 : y ≤ 255) : bits BinOp.or IntKind.u16 y (x * 256) = ((x * 256 + y).toNat : Int) := by
  obtain ⟨n0, rfl⟩ := Int.eq_ofNat_of_zero_le a0
  obtain ⟨n1, rfl⟩ := Int.eq_ofNat_of_zero_le a1
  rw [show ((n0 : Int) * 256) = ((n0 * 256 : Nat) : Int) by omega, u16_or_nat n1 (n0 * 256) (by omega) (by omega), or_mul8 n1 n0 (by omega)]
  omega
theorem i64_or (x y : Int) (a0 : 0 ≤ x) (b0 : x ≤ 255) (a1 : 0 ≤ y) (b1 : y ≤ 255) : bits BinOp.or IntKind.i64 (x * 256) y = ((x * 256 + y).toNat : Int) := by
  obtain ⟨n0, rfl⟩ := Int.eq_ofNat_of_zero_le a0
  obtain ⟨n1, rfl⟩ := Int.eq_ofNat_of_zero_le a1
  rw [show ((n0 : Int) * 256) = ((n0 * 256 : Nat) : Int) by omega]
  show IntKind.i64.wrap ((BitVec.ofInt 64 ((n0 * 256 : Nat) : Int) ||| BitVec.ofInt 64 ((n1 : Nat) : Int)).toNat : Int) = _
  rw [BitVec.toNat_or, ofInt_u64 (n0 * 256) (by omega), ofInt_u64 n1 (by omega), Nat.or_comm, or_mul8 n1 n0 (by omega), IntKind.wrap_i64]
  omega

set_option maxRecDepth 100000 in
set_option maxHeartbeats 800000 in
theorem u16_14 (w : World) (h o c : Nat) (Z : Nat → Int) (i : Nat) (hx : w.cell? ⟨h, o, none⟩ = some (.int .u8 (Z i))) (hy : w.cell? ⟨h, o + 1, none⟩ = some (.int .u8 (Z (i + 1)))) (zx : 0 ≤ Z i ∧ Z i ≤ 255) (zy : 0 ≤ Z (i + 1) ∧ Z (i + 1) ≤ 255) (hh : h < w.heap.size) :
    Calls Tryd.prog 14 #[.agg #[], .slice (some ⟨h, o, none⟩) 2 c] w fun e w' => e = .returned (.int .u16 (u16 Z i)) ∧ Below w.heap.size w w' := by
  have hor := u16_or (Z i) (Z (i + 1)) zx.1 zx.2 zy.1 zy.2
  obtain ⟨x, hxx⟩ : ∃ x, x = Z i := ⟨_, rfl⟩
  obtain ⟨y, hyy⟩ : ∃ y, y = Z (i + 1) := ⟨_, rfl⟩
  unfold u16
  rw [← hxx] at hx zx hor ⊢
  rw [← hyy] at hy zy hor ⊢
  obtain ⟨R, hR⟩ : ∃ R : Nat, R = (x * 256 + y).toNat := ⟨_, rfl⟩
  rw [← hR] at hor ⊢
  obtain ⟨x0, x1⟩ := zx
  obtain ⟨y0, y1⟩ := zy
  have hcx : ∀ A, (w.alloc A).cell? ⟨h, o, none⟩ = some (.int .u8 x) := fun A => (World.cell?_of_block (w := w) (blk_alloc_lt w A h hh)).trans hx
  have hcy : ∀ A, (w.alloc A).cell? ⟨h, o + 1, none⟩ = some (.int .u8 y) := fun A => (World.cell?_of_block (w := w) (blk_alloc_lt w A h hh)).trans hy
  have b1 : ∀ A, Below w.heap.size w (w.alloc A) := fun A => (Below.refl w.heap.size w).alloc (Nat.le_refl _) A
  clear hx hy hR hxx hyy
  go_enter Tryd.func14, Tryd.ntmps14
  go_wp2
  go_quiet (fail)
  go_wp2
  go_ret
  exact ⟨rfl, ⟨rfl, rfl, rfl, (b1 _).size, (b1 _).block⟩⟩

set_option maxRecDepth 100000 in
set_option maxHeartbeats 800000 in
theorem u16At7 (w : World) (b off n c : Nat) (Z : Nat → Int) (i : Nat) (hi : i + 1 < n) (hn : n ≤ 2097152) (hx : w.cell? ⟨b, off + i, none⟩ = some (.int .u8 (Z i))) (hy : w.cell? ⟨b, off + (i + 1), none⟩ = some (.int .u8 (Z (i + 1)))) (zx : 0 ≤ Z i ∧ Z i ≤ 255) (zy : 0 ≤ Z (i + 1) ∧ Z (i + 1) ≤ 255) :
    Calls Tryd.prog 7 #[.slice (some ⟨b, off, none⟩) n c, .int .i64 i] w fun e w' => e = .returned (.int .i64 (u16 Z i)) ∧ Qt w w' := by
  have hor := i64_or (Z i) (Z (i + 1)) zx.1 zx.2 zy.1 zy.2
  obtain ⟨x, hxx⟩ : ∃ x, x = Z i := ⟨_, rfl⟩
  obtain ⟨y, hyy⟩ : ∃ y, y = Z (i + 1) := ⟨_, rfl⟩
  unfold u16
  rw [← hxx] at hx zx hor ⊢
  rw [← hyy] at hy zy hor ⊢
  obtain ⟨R, hR⟩ : ∃ R : Nat, R = (x * 256 + y).toNat := ⟨_, rfl⟩
  rw [← hR] at hor ⊢
  obtain ⟨x0, x1⟩ := zx
  obtain ⟨y0, y1⟩ := zy
  have h1 : (i : Int) < (n : Int) := by omega
  have h2 : (i : Int) + 1 < (n : Int) := by omega
  clear hR hxx hyy
  go_enter Tryd.func7, Tryd.ntmps7
  go_wp2
  go_quiet (fail)
  go_wp2
  go_ret
  exact ⟨rfl, ⟨rfl, rfl, rfl, rfl⟩⟩
end Go.Proofs.Qxb6618953aDoor
