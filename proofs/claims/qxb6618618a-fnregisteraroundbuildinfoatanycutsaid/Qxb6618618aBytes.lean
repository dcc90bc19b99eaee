import Derived.Test.Qxb6618618aRows
import Derived.WalkKit
import Derived.WalkSpells
import Derived.WalkLawsBesides
namespace Go.Proofs.Qxb6618618a
open Go.RowKit

/-- It returned a bool. -/
def IsBool (e : Ending) : Prop := ∃ r : Bool, e = .returned (.bool r)
theorem isBool_mk (r : Bool) : IsBool (.returned (.bool r)) := ⟨r, rfl⟩

/-- What the walks are told of a []string: where it has elements it leads to them. -/
def Strs (w : World) (ao : Option Addr) (len : Nat) (S : Nat → ByteArray) : Prop :=
  0 < len → ∃ b off, ao = some ⟨b, off, none⟩ ∧ b < w.heap.size ∧ ∀ j, j < len → w.cell? ⟨b, off + j, none⟩ = some (.string (S j))

set_option maxRecDepth 100000 in
set_option maxHeartbeats 400000 in
theorem bytes5 (ao : Option Addr) (len cap : Nat) (S : Nat → ByteArray) (p : ByteArray) (w : World) (hao : Strs w ao len S) (hS : ∀ i, (S i).size ≤ maxLen) (hp : p.size ≤ maxLen) (hl : len ≤ maxLen) :
    Calls Try.prog 5 #[.slice ao len cap, .string p] w fun e w' => IsBool e ∧ w' = w := by
  unfold maxLen at hS hp hl
  by_cases h20 : (1048576 : Int) < (len : Int)
  · go_enter Try.func5, Try.ntmps5
    go_wp2
    go_ret
    exact ⟨isBool_mk _, rfl⟩
  go_enter Try.func5, Try.ntmps5
  go_wp2
  go_loop [5, 6] (fun n i => ∃ (k : Nat) (z : Int), k ≤ len ∧ 0 ≤ z ∧ z ≤ 1048576 ∧ i = .int .i64 k ∧ n = .int .i64 z) (fun _ i => len - (intOf i).toNat)
  case atStart => exact ⟨0, len, Nat.zero_le _, by omega, by omega, rfl, rfl⟩
  case round =>
    obtain ⟨k, z, hk, hz0, hz1, rfl, rfl⟩ := hrel
    by_cases hlt : k < len
    · obtain ⟨b, off, rfl, hb, hc⟩ := hao (by omega)
      have hck := hc k hlt
      have hsk := hS k
      clear hc hS
      go_wp2
      · go_ret
        exact ⟨isBool_mk _, rfl⟩
      · go_ret
        exact ⟨isBool_mk _, rfl⟩
      · go_round
        case rel => exact ⟨k + 1, _, by omega, by omega, by omega, by go_num, rfl⟩
        case measure => simp [intOf]; omega
    · clear hS hao
      go_wp2
      all_goals (go_ret; exact ⟨isBool_mk _, rfl⟩)
end Go.Proofs.Qxb6618618a
