import Derived.Test.Qxb6618618aBytes
import Derived.Deep.QuietTactic
import Derived.BigQuiet
namespace Go.Proofs.Qxb6618618a
open Go.RowKit

set_option maxRecDepth 100000 in
set_option maxHeartbeats 400000 in
/-- zzSameStrings at two slices that hold the same strings. -/
theorem same15 (ao bo : Option Addr) (len cap cap' : Nat) (S : Nat → ByteArray) (w : World) (hao : Strs w ao len S) (hbo : Strs w bo len S) (hl : len ≤ 65536) :
    Calls Try.prog 15 #[.slice ao len cap, .slice bo len cap'] w fun e w' => e = .returned (.bool true) ∧ ∃ n, w' = w.drewN n := by
  go_enter Try.func15, Try.ntmps15
  go_wp2
  go_loopw [5] (fun i wr => ∃ (k n : Nat), k ≤ len ∧ i = .int .i64 k ∧ wr = w.drewN n) (fun i _ => len - (intOf i).toNat)
  case atStart => exact ⟨0, 0, Nat.zero_le _, rfl, rfl⟩
  case round =>
    obtain ⟨k, n, hk, rfl, rfl⟩ := hrel
    by_cases hlt : k < len
    · obtain ⟨b, off, rfl, hb, hc⟩ := hao (by omega)
      obtain ⟨b', off', rfl, hb', hc'⟩ := hbo (by omega)
      have hck := hc k hlt
      have hck' := hc' k hlt
      have hi : (k : Int) < (len : Int) := by omega
      have hi0 : (0 : Int) ≤ (k : Int) := by omega
      clear hc hc' hao hbo
      go_wp2
      go_quiet (fail)
      go_wp2
      go_roundw
      case rel => exact ⟨k + 1, _, by omega, by go_num, rfl⟩
      case measure => simp [intOf]; omega
    · clear hao hbo
      go_wp2
      go_ret
      exact ⟨rfl, _, rfl⟩

set_option maxRecDepth 100000 in
set_option maxHeartbeats 400000 in
theorem bytes10 (ao : Option Addr) (len cap : Nat) (kk : Int) (S : Nat → ByteArray) (p q : ByteArray) (w : World) (hao : Strs w ao len S) (hS : ∀ i, (S i).size ≤ maxLen) (hl : len ≤ maxLen) :
    Calls Try.prog 10 #[.slice ao len cap, .int .i64 kk, .string p, .string q] w fun e w' => IsBool e ∧ w' = w := by
  unfold maxLen at hS hl
  by_cases h20 : (1048576 : Int) < (len : Int)
  · go_enter Try.func10, Try.ntmps10
    go_wp2
    go_ret
    exact ⟨isBool_mk _, rfl⟩
  go_enter Try.func10, Try.ntmps10
  go_wp2
  go_loop [9, 10] (fun n i => ∃ (k : Nat) (z : Int), k ≤ len ∧ i = .int .i64 k ∧ n = .int .i64 z) (fun _ i => len - (intOf i).toNat)
  case atStart => exact ⟨0, len, Nat.zero_le _, rfl, rfl⟩
  case round =>
    obtain ⟨k, z, hk, rfl, rfl⟩ := hrel
    by_cases hlt : k < len
    · obtain ⟨b, off, rfl, hb, hc⟩ := hao (by omega)
      have hck := hc k hlt
      have hsk := hS k
      clear hc hS
      go_wp2
      · go_ret
        exact ⟨isBool_mk _, rfl⟩
      · go_ret
        exact ⟨isBool_mk _, rfl⟩
      · go_round
        case rel => exact ⟨k + 1, _, by omega, by go_num, rfl⟩
        case measure => simp [intOf]; omega
    · clear hS hao
      go_wp2
      all_goals (go_ret; exact ⟨isBool_mk _, rfl⟩)
end Go.Proofs.Qxb6618618a
