import Derived.Test.Qxb6618953aDoorZZ
namespace Go.Proofs.Qxb6618953aDoor
open Go.RowKit Go.Deep

theorem Qt.drewN (w : World) (n : Nat) : Qt w (w.drewN n) := ⟨rfl, rfl, rfl, rfl⟩

theorem sub_size (Z : Nat → Int) (a b : Nat) : (sub Z a b).size = b - a := by
  unfold sub strOfNums
  show ((((List.range (b - a)).map (fun j => Z (a + j))).map fun n => UInt8.ofNat n.toNat).toArray).size = b - a
  simp
theorem sub_at (Z : Nat → Int) (a b : Nat) (hZ : ∀ i, a ≤ i → i < b → 0 ≤ Z i ∧ Z i ≤ 255) (k : Nat) (h : k < (sub Z a b).size) : (((sub Z a b)[k]'h).toNat : Int) = Z (a + k) := by
  have hk : k < b - a := by rw [sub_size] at h; exact h
  have : (sub Z a b)[k]'h = UInt8.ofNat (Z (a + k)).toNat := by
    show ((((List.range (b - a)).map (fun j => Z (a + j))).map fun n => UInt8.ofNat n.toNat).toArray)[k]'(by simp; exact hk) = _
    simp
  rw [this]
  have := hZ (a + k) (by omega) (by omega)
  simp
  omega

set_option maxRecDepth 100000 in
set_option maxHeartbeats 400000 in
/-- sameBytes at two that are the same -/
theorem same8 (ao bo : Option Addr) (n c c' : Nat) (Z : Nat → Int) (w : World) (ha : Bys w ao n Z) (hb : Bys w bo n Z) (hn : n ≤ 2097152) :
    Calls Tryd.prog 8 #[.slice ao n c, .slice bo n c'] w fun e w' => e = .returned (.bool true) ∧ Qt w w' := by
  go_enter Tryd.func8, Tryd.ntmps8
  go_wp2
  go_loopw [5] (fun i wr => ∃ (k nd : Nat), k ≤ n ∧ i = .int .i64 k ∧ wr = w.drewN nd) (fun i _ => n - (intOf i).toNat)
  case atStart => exact ⟨0, 0, Nat.zero_le _, rfl, rfl⟩
  case round =>
    obtain ⟨k, nd, hk, rfl, rfl⟩ := hrel
    by_cases hlt : k < n
    · obtain ⟨b, off, rfl, hbl, hc⟩ := ha (by omega)
      obtain ⟨b2, off2, rfl, hbl2, hc2⟩ := hb (by omega)
      have hck := hc k hlt
      have hck2 := hc2 k hlt
      have hi : (k : Int) < (n : Int) := by omega
      have hi0 : (0 : Int) ≤ (k : Int) := by omega
      clear hc hc2 ha hb
      go_wp2
      go_quiet (fail)
      go_wp2
      go_roundw
      case rel => exact ⟨k + 1, _, by omega, by go_num, rfl⟩
      case measure => simp [intOf]; omega
    · clear ha hb
      go_wp2
      go_ret
      exact ⟨rfl, Qt.drewN _ _⟩

set_option maxRecDepth 100000 in
set_option maxHeartbeats 400000 in
/-- sameStringBytes at the very text -/
theorem sameS9 (T : ByteArray) (ao : Option Addr) (n c : Nat) (Z : Nat → Int) (w : World) (hb : Bys w ao n Z) (hn : n ≤ 2097152) (hT : T.size = n) (hat : ∀ k (h : k < T.size), ((T[k]'h).toNat : Int) = Z k) :
    Calls Tryd.prog 9 #[.string T, .slice ao n c] w fun e w' => e = .returned (.bool true) ∧ Qt w w' := by
  subst hT
  go_enter Tryd.func9, Tryd.ntmps9
  go_wp2
  go_loopw [5] (fun i wr => ∃ (k nd : Nat), k ≤ T.size ∧ i = .int .i64 k ∧ wr = w.drewN nd) (fun i _ => T.size - (intOf i).toNat)
  case atStart => exact ⟨0, 0, Nat.zero_le _, rfl, rfl⟩
  case round =>
    obtain ⟨k, nd, hk, rfl, rfl⟩ := hrel
    by_cases hlt : k < T.size
    · obtain ⟨b, off, rfl, hbl, hc⟩ := hb (by omega)
      have hck := hc k hlt
      have hatk := hat k hlt
      have hi : (k : Int) < (T.size : Int) := by omega
      have hi0 : (0 : Int) ≤ (k : Int) := by omega
      clear hc hb hat
      go_wp2
      go_quiet (fail)
      go_wp2
      go_roundw
      case rel => exact ⟨k + 1, _, by omega, by go_num, rfl⟩
      case measure => simp [intOf]; omega
    · clear hb hat
      go_wp2
      go_ret
      exact ⟨rfl, Qt.drewN _ _⟩

/-- sameStringBytes at a name that was read and the data's bytes -/
theorem sameN9 (ao : Option Addr) (a b n c : Nat) (Z : Nat → Int) (w : World) (hb : Bys w ao n (fun j => Z (a + j))) (hn : n ≤ 2097152) (he : n = b - a) (hZ : ∀ i, a ≤ i → i < b → 0 ≤ Z i ∧ Z i ≤ 255) :
    Calls Tryd.prog 9 #[.string (sub Z a b), .slice ao n c] w fun e w' => e = .returned (.bool true) ∧ Qt w w' :=
  sameS9 _ ao n c (fun j => Z (a + j)) w hb hn (by rw [sub_size, he]) (fun k h => sub_at Z a b hZ k h)

/-- It returned a bool. -/
def IsBool (e : Ending) : Prop := ∃ r : Bool, e = .returned (.bool r)
theorem isBool_mk (r : Bool) : IsBool (.returned (.bool r)) := ⟨r, rfl⟩
set_option maxRecDepth 100000 in
set_option maxHeartbeats 400000 in
theorem bytes5 (ao : Option Addr) (n c : Nat) (w : World) : Calls Tryd.prog 5 #[.slice ao n c] w fun e w' => IsBool e ∧ w' = w := by
  go_enter Tryd.func5, Tryd.ntmps5
  go_wp2
  all_goals (go_ret; exact ⟨isBool_mk _, rfl⟩)
set_option maxRecDepth 100000 in
set_option maxHeartbeats 400000 in
theorem bytes10 (ao bo : Option Addr) (n c m d : Nat) (k : Int) (w : World) : Calls Tryd.prog 10 #[.slice ao n c, .slice bo m d, .int .i64 k] w fun e w' => IsBool e ∧ w' = w := by
  go_enter Tryd.func10, Tryd.ntmps10
  go_wp2
  all_goals (go_ret; exact ⟨isBool_mk _, rfl⟩)
end Go.Proofs.Qxb6618953aDoor
