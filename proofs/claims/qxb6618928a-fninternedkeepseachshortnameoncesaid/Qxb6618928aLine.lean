import Derived.Test.Qxb6618928aRows
import Derived.WalkKit
import Derived.WalkSpells
import Derived.WalkLawsBesides
import Derived.RegionTactic
import Derived.BigRegion
import Derived.Deep.QuietTactic
import Derived.BigQuiet
import Derived.Deep.OwnRows
import Derived.Laws.CopyOwn
namespace Go.Proofs.Qxb6618928a
open Go.RowKit

/-- It returned a bool. -/
def IsBool (e : Ending) : Prop := ∃ r : Bool, e = .returned (.bool r)
theorem isBool_mk (r : Bool) : IsBool (.returned (.bool r)) := ⟨r, rfl⟩

/-- seven ints as cells -/
abbrev arr7 (s0 s1 s2 s3 s4 s5 s6 : Int) : Array Value := #[.int .i64 s0, .int .i64 s1, .int .i64 s2, .int .i64 s3, .int .i64 s4, .int .i64 s5, .int .i64 s6]
abbrev lv (line : Value) (s0 s1 s2 s3 s4 s5 s6 : Int) : Array Value :=
  #[line, .int .i64 s0, .int .i64 0, .bool false, .int .i64 s1, .int .i64 0, .bool false, .int .i64 s2, .int .i64 0, .bool false, .int .i64 s3, .int .i64 0, .bool false, .int .i64 s4, .int .i64 0, .bool false, .int .i64 s5, .int .i64 0, .bool false, .int .i64 s6, .int .i64 0, .bool false, .int .i64 0, .int .i64 0]

set_option maxRecDepth 100000 in
set_option maxHeartbeats 400000 in
theorem bytes13 (ao : Option Addr) (n c : Nat) (s0 s1 s2 s3 s4 s5 s6 k j o b : Int) (w : World) :
    Calls Try.prog 13 #[.slice ao n c, .agg (arr7 s0 s1 s2 s3 s4 s5 s6), .int .i64 k, .int .i64 j, .int .i64 o, .int .u8 b] w fun e w' => IsBool e ∧ Below w.heap.size w w' := by
  go_enter Try.func13, Try.ntmps13
  go_wp2
  all_goals (go_ret; exact ⟨isBool_mk _, (Below.refl _ _).alloc (Nat.le_refl _) _⟩)

set_option maxRecDepth 100000 in
set_option maxHeartbeats 800000 in
theorem new15 (ao : Option Addr) (n c : Nat) (s0 s1 s2 s3 s4 s5 s6 : Int) (w : World) :
    Calls Try.prog 15 #[.slice ao n c, .agg (arr7 s0 s1 s2 s3 s4 s5 s6)] w fun e w' => e = .returned (.pointer (some ⟨w.heap.size + 1, 0, none⟩)) ∧ ∃ nd, w' = ((w.alloc (.cells (arr7 s0 s1 s2 s3 s4 s5 s6) 31)).alloc (.cells (lv (.slice ao n c) s0 s1 s2 s3 s4 s5 s6) 51)).drewN nd := by
  go_enter Try.func15, Try.ntmps15
  go_wp2
  refine wp_loop_rounds 8 ?_
  rw [rounds_succ]
  go_wp2
  go_region
  go_wp2
  rw [rounds_succ]
  go_wp2
  go_region
  go_wp2
  rw [rounds_succ]
  go_wp2
  go_region
  go_wp2
  rw [rounds_succ]
  go_wp2
  go_region
  go_wp2
  rw [rounds_succ]
  go_wp2
  go_region
  go_wp2
  rw [rounds_succ]
  go_wp2
  go_region
  go_wp2
  rw [rounds_succ]
  go_wp2
  go_region
  go_wp2
  rw [rounds_succ]
  go_wp2
  go_ret
  exact ⟨rfl, 7, rfl⟩

set_option maxRecDepth 100000 in
set_option maxHeartbeats 1600000 in
theorem is20 (p lb lo n c S K : Nat) (x : Int) (w : World) (hK : K < 7) (hS : S < n)
    (h0 : w.cell? ⟨p, 0, none⟩ = some (.slice (some ⟨lb, lo, none⟩) n c)) (h1 : w.cell? ⟨p, 1 + 3 * K, none⟩ = some (.int .i64 S)) (hx : w.cell? ⟨lb, lo + S, none⟩ = some (.int .u8 x)) :
    Calls Try.prog 20 #[.pointer (some ⟨p, 0, none⟩), .int .i64 K] w fun e w' => e = .returned (.bool (x == 34)) ∧ ∃ nd, w' = w.drewN nd := by
  have hi : (S : Int) < (n : Int) := by omega
  have hi0 : (0 : Int) ≤ (S : Int) := by omega
  match K, hK, h1 with
  | 0, _, h1 =>
    have h2 : w.cell? ⟨p, 1, none⟩ = some (.int .i64 S) := h1
    clear h1
    show Calls Try.prog 20 #[.pointer (some ⟨p, 0, none⟩), .int .i64 0] w _
    go_enter Try.func20, Try.ntmps20
    go_wp2
    go_quiet (fail)
    go_wp2
    go_ret
    exact ⟨rfl, _, rfl⟩
  | 1, _, h1 =>
    have h2 : w.cell? ⟨p, 4, none⟩ = some (.int .i64 S) := h1
    clear h1
    show Calls Try.prog 20 #[.pointer (some ⟨p, 0, none⟩), .int .i64 1] w _
    go_enter Try.func20, Try.ntmps20
    go_wp2
    go_quiet (fail)
    go_wp2
    go_ret
    exact ⟨rfl, _, rfl⟩
  | 2, _, h1 =>
    have h2 : w.cell? ⟨p, 7, none⟩ = some (.int .i64 S) := h1
    clear h1
    show Calls Try.prog 20 #[.pointer (some ⟨p, 0, none⟩), .int .i64 2] w _
    go_enter Try.func20, Try.ntmps20
    go_wp2
    go_quiet (fail)
    go_wp2
    go_ret
    exact ⟨rfl, _, rfl⟩
  | 3, _, h1 =>
    have h2 : w.cell? ⟨p, 10, none⟩ = some (.int .i64 S) := h1
    clear h1
    show Calls Try.prog 20 #[.pointer (some ⟨p, 0, none⟩), .int .i64 3] w _
    go_enter Try.func20, Try.ntmps20
    go_wp2
    go_quiet (fail)
    go_wp2
    go_ret
    exact ⟨rfl, _, rfl⟩
  | 4, _, h1 =>
    have h2 : w.cell? ⟨p, 13, none⟩ = some (.int .i64 S) := h1
    clear h1
    show Calls Try.prog 20 #[.pointer (some ⟨p, 0, none⟩), .int .i64 4] w _
    go_enter Try.func20, Try.ntmps20
    go_wp2
    go_quiet (fail)
    go_wp2
    go_ret
    exact ⟨rfl, _, rfl⟩
  | 5, _, h1 =>
    have h2 : w.cell? ⟨p, 16, none⟩ = some (.int .i64 S) := h1
    clear h1
    show Calls Try.prog 20 #[.pointer (some ⟨p, 0, none⟩), .int .i64 5] w _
    go_enter Try.func20, Try.ntmps20
    go_wp2
    go_quiet (fail)
    go_wp2
    go_ret
    exact ⟨rfl, _, rfl⟩
  | 6, _, h1 =>
    have h2 : w.cell? ⟨p, 19, none⟩ = some (.int .i64 S) := h1
    clear h1
    show Calls Try.prog 20 #[.pointer (some ⟨p, 0, none⟩), .int .i64 6] w _
    go_enter Try.func20, Try.ntmps20
    go_wp2
    go_quiet (fail)
    go_wp2
    go_ret
    exact ⟨rfl, _, rfl⟩

set_option maxRecDepth 100000 in
set_option maxHeartbeats 400000 in
theorem is14 (p lb lo n c S K : Nat) (x : Int) (w : World) (hK : K < 7) (hS : S < n)
    (h0 : w.cell? ⟨p, 0, none⟩ = some (.slice (some ⟨lb, lo, none⟩) n c)) (h1 : w.cell? ⟨p, 1 + 3 * K, none⟩ = some (.int .i64 S)) (hx : w.cell? ⟨lb, lo + S, none⟩ = some (.int .u8 x)) :
    Calls Try.prog 14 #[.pointer (some ⟨p, 0, none⟩), .int .i64 K] w fun e w' => e = .returned (.bool (x == 34)) ∧ ∃ nd, w' = w.drewN nd := by
  have C := is20 p lb lo n c S K x w hK hS h0 h1 hx
  clear h0 h1 hx hK hS
  go_enter Try.func14, Try.ntmps14
  go_wp2_with fail
  refine C.mono ?_
  rintro e w1 ⟨rfl, nd, rfl⟩
  go_wp2
  go_ret
  exact ⟨rfl, _, rfl⟩

theorem info5 : (Try.prog.info? 5).map (fun i => (i.zero, i.size, i.bytes)) = some (some (.int .u8 0), 1, 1) := by kernel_rfl

set_option maxRecDepth 100000 in
set_option maxHeartbeats 400000 in
/-- cloneBytes of a slice that holds Z. -/
theorem clone16 (b off n c : Nat) (Z : Nat → Int) (w : World) (hb : b < w.heap.size) (hn : n ≤ 1048576) (hc : ∀ j, j < n → w.cell? ⟨b, off + j, none⟩ = some (.int .u8 (Z j))) :
    Calls Try.prog 16 #[.slice (some ⟨b, off, none⟩) n c] w fun e w' => e = .returned (.slice (some ⟨w.heap.size, 0, none⟩) n n) ∧ w'.rowIs w.heap.size 5 n (fun i => .int .u8 (Z i)) ∧ Below w.heap.size w w' := by
  have hmk := run_make_row' (P := Try.prog) 24 5 (.int .u8 0) 1 Try.underlying24 info5 rfl .i64 .i64 n (by omega) (by omega)
  have q24 : ∀ (w : World) (r : Option Addr) (l c : Nat), (binOp .eql 24 (.slice r l c) (.slice none 0 0)).run Try.prog w = .ok (.bool r.isNone) w := fun w r l c => Lib.run_eql_slice_nil w _ _ r l c 0 0 Try.underlying24
  go_enter Try.func16, Try.ntmps16
  go_wp2
  go_loopw [4] (fun i wr => ∃ k : Nat, k ≤ n ∧ i = .int .i64 k ∧ wr.rowIs w.heap.size 5 n (fun i => if i < k then .int .u8 (Z i) else .int .u8 0) ∧ Below w.heap.size w wr) (fun i _ => n - (intOf i).toNat)
  case atStart => exact ⟨0, Nat.zero_le _, rfl, (World.rowIs_made w (.int .u8 0) n 5).congr (fun i _ => by simp), (Below.refl _ _).alloc (Nat.le_refl _) _⟩
  case round =>
    obtain ⟨k, hk, rfl, hrow, hnx⟩ := hrel
    by_cases hlt : k < n
    · have hck := (hnx.cell (p := ⟨b, off + k, none⟩) hb).trans (hc k hlt)
      have hold : ∃ x, wr.cell? ⟨w.heap.size, k, none⟩ = some x := ⟨_, hrow.cell hlt⟩
      obtain ⟨x, hx⟩ := hold
      have hfz := hrow.frozen k
      have R1 : (wr.setCell ⟨w.heap.size, k, none⟩ (.int .u8 (Z k))).rowIs w.heap.size 5 n (fun i => if i < k + 1 then .int .u8 (Z i) else .int .u8 0) := (hrow.set k (.int .u8 (Z k))).congr (fun i _ => by
        by_cases e : i = k
        · subst e; simp
        · simp only [e, if_false]
          by_cases h2 : i < k
          · simp [h2, show i < k + 1 by omega]
          · simp [h2, show ¬ i < k + 1 by omega])
      have R2 := hnx.setCell (p := ⟨w.heap.size, k, none⟩) (Nat.le_refl _) (.int .u8 (Z k))
      clear hc hrow
      go_wp2
      go_roundw
      case rel => exact ⟨k + 1, by omega, by go_num, R1, R2⟩
      case measure => simp [intOf]; omega
    · have R1 : wr.rowIs w.heap.size 5 n (fun i => .int .u8 (Z i)) := hrow.congr (fun i hi => by simp [show i < k by omega])
      clear hc hrow
      go_wp2
      go_ret
      exact ⟨rfl, R1, hnx⟩
end Go.Proofs.Qxb6618928a
