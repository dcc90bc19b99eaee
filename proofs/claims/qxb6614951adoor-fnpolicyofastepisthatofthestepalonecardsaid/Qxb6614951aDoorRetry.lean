import Derived.Test.Qxb6614951aDoorRows
import Derived.WalkKit
import Derived.WalkSpells
import Derived.WalkLawsBesides
import Derived.RegionTactic
import Derived.BigRegion
import Derived.Deep.QuietTactic
import Derived.BigQuiet
import Derived.Deep.OwnRows
import Derived.Deep.CutRange
import Derived.Laws.StructEq
namespace Go.Proofs.Qxb6614951aDoor
open Go.RowKit Go.Deep

/-- the four cells of a policy -/
abbrev pc (a b : Int) (f : Nat) (d : Int) : Array Value := #[.int .i64 a, .int .i64 b, .float .f64 f, .int .i64 d]
theorem storef (a : Addr) (k : FloatKind) (n : Nat) (m : Mode) (w : World) : (store a (.float k n) m).run Tryd.prog w = stored Tryd.prog w a (.float k n) m := run_store _ w a _ m rfl

theorem below2 (w : World) (A B : Obj) : Below w.heap.size w ((w.alloc A).alloc B) := by
  have b1 := (Below.refl w.heap.size w).alloc (Nat.le_refl _) A
  exact b1.alloc b1.size B

set_option maxRecDepth 100000 in
set_option maxHeartbeats 400000 in
theorem retry13 (a b : Int) (f : Nat) (d : Int) (w : World) :
    Calls Tryd.prog 13 #[.int .i64 a, .int .i64 b, .float .f64 f, .int .i64 d] w fun e w' => e = .returned (.agg (pc a b f d)) ∧ w' = w.alloc (.cells (pc a b f d) 35) := by
  have hst := storef
  go_enter Tryd.func13, Tryd.ntmps13
  go_wp2
  refine bodyPost_ret (v := .agg (pc a b f d)) ?_ rfl ⟨rfl, rfl⟩
  simp [results, Tryd.results13, go_sem]

set_option maxRecDepth 100000 in
set_option maxHeartbeats 400000 in
theorem retry9 (a b : Int) (f : Nat) (d : Int) (w : World) :
    Calls Tryd.prog 9 #[.agg (pc a b f d)] w fun e w' => e = .returned (.agg (pc a b f d)) ∧ Below w.heap.size w w' := by
  have hst := storef
  have C := retry13 a b f d
  have b3 : ∀ A B D, Below w.heap.size w (((w.alloc A).alloc B).alloc D) := fun A B D => (below2 w A B).alloc (below2 w A B).size D
  go_enter Tryd.func9, Tryd.ntmps9
  go_wp2_with fail
  refine (C _).mono ?_
  rintro e w1 ⟨rfl, rfl⟩
  clear C
  go_wp2
  refine bodyPost_ret (v := .agg (pc a b f d)) ?_ rfl ⟨rfl, b3 _ _ _⟩
  simp [results, Tryd.results9, go_sem]

set_option maxRecDepth 100000 in
set_option maxHeartbeats 400000 in
theorem fields11 (a b : Int) (f : Nat) (d : Int) (w : World) :
    Calls Tryd.prog 11 #[.agg (pc a b f d)] w fun e w' => e = .returned (.tuple (pc a b f d)) ∧ Below w.heap.size w w' := by
  have b1 : ∀ A, Below w.heap.size w (w.alloc A) := fun A => (Below.refl w.heap.size w).alloc (Nat.le_refl _) A
  go_enter Tryd.func11, Tryd.ntmps11
  go_wp2
  go_quiet (fail)
  go_wp2
  refine bodyPost_ret (v := .tuple (pc a b f d)) (by simp [results, Tryd.results11, go_sem]) rfl ⟨rfl, ⟨rfl, rfl, rfl, (b1 _).size, (b1 _).block⟩⟩

set_option maxRecDepth 100000 in
set_option maxHeartbeats 400000 in
theorem new14 (p : Addr) (w : World) :
    Calls Tryd.prog 14 #[.pointer (some p), .string ⟨#[]⟩, .slice none 0 0] w fun e w' => ∃ g, e = .returned (.pointer (some ⟨g, 0, none⟩)) ∧ g < w'.heap.size ∧ w'.cell? ⟨g, 0, none⟩ = some (.pointer (some p)) ∧ Below w.heap.size w w' := by
  have hmm := @run_makeMap Tryd.prog
  go_enter Tryd.func14, Tryd.ntmps14
  go_wp2
  go_ret
  refine ⟨w.heap.size + 1, rfl, by simp, ?_, below2 w _ _⟩
  have h := blk_alloc_new (w.alloc (.map #[] 0)) (.cells #[.pointer (some p), .string ⟨#[]⟩, .slice none 0 0, .map (some w.heap.size), .slice none 0 0, .int .i64 0, .nilIface, .slice none 0 0, .slice none 0 0, .slice none 0 0, .int .i64 0, .bool false, .string ⟨#[]⟩, .string ⟨#[]⟩, .string ⟨#[]⟩, .int .i64 0, .int .i64 0, .int .i64 0, .string ⟨#[]⟩, .slice none 0 0, .int .i64 0, .int .u64 0, .int .i64 0, .pointer none, .nilFunc] 76)
  have e1 : (w.alloc (.map #[] 0)).heap.size = w.heap.size + 1 := by simp
  rw [e1] at h
  show World.cell? _ _ = _
  unfold World.cell?
  rw [h]
  rfl

set_option maxRecDepth 100000 in
set_option maxHeartbeats 400000 in
theorem new10 (p : Addr) (w : World) :
    Calls Tryd.prog 10 #[.pointer (some p), .string ⟨#[]⟩, .slice none 0 0] w fun e w' => ∃ g, e = .returned (.pointer (some ⟨g, 0, none⟩)) ∧ Hid (g < w'.heap.size ∧ w'.cell? ⟨g, 0, none⟩ = some (.pointer (some p)) ∧ Below w.heap.size w w') := by
  have C := new14 p w
  go_enter Tryd.func10, Tryd.ntmps10
  go_wp2_with fail
  refine C.mono ?_
  rintro e w1 ⟨g, rfl, h1, h2, h3⟩
  have H : Hid (g < w1.heap.size ∧ w1.cell? ⟨g, 0, none⟩ = some (.pointer (some p)) ∧ Below w.heap.size w w1) := ⟨h1, h2, h3⟩
  clear C h1 h2 h3
  go_wp2
  go_ret
  exact ⟨g, rfl, H⟩

/-- is it the zero policy, as Go's == sees it? -/
def isZ (a b : Int) (f : Nat) (d : Int) : Bool := a == 0 && (b == 0 && (Op.floatEq .f64 f 0 && d == 0))
theorem fields35 : Tryd.prog.underlying 35 = some (.struct (Tryd.prog.fieldsOf 35)) := by kernel_rfl
theorem stood35 : Tryd.prog.stoodInHeld 35 = false := by kernel_rfl
theorem list35 : (Tryd.prog.fieldsOf 35).toList = [{ name := "MaxAttempts", type := 3, offset := 0, embedded := false, tag := "", pkgPath := "", byteOffset := 0 },
        { name := "FirstDelay", type := 33, offset := 1, embedded := false, tag := "", pkgPath := "", byteOffset := 8 },
        { name := "Factor", type := 23, offset := 2, embedded := false, tag := "", pkgPath := "", byteOffset := 16 },
        { name := "MaxDelay", type := 33, offset := 3, embedded := false, tag := "", pkgPath := "", byteOffset := 24 }] := by kernel_rfl
/-- how policies are compared -/
theorem neq35 (a b : Int) (f : Nat) (d : Int) (w : World) : (binOp .neq 35 (.agg (pc a b f d)) (.agg (pc 0 0 0 0))).run Tryd.prog w = .ok (.bool (!isZ a b f d)) w := by
  have eqf : ∀ dd x y, (Op.equalIn (dd + 1) 23 (.float .f64 x) (.float .f64 y)).run Tryd.prog w = .ok (Op.floatEq .f64 x y) w := fun dd x y => by simp [Op.equalIn, run_underlying Tryd.underlying23]
  rw [run_neq_struct, run_equalIn_agg w 9999 35 _ _ fields35 stood35, list35]
  simp [Op.eqFields, go_sem, eqf]
  unfold isZ
  by_cases h1 : a = 0 <;> by_cases h2 : b = 0 <;> by_cases h4 : d = 0 <;> cases h3 : Op.floatEq .f64 f 0 <;> simp [h1, h2, h4]
end Go.Proofs.Qxb6614951aDoor
