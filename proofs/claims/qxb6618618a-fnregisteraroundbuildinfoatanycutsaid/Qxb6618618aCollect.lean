import Derived.Test.Qxb6618618aReg
import Derived.Test.Qxb6618618aSame
namespace Go.Proofs.Qxb6618618a
open Go.RowKit Go.Maps Go.WideMaps
open Go.MuLone

theorem mk58 (w : World) : (Instr.makeSlice 58 (.int .i64 1) (.int .i64 1)).run Try.prog w = .ok (.slice (some ⟨w.heap.size, 0, none⟩) 1 1) (w.alloc (.cells #[.float .f64 0] 62)) := by kernel_rfl
theorem mk59 (w : World) : (Instr.makeSlice 59 (.int .i64 1) (.int .i64 1)).run Try.prog w = .ok (.slice (some ⟨w.heap.size, 0, none⟩) 1 1) (w.alloc (.cells #[.slice none 0 0] 22)) := by kernel_rfl
theorem eqnil51 (q : Nat) (w : World) : (binOp .eql 51 (.func (.func 21) #[] #[.pointer (some ⟨q, 0, none⟩)]) .nilFunc).run Try.prog w = .ok (.bool false) w := by kernel_rfl

set_option maxRecDepth 100000 in
set_option maxHeartbeats 400000 in
theorem closure21 (q : Nat) (sa : Option Addr) (l c : Nat) (w : World) (h : w.cell? ⟨q, 0, none⟩ = some (.slice sa l c)) :
    Calls Try.prog 21 #[.pointer (some ⟨q, 0, none⟩)] w fun e w' => e = .returned (.slice (some ⟨w.heap.size, 0, none⟩) 1 1) ∧ w' = w.alloc (.cells #[.slice sa l c, .float .f64 4607182418800017408] 69) := by
  go_enter Try.func21, Try.ntmps21
  go_wp2
  go_ret
  exact ⟨rfl, rfl⟩

set_option maxRecDepth 100000 in
set_option maxHeartbeats 800000 in
theorem collect16 (w : World) (R b q : Nat) (ents : List (ByteArray × Nat)) (s : ByteArray) (sa : Option Addr) (l c : Nat) (hs : s.size ≤ maxLen) (h : Reg w R ents) (hb : lookE ents s = some b)
    (k4 : w.cell? ⟨b, 4, none⟩ = some (.func (.func 21) #[] #[.pointer (some ⟨q, 0, none⟩)])) (kq : w.cell? ⟨q, 0, none⟩ = some (.slice sa l c)) :
    Calls Try.prog 16 #[.pointer (some ⟨R, 0, none⟩), .string s] w fun e w' => e = .returned (.tuple #[.slice (some ⟨w.heap.size + 1, 0, none⟩) 1 1, .slice (some ⟨w.heap.size + 2, 0, none⟩) 1 1]) ∧
      w' = ((w.alloc (.cells #[.slice sa l c, .float .f64 4607182418800017408] 69)).alloc (.cells #[.float .f64 4607182418800017408] 62)).alloc (.cells #[.slice sa l c] 22) := by
  have hkey := keyOf_string_mk Try.underlying9 hs
  rcases h.m with ⟨rfl, c2⟩ | ⟨M, D, c2, hRM, hown, hat, hsz⟩
  · simp [lookE] at hb
  · obtain ⟨v, ps, hrun, hv⟩ := hown.lookup law9 Try.underlying33 (zero45 _) (zd := .nil) (zp := []) rfl hkey
    rw [(hat s hs).1] at hv
    unfold lookD at hv
    rw [hb] at hv
    have hv' := metElem_inv hv
    subst hv'
    clear hat hv hown hb
    have ha := assert48 b w
    have m8 := mk58
    have m9 := mk59
    have e51 := eqnil51
    have hstf : ∀ (a : Addr) (k : FloatKind) (n : Nat) (m : Mode) (w : World), (store a (.float k n) m).run Try.prog w = stored Try.prog w a (.float k n) m := fun a k n m w => run_store _ w a _ m rfl
    go_enter Try.func16, Try.ntmps16
    go_wp2_with fail
    refine (closure21 q sa l c _ kq).mono ?_
    rintro e w' ⟨rfl, rfl⟩
    go_wp2
    refine wp_loop_rounds 2 ?_
    rw [rounds_succ]
    go_wp2
    rw [rounds_succ]
    go_wp2
    go_ret2
    exact ⟨rfl, rfl⟩

abbrev BN : ByteArray := ⟨#[103, 114, 97, 110, 116, 108, 105, 110, 101, 95, 98, 117, 105, 108, 100, 95, 105, 110, 102, 111]⟩
abbrev gaugeS : ByteArray := ⟨#[103, 97, 117, 103, 101]⟩
abbrev revS : ByteArray := ⟨#[114, 101, 118, 105, 115, 105, 111, 110]⟩
abbrev verS : ByteArray := ⟨#[118, 101, 114, 115, 105, 111, 110]⟩
def two (x y : ByteArray) (j : Nat) : ByteArray := if j = 0 then x else y

/-- The build info's metric, whole, at block b. -/
structure BuildAt (w : World) (b : Nat) (v rv : ByteArray) : Prop where
  all : ∃ (g c1 q vb c2 : Nat) (cur1 cur2 : Array Value) (hp : ByteArray),
    w.heap[b]? = some (.cells #[.string BN, .string hp, .slice (some ⟨g, 0, none⟩) 2 c1, .string gaugeS, .func (.func 21) #[] #[.pointer (some ⟨q, 0, none⟩)]] 53) ∧
    w.heap[g]? = some (.cells cur1 9) ∧ cur1[0]? = some (.string revS) ∧ cur1[1]? = some (.string verS) ∧
    w.heap[q]? = some (.cells #[.slice (some ⟨vb, 0, none⟩) 2 c2] 22) ∧
    w.heap[vb]? = some (.cells cur2 9) ∧ cur2[0]? = some (.string rv) ∧ cur2[1]? = some (.string v)

theorem strs_two {w : World} {g : Nat} {cur : Array Value} {t : TypeId} {fr : Nat × Nat} {x y : ByteArray} (h : w.heap[g]? = some (.cells cur t fr)) (h0 : cur[0]? = some (.string x)) (h1 : cur[1]? = some (.string y)) :
    Strs w (some ⟨g, 0, none⟩) 2 (two x y) := fun _ => ⟨g, 0, rfl, (Array.getElem?_eq_some_iff.1 h).1, fun j hj => by
  match j, hj with
  | 0, _ => simpa [two] using cell_blk h h0
  | 1, _ => simpa [two] using cell_blk h h1⟩

theorem neq62 (w : World) : (binOp .neq 62 (.float .f64 4607182418800017408) (.float .f64 4607182418800017408)).run Try.prog w = .ok (.bool false) w := by kernel_rfl

theorem blk_later {w w' : World} {g : Nat} {o : Obj} (h : w.heap[g]? = some o) (hb : ∀ k, k < w.heap.size → w'.heap[k]? = w.heap[k]?) : w'.heap[g]? = some o :=
  (hb g (Array.getElem?_eq_some_iff.1 h).1).trans h

theorem below_dr {B : Nat} {a w : World} (h : Below B a w) (n : Nat) : Below B a (w.drewN n) := ⟨h.os, h.tape, h.output, h.size, h.block⟩
theorem chain5 (w : World) (n1 n2 : Nat) (A B C D E : Obj) : Below w.heap.size w (((((((w.drewN n1).alloc A).drewN n2).alloc B).alloc C).alloc D).alloc E) := by
  have h1 : Below w.heap.size w (((w.drewN n1).alloc A).drewN n2) := below_dr ((below_dr (Below.refl _ w) n1).alloc (Nat.le_refl _) A) n2
  have h2 := h1.alloc h1.size B
  have h3 := h2.alloc h2.size C
  have h4 := h3.alloc h3.size D
  exact h4.alloc h4.size E
theorem new5 (w : World) (n1 n2 : Nat) (A B C D E : Obj) : (((((((w.drewN n1).alloc A).drewN n2).alloc B).alloc C).alloc D).alloc E).heap[w.heap.size + 1 + 1 + 1 + 1]? = some E := by
  have := heap_alloc_new ((((((w.drewN n1).alloc A).drewN n2).alloc B).alloc C).alloc D) E
  rwa [show ((((((w.drewN n1).alloc A).drewN n2).alloc B).alloc C).alloc D).heap.size = w.heap.size + 1 + 1 + 1 + 1 from by simp] at this

set_option maxRecDepth 100000 in
set_option maxHeartbeats 1000000 in
theorem intact12 (w : World) (R b : Nat) (ents : List (ByteArray × Nat)) (v rv : ByteArray) (h : Reg w R ents) (hb : lookE ents BN = some b) (hB : BuildAt w b v rv) :
    Calls Try.prog 12 #[.pointer (some ⟨R, 0, none⟩), .string v, .string rv] w fun e w' => e = .returned (.bool true) ∧ Below w.heap.size w w' := by
  obtain ⟨g, c1, q, vb, c2, cur1, cur2, hp, hbb, hg, g0, g1, hq, hv, v0, v1⟩ := hB.all
  have n62 := neq62
  have HB : Hid (lookE ents BN = some b) := hb
  have HBB := hbb
  have H1 : Hid (w.heap[b]? = some (.cells #[.string BN, .string hp, .slice (some ⟨g, 0, none⟩) 2 c1, .string gaugeS, .func (.func 21) #[] #[.pointer (some ⟨q, 0, none⟩)]] 53)) := hbb
  have H2 : Hid (w.heap[g]? = some (.cells cur1 9)) := hg
  have H3 : Hid (cur1[0]? = some (.string revS)) := g0
  have H4 : Hid (cur1[1]? = some (.string verS)) := g1
  have H5 : Hid (w.heap[q]? = some (.cells #[.slice (some ⟨vb, 0, none⟩) 2 c2] 22)) := hq
  have H6 : Hid (w.heap[vb]? = some (.cells cur2 9)) := hv
  have H7 : Hid (cur2[0]? = some (.string rv)) := v0
  have H8 : Hid (cur2[1]? = some (.string v)) := v1
  clear hb hbb HBB hg g0 g1 hq hv v0 v1 hB
  go_enter Try.func12, Try.ntmps12
  go_wp2_with fail
  refine (family_any _ R b ents BN BN hp gaugeS (some ⟨g, 0, none⟩) 2 c1 (by decide) h HB.out (cell_blk H1.out rfl) (cell_blk H1.out rfl) (cell_blk H1.out rfl) (cell_blk H1.out rfl)).mono ?_
  rintro e w1 ⟨rfl, n1, rfl⟩
  go_wp2_with fail
  have K1 : Hid (∀ (o : Obj) k, k < w.heap.size → ((w.drewN n1).alloc o).heap[k]? = w.heap[k]?) := fun o k hk => RowKit.Below.heap_alloc (w.drewN n1) o k hk
  refine (same15 (some ⟨g, 0, none⟩) (some ⟨w.heap.size, 0, none⟩) 2 c1 2 (two revS verS) _ (by exact strs_two (blk_later H2.out (K1.out _)) H3.out H4.out) (by exact strs_two (heap_alloc_new (w.drewN n1) _) rfl rfl) (by decide)).mono ?_
  rintro e w2 ⟨rfl, n2, rfl⟩
  go_wp2_with fail
  refine (collect16 _ R b q ents BN (some ⟨vb, 0, none⟩) 2 c2 (by decide) (by exact ((h.of_heap (w' := w.drewN n1) rfl).alloc _).of_heap rfl) HB.out (by exact cell_blk (blk_later H1.out (K1.out _)) rfl) (by exact cell_blk (blk_later H5.out (K1.out _)) rfl)).mono ?_
  rintro e w3 ⟨rfl, rfl⟩
  go_wp2_with fail
  refine (same15 (some ⟨vb, 0, none⟩) (some ⟨w.heap.size + 1 + 1 + 1 + 1, 0, none⟩) 2 c2 2 (two rv v) _ (by exact strs_two (blk_later H6.out (chain5 w n1 n2 _ _ _ _ _).block) H7.out H8.out) (by exact strs_two (new5 w n1 n2 _ _ _ _ _) rfl rfl) (by decide)).mono ?_
  rintro e w4 ⟨rfl, n3, rfl⟩
  go_wp2
  go_ret
  exact ⟨rfl, below_dr (chain5 w n1 n2 _ _ _ _ _) n3⟩
end Go.Proofs.Qxb6618618a
