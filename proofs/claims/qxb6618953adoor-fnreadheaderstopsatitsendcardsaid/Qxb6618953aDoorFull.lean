import Derived.Test.Qxb6618953aDoorRead
import Derived.LaidEql
namespace Go.Proofs.Qxb6618953aDoor
open Go.RowKit Go.Deep

theorem Rdr.qt {w w' : World} {g : Nat} {sp : Option Addr} {N sc i : Nat} (h : Rdr w g sp N sc i) (q : Qt w w') : Rdr w' g sp N sc i := by
  obtain ⟨pr, T, h⟩ := h
  exact ⟨pr, T, h.of_block (by rw [q.heap])⟩
theorem Qt.refl (w : World) : Qt w w := ⟨rfl, rfl, rfl, rfl⟩
theorem Qt.trans {a b c : World} (h : Qt a b) (k : Qt b c) : Qt a c := ⟨k.os.trans h.os, k.tape.trans h.tape, k.output.trans h.output, k.heap.trans h.heap⟩

theorem comp53 : (Tryd.prog.info? 53).map (·.comparable) = some true := by kernel_rfl
theorem info73 : (Tryd.prog.info? 73).isSome = true := by kernel_rfl
theorem eql53 (a : Addr) (w : World) : (binOp .eql 32 (.iface 53 (.pointer (some a))) (.iface 53 (.pointer (some a)))).run Tryd.prog w = .ok (.bool true) w := by
  obtain ⟨i, hi, hc⟩ := Option.map_eq_some_iff.1 comp53
  obtain ⟨j, hj⟩ := Option.isSome_iff_exists.1 info73
  exact run_eql_iface_ptr_same w a Tryd.underlying32 Tryd.underlying53 hi hc hj

theorem nil_ahead (a : Addr) (w : World) : (nilAhead 181 35 (.pointer (some a)) "Read").run Tryd.prog w = .ok (some false) w := by kernel_rfl
theorem method_read (a : Addr) (w : World) : (method 181 35 (.pointer (some a)) "Read").run Tryd.prog w = .ok (34, .pointer (some a)) w := by kernel_rfl

/-- what stays as it is while a header is read -/
structure Ctx (w : World) (g B : Nat) (sp : Option Addr) (N sc : Nat) (Z : Nat → Int) : Prop where
  src : 0 < N → ∃ b off, sp = some ⟨b, off, none⟩ ∧ b < B ∧ b ≠ g ∧ ∀ j, j < N → w.cell? ⟨b, off + j, none⟩ = some (.int .u8 (Z j))
  cap : N ≤ sc
  len : N ≤ 1048576
  byte : ∀ j, j < N → 0 ≤ Z j ∧ Z j ≤ 255
  hg : 4 < g
  hB : 4 < B
  eof : ∃ a, w.cell? ⟨3, 0, none⟩ = some (.iface 53 (.pointer (some a)))
  ueof : ∃ a, w.cell? ⟨4, 0, none⟩ = some (.iface 53 (.pointer (some a)))
  sig : ∃ a c, w.cell? ⟨0, 0, none⟩ = some (.slice a 8 c)
theorem Ctx.later {w w' : World} {g B : Nat} {sp : Option Addr} {N sc : Nat} {Z : Nat → Int} (h : Ctx w g B sp N sc Z) (k : KB g B w w') : Ctx w' g B sp N sc Z := by
  have hg := h.hg
  have hB := h.hB
  obtain ⟨a3, h3⟩ := h.eof
  obtain ⟨a4, h4⟩ := h.ueof
  obtain ⟨a0, c0, h0⟩ := h.sig
  refine ⟨fun hN => ?_, h.cap, h.len, h.byte, hg, hB, ⟨a3, (k.cell (by omega) (by omega)).trans h3⟩, ⟨a4, (k.cell (by omega) (by omega)).trans h4⟩, ⟨a0, c0, (k.cell (by omega) (by omega)).trans h0⟩⟩
  obtain ⟨b, off, e, h1, h2, h3⟩ := h.src hN
  exact ⟨b, off, e, h1, h2, fun j hj => (k.cell h1 h2).trans (h3 j hj)⟩

/-- the row of the header: its first p bytes are the data's -/
def Hrow (w : World) (h C p : Nat) (Z : Nat → Int) : Prop := ∃ f, w.rowIs h 5 C f ∧ ∀ k, k < p → f k = .int .u8 (Z k)
theorem Hrow.heap {w w' : World} {h C p : Nat} {Z : Nat → Int} (H : Hrow w h C p Z) (e : w'.heap[h]? = w.heap[h]?) : Hrow w' h C p Z := by
  obtain ⟨f, h1, h2⟩ := H
  exact ⟨f, h1.of_block e, h2⟩

/-- how an error came back -/
def Err (ok : Prop) (v : Value) : Prop := (ok ∧ v = .nilIface) ∨ (¬ ok ∧ ∃ a, v = .iface 53 (.pointer (some a)))

set_option maxRecDepth 100000 in
set_option maxHeartbeats 800000 in
/-- ReadAtLeast at the end of the data -/
theorem atLeast_end (w : World) (g N sc : Nat) (sp ho : Option Addr) (m c : Nat) (ea : Addr) (hr : Rdr w g sp N sc N) (hE : w.cell? ⟨3, 0, none⟩ = some (.iface 53 (.pointer (some ea)))) (hm : 0 < m) (hm63 : m ≤ 1048576) :
    Calls Tryd.prog 17 #[.iface 35 (.pointer (some ⟨g, 0, none⟩)), .slice ho m c, .int .i64 m] w fun e w' => e = .returned (.tuple #[.int .i64 0, .iface 53 (.pointer (some ea))]) ∧ Qt w w' := by
  have C : ∀ W ho m c, Qt w W → Calls Tryd.prog 34 #[.pointer (some ⟨g, 0, none⟩), .slice ho m c] W fun e w' => e = .returned (.tuple #[.int .i64 0, .iface 53 (.pointer (some ea))]) ∧ Qt w w' := fun W ho m c q =>
    (read_end W g N sc sp ho m c _ (hr.qt q) ((q.cell _).trans hE)).mono (fun e w' ⟨h1, h2⟩ => ⟨h1, q.trans h2⟩)
  have hlt : (0 : Int) < (m : Int) := by omega
  have hna := nil_ahead
  have hme := method_read
  clear hr hE
  go_enter Tryd.func17, Tryd.ntmps17
  go_wp2
  refine wp_loop_rounds 2 ?_
  rw [rounds_succ]
  go_wp2
  go_region_with (go_at_call 34; refine (C _ _ _ _ (by exact ⟨rfl, rfl, rfl, rfl⟩)).mono ?_; rintro e w1 ⟨rfl, q1⟩)
  all_goals go_wp2
  all_goals rw [rounds_succ]
  all_goals go_wp2
  all_goals go_ret2
  all_goals exact ⟨rfl, q1⟩

set_option maxRecDepth 100000 in
set_option maxHeartbeats 1600000 in
/-- ReadAtLeast, all there -/
theorem atLeast_all (w : World) (g B N sc h p m dc C : Nat) (sp : Option Addr) (Z : Nat → Int) (hx : Ctx w g B sp N sc Z) (hr : Rdr w g sp N sc p) (hh : Hrow w h C p Z) (hm : 0 < m) (hall : p + m ≤ N) (hC : p + m ≤ C) (hhB : B ≤ h) (hhg : h ≠ g) :
    Calls Tryd.prog 17 #[.iface 35 (.pointer (some ⟨g, 0, none⟩)), .slice (some ⟨h, p, none⟩) m dc, .int .i64 m] w fun e w' => e = .returned (.tuple #[.int .i64 m, .nilIface]) ∧
      Rdr w' g sp N sc (p + m) ∧ Hrow w' h C (p + m) Z ∧ KB g B w w' := by
  have hlen := hx.len
  obtain ⟨b, off, rfl, hb1, hb2, hb3⟩ := hx.src (by omega)
  obtain ⟨f, hf1, hf2⟩ := hh
  have C : ∀ W, Qt w W → Calls Tryd.prog 34 #[.pointer (some ⟨g, 0, none⟩), .slice (some ⟨h, p, none⟩) m dc] W fun e w' => e = .returned (.tuple #[.int .i64 m, .nilIface]) ∧
      Hid (Rdr w' g (some ⟨b, off, none⟩) N sc (p + m) ∧ Hrow w' h C (p + m) Z ∧ KB g B w w') := fun W q => by
    refine (read_some W g N sc b off h p m dc C Z f (hr.qt q) hlen (by omega) hx.cap hC (hf1.of_block (by rw [q.heap])) (fun j hj => (q.cell _).trans (hb3 j hj)) hb2 hhg (by omega)).mono ?_
    rw [show min (N - p) m = m by omega]
    rintro e w' ⟨h1, h2, h3, h4, h5⟩
    refine ⟨h1, h2, ⟨_, h3, fun k hk => ?_⟩, (q.kb g B).trans (h4 B hhB)⟩
    by_cases hk2 : p ≤ k
    · rw [if_pos ⟨hk2, hk⟩]
    · rw [if_neg (by omega)]
      exact hf2 k (by omega)
  have hlt : (0 : Int) < (m : Int) := by omega
  have hna := nil_ahead
  have hme := method_read
  clear hr hf1 hf2 hb3 hx
  go_enter Tryd.func17, Tryd.ntmps17
  go_wp2
  refine wp_loop_rounds 2 ?_
  rw [rounds_succ]
  go_wp2
  go_region_with (go_at_call 34; refine (C _ (by exact ⟨rfl, rfl, rfl, rfl⟩)).mono ?_; rintro e w1 ⟨rfl, q1⟩)
  all_goals go_wp2
  all_goals rw [rounds_succ]
  all_goals go_wp2
  all_goals go_ret2
  all_goals exact ⟨rfl, q1.out⟩

set_option maxRecDepth 100000 in
set_option maxHeartbeats 1600000 in
/-- ReadAtLeast, some there -/
theorem atLeast_some (w : World) (g B N sc h p m dc C : Nat) (sp : Option Addr) (Z : Nat → Int) (hx : Ctx w g B sp N sc Z) (hr : Rdr w g sp N sc p) (hh : Hrow w h C p Z) (hsome : p < N) (hall : N < p + m) (hC : p + m ≤ C) (hm63 : m ≤ 1048576) (hdc : m ≤ dc) (hhB : B ≤ h) (hhg : h ≠ g) :
    Calls Tryd.prog 17 #[.iface 35 (.pointer (some ⟨g, 0, none⟩)), .slice (some ⟨h, p, none⟩) m dc, .int .i64 m] w fun e w' => ∃ ea, e = .returned (.tuple #[.int .i64 (N - p : Nat), .iface 53 (.pointer (some ea))]) ∧
      Rdr w' g sp N sc N ∧ Hrow w' h C N Z ∧ KB g B w w' := by
  have hlen := hx.len
  obtain ⟨b, off, rfl, hb1, hb2, hb3⟩ := hx.src (by omega)
  obtain ⟨f, hf1, hf2⟩ := hh
  obtain ⟨ea, hea⟩ := hx.eof
  obtain ⟨ua, hua⟩ := hx.ueof
  have hB4 := hx.hB
  have hg4 := hx.hg
  have C : ∀ W, Qt w W → Calls Tryd.prog 34 #[.pointer (some ⟨g, 0, none⟩), .slice (some ⟨h, p, none⟩) m dc] W fun e w' => e = .returned (.tuple #[.int .i64 (N - p : Nat), .nilIface]) ∧
      Hid (Rdr w' g (some ⟨b, off, none⟩) N sc N ∧ Hrow w' h C N Z ∧ KB g B w w') := fun W q => by
    refine (read_some W g N sc b off h p m dc C Z f (hr.qt q) hlen (by omega) hx.cap hC (hf1.of_block (by rw [q.heap])) (fun j hj => (q.cell _).trans (hb3 j hj)) hb2 hhg (by omega)).mono ?_
    rw [show min (N - p) m = N - p by omega, show p + (N - p) = N by omega]
    rintro e w' ⟨h1, h2, h3, h4, h5⟩
    refine ⟨h1, h2, ⟨_, h3, fun k hk => ?_⟩, (q.kb g B).trans (h4 B hhB)⟩
    by_cases hk2 : p ≤ k
    · rw [if_pos ⟨hk2, hk⟩]
    · rw [if_neg (by omega)]
      exact hf2 k (by omega)
  have C2 : ∀ W0 W ho m c, Rdr W0 g (some ⟨b, off, none⟩) N sc N → KB g B w W0 → Qt W0 W → Calls Tryd.prog 34 #[.pointer (some ⟨g, 0, none⟩), .slice ho m c] W fun e w' => e = .returned (.tuple #[.int .i64 0, .iface 53 (.pointer (some ea))]) ∧ Qt W0 w' := fun W0 W ho m c h1 h2 q =>
    (read_end W g N sc _ ho m c _ (h1.qt q) ((q.cell _).trans ((h2.cell (by omega) (by omega)).trans hea))).mono (fun e w' ⟨h1, h2⟩ => ⟨h1, q.trans h2⟩)
  have hlt : (0 : Int) < (m : Int) := by omega
  have hlt1 : ((N - p : Nat) : Int) < (m : Int) := by omega
  have hlt2 : ((N - p : Nat) : Int) > 0 := by omega
  have hle2 : ((N - p : Nat) : Int) ≤ (m : Int) := by omega
  have hle3 : (0 : Int) ≤ ((N - p : Nat) : Int) := by omega
  have hle4 : N - p ≤ 1048576 := by omega
  obtain ⟨q, hq⟩ : ∃ q, q = N - p := ⟨_, rfl⟩
  rw [← hq] at hlt1 hlt2 hle2 hle3 hle4 C ⊢
  have heq := eql53
  have hdq : ¬ (dc = q) := by omega
  have hna := nil_ahead
  have hme := method_read
  clear hr hf1 hf2 hb3 hx hq hall hsome
  go_enter Tryd.func17, Tryd.ntmps17
  go_wp2
  refine wp_loop_rounds 3 ?_
  rw [rounds_succ]
  go_wp2
  go_region_with (go_at_call 34; refine (C _ (by exact ⟨rfl, rfl, rfl, rfl⟩)).mono ?_; rintro e w1 ⟨rfl, q1⟩)
  all_goals clear C
  all_goals go_wp2
  all_goals rw [rounds_succ]
  all_goals go_wp2
  obtain ⟨q2, q3, q4⟩ := q1.out
  go_region_with (go_at_call 34; refine (C2 w1 _ _ _ _ q2 q4 (by exact ⟨rfl, rfl, rfl, rfl⟩)).mono ?_; rintro e w2 ⟨rfl, q5⟩)
  all_goals have h31 := (q5.cell _).trans ((q4.cell (o := 0) (show 3 < B by omega) (show 3 ≠ g by omega)).trans hea)
  all_goals have h41 := (q5.cell _).trans ((q4.cell (o := 0) (show 4 < B by omega) (show 4 ≠ g by omega)).trans hua)
  all_goals have HQ : Hid (Rdr w2 g (some ⟨b, off, none⟩) N sc N ∧ Hrow w2 h C N Z ∧ KB g B w w2) := ⟨q2.qt q5, q3.heap (by rw [q5.heap]), q4.trans (q5.kb g B)⟩
  all_goals clear C2 q2 q3 q4 q5 q1
  all_goals go_wp2
  all_goals rw [rounds_succ]
  all_goals go_wp2
  all_goals go_ret2
  all_goals exact ⟨ua, rfl, HQ.out⟩
end Go.Proofs.Qxb6618953aDoor
