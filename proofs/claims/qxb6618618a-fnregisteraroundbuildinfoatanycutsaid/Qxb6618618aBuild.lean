import Derived.Test.Qxb6618618aCollect
import Derived.Test.Qxb6618618aIter
namespace Go.Proofs.Qxb6618618a
open Go.RowKit Go.Maps Go.WideMaps Go.Sort
open Go.MuLone

theorem Reg.of_below {w w' : World} {R : Nat} {ents : List (ByteArray × Nat)} (h : Reg w R ents) (hb : Below w.heap.size w w') : Reg w' R ents := by
  have hR : R < w.heap.size := World.block_lt_of_cell? _ _ h.c0
  refine ⟨(hb.cell (p := ⟨R, 0, none⟩) hR).trans h.c0, (hb.frozen (p := ⟨R, 0, none⟩) hR).trans h.f0, (hb.frozen (p := ⟨R, 2, none⟩) hR).trans h.f2, ?_⟩
  rcases h.m with ⟨h1, h2⟩ | ⟨M, D, h1, h2, h3, h4⟩
  · exact .inl ⟨h1, (hb.cell (p := ⟨R, 2, none⟩) hR).trans h2⟩
  · refine .inr ⟨M, D, (hb.cell (p := ⟨R, 2, none⟩) hR).trans h1, h2, ?_, h4⟩
    have hlt := h3.lt
    obtain ⟨es, cl, hh, r⟩ := h3
    exact ⟨es, cl, (hb.block M hlt).trans hh, r⟩

theorem KC.of_below {R : Nat} {w w' : World} (hb : Below w.heap.size w w') : KC R w w' := fun b _ _ _ _ h => (hb.block b (Array.getElem?_eq_some_iff.1 h).1).trans h

theorem BuildAt.kept {w w' : World} {R b : Nat} {v rv : ByteArray} {ents : List (ByteArray × Nat)} (h : BuildAt w b v rv) (hr : Reg w R ents) (hk : KC R w w') : BuildAt w' b v rv := by
  obtain ⟨g, c1, q, vb, c2, cur1, cur2, hp, hbb, hg, g0, g1, hq, hv, v0, v1⟩ := h.all
  have n : ∀ (x : Nat) (cs : Array Value) (t : TypeId) (u : Value), w.heap[x]? = some (.cells cs t) → cs[0]? = some u → u ≠ .int .i32 0 → x ≠ R := by
    intro x cs t u h1 h2 h3 e
    subst e
    have := (cell_blk h1 h2).symm.trans hr.c0
    exact h3 (Option.some.inj this)
  exact ⟨g, c1, q, vb, c2, cur1, cur2, hp, hk _ _ _ _ (n b _ _ _ hbb rfl (by simp)) hbb, hk _ _ _ _ (n g _ _ _ hg g0 (by simp)) hg, g0, g1, hk _ _ _ _ (n q _ _ _ hq rfl (by simp)) hq, hk _ _ _ _ (n vb _ _ _ hv v0 (by simp)) hv, v0, v1⟩

/-- The map that AddBuild hands to NewInfo. -/
def labels (v rv : ByteArray) : DataW Unit := ((DataW.map []).put (.string verS.data.toList) (.lit (.string v.data.toList))).put (.string revS.data.toList) (.lit (.string rv.data.toList))

theorem labels_eq (v rv : ByteArray) : labels v rv = .map [(.string revS.data.toList, .lit (.string rv.data.toList)), (.string verS.data.toList, .lit (.string v.data.toList))] := rfl
theorem labels_keys (v rv : ByteArray) : strKeys (labels v rv) = [revS.data.toList, verS.data.toList] := rfl
theorem labels_rev (v rv : ByteArray) (z : DataW Unit) : (labels v rv).atKey (.string revS.data.toList) z = .lit (.string rv.data.toList) := rfl
theorem labels_ver (v rv : ByteArray) (z : DataW Unit) : (labels v rv).atKey (.string verS.data.toList) z = .lit (.string v.data.toList) := rfl
theorem labels_size (v rv : ByteArray) : Maps.size (labels v rv) = 2 := rfl

theorem ms2 {α : Type} (le : α → α → Bool) (a b : α) : [a, b].mergeSort le = if le a b then [a, b] else [b, a] := by
  simp [List.mergeSort, List.MergeSort.Internal.splitInTwo, List.merge]
theorem sorted_two {ss : List (List UInt8)} (h : ss.Perm [revS.data.toList, verS.data.toList]) : ss.mergeSort (fun x y => decide (x ≤ y)) = [revS.data.toList, verS.data.toList] := by
  have hl := h.length_eq
  match ss, hl with
  | [a, b], _ =>
    have ha : a ∈ [revS.data.toList, verS.data.toList] := h.mem_iff.1 (by simp)
    have hb : b ∈ [revS.data.toList, verS.data.toList] := h.mem_iff.1 (by simp)
    have hr : revS.data.toList ∈ [a, b] := h.mem_iff.2 (by simp)
    have hv : verS.data.toList ∈ [a, b] := h.mem_iff.2 (by simp)
    simp only [List.mem_cons, List.not_mem_nil, or_false] at ha hb
    rcases ha with rfl | rfl <;> rcases hb with rfl | rfl
    · exact absurd hv (by decide)
    · rw [ms2]; decide
    · rw [ms2]; decide
    · exact absurd hr (by decide)

/-- 'labels[n]' at the two keys -/
theorem labels_run {w : World} {m0 n : Nat} {v rv : ByteArray} (hown : w.ownsMap Try.prog 9 (plainElem Try.prog 9) m0 n (labels v rv)) :
    (Instr.lookup 56 (.map (some m0)) (.string revS) false).run Try.prog w = .ok (.string rv) w ∧ (Instr.lookup 56 (.map (some m0)) (.string verS) false).run Try.prog w = .ok (.string v) w := by
  have hz : (zeroValue 9).run Try.prog w = .ok (.string ⟨#[]⟩) w := by kernel_rfl
  have inv : ∀ (x : Value) (l : List UInt8) (ps : List MemPlace), plainElem (H := Unit) Try.prog 9 x = some (.lit (.string l), ps) → x = .string ⟨l.toArray⟩ := by
    intro x l ps h
    obtain ⟨c, rfl, hc, _⟩ := plainElem_string_inv Try.underlying9 h
    simp only [Prod.mk.injEq, DataW.lit.injEq, Lit.string.injEq] at hc
    rw [hc.1]
  constructor
  · obtain ⟨x, ps, hrun, hv⟩ := hown.lookup law9 Try.underlying56 hz (plainElem_string Try.underlying9 (by decide)) (keyOf_string_mk Try.underlying9 (s := revS) (by decide))
    rw [labels_rev] at hv
    rw [hrun, inv _ _ _ hv]
  · obtain ⟨x, ps, hrun, hv⟩ := hown.lookup law9 Try.underlying56 hz (plainElem_string Try.underlying9 (by decide)) (keyOf_string_mk Try.underlying9 (s := verS) (by decide))
    rw [labels_ver] at hv
    rw [hrun, inv _ _ _ hv]

theorem mk22 (w : World) : (Instr.makeSlice 22 (.int .i64 2) (.int .i64 2)).run Try.prog w = .ok (.slice (some ⟨w.heap.size, 0, none⟩) 2 2) (w.alloc (.cells #[.string ⟨#[]⟩, .string ⟨#[]⟩] 9)) := by kernel_rfl

theorem owns_blk {P : Program} {k : TypeId} {R : Value → Option (DataW Unit × List MemPlace)} {w w' : World} {b n : Nat} {D : DataW Unit} (h : w.ownsMap P k R b n D) (hb : w'.heap[b]? = w.heap[b]?) : w'.ownsMap P k R b n D := by
  obtain ⟨es, cl, h1, r⟩ := h
  exact ⟨es, cl, hb.trans h1, r⟩

theorem three (w : World) (A B C : Obj) : Below w.heap.size w (((w.alloc A).alloc B).alloc C) ∧ (((w.alloc A).alloc B).alloc C).heap[w.heap.size]? = some A ∧ (((w.alloc A).alloc B).alloc C).heap[w.heap.size + 1]? = some B ∧ (((w.alloc A).alloc B).alloc C).heap[w.heap.size + 1 + 1]? = some C := by
  have h1 : Below w.heap.size w (w.alloc A) := (Below.refl _ w).alloc (Nat.le_refl _) A
  have h2 := h1.alloc h1.size B
  refine ⟨h2.alloc h2.size C, ?_, ?_, ?_⟩
  · rw [RowKit.Below.heap_alloc _ _ _ (by simp; omega), RowKit.Below.heap_alloc _ _ _ (by simp)]; exact heap_alloc_new w A
  · rw [RowKit.Below.heap_alloc _ _ _ (by simp)]
    have := heap_alloc_new (w.alloc A) B
    rwa [show (w.alloc A).heap.size = w.heap.size + 1 from by simp] at this
  · have := heap_alloc_new ((w.alloc A).alloc B) C
    rwa [show ((w.alloc A).alloc B).heap.size = w.heap.size + 1 + 1 from by simp] at this

theorem row_two {w : World} {base : Nat} {x : Value} (h : w.ownsRow base 9 1 x 2 ([revS.data.toList, verS.data.toList].map encStr)) :
    ∃ g cap cur, x = .slice (some ⟨g, 0, none⟩) 2 cap ∧ base ≤ g ∧ w.heap[g]? = some (.cells cur 9) ∧ cur[0]? = some (.string revS) ∧ cur[1]? = some (.string verS) := by
  obtain ⟨_, h | ⟨g, cap, cur, hv, hb, hh, _, _, _, ht⟩⟩ := h
  · exact absurd h.2 (by decide)
  · refine ⟨g, cap, cur, hv, hb, hh, ?_, ?_⟩
    · have := congrArg (fun l => l[0]?) ht
      simpa [encStr] using this
    · have := congrArg (fun l => l[1]?) ht
      simpa [encStr] using this

set_option maxRecDepth 100000 in
set_option maxHeartbeats 1000000 in
theorem newinfo14 (w : World) (R m0 n : Nat) (ents : List (ByteArray × Nat)) (v rv hp : ByteArray) (h : Reg w R ents) (hnew : lookE ents BN = none) (hroom : ents.length < 9223372036854775807) (hown : w.ownsMap Try.prog 9 (plainElem Try.prog 9) m0 n (labels v rv)) :
    Calls Try.prog 14 #[.pointer (some ⟨R, 0, none⟩), .string BN, .string hp, .map (some m0)] w fun e w' => e = .returned (.tuple #[]) ∧ ∃ b, w.heap.size ≤ b ∧ Reg w' R ((BN, b) :: ents) ∧ Below R w w' ∧ KC R w w' ∧ BuildAt w' b v rv := by
  have HN : Hid (lookE ents BN = none) := hnew
  have m22 := mk22
  have hmf : ∀ (fn : Fn) (first cap : Array Value) (w : World), (Instr.makeFunc fn first cap).run Try.prog w = .ok (.func fn first cap) w := fun _ _ _ _ => rfl
  clear hnew
  go_enter Try.func14, Try.ntmps14
  go_wp2_with fail
  refine (callsIn_wide.1 (Try.maps_Keys_20 (some m0) w)).mono ?_
  rintro e w1 ⟨rfl, rfl⟩
  go_wp2_with fail
  refine (callsIn_wide.1 (Try.slices_Sorted_keys_19_20 m0 n (labels v rv) _ w hown (by rw [labels_size]; decide) (by rw [labels_size]; decide))).mono ?_
  rintro e w2 ⟨x, ss, rfl, hperm, hrow, hnil, hbel⟩
  rw [labels_keys] at hperm
  rw [sorted_two hperm] at hrow
  have hl2 : ss.length = 2 := hperm.length_eq
  rw [hl2] at hrow
  obtain ⟨g, cap, cur, hx, hbase, hg, hg0, hg1⟩ := row_two hrow
  rw [hx]
  have hgl : g < w2.heap.size := (Array.getElem?_eq_some_iff.1 hg).1
  have hml : m0 < w.heap.size := hown.lt
  have hbw : Below w.heap.size w w2 := ((Below.refl _ w).alloc (Nat.le_refl _) _).trans (hbel.mono (by simp))
  have kb : ∀ (o1 o2 : Obj) k, k < w2.heap.size → ((w2.alloc o1).alloc o2).heap[k]? = w2.heap[k]? := fun o1 o2 k hk => (RowKit.Below.heap_alloc _ o2 k (by simp; omega)).trans (RowKit.Below.heap_alloc w2 o1 k hk)
  have c0 : ∀ o1 o2 : Obj, ((w2.alloc o1).alloc o2).cell? ⟨g, 0, none⟩ = some (.string revS) := fun o1 o2 => cell_blk ((kb o1 o2 g hgl).trans hg) hg0
  have c1 : ∀ o1 o2 : Obj, ((w2.alloc o1).alloc o2).cell? ⟨g, 1, none⟩ = some (.string verS) := fun o1 o2 => cell_blk ((kb o1 o2 g hgl).trans hg) hg1
  have hown2 : ∀ o1 o2 : Obj, ((w2.alloc o1).alloc o2).ownsMap Try.prog 9 (plainElem Try.prog 9) m0 n (labels v rv) := fun o1 o2 => owns_blk hown ((kb o1 o2 m0 (Nat.lt_of_lt_of_le hml hbw.size)).trans (hbw.block m0 hml))
  have r0 := fun o1 o2 => (labels_run (hown2 o1 o2)).1
  have r1 := fun o1 o2 => (labels_run (hown2 o1 o2)).2
  have HG : Hid (w2.heap[g]? = some (.cells cur 9)) := hg
  have HG0 : Hid (cur[0]? = some (.string revS)) := hg0
  have HG1 : Hid (cur[1]? = some (.string verS)) := hg1
  clear hperm hrow hnil hl2 hx hg hg0 hg1 hown hown2 kb
  go_wp2_with fail
  refine wp_loop_rounds 3 ?_
  rw [rounds_succ]
  go_wp2_with fail
  rw [rounds_succ]
  go_wp2_with fail
  rw [rounds_succ]
  go_wp2_with fail
  clear c0 c1 r0 r1 m22 hmf
  have T := three w2 (.cells #[.string rv, .string v] 9) (.cells #[.slice (some ⟨w2.heap.size, 0, none⟩) 2 2] 22) (.cells #[.string BN, .string hp, .slice (some ⟨g, 0, none⟩) 2 cap, .string gaugeS, .func (.func 21) #[] #[.pointer (some ⟨w2.heap.size + 1, 0, none⟩)]] 53)
  have hb3 := hbw.trans (T.1.mono hbw.size)
  have hr3 := h.of_below hb3
  have hB3 : BuildAt _ (w2.heap.size + 1 + 1) v rv := ⟨g, cap, w2.heap.size + 1, w2.heap.size, 2, cur, _, hp, T.2.2.2, (T.1.block g hgl).trans HG.out, HG0.out, HG1.out, T.2.2.1, T.2.1, rfl, rfl⟩
  refine (register_any _ R (w2.heap.size + 1 + 1) ents BN (by decide) hr3 HN.out hroom).mono ?_
  rintro e w3 ⟨rfl, q1, q2, q3⟩
  have hR : R < w.heap.size := World.block_lt_of_cell? _ _ h.c0
  have E1 := (hb3.mono (Nat.le_of_lt hR)).trans q2
  have E2 := (KC.of_below (R := R) hb3).trans q3
  have E3 := hB3.kept hr3 q3
  have E4 : w.heap.size ≤ w2.heap.size + 1 + 1 := by have := hbw.size; omega
  clear hB3 hr3 T hb3 hbel hbw q2 q3 h
  go_wp2
  go_end0
  exact ⟨rfl, _, E4, q1, E1, E2, E3⟩

set_option maxRecDepth 100000 in
set_option maxHeartbeats 1000000 in
theorem addbuild11 (w : World) (R : Nat) (ents : List (ByteArray × Nat)) (v rv : ByteArray) (hv : v.size ≤ maxLen) (hrv : rv.size ≤ maxLen) (h : Reg w R ents) (hnew : lookE ents BN = none) (hroom : ents.length < 9223372036854775807) :
    Calls Try.prog 11 #[.pointer (some ⟨R, 0, none⟩), .string v, .string rv] w fun e w' => e = .returned (.tuple #[]) ∧ ∃ b, w.heap.size ≤ b ∧ Reg w' R ((BN, b) :: ents) ∧ Below R w w' ∧ KC R w w' ∧ BuildAt w' b v rv := by
  have hmm := @run_makeMap Try.prog
  obtain ⟨w1, hrun1, hown1, hg1⟩ := (World.ownsMap_made w Try.prog 9 (plainElem (H := Unit) Try.prog 9)).update law9 Try.underlying56 (by unfold maxLen; omega) (keyOf_string_mk Try.underlying9 (s := verS) (by decide)) (plainElem_string Try.underlying9 hv)
  obtain ⟨w2, hrun2, hown2, hg2⟩ := hown1.update law9 Try.underlying56 (by unfold maxLen; omega) (keyOf_string_mk Try.underlying9 (s := revS) (by decide)) (plainElem_string Try.underlying9 hrv)
  have hb0 : Below w.heap.size w (w.alloc (.map #[] 0)) := (Below.refl _ w).alloc (Nat.le_refl _) _
  have hb1 := hb0.grown hg1 hb0.size (fun k hk => by cases hk; exact Nat.le_refl _)
  have hb2 := hb1.grown hg2 hb1.size (fun k hk => by cases hk; exact Nat.le_refl _)
  have hr2 := h.of_below hb2
  have hR : R < w.heap.size := World.block_lt_of_cell? _ _ h.c0
  have HN : Hid (lookE ents BN = none) := hnew
  have hown3 : w2.ownsMap Try.prog 9 (plainElem Try.prog 9) w.heap.size (0 + 1 + 1) (labels v rv) := hown2
  clear hown1 hown2 hg1 hg2 hb0 hb1 hnew h
  go_enter Try.func11, Try.ntmps11
  go_wp2_with fail
  refine (newinfo14 w2 R w.heap.size _ ents v rv _ hr2 HN.out hroom hown3).mono ?_
  rintro e w3 ⟨rfl, b, q0, q1, q2, q3, q4⟩
  have E1 := (hb2.mono (Nat.le_of_lt hR)).trans q2
  have E2 := (KC.of_below (R := R) hb2).trans q3
  have E4 := Nat.le_trans hb2.size q0
  clear hr2 hb2 q2 q3 q0 hrun1 hrun2 hown3
  go_wp2
  go_end0
  exact ⟨rfl, b, E4, q1, E1, E2, q4⟩
end Go.Proofs.Qxb6618618a
