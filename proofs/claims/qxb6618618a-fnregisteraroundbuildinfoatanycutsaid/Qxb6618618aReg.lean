import Derived.Test.Qxb6618618aRows
import Derived.Test.Qxb6618618aLocks
import Derived.Conc.MuLone
import Derived.Maps.OwnSet
import Derived.WalkKit
import Derived.WalkSpells
import Derived.WalkLawsBesides
import Derived.Deep.QuietTactic
import Derived.BigQuiet
namespace Go.Proofs.Qxb6618618a
open Go.RowKit Go.Maps Go.WideMaps
open Go.MuLone

/-! ### the registry as the walks carry it -/

/-- How an element of the map 'metrics' reads, for the proof: a *funcMetric as its block's number; a nil interface as nil. -/
def metElem : Value → Option (DataW Unit × List MemPlace)
  | .iface t (.pointer (some a)) => if t = 48 ∧ a.off = 0 ∧ a.spot = none then some (.lit (.int .i64 a.block), []) else none
  | .nilIface => some (.nil, [])
  | _ => none

theorem metElem_mk (b : Nat) : metElem (.iface 48 (.pointer (some ⟨b, 0, none⟩))) = some (.lit (.int .i64 b), []) := by simp [metElem]
theorem metElem_inv {v : Value} {b : Nat} {ps : List MemPlace} (h : metElem v = some (.lit (.int .i64 b), ps)) : v = .iface 48 (.pointer (some ⟨b, 0, none⟩)) := by
  unfold metElem at h
  split at h
  · rename_i t a
    split at h
    · rename_i hc
      obtain ⟨rfl, h1, h2⟩ := hc
      simp at h
      obtain ⟨bk, of, sp⟩ := a
      simp at h1 h2 h
      subst h1; subst h2
      have : bk = b := by omega
      subst this
      rfl
    · cases h
  · simp at h
  · cases h

theorem law9 : Keyed Try.prog 9 := string_keyed Try.underlying9
theorem zero45 (w : World) : (zeroValue 45).run Try.prog w = .ok .nilIface w := by kernel_rfl
theorem zero4 (w : World) : (zeroValue 4).run Try.prog w = .ok (.bool false) w := by kernel_rfl

/-- What the list of entries says of a key. -/
def lookE (ents : List (ByteArray × Nat)) (s : ByteArray) : Option Nat := (ents.find? (fun p => decide (p.1 = s))).map (·.2)
def lookD (ents : List (ByteArray × Nat)) (s : ByteArray) : DataW Unit := match lookE ents s with | some b => .lit (.int .i64 b) | none => .nil

/-- THE REGISTRY at block R holds 'ents' (name, block of its metric), its lock free. -/
structure Reg (w : World) (R : Nat) (ents : List (ByteArray × Nat)) : Prop where
  c0 : w.cell? ⟨R, 0, none⟩ = some (.int .i32 0)
  f0 : w.frozen? ⟨R, 0, none⟩ = false
  f2 : w.frozen? ⟨R, 2, none⟩ = false
  m : (ents = [] ∧ w.cell? ⟨R, 2, none⟩ = some (.map none)) ∨ ∃ M D, w.cell? ⟨R, 2, none⟩ = some (.map (some M)) ∧ R < M ∧ w.ownsMap Try.prog 9 metElem M ents.length D ∧
    (∀ s : ByteArray, s.size ≤ maxLen → D.atKey (.string s.data.toList) .nil = lookD ents s ∧ Maps.has D (.string s.data.toList) = (lookE ents s).isSome) ∧ Maps.size D = ents.length

theorem Reg.of_heap {w w' : World} {R : Nat} {ents : List (ByteArray × Nat)} (h : Reg w R ents) (hh : w'.heap = w.heap) : Reg w' R ents := by
  have hc : ∀ a, w'.cell? a = w.cell? a := fun a => by simp [World.cell?, hh]
  have hf : ∀ a, w'.frozen? a = w.frozen? a := fun a => by simp [World.frozen?, hh]
  refine ⟨(hc _).trans h.c0, (hf _).trans h.f0, (hf _).trans h.f2, ?_⟩
  rcases h.m with ⟨h1, h2⟩ | ⟨M, D, h1, h2, h3, h4⟩
  · exact .inl ⟨h1, (hc _).trans h2⟩
  · refine .inr ⟨M, D, (hc _).trans h1, h2, ?_, h4⟩
    obtain ⟨es, clock, hb, r⟩ := h3
    exact ⟨es, clock, by rw [hh]; exact hb, r⟩

theorem Reg.alloc {w : World} {R : Nat} {ents : List (ByteArray × Nat)} (h : Reg w R ents) (o : Obj) : Reg (w.alloc o) R ents := by
  have hR : R < w.heap.size := World.block_lt_of_cell? _ _ h.c0
  have hc : ∀ k, (w.alloc o).cell? ⟨R, k, none⟩ = w.cell? ⟨R, k, none⟩ := fun k => World.cell?_of_block (w := w) (RowKit.Below.heap_alloc w o R hR)
  have hf : ∀ k, (w.alloc o).frozen? ⟨R, k, none⟩ = w.frozen? ⟨R, k, none⟩ := fun k => World.frozen?_of_block (w := w) (RowKit.Below.heap_alloc w o R hR)
  refine ⟨(hc _).trans h.c0, (hf _).trans h.f0, (hf _).trans h.f2, ?_⟩
  rcases h.m with ⟨h1, h2⟩ | ⟨M, D, h1, h2, h3, h4⟩
  · exact .inl ⟨h1, (hc _).trans h2⟩
  · exact .inr ⟨M, D, (hc _).trans h1, h2, h3.alloc o, h4⟩

/-- Every row of cells but the registry's own is kept. -/
def KC (R : Nat) (w w' : World) : Prop := ∀ b cs t fr, b ≠ R → w.heap[b]? = some (.cells cs t fr) → w'.heap[b]? = some (.cells cs t fr)

set_option maxHeartbeats 400000 in
theorem has_any (w : World) (R : Nat) (ents : List (ByteArray × Nat)) (s : ByteArray) (hs : s.size ≤ maxLen) (h : Reg w R ents) :
    Calls Try.prog 6 #[.pointer (some ⟨R, 0, none⟩), .string s] w fun e w' => e = .returned (.bool (lookE ents s).isSome) ∧ w' = w := by
  have hkey := keyOf_string_mk Try.underlying9 hs
  rcases h.m with ⟨rfl, c2⟩ | ⟨M, D, c2, hRM, hown, hat, hsz⟩
  · have hrun := look_nil (w := w) true law9 Try.underlying33 (zero45 _) hkey
    go_enter Try.func6, Try.ntmps6
    go_wp2
    go_ret
    exact ⟨rfl, rfl⟩
  · obtain ⟨v, ps, hrun, hv⟩ := hown.look_ok law9 Try.underlying33 (zero45 _) (zd := .nil) (zp := []) rfl hkey
    rw [(hat s hs).2] at hrun
    clear hat hv hown
    go_enter Try.func6, Try.ntmps6
    go_wp2
    go_ret
    exact ⟨rfl, rfl⟩

theorem has_no (w : World) (R : Nat) (ents : List (ByteArray × Nat)) (s : ByteArray) (hs : s.size ≤ maxLen) (h : Reg w R ents) (hn : lookE ents s = none) :
    Calls Try.prog 6 #[.pointer (some ⟨R, 0, none⟩), .string s] w fun e w' => e = .returned (.bool false) ∧ w' = w := by
  have := has_any w R ents s hs h
  rwa [hn] at this
theorem has_yes (w : World) (R : Nat) (ents : List (ByteArray × Nat)) (s : ByteArray) (hs : s.size ≤ maxLen) (h : Reg w R ents) (hn : (lookE ents s).isSome = true) :
    Calls Try.prog 6 #[.pointer (some ⟨R, 0, none⟩), .string s] w fun e w' => e = .returned (.bool true) ∧ w' = w := by
  have := has_any w R ents s hs h
  rwa [hn] at this

set_option maxHeartbeats 400000 in
theorem len_any (w : World) (R : Nat) (ents : List (ByteArray × Nat)) (h : Reg w R ents) :
    Calls Try.prog 8 #[.pointer (some ⟨R, 0, none⟩)] w fun e w' => e = .returned (.int .i64 ents.length) ∧ w' = w := by
  rcases h.m with ⟨rfl, c2⟩ | ⟨M, D, c2, hRM, hown, hat, hsz⟩
  · have hrun := fun ty => len_nil (P := Try.prog) (w := w) (t := 33) Try.underlying33 ty
    go_enter Try.func8, Try.ntmps8
    go_wp2
    go_ret
    exact ⟨rfl, rfl⟩
  · have hrun := hown.len Try.underlying33
    rw [hsz] at hrun
    clear hat hown hsz
    go_enter Try.func8, Try.ntmps8
    go_wp2
    go_ret
    exact ⟨rfl, rfl⟩

theorem len_is (w : World) (R : Nat) (ents : List (ByteArray × Nat)) (z : Int) (h : Reg w R ents) (hz : (ents.length : Int) = z) :
    Calls Try.prog 8 #[.pointer (some ⟨R, 0, none⟩)] w fun e w' => e = .returned (.int .i64 z) ∧ w' = w := by
  have := len_any w R ents h
  rwa [hz] at this

theorem assert48 (b : Nat) (w : World) : (Instr.typeAssert (.iface 48 (.pointer (some ⟨b, 0, none⟩))) 45 48 true).run Try.prog w = .ok (.tuple #[.pointer (some ⟨b, 0, none⟩), .bool true]) w := by kernel_rfl

set_option maxRecDepth 100000 in
set_option maxHeartbeats 400000 in
theorem family_any (w : World) (R b : Nat) (ents : List (ByteArray × Nat)) (s nm hp kd : ByteArray) (la : Option Addr) (ll lc : Nat) (hs : s.size ≤ maxLen) (h : Reg w R ents) (hb : lookE ents s = some b)
    (k0 : w.cell? ⟨b, 0, none⟩ = some (.string nm)) (k1 : w.cell? ⟨b, 1, none⟩ = some (.string hp)) (k2 : w.cell? ⟨b, 2, none⟩ = some (.slice la ll lc)) (k3 : w.cell? ⟨b, 3, none⟩ = some (.string kd)) :
    Calls Try.prog 9 #[.pointer (some ⟨R, 0, none⟩), .string s] w fun e w' => e = .returned (.tuple #[.string nm, .string hp, .string kd, .slice la ll lc, .bool true]) ∧ ∃ n, w' = w.drewN n := by
  have hkey := keyOf_string_mk Try.underlying9 hs
  rcases h.m with ⟨rfl, c2⟩ | ⟨M, D, c2, hRM, hown, hat, hsz⟩
  · simp [lookE] at hb
  · obtain ⟨v, ps, hrun, hv⟩ := hown.lookup law9 Try.underlying33 (zero45 _) (zd := .nil) (zp := []) rfl hkey
    rw [(hat s hs).1] at hv
    unfold lookD at hv
    rw [hb] at hv
    have hv' := metElem_inv hv
    subst hv'
    clear hat hv hown hb
    have ha := assert48 b w
    go_enter Try.func9, Try.ntmps9
    go_wp2
    go_quiet (fail)
    go_wp2
    exact bodyPost_ret (v := .tuple #[.string nm, .string hp, .string kd, .slice la ll lc, .bool true]) (by simp [results, Try.results9, go_sem]) rfl ⟨rfl, _, rfl⟩

/-! ### register -/
theorem cell_blk {w : World} {b : Nat} {cs : Array Value} {t : TypeId} {fr : Nat × Nat} (h : w.heap[b]? = some (.cells cs t fr)) {i : Nat} {v : Value} (hv : cs[i]? = some v) : w.cell? ⟨b, i, none⟩ = some v := by
  simp [World.cell?, h, hv]
theorem free_blk {w : World} {b : Nat} {cs : Array Value} {t : TypeId} (h : w.heap[b]? = some (.cells cs t (0, 0))) (i : Nat) : w.frozen? ⟨b, i, none⟩ = false := by simp [World.frozen?, h]
theorem KC.trans {R : Nat} {a b c : World} (h : KC R a b) (k : KC R b c) : KC R a c := fun x cs t fr hx hc => k x cs t fr hx (h x cs t fr hx hc)
theorem KC.refl (R : Nat) (w : World) : KC R w w := fun _ _ _ _ _ h => h
theorem KC.setCell {R o : Nat} {a w : World} (h : KC R a w) (v : Value) : KC R a (w.setCell ⟨R, o, none⟩ v) := fun x cs t fr hx hc => by
  rw [RowKit.Below.heap_setCell _ _ _ _ hx]; exact h x cs t fr hx hc
theorem KC.alloc {R : Nat} {a w : World} (h : KC R a w) (o : Obj) : KC R a (w.alloc o) := fun x cs t fr hx hc => by
  have h1 := h x cs t fr hx hc
  rw [RowKit.Below.heap_alloc _ _ _ (Array.getElem?_eq_some_iff.1 h1).1]; exact h1
theorem KC.mapTurned {R M : Nat} {a w w' : World} (h : KC R a w) (ht : w.mapTurned w' M) : KC R a w' := fun x cs t fr hx hc => by
  have h1 := h x cs t fr hx hc
  have hne : x ≠ M := by
    rintro rfl
    obtain ⟨es, cl, _, _, hb, _⟩ := ht
    rw [h1] at hb; cases hb
  rw [ht.grown.block x (Array.getElem?_eq_some_iff.1 h1).1 (fun e => hne (Option.some.inj e))]; exact h1
theorem KC.of_heap {R : Nat} {a w w' : World} (h : KC R a w) (hh : w'.heap = w.heap) : KC R a w' := fun x cs t fr hx hc => by rw [hh]; exact h x cs t fr hx hc

/-- behind 'm[s] = b' -/
theorem look_put {ents : List (ByteArray × Nat)} {D : DataW Unit} (hD : IsMap D) {s : ByteArray} (b : Nat)
    (hat : ∀ s : ByteArray, s.size ≤ maxLen → D.atKey (.string s.data.toList) .nil = lookD ents s ∧ Maps.has D (.string s.data.toList) = (lookE ents s).isSome) :
    ∀ x : ByteArray, x.size ≤ maxLen → (D.put (.string s.data.toList) (.lit (.int .i64 b))).atKey (.string x.data.toList) .nil = lookD ((s, b) :: ents) x ∧ Maps.has (D.put (.string s.data.toList) (.lit (.int .i64 b))) (.string x.data.toList) = (lookE ((s, b) :: ents) x).isSome := by
  intro x hx
  by_cases e : s = x
  · subst e
    rw [atKey_put_same hD (k := .string s.data.toList) trivial, has_put_same hD (k := .string s.data.toList) trivial]
    simp [lookD, lookE]
  · have hne : (Lit.string x.data.toList) ≠ (Lit.string s.data.toList) := by
      intro h
      apply e
      have h1 : x.data.toList = s.data.toList := by simpa using h
      have h2 : x.data = s.data := Array.toList_inj.1 h1
      cases x; cases s; simp at h2; rw [h2]
    rw [atKey_put_other hne, has_put_other hne]
    have hb : decide (s = x) = false := by simpa using e
    have := hat x hx
    simpa [lookD, lookE, hb] using this

theorem nil_facts {w : World} {R : Nat} {x y : Value} (c0 : w.cell? ⟨R, 0, none⟩ = some x) (c2 : w.cell? ⟨R, 2, none⟩ = some y) (f0 : w.frozen? ⟨R, 0, none⟩ = false) (f2 : w.frozen? ⟨R, 2, none⟩ = false) (u v : Value) (o : Obj) :
    (((w.setCell ⟨R, 0, none⟩ u).setCell ⟨R, 2, none⟩ v).alloc o).cell? ⟨R, 0, none⟩ = some u ∧ (((w.setCell ⟨R, 0, none⟩ u).setCell ⟨R, 2, none⟩ v).alloc o).cell? ⟨R, 2, none⟩ = some v ∧
    (((w.setCell ⟨R, 0, none⟩ u).setCell ⟨R, 2, none⟩ v).alloc o).frozen? ⟨R, 0, none⟩ = false ∧ (((w.setCell ⟨R, 0, none⟩ u).setCell ⟨R, 2, none⟩ v).alloc o).frozen? ⟨R, 2, none⟩ = false := by
  have hR : R < w.heap.size := World.block_lt_of_cell? _ _ c0
  have hs : R < ((w.setCell ⟨R, 0, none⟩ u).setCell ⟨R, 2, none⟩ v).heap.size := by simpa using hR
  have hc : ∀ k, (((w.setCell ⟨R, 0, none⟩ u).setCell ⟨R, 2, none⟩ v).alloc o).cell? ⟨R, k, none⟩ = ((w.setCell ⟨R, 0, none⟩ u).setCell ⟨R, 2, none⟩ v).cell? ⟨R, k, none⟩ := fun k => World.cell?_of_block (RowKit.Below.heap_alloc _ o R hs)
  have hf : ∀ k, (((w.setCell ⟨R, 0, none⟩ u).setCell ⟨R, 2, none⟩ v).alloc o).frozen? ⟨R, k, none⟩ = ((w.setCell ⟨R, 0, none⟩ u).setCell ⟨R, 2, none⟩ v).frozen? ⟨R, k, none⟩ := fun k => World.frozen?_of_block (RowKit.Below.heap_alloc _ o R hs)
  refine ⟨(hc 0).trans ?_, (hc 2).trans ?_, (hf 0).trans (by simp [f0]), (hf 2).trans (by simp [f2])⟩
  · exact (World.cell?_setCell_other _ ⟨R, 2, none⟩ ⟨R, 0, none⟩ _ (by simp)).trans (World.cell?_setCell_same _ _ _ c0)
  · exact World.cell?_setCell_same _ _ _ ((World.cell?_setCell_other _ ⟨R, 0, none⟩ ⟨R, 2, none⟩ _ (by simp)).trans c2)

/-- what is left to say behind the store into the map -/
theorem reg_done {w w0 w1 : World} {R M : Nat} {ents' : List (ByteArray × Nat)} {D' : DataW Unit} (k0 : w0.cell? ⟨R, 0, none⟩ = some (.int .i32 1)) (k2 : w0.cell? ⟨R, 2, none⟩ = some (.map (some M))) (g0 : w0.frozen? ⟨R, 0, none⟩ = false) (g2 : w0.frozen? ⟨R, 2, none⟩ = false)
    (hRM : R < M) (hown : w1.ownsMap Try.prog 9 metElem M ents'.length D') (hturn : w0.mapTurned w1 M)
    (hat : ∀ s : ByteArray, s.size ≤ maxLen → D'.atKey (.string s.data.toList) .nil = lookD ents' s ∧ Maps.has D' (.string s.data.toList) = (lookE ents' s).isSome) (hsz : Maps.size D' = ents'.length) (hbel : Below R w w0) (hkc : KC R w w0) :
    w1.cell? ⟨R, 0, none⟩ = some (.int .i32 1) ∧ w1.frozen? ⟨R, 0, none⟩ = false ∧ Reg (w1.setCell ⟨R, 0, none⟩ (.int .i32 0)) R ents' ∧ Below R w (w1.setCell ⟨R, 0, none⟩ (.int .i32 0)) ∧ KC R w (w1.setCell ⟨R, 0, none⟩ (.int .i32 0)) := by
  have hR : R < w0.heap.size := World.block_lt_of_cell? _ _ k0
  have kc : ∀ o, w1.cell? ⟨R, o, none⟩ = w0.cell? ⟨R, o, none⟩ := fun o => by
    have hblk := hturn.grown.block R hR (fun e => by have := Option.some.inj e; omega)
    simp only [World.cell?, hblk]
  have c0 := (kc 0).trans k0
  have c2 := (kc 2).trans k2
  refine ⟨c0, (hturn.frozen _).trans g0, ⟨World.cell?_setCell_same _ _ _ c0, ?_, ?_, .inr ⟨M, D', ?_, hRM, hown.setCell (by simp; omega) _, hat, hsz⟩⟩, ?_, ?_⟩
  · rw [World.frozen?_setCell, hturn.frozen]; exact g0
  · rw [World.frozen?_setCell, hturn.frozen]; exact g2
  · exact (World.cell?_setCell_other _ ⟨R, 0, none⟩ ⟨R, 2, none⟩ _ (by simp)).trans c2
  · exact (hbel.grown hturn.grown (Nat.le_of_lt hR) (fun k hk => by cases hk; omega)).setCell (Nat.le_refl _) _
  · exact (hkc.mapTurned hturn).setCell _

set_option maxRecDepth 100000 in
set_option maxHeartbeats 800000 in
theorem register_any (w : World) (R b : Nat) (ents : List (ByteArray × Nat)) (s : ByteArray) (hs : s.size ≤ maxLen) (h : Reg w R ents) (hnew : lookE ents s = none) (hroom : ents.length < 9223372036854775807) :
    Calls Try.prog 13 #[.pointer (some ⟨R, 0, none⟩), .string s, .iface 48 (.pointer (some ⟨b, 0, none⟩))] w fun e w' => e = .returned (.tuple #[]) ∧ Reg w' R ((s, b) :: ents) ∧ Below R w w' ∧ KC R w w' := by
  have hkey := keyOf_string_mk Try.underlying9 hs
  have q33 : ∀ (w : World) (r : Option Nat), (binOp .eql 33 (.map r) (.map none)).run Try.prog w = .ok (.bool r.isNone) w := fun w r => run_eql_map_nil w _ _ _ r Try.underlying33
  have hmm := @run_makeMap Try.prog
  obtain ⟨c0, f0, f2, hm⟩ := h
  have hRl : R < w.heap.size := World.block_lt_of_cell? _ _ c0
  rcases hm with ⟨rfl, c2⟩ | ⟨M, D, c2, hRM, hown, hat, hsz⟩
  · have hrun := look_nil (w := w.setCell ⟨R, 0, none⟩ (.int .i32 1)) true law9 Try.underlying33 (zero45 _) hkey
    have hown0 : (((w.setCell ⟨R, 0, none⟩ (.int .i32 1)).setCell ⟨R, 2, none⟩ (.map (some w.heap.size))).alloc (.map #[] 0)).ownsMap Try.prog 9 metElem w.heap.size 0 (.map []) := by
      simpa using World.ownsMap_made ((w.setCell ⟨R, 0, none⟩ (.int .i32 1)).setCell ⟨R, 2, none⟩ (.map (some w.heap.size))) Try.prog 9 metElem
    go_enter_defers Try.func13, Try.ntmps13
    go_wp2_with (first
      | (go_at_call 17; refine (lock_free muLib ⟨R, 0, none⟩ _ c0 f0).mono ?_; rintro e w' ⟨rfl, rfl⟩)
      | (at_mapUpdate; refine wpList_mapUpdate_in _ rfl _ _ _ 33 rfl 9 45 law9 Try.underlying33 _ w.heap.size 0 _ rfl hown0 (by unfold maxLen; omega) _ _ _ rfl rfl hkey _ [] (metElem_mk b) ?_; intro w1 hown2 hturn1))
    obtain ⟨n0, n1, n2, n3⟩ := nil_facts c0 c2 f0 f2 (.int .i32 1) (.map (some w.heap.size)) (.map #[] 0)
    obtain ⟨d0, d1, d2, d3, d4⟩ := reg_done (ents' := [(s, b)]) (w := w) n0 n1 n2 n3 hRl hown2 hturn1 (look_put isMap_empty b (ents := []) (fun _ _ => ⟨rfl, rfl⟩)) (by rw [size_put tidy_empty]; rfl)
      ((((Below.refl R w).setCell (Nat.le_refl _) _).setCell (Nat.le_refl _) _).alloc (by simp; omega) _) ((((KC.refl R w).setCell _).setCell _).alloc _)
    refine leaves_cons (f := 18) (args := #[.pointer (some ⟨R, 0, none⟩)]) (by simp) (by simp [go_sem]) ?_
    refine (unlock_deferred muLib ⟨R, 0, none⟩ .returning _ d0 d1).mono ?_
    rintro e u' w'' ⟨rfl, rfl, rfl⟩
    exact ⟨_, results_none rfl _ _ _, rfl, d2, d3, d4⟩
  · have hown1 := hown.setCell (a := ⟨R, 0, none⟩) (by simp; omega) (.int .i32 1)
    obtain ⟨v, ps, hrun, hv⟩ := hown1.look_ok law9 Try.underlying33 (zero45 _) (zd := .nil) (zp := []) rfl hkey
    rw [(hat s hs).2, hnew] at hrun
    clear hv
    have htid := hown.tidy law9
    have HA := hat
    have HA2 : Hid (∀ s : ByteArray, s.size ≤ maxLen → D.atKey (.string s.data.toList) .nil = lookD ents s ∧ Maps.has D (.string s.data.toList) = (lookE ents s).isSome) := hat
    have HS : Hid (Maps.size D = ents.length) := hsz
    have HN : Hid (lookE ents s = none) := hnew
    clear hat hsz hnew HA hown
    go_enter_defers Try.func13, Try.ntmps13
    go_wp2_with (first
      | (go_at_call 17; refine (lock_free muLib ⟨R, 0, none⟩ _ c0 f0).mono ?_; rintro e w' ⟨rfl, rfl⟩)
      | (at_mapUpdate; refine wpList_mapUpdate_in _ rfl _ _ _ 33 rfl 9 45 law9 Try.underlying33 _ M ents.length D rfl hown1 (by unfold maxLen; omega) _ _ _ rfl rfl hkey _ [] (metElem_mk b) ?_; intro w1 hown2 hturn1))
    obtain ⟨d0, d1, d2, d3, d4⟩ := reg_done (ents' := (s, b) :: ents) (w := w) (World.cell?_setCell_same _ _ _ c0) ((World.cell?_setCell_other _ ⟨R, 0, none⟩ ⟨R, 2, none⟩ _ (by simp)).trans c2) (by simp [f0]) (by simp [f2]) hRM hown2 hturn1 (look_put htid.isMap b HA2.out) (by
        rw [size_put htid, (HA2.out s hs).2, HN.out, HS.out]; rfl)
      ((Below.refl R w).setCell (Nat.le_refl _) _) ((KC.refl R w).setCell _)
    refine leaves_cons (f := 18) (args := #[.pointer (some ⟨R, 0, none⟩)]) (by simp) (by simp [go_sem]) ?_
    refine (unlock_deferred muLib ⟨R, 0, none⟩ .returning _ d0 d1).mono ?_
    rintro e u' w'' ⟨rfl, rfl, rfl⟩
    exact ⟨_, results_none rfl _ _ _, rfl, d2, d3, d4⟩

set_option maxRecDepth 100000 in
set_option maxHeartbeats 800000 in
theorem zzregister_any (w : World) (R : Nat) (ents : List (ByteArray × Nat)) (s : ByteArray) (hs : s.size ≤ maxLen) (h : Reg w R ents) (hnew : lookE ents s = none) (hroom : ents.length < 9223372036854775807) :
    Calls Try.prog 7 #[.pointer (some ⟨R, 0, none⟩), .string s] w fun e w' => e = .returned (.tuple #[]) ∧ ∃ b, w.heap.size ≤ b ∧ Reg w' R ((s, b) :: ents) ∧ Below R w w' ∧ KC R w w' ∧
      w'.heap[b]? = some (.cells #[.string s, .string ⟨#[]⟩, .slice none 0 0, .string ⟨#[103, 97, 117, 103, 101]⟩, .nilFunc] 53) := by
  have hRl : R < w.heap.size := World.block_lt_of_cell? _ _ h.c0
  have h1 := h.alloc (.cells #[.string s, .string ⟨#[]⟩, .slice none 0 0, .string ⟨#[103, 97, 117, 103, 101]⟩, .nilFunc] 53)
  have HN : Hid (lookE ents s = none) := hnew
  clear hnew h
  go_enter Try.func7, Try.ntmps7
  go_wp2_with fail
  refine (register_any _ R w.heap.size ents s hs h1 HN.out hroom).mono ?_
  rintro e w' ⟨rfl, r1, r2, r3⟩
  go_wp2
  go_end0
  refine ⟨rfl, w.heap.size, Nat.le_refl _, r1, ((Below.refl R w).alloc (by omega) _).trans r2, ((KC.refl R w).alloc _).trans r3, r3 _ _ _ _ (by omega) (heap_alloc_new w _)⟩
end Go.Proofs.Qxb6618618a
