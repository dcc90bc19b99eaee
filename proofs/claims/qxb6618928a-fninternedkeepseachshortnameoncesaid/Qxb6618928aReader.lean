import Derived.Test.Qxb6618928aLine
import Derived.Maps.OwnSet
import Derived.Maps.StringElems
import Derived.Laws.BytesArg
namespace Go.Proofs.Qxb6618928a
open Go.RowKit Go.Maps Go.WideMaps

theorem assertNil (w : World) : (Instr.typeAssert .nilIface 53 39 true).run Try.prog w = .ok (.tuple #[.pointer none, .bool false]) w := by kernel_rfl
theorem mk16 (w : World) : (Instr.makeSlice 24 (.int .i64 16) (.int .i64 16)).run Try.prog w = .ok (.slice (some ⟨w.heap.size, 0, none⟩) 16 16) (w.alloc (.cells (Array.replicate 16 (.int .u8 0)) 5)) := by kernel_rfl

theorem law9 : Keyed Try.prog 9 := string_keyed Try.underlying9
theorem zero9 (w : World) : (zeroValue 9).run Try.prog w = .ok (.string ⟨#[]⟩) w := by kernel_rfl

/-- THE READER at block L, its names in block M: just the strings ks, each under itself. -/
structure Rd (w : World) (L M : Nat) (ks : List ByteArray) : Prop where
  c6 : w.cell? ⟨L, 6, none⟩ = some (.map (some M))
  m : ∃ D : DataW Unit, w.ownsMap Try.prog 9 (plainElem Try.prog 9) M ks.length D ∧ Maps.size D = ks.length ∧
    ∀ s : ByteArray, s.size ≤ maxLen → (s ∈ ks → D.atKey (.string s.data.toList) (.lit (.string [])) = .lit (.string s.data.toList) ∧ Maps.has D (.string s.data.toList) = true) ∧ (s ∉ ks → Maps.has D (.string s.data.toList) = false)

theorem cell_bk {w : World} {b : Nat} {cs : Array Value} {t : TypeId} {fr : Nat × Nat} (h : w.heap[b]? = some (.cells cs t fr)) {i : Nat} {v : Value} (hv : cs[i]? = some v) : w.cell? ⟨b, i, none⟩ = some v := by
  simp [World.cell?, h, hv]

theorem rd_new (w : World) (A B : Obj) (cs : Array Value) (h6 : cs[6]? = some (.map (some (w.heap.size + 1 + 1)))) :
    Rd ((((w.alloc A).alloc B).alloc (.map #[] 0)).alloc (.cells cs 45)) (w.heap.size + 1 + 1 + 1) (w.heap.size + 1 + 1) [] ∧ Below w.heap.size w ((((w.alloc A).alloc B).alloc (.map #[] 0)).alloc (.cells cs 45)) := by
  have e2 : ((w.alloc A).alloc B).heap.size = w.heap.size + 1 + 1 := by simp
  have e3 : (((w.alloc A).alloc B).alloc (.map #[] 0)).heap.size = w.heap.size + 1 + 1 + 1 := by simp
  have h3 := heap_alloc_new (((w.alloc A).alloc B).alloc (.map #[] 0)) (.cells cs 45)
  rw [e3] at h3
  have hm := (World.ownsMap_made ((w.alloc A).alloc B) Try.prog 9 (plainElem (H := Unit) Try.prog 9)).alloc (.cells cs 45)
  rw [e2] at hm
  refine ⟨⟨cell_bk h3 h6, .map [], hm, rfl, fun s _ => ⟨fun h => absurd h (by simp), fun _ => rfl⟩⟩, ?_⟩
  have b1 := (Below.refl w.heap.size w).alloc (Nat.le_refl _) A
  have b2 := b1.alloc b1.size B
  have b3 := b2.alloc b2.size (.map #[] 0)
  exact b3.alloc b3.size _

set_option maxRecDepth 100000 in
set_option maxHeartbeats 800000 in
theorem newReader7 (w : World) : Calls Try.prog 7 #[] w fun e w' => ∃ L M, e = .returned (.pointer (some ⟨L, 0, none⟩)) ∧ Rd w' L M [] ∧ w.heap.size ≤ L ∧ w.heap.size ≤ M ∧ Below w.heap.size w w' := by
  have hmm := @run_makeMap Try.prog
  have ha := assertNil
  have m16 := mk16
  go_enter Try.func7, Try.ntmps7
  go_wp2
  go_end0
  go_wp2
  go_ret
  exact ⟨w.heap.size + 1 + 1 + 1, w.heap.size + 1 + 1, rfl, (rd_new w _ _ _ rfl).1, by omega, by omega, (rd_new w _ _ _ rfl).2⟩

/-! ### the text as a string -/
/-- What the walks are told of a []byte that came in. -/
def Bys (w : World) (ao : Option Addr) (n : Nat) (Z : Nat → Int) : Prop :=
  0 < n → ∃ b off, ao = some ⟨b, off, none⟩ ∧ b < w.heap.size ∧ ∀ j, j < n → w.cell? ⟨b, off + j, none⟩ = some (.int .u8 (Z j))
theorem Bys.later {w w' : World} {ao : Option Addr} {n B : Nat} {Z : Nat → Int} (h : Bys w ao n Z) (hb : Below B w w') (hB : ∀ b off, ao = some ⟨b, off, none⟩ → b < B) : Bys w' ao n Z := fun hn => by
  obtain ⟨b, off, e, h1, h2⟩ := h hn
  exact ⟨b, off, e, Nat.lt_of_lt_of_le h1 hb.size, fun j hj => (hb.cell (p := ⟨b, off + j, none⟩) (hB b off e)).trans (h2 j hj)⟩

def txt (Z : Nat → Int) (n : Nat) : ByteArray := strOfNums ((List.range n).map Z)
theorem txt_size (Z : Nat → Int) (n : Nat) : (txt Z n).size = n := by
  unfold txt strOfNums
  show ((((List.range n).map Z).map fun n => UInt8.ofNat n.toNat).toArray).size = n
  simp
theorem txt_at (Z : Nat → Int) (n : Nat) (hZ : ∀ i, i < n → 0 ≤ Z i ∧ Z i ≤ 255) (k : Nat) (h : k < (txt Z n).size) : (((txt Z n)[k]'h).toNat : Int) = Z k := by
  have hk : k < n := by rw [txt_size] at h; exact h
  have : (txt Z n)[k]'h = UInt8.ofNat (Z k).toNat := by
    show ((((List.range n).map Z).map fun n => UInt8.ofNat n.toNat).toArray)[k]'(by simp; exact hk) = _
    simp
  rw [this]
  have := hZ k hk
  simp
  omega

theorem conv24 {w : World} {ao : Option Addr} {n : Nat} {Z : Nat → Int} (c : Nat) (h : Bys w ao n Z) : (convert 24 9 (.slice ao n c)).run Try.prog w = .ok (.string (txt Z n)) w := by
  by_cases h0 : n = 0
  · subst h0
    rw [run_convert_bytes_string w 24 9 5 _ 0 c Try.underlying24 Try.underlying5 Try.underlying9]
    cases ao <;> simp [Conv.bytesToString, loadCells]
    all_goals rfl
  · obtain ⟨b, off, rfl, _, hc⟩ := h (by omega)
    exact run_convert_bytes_arg w 24 5 Try.underlying24 Try.underlying5 b off n c ((List.range n).map Z) (by simp) (fun i hi => by
      rw [hc i hi]
      simp [List.getD, hi]) 9 Try.underlying9

/-- 'clear(m)' -/
theorem owns_clear {H : Type} {P : Program} {k e t : TypeId} {R : Value → Option (DataW H × List MemPlace)} {w : World} {b n : Nat} {D : DataW H} (h : w.ownsMap P k R b n D) (ht : P.underlying t = some (.map k e)) :
    ∃ w', (∀ ty, (Builtin.clear_ #[t] ty #[.map (some b)]).run P w = .ok (.tuple #[]) w') ∧ w'.ownsMap P k R b 0 (.map []) ∧ w.mapTurned w' b := by
  obtain ⟨es, clock, hb, F, _, _⟩ := h
  refine ⟨ChangeMaps.setBlock w b (.map #[] clock), fun ty => ?_, ⟨#[], clock, ChangeMaps.heap_setBlock_same hb _, ⟨by simp, MapKept.stamped_empty clock, by simp⟩, Nat.le_refl _, rfl⟩, ⟨es, clock, #[], clock, hb, rfl⟩⟩
  simp [Builtin.clear_, run_underlying ht, MapKept.run_getObj_map hb, MapKept.run_setObj_map _ hb, Result.andThen]
  rfl
end Go.Proofs.Qxb6618928a
