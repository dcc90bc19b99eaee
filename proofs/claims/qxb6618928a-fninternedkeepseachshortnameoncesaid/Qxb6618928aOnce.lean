import Derived.Test.Qxb6618928aSeen
namespace Go.Proofs.Qxb6618928a
open Go.RowKit Go.Maps Go.WideMaps

/-! ### the plain law: what the names are, told by the list of the distinct short texts -/
structure Inv (sn ks : List ByteArray) : Prop where
  le : ks.length ≤ 1024
  same : sn.length ≤ 1024 → ks.length = sn.length ∧ ∀ x, x ∈ ks ↔ x ∈ sn
  some1 : 1024 < sn.length → 1 ≤ ks.length

theorem inv_start : Inv [] [] := ⟨by simp, fun _ => ⟨rfl, fun _ => Iff.rfl⟩, fun h => by simp at h⟩

theorem step_pos {ks ks' : List ByteArray} {T : ByteArray} (h : Step ks T ks') (hk : 1 ≤ ks.length) : 1 ≤ ks'.length := by
  rcases h with ⟨_, rfl⟩ | ⟨_, _, rfl⟩ | ⟨_, _, _, rfl⟩ | ⟨_, _, _, rfl⟩
  · exact hk
  · exact hk
  · simp
  · simp

/-- A text longer than 128 bytes. -/
theorem inv_long {sn ks ks' : List ByteArray} {T : ByteArray} (h : Inv sn ks) (hs : Step ks T ks') (hT : 128 < T.size) : Inv sn ks' ∧ ks'.length = ks.length := by
  rcases hs with ⟨_, rfl⟩ | ⟨_, _, rfl⟩ | ⟨_, h1, _, rfl⟩ | ⟨_, h1, _, rfl⟩
  · exact ⟨h, rfl⟩
  · exact ⟨h, rfl⟩
  · omega
  · omega
/-- A short text seen before. -/
theorem inv_old {sn ks ks' : List ByteArray} {T : ByteArray} (h : Inv sn ks) (hs : Step ks T ks') (hT : T ∈ sn) : Inv sn ks' := by
  refine ⟨hs.le h.le, fun hd => ?_, fun hd => step_pos hs (h.some1 hd)⟩
  have hin : T ∈ ks := ((h.same hd).2 T).2 hT
  rcases hs with ⟨_, rfl⟩ | ⟨hn, _⟩ | ⟨hn, _⟩ | ⟨hn, _⟩
  · exact h.same hd
  · exact absurd hin hn
  · exact absurd hin hn
  · exact absurd hin hn
/-- A short text not seen before. -/
theorem inv_new {sn ks ks' : List ByteArray} {T : ByteArray} (h : Inv sn ks) (hs : Step ks T ks') (hT : T ∉ sn) (h128 : T.size ≤ 128) : Inv (sn ++ [T]) ks' := by
  refine ⟨hs.le h.le, fun hd => ?_, fun hd => ?_⟩
  · simp only [List.length_append, List.length_singleton] at hd
    obtain ⟨hl, hm⟩ := h.same (by omega)
    have hout : T ∉ ks := fun hi => hT ((hm T).1 hi)
    rcases hs with ⟨hi, _⟩ | ⟨_, h1, _⟩ | ⟨_, _, h2, _⟩ | ⟨_, _, _, rfl⟩
    · exact absurd hi hout
    · omega
    · omega
    · refine ⟨by simp [hl], fun x => ?_⟩
      simp only [List.mem_cons, List.mem_append, List.not_mem_nil, or_false]
      rw [hm x]
      exact Or.comm
  · simp only [List.length_append, List.length_singleton] at hd
    by_cases h2 : 1024 < sn.length
    · exact step_pos hs (h.some1 h2)
    · obtain ⟨hl, hm⟩ := h.same (by omega)
      exact step_pos hs (by omega)

theorem Rd.of_blocks {w w' : World} {L M : Nat} {ks : List ByteArray} (h : Rd w L M ks) (hL : w'.heap[L]? = w.heap[L]?) (hM : w'.heap[M]? = w.heap[M]?) : Rd w' L M ks := by
  obtain ⟨D, h1, h2⟩ := h.m
  obtain ⟨es, cl, hb, r⟩ := h1
  exact ⟨by rw [← h.c6]; simp [World.cell?, hL], D, ⟨es, cl, hM.trans hb, r⟩, h2⟩
theorem Rd.ltL {w : World} {L M : Nat} {ks : List ByteArray} (h : Rd w L M ks) : L < w.heap.size := World.block_lt_of_cell? _ _ h.c6
theorem Rd.ltM {w : World} {L M : Nat} {ks : List ByteArray} (h : Rd w L M ks) : M < w.heap.size := by obtain ⟨D, h1, _⟩ := h.m; exact h1.lt

/-- the texts that 'seen' holds -/
def snOf (Z : Nat → Nat → Int) (N : Nat → Nat) (idx : List Nat) : List ByteArray := idx.map (fun i => txt (Z i) (N i))
def slOf (A : Nat → Option Addr) (N C : Nat → Nat) (idx : List Nat) : List Value := idx.map (fun i => Value.slice (A i) (N i) (C i))

theorem info24 : (Try.prog.info? 24).map (fun i => (i.zero, i.size, i.bytes)) = some (some (.slice none 0 0), 1, 24) := by kernel_rfl

/-- 'seen' as inSeen wants it. -/
theorem seen_txts {w w0 : World} {base len : Nat} {v : Value} {A : Nat → Option Addr} {N C : Nat → Nat} {Z : Nat → Nat → Int} {idx : List Nat} (hown : w.ownsRow base 24 1 v idx.length (slOf A N C idx)) (hb : Below w0.heap.size w0 w)
    (he : ∀ j, j < len → Bys w0 (A j) (N j) (Z j) ∧ (∀ i, i < N j → 0 ≤ Z j i ∧ Z j i ≤ 255) ∧ N j ≤ maxLen) (hi : ∀ i ∈ idx, i < len) :
    ∃ so sc, v = .slice so idx.length sc ∧ Txts w so idx.length (fun j => A (idx.getD j 0)) (fun j => N (idx.getD j 0)) (fun j => C (idx.getD j 0)) (fun j => Z (idx.getD j 0)) := by
  have hat : ∀ j, j < idx.length → idx.getD j 0 < len := fun j hj => by
    rw [List.getD, List.getElem?_eq_getElem hj]
    exact hi _ (List.getElem_mem hj)
  obtain ⟨_, h | ⟨g, cap, cur, hv, hg, hh, h1, h2, h3, h4⟩⟩ := hown
  · refine ⟨none, 0, by rw [h.1, h.2], ⟨fun h0 => by omega, fun j hj => by omega⟩⟩
  · refine ⟨some ⟨g, 0, none⟩, cap, hv, ⟨fun _ => ⟨g, 0, rfl, (Array.getElem?_eq_some_iff.1 hh).1, fun j hj => ?_⟩, fun j hj => ?_⟩⟩
    · have hc : cur[j]? = some (.slice (A (idx.getD j 0)) (N (idx.getD j 0)) (C (idx.getD j 0))) := by
        have := congrArg (fun l => l[j]?) h4
        simp only [slOf, Nat.mul_one, List.getElem?_take, hj, if_true, List.getElem?_map, List.getElem?_eq_getElem hj, Option.map_some, Array.getElem?_toList] at this
        rw [this, List.getD, List.getElem?_eq_getElem hj]
        rfl
      rw [Nat.zero_add]
      exact cell_bk hh hc
    · have := he _ (hat j hj)
      exact ⟨this.1.after hb, this.2.1, this.2.2⟩

theorem seen_mem {Z : Nat → Nat → Int} {N : Nat → Nat} {idx : List Nat} {T : ByteArray} : (∃ j, j < idx.length ∧ txt (Z (idx.getD j 0)) (N (idx.getD j 0)) = T) ↔ T ∈ snOf Z N idx := by
  unfold snOf
  rw [List.mem_map]
  constructor
  · rintro ⟨j, hj, e⟩
    rw [List.getD, List.getElem?_eq_getElem hj] at e
    exact ⟨_, List.getElem_mem hj, e⟩
  · rintro ⟨i, hi, e⟩
    obtain ⟨j, hj, rfl⟩ := List.getElem_of_mem hi
    exact ⟨j, hj, by rw [List.getD, List.getElem?_eq_getElem hj]; exact e⟩
end Go.Proofs.Qxb6618928a
