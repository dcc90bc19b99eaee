import Derived.Test.Qxb6618953aDoorU16
import Derived.Laws.BytesArg
namespace Go.Proofs.Qxb6618953aDoor
open Go.RowKit Go.Deep

/-- the bytes of the data from a to b -/
def sub (Z : Nat → Int) (a b : Nat) : ByteArray := strOfNums ((List.range (b - a)).map (fun j => Z (a + j)))

def nm (n0 n1 : ByteArray) : Nat → Value
  | 0 => .string n0
  | _ => .string n1

/-- while the header is read: w0 the world as readHeader was entered, B its size; the result's block B, the names' block B + 1 -/
structure Inv (w0 W : World) (g B : Nat) (sp : Option Addr) (N sc : Nat) (Z : Nat → Int) (n0 n1 : ByteArray) (hp : Option Addr) (p c : Nat) : Prop where
  ctx : Ctx W g B sp N sc Z
  kb : KB g B w0 W
  rdr : Rdr W g sp N sc p
  hd : Hd W g (B + 2) hp p c Z
  names : ∃ T, W.rowIs (B + 1) T 2 (nm n0 n1)
  res : ∃ T f, W.rowIs B T 2 f
  big : B + 2 ≤ W.heap.size
  gB : g < B
  pN : p ≤ N

theorem KB.mono {g B B' : Nat} {w w' : World} (h : KB g B' w w') (hb : B ≤ B') : KB g B w w' := ⟨h.os, h.tape, h.output, h.size, fun k hk hg => h.block k (by omega) hg⟩
theorem Ctx.up {w : World} {g B B' : Nat} {sp : Option Addr} {N sc : Nat} {Z : Nat → Int} (h : Ctx w g B sp N sc Z) (hb : B ≤ B') : Ctx w g B' sp N sc Z :=
  ⟨fun hN => by
    obtain ⟨b, off, e, h1, h2⟩ := h.src hN
    exact ⟨b, off, e, by omega, h2⟩, h.cap, h.len, h.byte, h.hg, by have := h.hB; omega, h.eof, h.ueof, h.sig⟩

/-- appendN on the road of readHeader -/
theorem Inv.append {w0 W : World} {g B : Nat} {sp : Option Addr} {N sc : Nat} {Z : Nat → Int} {n0 n1 : ByteArray} {hp : Option Addr} {p c : Nat} (I : Inv w0 W g B sp N sc Z n0 n1 hp p c) (n : Nat) (hn : n ≤ 1048576) (p' : Nat) (hp' : p' = min (p + n) N) :
    Calls Tryd.prog 13 #[.slice hp p c, .iface 35 (.pointer (some ⟨g, 0, none⟩)), .int .i64 n] W fun e w' => ∃ hp' c' v, e = .returned (.tuple #[.slice hp' p' c', v]) ∧
      Hid (Err (p + n ≤ N) v ∧ Inv w0 w' g B sp N sc Z n0 n1 hp' p' c') := by
  refine (append13 W g (B + 2) N sc p c n sp hp Z (I.ctx.up (by omega)) I.rdr I.hd hn I.pN I.big p' hp').mono ?_
  rintro e w' ⟨hp1, c1, v, rfl, k1, k2, k3, k4⟩
  obtain ⟨T1, hn1⟩ := I.names
  obtain ⟨T2, f2, hr2⟩ := I.res
  have hg := I.gB
  have kb := k4.mono (show B ≤ B + 2 by omega)
  exact ⟨hp1, c1, v, rfl, k1, I.ctx.later kb, I.kb.trans kb, k2, k3, ⟨T1, hn1.of_block (k4.block _ (by omega) (by omega))⟩, ⟨T2, f2, hr2.of_block (k4.block _ (by omega) (by omega))⟩, by have := k4.size; have := I.big; omega, hg, by omega⟩

/-- a world with new blocks only -/
theorem Inv.grown {w0 W W' : World} {g B : Nat} {sp : Option Addr} {N sc : Nat} {Z : Nat → Int} {n0 n1 : ByteArray} {hp : Option Addr} {p c : Nat} (I : Inv w0 W g B sp N sc Z n0 n1 hp p c) (h : Below W.heap.size W W') : Inv w0 W' g B sp N sc Z n0 n1 hp p c := by
  have hb := I.big
  have hg := I.gB
  have kb : KB g B W W' := KB.of_below (h.mono (by omega))
  obtain ⟨T1, hn1⟩ := I.names
  obtain ⟨T2, f2, hr2⟩ := I.res
  obtain ⟨pr, T, hr⟩ := I.rdr
  obtain ⟨hd1, hd2, hd3⟩ := I.hd
  refine ⟨I.ctx.later kb, I.kb.trans kb, ⟨pr, T, hr.of_block (h.block _ hr.lt)⟩, ⟨hd1, hd2, ?_⟩, ⟨T1, hn1.of_block (h.block _ hn1.lt)⟩, ⟨T2, f2, hr2.of_block (h.block _ hr2.lt)⟩, by have := h.size; omega, hg, I.pN⟩
  rcases hd3 with h1 | ⟨h1, e1, e2, e3, f, e4, e5⟩
  · exact .inl h1
  · exact .inr ⟨h1, e1, e2, e3, f, e4.of_block (h.block _ e4.lt), e5⟩

/-- a store into block k of the two own ones -/
theorem Inv.store {w0 W : World} {g B : Nat} {sp : Option Addr} {N sc : Nat} {Z : Nat → Int} {n0 n1 : ByteArray} {hp : Option Addr} {p c : Nat} (I : Inv w0 W g B sp N sc Z n0 n1 hp p c) (k o : Nat) (v : Value) (hk : k = B ∨ k = B + 1) (m0 m1 : ByteArray)
    (hn : ∃ T, (W.setCell ⟨k, o, none⟩ v).rowIs (B + 1) T 2 (nm m0 m1)) : Inv w0 (W.setCell ⟨k, o, none⟩ v) g B sp N sc Z m0 m1 hp p c := by
  have hg := I.gB
  have hs : (W.setCell ⟨k, o, none⟩ v).heap.size = W.heap.size := by simp [World.setCell]
  have hB : ∀ j, j ≠ k → (W.setCell ⟨k, o, none⟩ v).heap[j]? = W.heap[j]? := fun j hj => blk_setCell_other _ _ _ _ hj
  have kb : KB g B W (W.setCell ⟨k, o, none⟩ v) := ⟨rfl, rfl, rfl, by omega, fun j hj _ => hB j (by omega)⟩
  obtain ⟨T2, f2, hr2⟩ := I.res
  obtain ⟨pr, T, hr⟩ := I.rdr
  obtain ⟨hd1, hd2, hd3⟩ := I.hd
  refine ⟨I.ctx.later kb, I.kb.trans kb, ⟨pr, T, hr.of_block (hB _ (by omega))⟩, ⟨hd1, hd2, ?_⟩, hn, ?_, by rw [hs]; exact I.big, hg, I.pN⟩
  · rcases hd3 with h1 | ⟨h1, e1, e2, e3, f, e4, e5⟩
    · exact .inl h1
    · exact .inr ⟨h1, e1, e2, e3, f, e4.of_block (hB _ (by omega)), e5⟩
  · by_cases e : B = k
    · subst e
      exact ⟨T2, _, hr2.set o v⟩
    · exact ⟨T2, f2, hr2.of_block (hB _ e)⟩

theorem Inv.name0 {w0 W : World} {g B : Nat} {sp : Option Addr} {N sc : Nat} {Z : Nat → Int} {n0 n1 : ByteArray} {hp : Option Addr} {p c : Nat} (I : Inv w0 W g B sp N sc Z n0 n1 hp p c) (s : ByteArray) :
    Inv w0 (W.setCell ⟨B + 1, 0, none⟩ (.string s)) g B sp N sc Z s n1 hp p c := by
  obtain ⟨T, h⟩ := I.names
  exact I.store _ _ _ (.inr rfl) _ _ ⟨T, (h.set 0 _).congr (fun i hi => by
    match i, hi with
    | 0, _ => rfl
    | 1, _ => rfl)⟩
theorem Inv.name1 {w0 W : World} {g B : Nat} {sp : Option Addr} {N sc : Nat} {Z : Nat → Int} {n0 n1 : ByteArray} {hp : Option Addr} {p c : Nat} (I : Inv w0 W g B sp N sc Z n0 n1 hp p c) (s : ByteArray) :
    Inv w0 (W.setCell ⟨B + 1, 1, none⟩ (.string s)) g B sp N sc Z n0 s hp p c := by
  obtain ⟨T, h⟩ := I.names
  exact I.store _ _ _ (.inr rfl) _ _ ⟨T, (h.set 1 _).congr (fun i hi => by
    match i, hi with
    | 0, _ => rfl
    | 1, _ => rfl)⟩

/-- the name that was read: header[start:] as a string -/
theorem conv22 {W : World} {g B : Nat} {hp : Option Addr} {p c : Nat} {Z : Nat → Int} (H : Hd W g B hp p c Z) (s : Nat) (hs : s ≤ p) (hne : hp ≠ none) (dc : Nat) :
    ∃ h, hp = some ⟨h, 0, none⟩ ∧ (convert 22 9 (.slice (if c = s then some ⟨h, 0, none⟩ else some ⟨h, s, none⟩) (p - s) dc)).run Tryd.prog W = .ok (.string (sub Z s p)) W := by
  obtain ⟨_, hpc, ⟨h0, _⟩ | ⟨h, rfl, _, _, f, hf1, hf2⟩⟩ := H
  · exact absurd h0 hne
  refine ⟨h, rfl, ?_⟩
  by_cases h0 : p = s
  · subst h0
    rw [run_convert_bytes_string W 22 9 5 _ _ _ Tryd.underlying22 Tryd.underlying5 Tryd.underlying9]
    unfold sub
    by_cases hc : c = p <;> simp [hc, Conv.bytesToString, loadCells]
    all_goals rfl
  · rw [if_neg (by omega)]
    exact run_convert_bytes_arg W 22 5 Tryd.underlying22 Tryd.underlying5 h s (p - s) dc ((List.range (p - s)).map (fun j => Z (s + j))) (by simp) (fun i hi => by
      rw [hf1.cell (by omega), hf2 _ (by omega)]
      simp [List.getD, hi]) 9 Tryd.underlying9
end Go.Proofs.Qxb6618953aDoor
