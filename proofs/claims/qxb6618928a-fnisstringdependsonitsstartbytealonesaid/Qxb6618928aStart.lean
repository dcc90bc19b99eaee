import Derived.Test.Qxb6618928aLine
import Derived.Test.Qxb6618928aCopy
namespace Go.Proofs.Qxb6618928a
open Go.RowKit

/-- What the walk is told of a []byte that came in. -/
def Byts (w : World) (ao : Option Addr) (n : Nat) (Z : Nat → Int) : Prop :=
  0 < n → ∃ b off, ao = some ⟨b, off, none⟩ ∧ b < w.heap.size ∧ ∀ j, j < n → w.cell? ⟨b, off + j, none⟩ = some (.int .u8 (Z j))

abbrev f7 (f : Nat → Int) : Array Value := arr7 (f 0) (f 1) (f 2) (f 3) (f 4) (f 5) (f 6)
abbrev lvf (line : Value) (f : Nat → Int) : Array Value := lv line (f 0) (f 1) (f 2) (f 3) (f 4) (f 5) (f 6)

/-- 'starts' as it lies in block B. -/
def St (w : World) (B : Nat) (f : Nat → Int) : Prop := w.heap[B]? = some (.cells (f7 f) 31)

theorem cell_blk {w : World} {b : Nat} {cs : Array Value} {t : TypeId} {fr : Nat × Nat} (h : w.heap[b]? = some (.cells cs t fr)) {i : Nat} {v : Value} (hv : cs[i]? = some v) : w.cell? ⟨b, i, none⟩ = some v := by
  simp [World.cell?, h, hv]

theorem f7_at (f : Nat → Int) {K : Nat} (hK : K < 7) : (f7 f)[K]? = some (.int .i64 (f K)) := by
  match K, hK with
  | 0, _ => rfl
  | 1, _ => rfl
  | 2, _ => rfl
  | 3, _ => rfl
  | 4, _ => rfl
  | 5, _ => rfl
  | 6, _ => rfl
theorem lv_at (line : Value) (f : Nat → Int) {K : Nat} (hK : K < 7) : (lvf line f)[1 + 3 * K]? = some (.int .i64 (f K)) := by
  match K, hK with
  | 0, _ => rfl
  | 1, _ => rfl
  | 2, _ => rfl
  | 3, _ => rfl
  | 4, _ => rfl
  | 5, _ => rfl
  | 6, _ => rfl

theorem two_new (w : World) (A B : Obj) : ((w.alloc A).alloc B).heap[w.heap.size + 1]? = some B := by
  have := heap_alloc_new (w.alloc A) B
  rwa [show (w.alloc A).heap.size = w.heap.size + 1 from by simp] at this
theorem below_dn {B : Nat} {a w : World} (h : Below B a w) (n : Nat) : Below B a (w.drewN n) := ⟨h.os, h.tape, h.output, h.size, h.block⟩

theorem newv (ao : Option Addr) (n c : Nat) (f : Nat → Int) (w : World) :
    Calls Try.prog 15 #[.slice ao n c, .agg (f7 f)] w fun e w' => ∃ p, e = .returned (.pointer (some ⟨p, 0, none⟩)) ∧ w'.heap[p]? = some (.cells (lvf (.slice ao n c) f) 51) ∧ Below w.heap.size w w' := by
  refine (new15 ao n c (f 0) (f 1) (f 2) (f 3) (f 4) (f 5) (f 6) w).mono ?_
  rintro e w' ⟨rfl, nd, rfl⟩
  have h1 := (Below.refl w.heap.size w).alloc (Nat.le_refl _) (.cells (f7 f) 31)
  exact ⟨_, rfl, two_new w _ _, below_dn (h1.alloc h1.size _) nd⟩

theorem isv (p lb lo n c S K : Nat) (x : Int) (f : Nat → Int) (w : World) (hK : K < 7) (hS : S < n) (hp : w.heap[p]? = some (.cells (lvf (.slice (some ⟨lb, lo, none⟩) n c) f) 51)) (hf : f K = (S : Int)) (hx : w.cell? ⟨lb, lo + S, none⟩ = some (.int .u8 x)) (r : Bool) (hr : (x == 34) = r) :
    Calls Try.prog 14 #[.pointer (some ⟨p, 0, none⟩), .int .i64 K] w fun e w' => e = .returned (.bool r) ∧ Below w.heap.size w w' := by
  refine (is14 p lb lo n c S K x w hK hS (cell_blk hp rfl) (by rw [← hf]; exact cell_blk hp (lv_at _ f hK)) hx).mono ?_
  rintro e w' ⟨rfl, nd, rfl⟩
  exact ⟨by rw [hr], below_dn (Below.refl _ _) nd⟩

theorem St.kept {w w' : World} {B m : Nat} {f : Nat → Int} (h : St w B f) (hb : Below m w w') (hm : B < m) : St w' B f := (hb.block B hm).trans h
theorem St.lt {w : World} {B : Nat} {f : Nat → Int} (h : St w B f) : B < w.heap.size := (Array.getElem?_eq_some_iff.1 h).1
theorem St.set {w : World} {B : Nat} {f : Nat → Int} (h : St w B f) {a : Addr} (ha : B ≠ a.block) (v : Value) : St (w.setCell a v) B f := (RowKit.Below.heap_setCell _ _ _ _ ha).trans h

theorem st7 {w : World} {B : Nat} {f : Nat → Int} (h : St w B f) : w.cell? ⟨B, 0, none⟩ = some (.int .i64 (f 0)) ∧ w.cell? ⟨B, 1, none⟩ = some (.int .i64 (f 1)) ∧ w.cell? ⟨B, 2, none⟩ = some (.int .i64 (f 2)) ∧ w.cell? ⟨B, 3, none⟩ = some (.int .i64 (f 3)) ∧
    w.cell? ⟨B, 4, none⟩ = some (.int .i64 (f 4)) ∧ w.cell? ⟨B, 5, none⟩ = some (.int .i64 (f 5)) ∧ w.cell? ⟨B, 6, none⟩ = some (.int .i64 (f 6)) :=
  ⟨cell_blk h rfl, cell_blk h rfl, cell_blk h rfl, cell_blk h rfl, cell_blk h rfl, cell_blk h rfl, cell_blk h rfl⟩

theorem newv7 (ao : Option Addr) (n c : Nat) (t0 t1 t2 t3 t4 t5 t6 : Int) (w : World) :
    Calls Try.prog 15 #[.slice ao n c, .agg (arr7 t0 t1 t2 t3 t4 t5 t6)] w fun e w' => ∃ p, e = .returned (.pointer (some ⟨p, 0, none⟩)) ∧ w'.heap[p]? = some (.cells (lv (.slice ao n c) t0 t1 t2 t3 t4 t5 t6) 51) ∧ Below w.heap.size w w' := by
  refine (new15 ao n c t0 t1 t2 t3 t4 t5 t6 w).mono ?_
  rintro e w' ⟨rfl, nd, rfl⟩
  have h1 := (Below.refl w.heap.size w).alloc (Nat.le_refl _) (.cells (arr7 t0 t1 t2 t3 t4 t5 t6) 31)
  exact ⟨_, rfl, two_new w _ _, below_dn (h1.alloc h1.size _) nd⟩

theorem isv7 (p lb lo n c S K : Nat) (x : Int) (cs : Array Value) (w : World) (hK : K < 7) (hS : S < n) (hp : w.heap[p]? = some (.cells cs 51)) (h0 : cs[0]? = some (.slice (some ⟨lb, lo, none⟩) n c)) (hf : cs[1 + 3 * K]? = some (.int .i64 (S : Int))) (hx : w.cell? ⟨lb, lo + S, none⟩ = some (.int .u8 x)) (r : Bool) (hr : (x == 34) = r) :
    Calls Try.prog 14 #[.pointer (some ⟨p, 0, none⟩), .int .i64 K] w fun e w' => e = .returned (.bool r) ∧ Below w.heap.size w w' := by
  refine (is14 p lb lo n c S K x w hK hS (cell_blk hp h0) (cell_blk hp hf) hx).mono ?_
  rintro e w' ⟨rfl, nd, rfl⟩
  exact ⟨by rw [hr], below_dn (Below.refl _ _) nd⟩

/-- Behind a store into one of the call's own rows, a new block and a call that keeps what lies before it. -/
theorem past {w X w' : World} {g i : Nat} {v : Value} (hX : X = w.setCell ⟨g, i, none⟩ v) {m : Nat} (hb : Below m X w') (hm : w.heap.size ≤ m) :
    (∀ k, k < w.heap.size → k ≠ g → w'.heap[k]? = w.heap[k]?) ∧ (∀ j, g < w.heap.size → j ≠ i → w'.cell? ⟨g, j, none⟩ = w.cell? ⟨g, j, none⟩) ∧ (∀ u, w.cell? ⟨g, i, none⟩ = some u → w'.cell? ⟨g, i, none⟩ = some v) := by
  subst hX
  refine ⟨fun k hk hg => (hb.block k (by omega)).trans (RowKit.Below.heap_setCell _ _ _ _ hg), fun j hg hj => ?_, fun u hu => ?_⟩
  · rw [hb.cell (p := ⟨g, j, none⟩) (show g < m by omega)]
    exact World.cell?_setCell_other _ ⟨g, i, none⟩ ⟨g, j, none⟩ _ (fun e => hj (congrArg Addr.off e).symm)
  · have hg : g < w.heap.size := World.block_lt_of_cell? _ _ hu
    rw [hb.cell (p := ⟨g, i, none⟩) (show g < m by omega)]
    exact World.cell?_setCell_same _ _ _ hu

theorem top_all : ∀ b : Fin 256, (bits BinOp.or IntKind.u8 (b.val : Int) 128 == 34) = false := by decide +kernel
theorem top_ne {b : Int} (h0 : 0 ≤ b) (h1 : b ≤ 255) : (bits BinOp.or IntKind.u8 b 128 == 34) = false := by
  obtain ⟨n, rfl⟩ := Int.eq_ofNat_of_zero_le h0
  exact top_all ⟨n, by omega⟩
set_option maxRecDepth 100000 in
set_option maxHeartbeats 8000000 in
theorem start_any (ao : Option Addr) (n c : Nat) (st : Nat → Int) (Z : Nat → Int) (k j o b : Int) (w : World) (hln : Byts w ao n Z) (hn : n ≤ maxLen) (hb0 : 0 ≤ b) (hb1 : b ≤ 255) :
    Calls Try.prog 5 #[.slice ao n c, .agg (f7 st), .int .i64 k, .int .i64 j, .int .i64 o, .int .u8 b] w fun e w' => e = .returned (.bool true) ∧ Below w.heap.size w w' := by
  have q24 : ∀ (w : World) (r : Option Addr) (l c : Nat), (binOp .neq 24 (.slice r l c) (.slice none 0 0)).run Try.prog w = .ok (.bool (!r.isNone)) w := fun w r l c => run_neq_slice_nil_any w _ _ r l c 0 0 Try.underlying24
  go_enter Try.func5, Try.ntmps5
  go_wp2_with fail
  refine (bytes13 ao n c _ _ _ _ _ _ _ k j o b _).mono ?_
  rintro e w1 ⟨⟨r, rfl⟩, hbel⟩
  cases r
  · go_wp2
    go_ret
    exact ⟨rfl, ((Below.refl _ w).alloc (Nat.le_refl _) _).trans (hbel.mono (by simp))⟩
  have E1 := ((Below.refl _ w).alloc (Nat.le_refl _) _).trans (hbel.mono (by simp : w.heap.size ≤ (w.alloc (.cells (f7 st) 31)).heap.size))
  have hst : St w1 w.heap.size st := (hbel.block w.heap.size (by simp)).trans (heap_alloc_new w _)
  clear hbel
  by_cases h20 : (1048576 : Int) < (n : Int)
  · go_wp2
    go_ret
    exact ⟨rfl, E1⟩
  by_cases h0 : n = 0
  · subst h0
    go_wp2
    go_ret
    exact ⟨rfl, E1⟩
  have hne : ((n : Int) == 0) = false := by simp; omega
  by_cases hk0 : k < 0
  · go_wp2
    go_ret
    exact ⟨rfl, E1⟩
  by_cases hk7 : 7 ≤ k
  · go_wp2
    go_ret
    exact ⟨rfl, E1⟩
  by_cases ho0 : o < 0
  · go_wp2
    go_ret
    exact ⟨rfl, E1⟩
  by_cases ho7 : 7 ≤ o
  · go_wp2
    go_ret
    exact ⟨rfl, E1⟩
  by_cases hok : (o == k) = true
  · go_wp2
    go_ret
    exact ⟨rfl, E1⟩
  have hok' : (o == k) = false := by simpa using hok
  clear hok
  obtain ⟨lb, lo, rfl, hlb, hlc⟩ := hln (by omega)
  have hmk := run_make_row' (P := Try.prog) 24 5 (.int .u8 0) 1 Try.underlying24 info5 rfl .i64 .i64 n (by omega) (by omega)
  obtain ⟨K, rfl⟩ := Int.eq_ofNat_of_zero_le (show 0 ≤ k by omega)
  have hK : K < 7 := by omega
  have hsz1 : w.heap.size + 1 ≤ w1.heap.size := by
    have := (Array.getElem?_eq_some_iff.1 hst).1
    omega
  have hsK0 : ∀ w2, Below (w.heap.size + 1) w1 w2 → w2.cell? ⟨w.heap.size, K, none⟩ = some (.int .i64 (st K)) := fun w2 hb => cell_blk ((hb.block w.heap.size (by omega)).trans hst) (f7_at st hK)
  have hsrc : ∀ ob : Obj, 0 < n → ∃ b off, (some ⟨lb, lo, none⟩ : Option Addr) = some ⟨b, off, none⟩ ∧ ∀ j, j < n → (w1.alloc ob).cell? ⟨b, off + j, none⟩ = some (.int .u8 (Z j)) := fun ob _ => ⟨lb, lo, rfl, fun i hi => by
    rw [World.cell?_of_block (w := w1) (RowKit.Below.heap_alloc w1 ob lb (Nat.lt_of_lt_of_le hlb E1.size)), E1.cell (p := ⟨lb, lo + i, none⟩) hlb]
    exact hlc i hi⟩
  obtain ⟨w2, hcp, hrow, hgrow⟩ := copy_run (P := Try.prog) 24 5 3 Try.underlying24 (by kernel_rfl) w1.heap.size n n c (some ⟨lb, lo, none⟩) Z ⟨_, World.rowIs_made w1 (.int .u8 0) n 5⟩ (hsrc _)
  have hbel2 : Below w1.heap.size w1 w2 := ((Below.refl _ _).alloc (Nat.le_refl _) _).grown hgrow (by simp) (fun k hk => by cases hk; exact Nat.le_refl _)
  have E2 : Below w.heap.size w w2 := E1.trans (hbel2.mono E1.size)
  have hst2 : St w2 w.heap.size st := (hbel2.block _ (by omega)).trans hst
  have hsK := cell_blk hst2 (f7_at st hK)
  clear hlc hln hsrc hgrow hsK0 hst hbel2 E1
  by_cases hs0 : st K < 0
  · go_wp2
    go_ret
    exact ⟨rfl, E2⟩
  by_cases hsn : (n : Int) ≤ st K
  · go_wp2
    go_ret
    exact ⟨rfl, E2⟩
  by_cases hj0 : j < 0
  · go_wp2
    go_ret
    exact ⟨rfl, E2⟩
  by_cases hjn : (n : Int) ≤ j
  · go_wp2
    go_ret
    exact ⟨rfl, E2⟩
  by_cases hjs : (j == st K) = true
  · go_wp2
    go_ret
    exact ⟨rfl, E2⟩
  have hjs' : (j == st K) = false := by simpa using hjs
  clear hjs
  obtain ⟨J, rfl⟩ := Int.eq_ofNat_of_zero_le (show 0 ≤ j by omega)
  obtain ⟨S, hS⟩ := Int.eq_ofNat_of_zero_le (show 0 ≤ st K by omega)
  rw [hS] at hsK hjs' hsn hs0
  have HS : Hid (st K = (S : Int)) := hS
  have hSn : S < n := by omega
  have hJn : J < n := by omega
  have HJS : Hid (J ≠ S) := fun e => by subst e; simp at hjs'
  have HST : Hid (St w2 w.heap.size st) := hst2
  have d0 := cell_blk hst2 (f7_at st (K := 0) (by omega))
  have d1 := cell_blk hst2 (f7_at st (K := 1) (by omega))
  have d2 := cell_blk hst2 (f7_at st (K := 2) (by omega))
  have d3 := cell_blk hst2 (f7_at st (K := 3) (by omega))
  have d4 := cell_blk hst2 (f7_at st (K := 4) (by omega))
  have d5 := cell_blk hst2 (f7_at st (K := 5) (by omega))
  have d6 := cell_blk hst2 (f7_at st (K := 6) (by omega))
  clear hS hst2
  have hB1 : w.heap.size < w1.heap.size := by omega
  have hg2 := hrow.lt
  obtain ⟨r, hr⟩ : ∃ r, (Z S == 34) = r := ⟨_, rfl⟩
  have HR : Hid ((Z S == 34) = r) := hr
  clear hr
  go_wp2_with fail
  refine (newv (some ⟨w1.heap.size, 0, none⟩) n n st w2).mono ?_
  rintro e w3 ⟨p3, rfl, hp3, hb3⟩
  have hrow3 := rowIs_after hrow hb3 hg2
  have HST3 : Hid (St w3 w.heap.size st) := HST.out.kept hb3 (by omega)
  have E3 := E2.trans (hb3.mono E2.size)
  clear hrow hb3 E2 HST d0 d1 d2 d3 d4 d5 d6 hsK hcp hmk
  go_wp2_with fail
  refine (isv p3 w1.heap.size 0 n n S K (Z S) st w3 hK hSn hp3 HS.out (by simpa using hrow3.cell hSn) r HR.out).mono ?_
  rintro e w4 ⟨rfl, hb4⟩
  have hrow4 := rowIs_after hrow3 hb4 hrow3.lt
  have HST4 : Hid (St w4 w.heap.size st) := HST3.out.kept hb4 HST3.out.lt
  have E4 := E3.trans (hb4.mono E3.size)
  clear hrow3 hb4 E3 HST3 hp3
  go_wp2_with fail
  refine (clone16 w1.heap.size 0 n n Z w4 hrow4.lt (by omega) (fun i hi => by simpa using hrow4.cell hi)).mono ?_
  rintro e w5 ⟨rfl, hrw5, hb5⟩
  have hrow5 := rowIs_after hrow4 hb5 hrow4.lt
  have HST5 : Hid (St w5 w.heap.size st) := HST4.out.kept hb5 HST4.out.lt
  have E5 := E4.trans (hb5.mono E4.size)
  have hJ5 := hrw5.cell hJn
  have hJf5 := hrw5.frozen J
  have hne5 : w.heap.size ≠ w4.heap.size := Nat.ne_of_lt HST4.out.lt
  have HST6 := HST5.out.set (a := ⟨w4.heap.size, J, none⟩) hne5 (.int .u8 b)
  have d0 := cell_blk HST6 (f7_at st (K := 0) (by omega))
  have d1 := cell_blk HST6 (f7_at st (K := 1) (by omega))
  have d2 := cell_blk HST6 (f7_at st (K := 2) (by omega))
  have d3 := cell_blk HST6 (f7_at st (K := 3) (by omega))
  have d4 := cell_blk HST6 (f7_at st (K := 4) (by omega))
  have d5 := cell_blk HST6 (f7_at st (K := 5) (by omega))
  have d6 := cell_blk HST6 (f7_at st (K := 6) (by omega))
  have HS6 : Hid (St (w5.setCell ⟨w4.heap.size, J, none⟩ (.int .u8 b)) w.heap.size st) := HST6
  clear HST6 hb5 E4
  obtain ⟨O, rfl⟩ := Int.eq_ofNat_of_zero_le (show 0 ≤ o by omega)
  have hO : O < 7 := by omega
  have HOK : Hid (O ≠ K) := fun e => by subst e; simp at hok'
  rcases (show O = 0 ∨ O = 1 ∨ O = 2 ∨ O = 3 ∨ O = 4 ∨ O = 5 ∨ O = 6 by omega) with rfl | rfl | rfl | rfl | rfl | rfl | rfl
  all_goals
    go_wp2_with fail
    refine (newv7 (some ⟨w4.heap.size, 0, none⟩) n n _ _ _ _ _ _ _ _).mono ?_
    rintro e w6 ⟨p6, rfl, hp6, hb6⟩
    have hb6' := ((Below.refl _ (w5.setCell ⟨w4.heap.size, J, none⟩ (.int .u8 b))).alloc (Nat.le_refl _) _).trans (hb6.mono (by simp))
    have P6 := past (w := w5) rfl hb6' (by simp)
    have hg5 : w4.heap.size < w5.heap.size := hrw5.lt
    have hrow6 := hrow5.of_block (P6.1 _ hrow5.lt (Nat.ne_of_lt hrow4.lt))
    have HST7 : Hid (St w6 w.heap.size st) := (P6.1 _ (Nat.lt_of_lt_of_le HST4.out.lt (Nat.le_of_lt hg5)) hne5).trans HST5.out
    have hx6 : w6.cell? ⟨w4.heap.size, 0 + S, none⟩ = some (.int .u8 (Z S)) := by
      rw [Nat.zero_add, P6.2.1 S hg5 (fun e => HJS.out e.symm)]
      exact hrw5.cell hSn
    have E6 := E5.trans (((Below.refl w.heap.size w5).setCell (p := ⟨w4.heap.size, J, none⟩) (Nat.le_of_lt HST4.out.lt) _).trans (hb6'.mono (by simp; exact E5.size)))
    clear hb6 hb6' P6 d0 d1 d2 d3 d4 d5 d6 HS6 hJ5 hJf5
    go_wp2_with fail
    refine (isv7 p6 w4.heap.size 0 n n S K (Z S) _ w6 hK hSn hp6 rfl (by rcases (show K = 0 ∨ K = 1 ∨ K = 2 ∨ K = 3 ∨ K = 4 ∨ K = 5 ∨ K = 6 by omega) with h | h | h | h | h | h | h <;> subst h <;> first | exact absurd rfl HOK.out | exact congrArg (fun z => some (Value.int .i64 z)) HS.out) hx6 r HR.out).mono ?_
    rintro e w7 ⟨rfl, hb7⟩
    have hrow7 := rowIs_after hrow6 hb7 hrow6.lt
    have HST8 : Hid (St w7 w.heap.size st) := HST7.out.kept hb7 HST7.out.lt
    have E7 := E6.trans (hb7.mono E6.size)
    have hS7 : ∀ ob : Obj, (w7.alloc ob).cell? ⟨w1.heap.size, S, none⟩ = some (.int .u8 (Z S)) := fun ob => (hrow7.alloc ob).cell hSn
    clear hb7 E6 HST7 hrow6 hx6 hp6 hrw5 hrow5 hrow4 HST4 HST5 E5 hne5
    go_wp2_with fail
    refine (newv7 (some ⟨w7.heap.size + 1, 0, none⟩) 1 1 0 0 0 0 0 0 0 _).mono ?_
    rintro e w8 ⟨p8, rfl, hp8, hb8⟩
    have hb8' := ((((Below.refl _ w7).alloc (Nat.le_refl _) (.cells (arr7 0 0 0 0 0 0 0) 31)).alloc (by simp) (.cells #[.int .u8 (Z S)] 5))).trans (hb8.mono (by simp; omega))
    have hx8 : w8.cell? ⟨w7.heap.size + 1, 0 + 0, none⟩ = some (.int .u8 (Z S)) := by
      rw [hb8.cell (p := ⟨w7.heap.size + 1, 0 + 0, none⟩) (by simp)]
      exact cell_blk (two_new w7 _ _) rfl
    have hrow8 := rowIs_after hrow7 hb8' hrow7.lt
    have HST9 : Hid (St w8 w.heap.size st) := HST8.out.kept hb8' HST8.out.lt
    have E8 := E7.trans (hb8'.mono E7.size)
    clear hb8 hb8' hrow7 HST8 E7 hS7
    go_wp2_with fail
    refine (isv7 p8 (w7.heap.size + 1) 0 1 1 0 K (Z S) _ w8 hK (by omega) hp8 rfl (lv_at _ (fun _ => 0) hK) hx8 r HR.out).mono ?_
    rintro e w9 ⟨rfl, hb9⟩
    have hrow9 := rowIs_after hrow8 hb9 hrow8.lt
    have HST10 : Hid (St w9 w.heap.size st) := HST9.out.kept hb9 HST9.out.lt
    have E9 := E8.trans (hb9.mono E8.size)
    clear hb9 hrow8 HST9 E8 hp8 hx8
    go_wp2_with fail
    refine (clone16 w1.heap.size 0 n n Z w9 hrow9.lt (by omega) (fun i hi => by simpa using hrow9.cell hi)).mono ?_
    rintro e w10 ⟨rfl, hrw10, hb10⟩
    have hrow10 := rowIs_after hrow9 hb10 hrow9.lt
    have HST11 : Hid (St w10 w.heap.size st) := HST10.out.kept hb10 HST10.out.lt
    have E10 := E9.trans (hb10.mono E9.size)
    have hne10 : w.heap.size ≠ w9.heap.size := Nat.ne_of_lt HST10.out.lt
    have hc10 := hrw10.cell hSn
    have hf10 := hrw10.frozen S
    obtain ⟨d0, d1, d2, d3, d4, d5, d6⟩ := st7 (HST11.out.set (a := ⟨w9.heap.size, S, none⟩) hne10 (.int .u8 34))
    clear hb10 E9
    go_wp2_with fail
    refine (newv7 (some ⟨w9.heap.size, 0, none⟩) n n _ _ _ _ _ _ _ _).mono ?_
    rintro e w11 ⟨p11, rfl, hp11, hb11⟩
    have P11 := past (w := w10) rfl hb11 (by simp)
    have hrow11 := hrow10.of_block (P11.1 _ hrow10.lt (Nat.ne_of_lt hrow9.lt))
    have HST12 : Hid (St w11 w.heap.size st) := (P11.1 _ HST11.out.lt hne10).trans HST11.out
    have hx11 : w11.cell? ⟨w9.heap.size, 0 + S, none⟩ = some (.int .u8 34) := by
      rw [Nat.zero_add]
      exact P11.2.2 _ hc10
    have E11 := E10.trans (((Below.refl w.heap.size w10).setCell (p := ⟨w9.heap.size, S, none⟩) (Nat.le_of_lt HST10.out.lt) _).trans (hb11.mono (by simp; exact E10.size)))
    clear hb11 P11 d0 d1 d2 d3 d4 d5 d6 hc10 hf10 E10 hrow10 HST11 hrw10 hne10 hrow9 HST10
    go_wp2_with fail
    refine (isv7 p11 w9.heap.size 0 n n S K 34 _ w11 hK hSn hp11 rfl (by rw [← HS.out]; exact lv_at _ st hK) hx11 true rfl).mono ?_
    rintro e w12 ⟨rfl, hb12⟩
    have hrow12 := rowIs_after hrow11 hb12 hrow11.lt
    have HST13 : Hid (St w12 w.heap.size st) := HST12.out.kept hb12 HST12.out.lt
    have E12 := E11.trans (hb12.mono E11.size)
    clear hb12 hrow11 HST12 E11 hp11 hx11
    go_wp2_with fail
    refine (clone16 w1.heap.size 0 n n Z w12 hrow12.lt (by omega) (fun i hi => by simpa using hrow12.cell hi)).mono ?_
    rintro e w13 ⟨rfl, hrw13, hb13⟩
    have HST14 : Hid (St w13 w.heap.size st) := HST13.out.kept hb13 HST13.out.lt
    have E13 := E12.trans (hb13.mono E12.size)
    have hne13 : w.heap.size ≠ w12.heap.size := Nat.ne_of_lt HST13.out.lt
    have hc13 := hrw13.cell hSn
    have hf13 := hrw13.frozen S
    obtain ⟨d0, d1, d2, d3, d4, d5, d6⟩ := st7 (HST14.out.set (a := ⟨w12.heap.size, S, none⟩) hne13 (.int .u8 (bits .or .u8 b 128)))
    clear hb13 E12
    go_wp2_with fail
    refine (newv7 (some ⟨w12.heap.size, 0, none⟩) n n _ _ _ _ _ _ _ _).mono ?_
    rintro e w14 ⟨p14, rfl, hp14, hb14⟩
    have P14 := past (w := w13) rfl hb14 (by simp)
    have hx14 : w14.cell? ⟨w12.heap.size, 0 + S, none⟩ = some (.int .u8 (bits .or .u8 b 128)) := by
      rw [Nat.zero_add]
      exact P14.2.2 _ hc13
    have E14 := E13.trans (((Below.refl w.heap.size w13).setCell (p := ⟨w12.heap.size, S, none⟩) (Nat.le_of_lt HST13.out.lt) _).trans (hb14.mono (by simp; exact E13.size)))
    clear hb14 P14 d0 d1 d2 d3 d4 d5 d6 hc13 hf13 E13 HST14 hrw13 hne13 HST13
    go_wp2_with fail
    refine (isv7 p14 w12.heap.size 0 n n S K (bits .or .u8 b 128) _ w14 hK hSn hp14 rfl (by rw [← HS.out]; exact lv_at _ st hK) hx14 false (top_ne hb0 hb1)).mono ?_
    rintro e w15 ⟨rfl, hb15⟩
    have E15 := E14.trans (hb15.mono E14.size)
    clear hb15 E14 hp14 hx14
    go_wp2
    go_ret
    exact ⟨rfl, E15⟩
end Go.Proofs.Qxb6618928a
