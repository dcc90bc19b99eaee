import Derived.Test.Qxb6618928aIntern
namespace Go.Proofs.Qxb6618928a
open Go.RowKit Go.Maps Go.WideMaps

theorem Bys.after {w w' : World} {ao : Option Addr} {n : Nat} {Z : Nat → Int} (h : Bys w ao n Z) (hb : Below w.heap.size w w') : Bys w' ao n Z := fun hn => by
  obtain ⟨b, off, e, h1, h2⟩ := h hn
  exact ⟨b, off, e, Nat.lt_of_lt_of_le h1 hb.size, fun j hj => (hb.cell (p := ⟨b, off + j, none⟩) h1).trans (h2 j hj)⟩

/-- What the walks are told of a [][]byte that came in. -/
structure Txts (w : World) (ao : Option Addr) (len : Nat) (A : Nat → Option Addr) (N C : Nat → Nat) (Z : Nat → Nat → Int) : Prop where
  row : 0 < len → ∃ b off, ao = some ⟨b, off, none⟩ ∧ b < w.heap.size ∧ ∀ j, j < len → w.cell? ⟨b, off + j, none⟩ = some (.slice (A j) (N j) (C j))
  each : ∀ j, j < len → Bys w (A j) (N j) (Z j) ∧ (∀ i, i < N j → 0 ≤ Z j i ∧ Z j i ≤ 255) ∧ N j ≤ maxLen

set_option maxRecDepth 100000 in
set_option maxHeartbeats 400000 in
theorem intern8 (w : World) (L M n c : Nat) (ao : Option Addr) (Z : Nat → Int) (ks : List ByteArray) (h : Rd w L M ks) (hb : Bys w ao n Z) (hn : n ≤ maxLen) (hk : ks.length ≤ 1024) :
    Calls Try.prog 8 #[.pointer (some ⟨L, 0, none⟩), .slice ao n c] w fun e w' => e = .returned (.string (txt Z n)) ∧ ∃ ks', Step ks (txt Z n) ks' ∧ Rd w' L M ks' ∧ w.grownBy w' (some M) := by
  have C := intern18 w L M n c ao Z ks h hb hn hk
  clear h hb hn hk
  go_enter Try.func8, Try.ntmps8
  go_wp2_with fail
  refine C.mono ?_
  rintro e w1 ⟨rfl, ks', q1, q2, q3⟩
  go_wp2
  go_ret
  exact ⟨rfl, ks', q1, q2, q3⟩

set_option maxRecDepth 100000 in
set_option maxHeartbeats 400000 in
theorem len10 (w : World) (L M : Nat) (ks : List ByteArray) (h : Rd w L M ks) :
    Calls Try.prog 10 #[.pointer (some ⟨L, 0, none⟩)] w fun e w' => e = .returned (.int .i64 ks.length) ∧ w' = w := by
  obtain ⟨D, hown, hsz, _⟩ := h.m
  have h6 := h.c6
  have hlen : ∀ ty, (Builtin.len_ #[43] ty #[.map (some M)]).run Try.prog w = .ok (.int .i64 ks.length) w := fun ty => by rw [hown.len Try.underlying43 ty, hsz]
  clear h hown hsz
  go_enter Try.func10, Try.ntmps10
  go_wp2
  go_ret
  exact ⟨rfl, rfl⟩

set_option maxRecDepth 100000 in
set_option maxHeartbeats 400000 in
theorem bytes6 (ao : Option Addr) (len cap : Nat) (A : Nat → Option Addr) (N C : Nat → Nat) (Z : Nat → Nat → Int) (w : World) (h : Txts w ao len A N C Z) (hl : len ≤ maxLen) :
    Calls Try.prog 6 #[.slice ao len cap] w fun e w' => IsBool e ∧ w' = w := by
  unfold maxLen at hl
  by_cases h20 : (1048576 : Int) < (len : Int)
  · go_enter Try.func6, Try.ntmps6
    go_wp2
    go_ret
    exact ⟨isBool_mk _, rfl⟩
  have hrow := h.row
  have hnn : ∀ j, j < len → N j ≤ 9223372036854775807 := fun j hj => (h.each j hj).2.2
  clear h
  go_enter Try.func6, Try.ntmps6
  go_wp2
  go_loop [3, 4] (fun n i => ∃ (k : Nat) (z : Int), k ≤ len ∧ i = .int .i64 k ∧ n = .int .i64 z) (fun _ i => len - (intOf i).toNat)
  case atStart => exact ⟨0, len, Nat.zero_le _, rfl, rfl⟩
  case round =>
    obtain ⟨k, z, hk, rfl, rfl⟩ := hrel
    by_cases hlt : k < len
    · obtain ⟨b, off, rfl, hb, hc⟩ := hrow (by omega)
      have hck := hc k hlt
      have hsk := hnn k hlt
      clear hc hnn hrow
      go_wp2
      · go_ret
        exact ⟨isBool_mk _, rfl⟩
      · go_ret
        exact ⟨isBool_mk _, rfl⟩
      · go_round
        case rel => exact ⟨k + 1, _, by omega, by go_num, rfl⟩
        case measure => simp [intOf]; omega
    · clear hnn hrow
      go_wp2
      all_goals (go_ret; exact ⟨isBool_mk _, rfl⟩)

set_option maxRecDepth 100000 in
set_option maxHeartbeats 400000 in
/-- sameText at the very text. -/
theorem same9 (T : ByteArray) (ao : Option Addr) (n c : Nat) (Z : Nat → Int) (w : World) (hb : Bys w ao n Z) (hn : n ≤ maxLen) (hT : T.size = n) (hat : ∀ k (h : k < T.size), ((T[k]'h).toNat : Int) = Z k) :
    Calls Try.prog 9 #[.string T, .slice ao n c] w fun e w' => e = .returned (.bool true) ∧ ∃ nd, w' = w.drewN nd := by
  unfold maxLen at hn
  subst hT
  go_enter Try.func9, Try.ntmps9
  go_wp2
  go_loopw [5] (fun i wr => ∃ (k nd : Nat), k ≤ T.size ∧ i = .int .i64 k ∧ wr = w.drewN nd) (fun i _ => T.size - (intOf i).toNat)
  case atStart => exact ⟨0, 0, Nat.zero_le _, rfl, rfl⟩
  case round =>
    obtain ⟨k, nd, hk, rfl, rfl⟩ := hrel
    by_cases hlt : k < T.size
    · obtain ⟨b, off, rfl, hbl, hc⟩ := hb (by omega)
      have hck := hc k hlt
      have hatk := hat k hlt
      have hi : (k : Int) < (T.size : Int) := by omega
      have hi0 : (0 : Int) ≤ (k : Int) := by omega
      clear hc hb hat
      go_wp2
      go_quiet (fail)
      go_wp2
      go_roundw
      case rel => exact ⟨k + 1, _, by omega, by go_num, rfl⟩
      case measure => simp [intOf]; omega
    · clear hb hat
      go_wp2
      go_ret
      exact ⟨rfl, _, rfl⟩

theorem Step.le {ks ks' : List ByteArray} {T : ByteArray} (h : Step ks T ks') (hk : ks.length ≤ 1024) : ks'.length ≤ 1024 := by
  rcases h with ⟨_, rfl⟩ | ⟨_, _, rfl⟩ | ⟨_, _, _, rfl⟩ | ⟨_, _, hl, rfl⟩
  · exact hk
  · exact hk
  · simp
  · simp; omega

theorem below_of_grown {B M : Nat} {a w w' : World} (h : Below B a w) (hg : w.grownBy w' (some M)) (hB : B ≤ w.heap.size) (hM : B ≤ M) : Below B a w' := h.grown hg hB (fun k hk => by cases hk; exact hM)

set_option maxRecDepth 100000 in
set_option maxHeartbeats 2000000 in
theorem back_any (ao : Option Addr) (len cap : Nat) (A : Nat → Option Addr) (N C : Nat → Nat) (Z : Nat → Nat → Int) (w : World) (h : Txts w ao len A N C Z) (hl : len ≤ maxLen) :
    Calls Try.prog 3 #[.slice ao len cap] w fun e w' => e = .returned (.bool true) ∧ Below w.heap.size w w' := by
  have hrow := h.row
  have hnn : ∀ j, j < len → N j ≤ 9223372036854775807 := fun j hj => (h.each j hj).2.2
  go_enter Try.func3, Try.ntmps3
  go_wp2_with fail
  refine (bytes6 ao len cap A N C Z _ h hl).mono ?_
  rintro e w' ⟨⟨r, rfl⟩, rfl⟩
  cases r
  · go_wp2
    go_ret
    exact ⟨rfl, Below.refl _ _⟩
  by_cases h12 : (4096 : Int) < (len : Int)
  · go_wp2
    go_ret
    exact ⟨rfl, Below.refl _ _⟩
  clear hl
  have HH : Hid (∀ j, j < len → Bys w' (A j) (N j) (Z j) ∧ (∀ i, i < N j → 0 ≤ Z j i ∧ Z j i ≤ 255) ∧ N j ≤ maxLen) := h.each
  clear h
  go_wp2
  go_loop [3, 4] (fun n i => ∃ (k : Nat) (z : Int), k ≤ len ∧ i = .int .i64 k ∧ n = .int .i64 z) (fun _ i => len - (intOf i).toNat)
  case atStart => exact ⟨0, _, Nat.zero_le _, rfl, rfl⟩
  case round =>
    obtain ⟨k, z, hk, rfl, rfl⟩ := hrel
    by_cases hlt : k < len
    · obtain ⟨b, off, rfl, hb, hc⟩ := hrow (by omega)
      have hck := hc k hlt
      have hsk := hnn k hlt
      clear hc hnn hrow
      go_wp2
      · go_ret
        exact ⟨rfl, Below.refl _ _⟩
      · go_round
        case rel => exact ⟨k + 1, _, by omega, by go_num, rfl⟩
        case measure => simp [intOf]; omega
    · clear hnn
      go_wp2_with fail
      refine (newReader7 w').mono ?_
      rintro e w1 ⟨L, M, rfl, hrd, hL, hM, hb1⟩
      clear hk hlt
      go_wp2
      go_loopw [6] (fun i wr => ∃ (k : Nat) (ks : List ByteArray), k ≤ len ∧ i = .int .i64 k ∧ Rd wr L M ks ∧ ks.length ≤ 1024 ∧ Below w'.heap.size w' wr) (fun i _ => len - (intOf i).toNat)
      case atStart => exact ⟨0, [], Nat.zero_le _, rfl, hrd, Nat.zero_le _, hb1⟩
      case round =>
        clear hrd hb1
        obtain ⟨k, ks, hk, rfl, hrd, hks, hnx⟩ := hrel
        by_cases hlt : k < len
        · obtain ⟨b, off, rfl, hb, hc⟩ := hrow (by omega)
          have hck := (hnx.cell (p := ⟨b, off + k, none⟩) hb).trans (hc k hlt)
          obtain ⟨hE1, hE2, hE3⟩ := HH.out k hlt
          have HC : Hid (w'.cell? ⟨b, off + k, none⟩ = some (.slice (A k) (N k) (C k))) := hc k hlt
          clear hrow hc
          go_wp2_with fail
          refine (intern8 wr L M (N k) (C k) (A k) (Z k) ks hrd (hE1.after hnx) hE3 hks).mono ?_
          rintro e w2 ⟨rfl, ks2, hst2, hrd2, hg2⟩
          have hnx2 := below_of_grown hnx hg2 hnx.size hM
          have hks2 := hst2.le hks
          have hck2 := (hnx2.cell (p := ⟨b, off + k, none⟩) hb).trans HC.out
          clear hck hrd hg2 hks hst2 hnx
          go_wp2_with fail
          refine (same9 (txt (Z k) (N k)) (A k) (N k) (C k) (Z k) w2 (hE1.after hnx2) hE3 (txt_size _ _) (fun j hj => txt_at _ _ hE2 j hj)).mono ?_
          rintro e w3 ⟨rfl, nd, rfl⟩
          have hrd3 := hrd2.of_heap (w' := w2.drewN nd) rfl
          have hnx3 : Below w'.heap.size w' (w2.drewN nd) := ⟨hnx2.os, hnx2.tape, hnx2.output, hnx2.size, hnx2.block⟩
          clear hrd2 hnx2
          go_wp2_with fail
          refine (intern8 _ L M (N k) (C k) (A k) (Z k) ks2 hrd3 (hE1.after hnx3) hE3 hks2).mono ?_
          rintro e w4 ⟨rfl, ks4, hst4, hrd4, hg4⟩
          have hnx4 := below_of_grown hnx3 hg4 hnx3.size hM
          have hks4 := hst4.le hks2
          clear hck2 hrd3 hg4 hks2 hst4 hnx3
          go_wp2_with fail
          refine (len10 w4 L M ks4 hrd4).mono ?_
          rintro e w5 ⟨rfl, rfl⟩
          have hk4 : ¬ (1024 : Int) < (ks4.length : Int) := by omega
          go_wp2
          go_roundw
          case rel => exact ⟨k + 1, ks4, by omega, by go_num, hrd4, hks4, hnx4⟩
          case measure => simp [intOf]; omega
        · clear hrow
          go_wp2
          go_ret
          exact ⟨rfl, hnx⟩
end Go.Proofs.Qxb6618928a
