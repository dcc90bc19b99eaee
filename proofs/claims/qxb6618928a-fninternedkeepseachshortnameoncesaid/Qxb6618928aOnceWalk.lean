import Derived.Test.Qxb6618928aOnce
namespace Go.Proofs.Qxb6618928a
open Go.RowKit Go.Maps Go.WideMaps

set_option maxRecDepth 100000 in
set_option maxHeartbeats 400000 in
theorem bytes11 (ao : Option Addr) (len cap : Nat) (A : Nat → Option Addr) (N C : Nat → Nat) (Z : Nat → Nat → Int) (w : World) (h : Txts w ao len A N C Z) (hl : len ≤ maxLen) :
    Calls Try.prog 11 #[.slice ao len cap] w fun e w' => IsBool e ∧ w' = w := by
  unfold maxLen at hl
  by_cases h20 : (1048576 : Int) < (len : Int)
  · go_enter Try.func11, Try.ntmps11
    go_wp2
    go_ret
    exact ⟨isBool_mk _, rfl⟩
  have hrow := h.row
  have hnn : ∀ j, j < len → N j ≤ 9223372036854775807 := fun j hj => (h.each j hj).2.2
  clear h
  go_enter Try.func11, Try.ntmps11
  go_wp2
  go_loop [3, 4] (fun n i => ∃ (k : Nat) (z : Int), k ≤ len ∧ i = .int .i64 k ∧ n = .int .i64 z) (fun _ i => len - (intOf i).toNat)
  case atStart => exact ⟨0, len, Nat.zero_le _, rfl, rfl⟩
  case round =>
    obtain ⟨k, z, hk, rfl, rfl⟩ := hrel
    by_cases hlt : k < len
    · obtain ⟨b, off, rfl, hb, hc⟩ := hrow (by omega)
      have hck := hc k hlt
      have hsk := hnn k hlt
      clear hc hnn hrow
      go_wp2
      · go_ret
        exact ⟨isBool_mk _, rfl⟩
      · go_ret
        exact ⟨isBool_mk _, rfl⟩
      · go_round
        case rel => exact ⟨k + 1, _, by omega, by go_num, rfl⟩
        case measure => simp [intOf]; omega
    · clear hnn hrow
      go_wp2
      all_goals (go_ret; exact ⟨isBool_mk _, rfl⟩)


/-- what the append's new row leaves alone -/
theorem own_shape {w : World} {base d : Nat} {v : Value} {xs : List Value} (h : w.ownsRow base 24 1 v d xs) : ∃ so sc, v = .slice so d sc := by
  obtain ⟨_, h | ⟨g, cap, cur, hv, _⟩⟩ := h
  · exact ⟨none, 0, by rw [h.1, h.2]⟩
  · exact ⟨_, _, hv⟩
theorem own_block {w : World} {base d : Nat} {v : Value} {xs : List Value} (h : w.ownsRow base 24 1 v d xs) {b : Nat} (hb : b < base) : some b ≠ v.ownBlock := by
  intro e
  have := h.lt b e.symm
  omega
theorem own_keeps {w w' : World} {base d M : Nat} {v : Value} {xs : List Value} (h : w.ownsRow base 24 1 v d xs) (hg : w.grownBy w' (some M)) (hM : M < base) : w'.ownsRow base 24 1 v d xs := by
  refine h.kept hg (.inr (fun e => ?_))
  exact own_block h hM e.symm
theorem sl_snoc (A : Nat → Option Addr) (N C : Nat → Nat) (idx : List Nat) (k : Nat) : slOf A N C idx ++ [Value.slice (A k) (N k) (C k)] = slOf A N C (idx ++ [k]) := by simp [slOf]
theorem sn_snoc (Z : Nat → Nat → Int) (N : Nat → Nat) (idx : List Nat) (k : Nat) : snOf Z N (idx ++ [k]) = snOf Z N idx ++ [txt (Z k) (N k)] := by simp [snOf]
theorem sn_len (Z : Nat → Nat → Int) (N : Nat → Nat) (idx : List Nat) : (snOf Z N idx).length = idx.length := by simp [snOf]

set_option maxRecDepth 100000 in
set_option maxHeartbeats 4000000 in
theorem once_any (ao : Option Addr) (len cap : Nat) (A : Nat → Option Addr) (N C : Nat → Nat) (Z : Nat → Nat → Int) (w : World) (h : Txts w ao len A N C Z) (hl : len ≤ maxLen) :
    Calls Try.prog 4 #[.slice ao len cap] w fun e w' => e = .returned (.bool true) ∧ Below w.heap.size w w' := by
  have hrow := h.row
  have hnn : ∀ j, j < len → N j ≤ 9223372036854775807 := fun j hj => (h.each j hj).2.2
  obtain ⟨i0, hi, hz0, hz1, hz2⟩ := info_parts info24
  go_enter Try.func4, Try.ntmps4
  go_wp2_with fail
  refine (bytes11 ao len cap A N C Z _ h hl).mono ?_
  rintro e w' ⟨⟨r, rfl⟩, rfl⟩
  cases r
  · go_wp2
    go_ret
    exact ⟨rfl, Below.refl _ _⟩
  by_cases h12 : (4096 : Int) < (len : Int)
  · go_wp2
    go_ret
    exact ⟨rfl, Below.refl _ _⟩
  clear hl
  have HH : Hid (∀ j, j < len → Bys w' (A j) (N j) (Z j) ∧ (∀ i, i < N j → 0 ≤ Z j i ∧ Z j i ≤ 255) ∧ N j ≤ maxLen) := h.each
  clear h
  go_wp2
  go_loop [3, 4] (fun n i => ∃ (k : Nat) (z : Int), k ≤ len ∧ i = .int .i64 k ∧ n = .int .i64 z) (fun _ i => len - (intOf i).toNat)
  case atStart => exact ⟨0, _, Nat.zero_le _, rfl, rfl⟩
  case round =>
    obtain ⟨k, z, hk, rfl, rfl⟩ := hrel
    by_cases hlt : k < len
    · obtain ⟨b, off, rfl, hb, hc⟩ := hrow (by omega)
      have hck := hc k hlt
      have hsk := hnn k hlt
      clear hc hnn hrow
      go_wp2
      · go_ret
        exact ⟨rfl, Below.refl _ _⟩
      · go_round
        case rel => exact ⟨k + 1, _, by omega, by go_num, rfl⟩
        case measure => simp [intOf]; omega
    · clear hnn
      go_wp2_with fail
      refine (newReader7 w').mono ?_
      rintro e w1 ⟨L, M, rfl, hrd, hL, hM, hb1⟩
      clear hk hlt
      have hL1 := hrd.ltL
      have hM1 := hrd.ltM
      have hw1 := hb1.size
      go_wp2
      go_loopw [6, 7, 8] (fun s p i wr => ∃ (k : Nat) (ks : List ByteArray) (idx : List Nat) (so : Option Addr) (sc : Nat), k ≤ len ∧ i = .int .i64 k ∧ p = .int .i64 ks.length ∧ s = .slice so idx.length sc ∧ idx.length ≤ k ∧ (∀ x ∈ idx, x < len) ∧
        wr.ownsRow w1.heap.size 24 1 (.slice so idx.length sc) idx.length (slOf A N C idx) ∧ Rd wr L M ks ∧ Inv (snOf Z N idx) ks ∧ w1.heap.size ≤ wr.heap.size ∧ Below w'.heap.size w' wr) (fun _ _ i _ => len - (intOf i).toNat)
      case atStart => exact ⟨0, [], [], none, 0, Nat.zero_le _, rfl, rfl, rfl, Nat.le_refl _, by simp, World.ownsRow_nil _ _ _ _, hrd, inv_start, Nat.le_refl _, hb1⟩
      case round =>
        clear hrd hb1
        obtain ⟨k, ks, idx, so, sc, hk, rfl, rfl, rfl, hik, hix, hown, hrd, hinv, hsz, hnx⟩ := hrel
        by_cases hlt : k < len
        · obtain ⟨b, off, rfl, hb, hc⟩ := hrow (by omega)
          have hck := (hnx.cell (p := ⟨b, off + k, none⟩) hb).trans (hc k hlt)
          have HC : Hid (w'.cell? ⟨b, off + k, none⟩ = some (.slice (A k) (N k) (C k))) := hc k hlt
          obtain ⟨hE1, hE2, hE3⟩ := HH.out k hlt
          have HTS : Hid ((txt (Z k) (N k)).size = N k) := txt_size _ _
          have HIX : Hid (∀ x ∈ idx, x < len) := hix
          clear hrow hc hix
          by_cases hlong : (128 : Int) < (N k : Int)
          · have hlong' : ¬ (N k : Int) ≤ 128 := by omega
            have hdl : decide ((N k : Int) ≤ 128) = false := decide_eq_false hlong'
            go_wp2_with fail
            refine (intern8 wr L M (N k) (C k) (A k) (Z k) ks hrd (hE1.after hnx) hE3 hinv.le).mono ?_
            rintro e w2 ⟨rfl, ks2, hst2, hrd2, hg2⟩
            have hnx2 := below_of_grown hnx hg2 hnx.size hM
            obtain ⟨hinv2, hkk⟩ := inv_long hinv hst2 (by have := HTS.out; omega)
            have hown2 := own_keeps hown hg2 hM1
            have hsz2 := Nat.le_trans hsz hg2.size
            clear hck hrd hg2 hst2 hnx hown hsz hinv
            go_wp2_with fail
            refine (len10 w2 L M ks2 hrd2).mono ?_
            rintro e w5 ⟨rfl, rfl⟩
            have hp : ((ks2.length : Int) != (ks.length : Int)) = false := by simp [hkk]
            have HKK : Hid (ks2.length = ks.length) := hkk
            have HS := hinv2.same
            have HS1 := hinv2.some1
            have HLE := hinv2.le
            rw [sn_len] at HS HS1
            by_cases hd : (idx.length : Int) ≤ 1024
            · have hnd : ((ks2.length : Int) != (idx.length : Int)) = false := by simp [(HS (by omega)).1]
              clear HS HS1 hkk
              go_wp2
              go_roundw
              case rel => exact ⟨k + 1, ks2, idx, so, sc, by omega, by go_num, rfl, rfl, by omega, HIX.out, hown2, hrd2, hinv2, hsz2, hnx2⟩
              case measure => simp [intOf]; omega
            · have hn1 : ¬ (ks2.length : Int) < 1 := by have := HS1 (by omega); omega
              have hn2 : ¬ (1024 : Int) < (ks2.length : Int) := by omega
              clear HS HS1 hkk
              go_wp2
              go_roundw
              case rel => exact ⟨k + 1, ks2, idx, so, sc, by omega, by go_num, rfl, rfl, by omega, HIX.out, hown2, hrd2, hinv2, hsz2, hnx2⟩
              case measure => simp [intOf]; omega
          · have hshort : (N k : Int) ≤ 128 := by omega
            obtain ⟨so', sc', e0, hT⟩ := seen_txts hown hnx HH.out HIX.out
            simp only [Value.slice.injEq, true_and] at e0
            obtain ⟨rfl, rfl⟩ := e0
            have HTX : Hid (Txts wr so idx.length (fun j => A (idx.getD j 0)) (fun j => N (idx.getD j 0)) (fun j => C (idx.getD j 0)) (fun j => Z (idx.getD j 0))) := hT
            clear hT
            go_wp2_with fail
            refine (inSeen12 so (A k) idx.length sc (N k) (C k) _ _ _ _ (Z k) wr HTX.out (hE1.after hnx) hE2 (by omega)).mono ?_
            rintro e w2 ⟨⟨r, rfl, hr⟩, nd, rfl⟩
            have hnxd : Below w'.heap.size w' (wr.drewN nd) := ⟨hnx.os, hnx.tape, hnx.output, hnx.size, hnx.block⟩
            have hownd : (wr.drewN nd).ownsRow w1.heap.size 24 1 (.slice so idx.length sc) idx.length (slOf A N C idx) := hown
            have hrdd := hrd.of_heap (w' := wr.drewN nd) rfl
            clear hck hown hrd hnx
            cases r
            · have HNEW : Hid (txt (Z k) (N k) ∉ snOf Z N idx) := fun hm => by
                have := hr.2 (seen_mem.2 hm)
                cases this
              clear hr
              go_wp2_with (at_builtin; go_must (refine wpList_append_own _ rfl (.tmp 56) (.tmp 58) 22 rfl w1.heap.size 24 i0 (.slice none 0 0) 1 24 Try.underlying22 hi hz0 hz1 hz2 rfl (by decide) (.slice so idx.length sc) idx.length (slOf A N C idx) rfl (hownd.alloc _) ⟨wr.heap.size, 0, none⟩ 1 1 [.slice (A k) (N k) (C k)] rfl rfl (cell_one_new _ _ _) (fun u hu => by simp at hu; subst hu; rfl) (by unfold maxLen; omega) (by omega) (by simp; omega) ?_; intro v' w3 hown3 hgrow3 _))
              have HIX2 : Hid (∀ x ∈ idx ++ [k], x < len) := fun x hx => by
                rcases List.mem_append.1 hx with h | h
                · exact HIX.out x h
                · simp at h; subst h; exact hlt
              obtain ⟨so2, sc2, hv2⟩ := own_shape hown3
              subst hv2
              rw [sl_snoc] at hown3
              have hg3 := (World.grownBy_alloc (wr.drewN nd) (.cells #[.slice (A k) (N k) (C k)] 24) _).trans hgrow3
              have hnx3 : Below w'.heap.size w' w3 := hnxd.grown hg3 hnxd.size (fun j hj => Nat.le_trans hw1 (hownd.lt j hj).1)
              have hrd3 := hrdd.of_blocks (hg3.block L hrdd.ltL (own_block hownd hL1)) (hg3.block M hrdd.ltM (own_block hownd hM1))
              have hsz3 : w1.heap.size ≤ w3.heap.size := Nat.le_trans hsz hg3.size
              clear hgrow3 hg3 hrdd hnxd hownd hsz HTX
              go_wp2_with fail
              refine (intern8 _ L M (N k) (C k) (A k) (Z k) ks hrd3 (hE1.after hnx3) hE3 hinv.le).mono ?_
              rintro e w4 ⟨rfl, ks2, hst2, hrd2, hg2⟩
              have hnx2 := below_of_grown hnx3 hg2 hnx3.size hM
              have hinv2 : Inv (snOf Z N (idx ++ [k])) ks2 := by rw [sn_snoc]; exact inv_new hinv hst2 HNEW.out (by have := HTS.out; omega)
              have hown2 : w4.ownsRow w1.heap.size 24 1 (.slice so2 (idx ++ [k]).length sc2) (idx ++ [k]).length (slOf A N C (idx ++ [k])) := by
                rw [show (idx ++ [k]).length = idx.length + 1 from by simp]
                exact own_keeps hown3 hg2 hM1
              have hsz2 := Nat.le_trans hsz3 hg2.size
              clear hrd3 hg2 hst2 hnx3 hown3 hsz3 hinv
              go_wp2_with fail
              refine (len10 w4 L M ks2 hrd2).mono ?_
              rintro e w5 ⟨rfl, rfl⟩
              have HS := hinv2.same
              have HS1 := hinv2.some1
              have HLE := hinv2.le
              rw [sn_len] at HS HS1
              by_cases hd : ((idx ++ [k]).length : Int) ≤ 1024
              · have hnd : ((ks2.length : Int) != ((idx ++ [k]).length : Int)) = false := by simp only [(HS (by omega)).1]; simp
                rw [show ((idx ++ [k]).length : Int) = (idx.length : Int) + 1 from by simp] at hd hnd
                clear HS HS1
                go_wp2
                go_roundw
                case rel => exact ⟨k + 1, ks2, idx ++ [k], so2, sc2, by omega, by go_num, rfl, by simp, by simp; omega, HIX2.out, hown2, hrd2, hinv2, hsz2, hnx2⟩
                case measure => simp [intOf]; omega
              · have hn1 : ¬ (ks2.length : Int) < 1 := by have := HS1 (by omega); omega
                have hn2 : ¬ (1024 : Int) < (ks2.length : Int) := by omega
                rw [show ((idx ++ [k]).length : Int) = (idx.length : Int) + 1 from by simp] at hd
                clear HS HS1
                go_wp2
                go_roundw
                case rel => exact ⟨k + 1, ks2, idx ++ [k], so2, sc2, by omega, by go_num, rfl, by simp, by simp; omega, HIX2.out, hown2, hrd2, hinv2, hsz2, hnx2⟩
                case measure => simp [intOf]; omega
            · have HOLD : Hid (txt (Z k) (N k) ∈ snOf Z N idx) := seen_mem.1 (hr.1 rfl)
              clear hr
              have HIX2 := HIX
              go_wp2_with fail
              refine (intern8 _ L M (N k) (C k) (A k) (Z k) ks hrdd (hE1.after hnxd) hE3 hinv.le).mono ?_
              rintro e w4 ⟨rfl, ks2, hst2, hrd2, hg2⟩
              have hnx2 := below_of_grown hnxd hg2 hnxd.size hM
              have hinv2 := inv_old hinv hst2 HOLD.out
              have hown2 := own_keeps hownd hg2 hM1
              have hsz2 := Nat.le_trans hsz hg2.size
              clear hrdd hg2 hst2 hnxd hownd hsz hinv HTX
              go_wp2_with fail
              refine (len10 w4 L M ks2 hrd2).mono ?_
              rintro e w5 ⟨rfl, rfl⟩
              have HS := hinv2.same
              have HS1 := hinv2.some1
              have HLE := hinv2.le
              rw [sn_len] at HS HS1
              by_cases hd : ((idx).length : Int) ≤ 1024
              · have hnd : ((ks2.length : Int) != ((idx).length : Int)) = false := by simp only [(HS (by omega)).1]; simp
                clear HS HS1
                go_wp2
                go_roundw
                case rel => exact ⟨k + 1, ks2, idx, so, sc, by omega, by go_num, rfl, rfl, by omega, HIX2.out, hown2, hrd2, hinv2, hsz2, hnx2⟩
                case measure => simp [intOf]; omega
              · have hn1 : ¬ (ks2.length : Int) < 1 := by have := HS1 (by omega); omega
                have hn2 : ¬ (1024 : Int) < (ks2.length : Int) := by omega
                clear HS HS1
                go_wp2
                go_roundw
                case rel => exact ⟨k + 1, ks2, idx, so, sc, by omega, by go_num, rfl, rfl, by omega, HIX2.out, hown2, hrd2, hinv2, hsz2, hnx2⟩
                case measure => simp [intOf]; omega
        · clear hrow
          go_wp2
          go_ret
          exact ⟨rfl, hnx⟩
end Go.Proofs.Qxb6618928a
