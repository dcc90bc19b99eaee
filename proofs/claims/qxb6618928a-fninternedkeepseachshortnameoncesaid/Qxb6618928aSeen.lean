import Derived.Test.Qxb6618928aBack
namespace Go.Proofs.Qxb6618928a
open Go.RowKit Go.Maps Go.WideMaps

/-- It returned a bool that tells p. -/
def Told (e : Ending) (p : Prop) : Prop := ∃ r : Bool, e = .returned (.bool r) ∧ (r = true ↔ p)
theorem told_yes {p : Prop} (h : p) : Told (.returned (.bool true)) p := ⟨true, rfl, by simp [h]⟩
theorem told_no {p : Prop} (h : ¬ p) : Told (.returned (.bool false)) p := ⟨false, rfl, by simp [h]⟩

theorem txt_eq {Z Z' : Nat → Int} {n n' : Nat} (hZ : ∀ i, i < n → 0 ≤ Z i ∧ Z i ≤ 255) (hZ' : ∀ i, i < n' → 0 ≤ Z' i ∧ Z' i ≤ 255) : txt Z n = txt Z' n' ↔ n = n' ∧ ∀ i, i < n → Z i = Z' i := by
  constructor
  · intro h
    have h1 : n = n' := by rw [← txt_size Z n, h, txt_size]
    subst h1
    refine ⟨rfl, fun i hi => ?_⟩
    have a := txt_at Z n hZ i (by rw [txt_size]; exact hi)
    have b := txt_at Z' n hZ' i (by rw [txt_size]; exact hi)
    rw [← a, ← b]
    simp only [h]
  · rintro ⟨rfl, h⟩
    unfold txt
    congr 1
    apply List.map_congr_left
    intro i hi
    exact h i (List.mem_range.1 hi)

set_option maxRecDepth 100000 in
set_option maxHeartbeats 800000 in
theorem sameB19 (aa ba : Option Addr) (an ac bn bc : Nat) (aZ bZ : Nat → Int) (w : World) (ha : Bys w aa an aZ) (hb : Bys w ba bn bZ) (hA : ∀ i, i < an → 0 ≤ aZ i ∧ aZ i ≤ 255) (hB : ∀ i, i < bn → 0 ≤ bZ i ∧ bZ i ≤ 255) (hn : an ≤ maxLen) :
    Calls Try.prog 19 #[.slice aa an ac, .slice ba bn bc] w fun e w' => Told e (txt aZ an = txt bZ bn) ∧ ∃ nd, w' = w.drewN nd := by
  have HT : Hid (txt aZ an = txt bZ bn ↔ an = bn ∧ ∀ i, i < an → aZ i = bZ i) := txt_eq hA hB
  unfold maxLen at hn
  clear hA hB
  by_cases hne : an = bn
  · subst hne
    have hq : ((an : Int) != (an : Int)) = false := by simp
    go_enter Try.func19, Try.ntmps19
    go_wp2
    go_loopw [5] (fun i wr => ∃ (k nd : Nat), k ≤ an ∧ i = .int .i64 k ∧ wr = w.drewN nd ∧ ∀ i, i < k → aZ i = bZ i) (fun i _ => an - (intOf i).toNat)
    case atStart => exact ⟨0, 0, Nat.zero_le _, rfl, rfl, fun i hi => absurd hi (Nat.not_lt_zero i)⟩
    case round =>
      obtain ⟨k, nd, hk, rfl, rfl, hal⟩ := hrel
      have HAL : Hid (∀ i, i < k → aZ i = bZ i) := hal
      clear hal
      by_cases hlt : k < an
      · obtain ⟨b, off, rfl, hbl, hc⟩ := ha (by omega)
        obtain ⟨b', off', rfl, hbl', hc'⟩ := hb (by omega)
        have hck := hc k hlt
        have hck' := hc' k hlt
        have hi : (k : Int) < (an : Int) := by omega
        have hi0 : (0 : Int) ≤ (k : Int) := by omega
        clear hc hb ha hc'
        by_cases hz : aZ k = bZ k
        · have HZ : Hid (aZ k = bZ k) := hz
          have hzb : (aZ k != bZ k) = false := by simp [hz]
          clear hz
          go_wp2
          go_quiet (fail)
          go_wp2
          go_roundw
          case rel => exact ⟨k + 1, _, by omega, by go_num, rfl, fun i hi => by
            by_cases e : i = k
            · subst e; exact HZ.out
            · exact HAL.out i (by omega)⟩
          case measure => simp [intOf]; omega
        · have HZ : Hid (¬ aZ k = bZ k) := hz
          have hzb : (aZ k != bZ k) = true := by simp [hz]
          clear hz
          go_wp2
          go_quiet (fail)
          go_wp2
          go_ret
          exact ⟨told_no (fun e => HZ.out ((HT.out.1 e).2 k hlt)), nd + nq, by simp⟩
      · clear ha hb
        go_wp2
        go_ret
        exact ⟨told_yes (HT.out.2 ⟨by simp, fun i hi => HAL.out i (by omega)⟩), _, rfl⟩
  · have HNE : Hid (¬ an = bn) := hne
    have hq : ((an : Int) != (bn : Int)) = true := by simp; omega
    clear hne ha hb
    go_enter Try.func19, Try.ntmps19
    go_wp2
    go_ret
    exact ⟨told_no (fun e => HNE.out (HT.out.1 e).1), 0, rfl⟩

theorem Bys.dn {w : World} {ao : Option Addr} {n : Nat} {Z : Nat → Int} (h : Bys w ao n Z) (nd : Nat) : Bys (w.drewN nd) ao n Z := h

set_option maxRecDepth 100000 in
set_option maxHeartbeats 800000 in
theorem inSeen12 (so ta : Option Addr) (d sc tn tc : Nat) (A : Nat → Option Addr) (N C : Nat → Nat) (Z : Nat → Nat → Int) (tZ : Nat → Int) (w : World) (hs : Txts w so d A N C Z) (ht : Bys w ta tn tZ) (hB : ∀ i, i < tn → 0 ≤ tZ i ∧ tZ i ≤ 255) (hd : d ≤ 4096) :
    Calls Try.prog 12 #[.slice so d sc, .slice ta tn tc] w fun e w' => Told e (∃ j, j < d ∧ txt (Z j) (N j) = txt tZ tn) ∧ ∃ nd, w' = w.drewN nd := by
  have hrow := hs.row
  have HE : Hid (∀ j, j < d → Bys w (A j) (N j) (Z j) ∧ (∀ i, i < N j → 0 ≤ Z j i ∧ Z j i ≤ 255) ∧ N j ≤ maxLen) := hs.each
  have HB : Hid (∀ i, i < tn → 0 ≤ tZ i ∧ tZ i ≤ 255) := hB
  have HT : Hid (Bys w ta tn tZ) := ht
  clear hs hB ht
  go_enter Try.func12, Try.ntmps12
  go_wp2
  go_loopw [5] (fun i wr => ∃ (k nd : Nat), k ≤ d ∧ i = .int .i64 k ∧ wr = w.drewN nd ∧ ∀ j, j < k → txt (Z j) (N j) ≠ txt tZ tn) (fun i _ => d - (intOf i).toNat)
  case atStart => exact ⟨0, 0, Nat.zero_le _, rfl, rfl, fun i hi => absurd hi (Nat.not_lt_zero i)⟩
  case round =>
    obtain ⟨k, nd, hk, rfl, rfl, hal⟩ := hrel
    have HAL : Hid (∀ j, j < k → txt (Z j) (N j) ≠ txt tZ tn) := hal
    clear hal
    by_cases hlt : k < d
    · obtain ⟨b, off, rfl, hbl, hc⟩ := hrow (by omega)
      have hck := hc k hlt
      clear hc hrow
      go_wp2_with fail
      refine (sameB19 (A k) ta (N k) (C k) tn tc (Z k) tZ _ (by exact (HE.out k hlt).1.dn _) (by exact HT.out.dn _) (HE.out k hlt).2.1 HB.out (HE.out k hlt).2.2).mono ?_
      rintro e w1 ⟨⟨r, rfl, hr⟩, nd1, rfl⟩
      have HR : Hid (r = true ↔ txt (Z k) (N k) = txt tZ tn) := hr
      clear hr
      cases r
      · go_wp2
        go_roundw
        case rel => exact ⟨k + 1, nd + nd1, by omega, by go_num, by simp, fun j hj => by
          by_cases e : j = k
          · subst e; exact fun e => by have := HR.out.2 e; cases this
          · exact HAL.out j (by omega)⟩
        case measure => simp [intOf]; omega
      · go_wp2
        go_ret
        exact ⟨told_yes ⟨k, hlt, HR.out.1 (by simp)⟩, nd + nd1, by simp⟩
    · clear hrow
      go_wp2
      go_ret
      exact ⟨told_no (fun ⟨j, hj, e⟩ => HAL.out j (by omega) e), _, rfl⟩
end Go.Proofs.Qxb6618928a
