import Derived.Test.Qxb6618618aNames
import Derived.Test.Qxb6618618aBuild
namespace Go.Proofs.Qxb6618618a
open Go.RowKit Go.Maps Go.WideMaps
open Go.MuLone

def PlainAt (w : World) (b : Nat) (s : ByteArray) : Prop := w.heap[b]? = some (.cells #[.string s, .string ⟨#[]⟩, .slice none 0 0, .string gaugeS, .nilFunc] 53)
/-- Each of the first j names is held with its own metric. -/
def Held (w : World) (ents : List (ByteArray × Nat)) (S : Nat → ByteArray) (j : Nat) : Prop := ∀ i, i < j → ∃ b, lookE ents (S i) = some b ∧ PlainAt w b (S i)
/-- Nothing is held but the first j names and the build info. -/
def Fresh (ents : List (ByteArray × Nat)) (S : Nat → ByteArray) (j : Nat) : Prop := ∀ x, ¬ Among S j x → x ≠ BN → lookE ents x = none
def NoBN (S : Nat → ByteArray) (j : Nat) : Prop := ∀ i, i < j → S i ≠ BN

theorem lookE_same (s : ByteArray) (b : Nat) (ents : List (ByteArray × Nat)) : lookE ((s, b) :: ents) s = some b := by simp [lookE]
theorem lookE_other {s x : ByteArray} (h : s ≠ x) (b : Nat) (ents : List (ByteArray × Nat)) : lookE ((s, b) :: ents) x = lookE ents x := by simp [lookE, h]

theorem PlainAt.kept {w w' : World} {R b : Nat} {s : ByteArray} {ents : List (ByteArray × Nat)} (h : PlainAt w b s) (hr : Reg w R ents) (hk : KC R w w') : PlainAt w' b s := by
  refine hk _ _ _ _ ?_ h
  intro e
  subst e
  have := (cell_blk (i := 0) (v := .string s) h rfl).symm.trans hr.c0
  simp at this

theorem Held.step {w w' : World} {R b j : Nat} {ents : List (ByteArray × Nat)} {S : Nat → ByteArray} (h : Held w ents S j) (hr : Reg w R ents) (hk : KC R w w') (hb : PlainAt w' b (S j)) : Held w' ((S j, b) :: ents) S (j + 1) := by
  intro i hi
  by_cases e : S j = S i
  · exact ⟨b, by rw [e, lookE_same], e ▸ hb⟩
  · have hij : i < j := by
      by_cases e2 : i = j
      · subst e2; exact absurd rfl e
      · omega
    obtain ⟨c, h1, h2⟩ := h i hij
    exact ⟨c, by rw [lookE_other e]; exact h1, h2.kept hr hk⟩
theorem Held.build {w w' : World} {R b j : Nat} {ents : List (ByteArray × Nat)} {S : Nat → ByteArray} (h : Held w ents S j) (hr : Reg w R ents) (hk : KC R w w') (hn : NoBN S j) : Held w' ((BN, b) :: ents) S j := by
  intro i hi
  obtain ⟨c, h1, h2⟩ := h i hi
  exact ⟨c, by rw [lookE_other (fun e => hn i hi e.symm)]; exact h1, h2.kept hr hk⟩
theorem Fresh.step {ents : List (ByteArray × Nat)} {S : Nat → ByteArray} {j b : Nat} (h : Fresh ents S j) : Fresh ((S j, b) :: ents) S (j + 1) := by
  intro x hx hb
  have e : S j ≠ x := fun e => hx (among_succ.2 (.inr e))
  rw [lookE_other e]
  exact h x (fun ha => hx (among_succ.2 (.inl ha))) hb
theorem Fresh.build {ents : List (ByteArray × Nat)} {S : Nat → ByteArray} {j b : Nat} (h : Fresh ents S j) : Fresh ((BN, b) :: ents) S j := by
  intro x hx hb
  rw [lookE_other (fun e => hb e.symm)]
  exact h x hx hb
theorem BuildAt.of_heap {w w' : World} {b : Nat} {v rv : ByteArray} (h : BuildAt w b v rv) (hh : w'.heap = w.heap) : BuildAt w' b v rv := by
  obtain ⟨x⟩ := h
  exact ⟨by rw [hh]; exact x⟩
/-- No metric of the build info before AddBuild. -/
def NoBuild (ents : List (ByteArray × Nat)) : Prop := lookE ents BN = none

set_option maxRecDepth 100000 in
set_option maxHeartbeats 2000000 in
theorem around_any (ao : Option Addr) (len cap : Nat) (kk : Int) (S : Nat → ByteArray) (v rv : ByteArray) (w : World) (hao : Strs w ao len S) (hS : ∀ i, (S i).size ≤ maxLen) (hv : v.size ≤ maxLen) (hrv : rv.size ≤ maxLen) (hl : len ≤ maxLen) :
    Calls Try.prog 4 #[.slice ao len cap, .int .i64 kk, .string v, .string rv] w fun e w' => e = .returned (.bool true) ∧ Below w.heap.size w w' := by
  have hmm := makeMap_hint
  have hS' := hS
  have hv' := hv
  have hrv' := hrv
  unfold maxLen at hS' hv' hrv'
  go_enter Try.func4, Try.ntmps4
  go_wp2_with fail
  refine (bytes10 ao len cap kk S v rv _ hao hS hl).mono ?_
  rintro e w' ⟨⟨r, rfl⟩, rfl⟩
  cases r
  · go_wp2
    go_ret
    exact ⟨rfl, Below.refl _ _⟩
  by_cases h16 : (65536 : Int) < (len : Int)
  · go_wp2
    go_ret
    exact ⟨rfl, Below.refl _ _⟩
  by_cases hv20 : (1048576 : Int) < (v.size : Int)
  · go_wp2
    go_ret
    exact ⟨rfl, Below.refl _ _⟩
  by_cases hr20 : (1048576 : Int) < (rv.size : Int)
  · go_wp2
    go_ret
    exact ⟨rfl, Below.refl _ _⟩
  by_cases hvr20 : (1048576 : Int) < (v.size : Int) + (rv.size : Int)
  · go_wp2
    go_ret
    exact ⟨rfl, Below.refl _ _⟩
  clear hl
  go_wp2
  go_loop [9, 10] (fun n i => ∃ (k : Nat) (z : Int), k ≤ len ∧ i = .int .i64 k ∧ n = .int .i64 z) (fun _ i => len - (intOf i).toNat)
  case atStart => exact ⟨0, _, Nat.zero_le _, rfl, rfl⟩
  case round =>
    obtain ⟨k, z, hk, rfl, rfl⟩ := hrel
    by_cases hlt : k < len
    · obtain ⟨b, off, rfl, hb, hc⟩ := hao (by omega)
      have hck := hc k hlt
      have hsk := hS' k
      clear hc hS hS'
      go_wp2
      · go_ret
        exact ⟨rfl, Below.refl _ _⟩
      · go_round
        case rel => exact ⟨k + 1, _, by omega, by go_num, rfl⟩
        case measure => simp [intOf]; omega
    by_cases hk0 : kk < 0
    · go_wp2
      go_ret
      exact ⟨rfl, Below.refl _ _⟩
    by_cases hk1 : (len : Int) < kk
    · go_wp2
      go_ret
      exact ⟨rfl, Below.refl _ _⟩
    obtain ⟨K, rfl⟩ := Int.eq_ofNat_of_zero_le (show 0 ≤ kk by omega)
    have hK : K ≤ len := by omega
    go_wp2
    clear hk hlt hS'
    go_loopw [12] (fun i wr => ∃ (k : Nat) (D : DataW Unit), k ≤ len ∧ i = .int .i64 k ∧ wr.ownsMap Try.prog 9 (plainElem Try.prog 4) w'.heap.size k D ∧ SeenIs D S k ∧ Distinct S k ∧ NoBN S k ∧ Below w'.heap.size w' wr) (fun i _ => len - (intOf i).toNat)
    case atStart => exact ⟨0, .map [], Nat.zero_le _, rfl, World.ownsMap_made _ _ _ _, seen_start S, fun i hi => absurd hi (Nat.not_lt_zero i), fun i hi => absurd hi (Nat.not_lt_zero i), (Below.refl _ _).alloc (Nat.le_refl _) _⟩
    case round =>
      obtain ⟨k, D, hk, rfl, hown, hsee, hdis, hnob, hnx⟩ := hrel
      by_cases hlt : k < len
      · obtain ⟨b, off, rfl, hb, hc⟩ := hao (by omega)
        have hck := (hnx.cell (p := ⟨b, off + k, none⟩) hb).trans (hc k hlt)
        have hkey := keyOf_string_mk Try.underlying9 (hS k)
        by_cases ham : Among S k (S k)
        · have hrun := (seen_run hown hsee (hS k)).1 ham
          clear hc hS hown hsee hdis hao hnob
          go_wp2
          go_ret
          exact ⟨rfl, hnx⟩
        · have hrun := (seen_run hown hsee (hS k)).2 ham
          by_cases hbn : ((S k).toList == [103, 114, 97, 110, 116, 108, 105, 110, 101, 95, 98, 117, 105, 108, 100, 95, 105, 110, 102, 111]) = true
          · clear hc hS hown hsee hdis hao hnob
            go_wp2
            go_ret
            exact ⟨rfl, hnx⟩
          · have HD : Hid (Distinct S (k + 1)) := fun i hi => by
              by_cases e : i = k
              · subst e; exact ham
              · exact hdis i (by omega)
            have HS1 : Hid (SeenIs (D.put (.string (S k).data.toList) (.lit (.bool true))) S (k + 1)) := seen_step (hown.tidy law9).isMap hsee
            have HNB : Hid (NoBN S (k + 1)) := fun i hi => by
              by_cases e : i = k
              · subst e; exact fun e => hbn (by rw [e, ByteArray.toList_eq]; decide)
              · exact hnob i (by omega)
            clear hc hS hsee hdis hao ham hnob
            go_wp2_with (at_mapUpdate; refine wpList_mapUpdate_own _ rfl _ _ _ 24 rfl 9 4 law9 Try.underlying24 _ w'.heap.size k D rfl hown (by unfold maxLen; omega) _ _ _ rfl rfl hkey _ [] (plainElem_bool Try.underlying4 true) ?_; intro w1 hown1 hgrow1)
            have R2 := hnx.grown hgrow1 hnx.size (fun j hj => by cases hj; exact Nat.le_refl _)
            go_roundw
            case rel => exact ⟨k + 1, _, by omega, by go_num, hown1, HS1.out, HD.out, HNB.out, R2⟩
            case measure => simp [intOf]; omega
      · have hkl : k = len := by omega
        subst hkl
        clear hlt hk hown hsee
        obtain ⟨wz, hwz⟩ : ∃ x, x = wr := ⟨wr, rfl⟩
        subst hwz
        go_wp2
        go_loopw [14] (fun i wx => ∃ (j : Nat) (ents : List (ByteArray × Nat)), j ≤ K ∧ i = .int .i64 j ∧ Reg wx wz.heap.size ents ∧ ents.length = j ∧ Held wx ents S j ∧ Fresh ents S j ∧ NoBuild ents ∧ Below wz.heap.size wz wx) (fun i _ => K - (intOf i).toNat)
        case atStart => exact ⟨0, [], Nat.zero_le _, rfl, reg_new wz, rfl, fun i hi => absurd hi (Nat.not_lt_zero i), fun _ _ _ => rfl, rfl, (Below.refl _ _).alloc (Nat.le_refl _) _⟩
        case round =>
          obtain ⟨j, ents, hj, rfl, hreg, hel, hheld, hfr, hnb, hnx3⟩ := hrel
          by_cases hlt3 : j < K
          · obtain ⟨b, off, rfl, hb, hc⟩ := hao (by omega)
            have hbw := Nat.lt_of_lt_of_le hb hnx.size
            have hc2 := (hnx.cell (p := ⟨b, off + j, none⟩) hb).trans (hc j (by omega))
            have hck := (hnx3.cell (p := ⟨b, off + j, none⟩) hbw).trans hc2
            have hsj := hS j
            have HN : Hid (lookE ents (S j) = none) := hfr (S j) (hdis j (by omega)) (hnob j (by omega))
            have HL : Hid (ents.length = j) := hel
            have HNE : Hid (S j ≠ BN) := hnob j (by omega)
            have HNB : Hid (NoBuild ents) := hnb
            clear hc hS hdis hao hnob hel hnb
            go_wp2_with fail
            refine (zzregister_any _ _ ents (S j) hsj hreg HN.out (by have := HL.out; omega)).mono ?_
            rintro e w2 ⟨rfl, bk, hbk, hreg2, hbel2, hkc2, hblk⟩
            have hH2 := hheld.step hreg hkc2 hblk
            have hF2 := hfr.step (b := bk)
            have hck2 := (hbel2.cell (p := ⟨b, off + j, none⟩) hbw).trans hck
            clear hck hreg hkc2 hbk hheld hfr hblk
            go_wp2_with fail
            refine (len_is _ _ _ ((j : Int) + 1) hreg2 (by have := HL.out; simp [this])).mono ?_
            rintro e w3 ⟨rfl, rfl⟩
            have R2 := hnx3.trans hbel2
            clear hbel2
            go_wp2
            go_roundw
            case rel => exact ⟨j + 1, _, by omega, by go_num, hreg2, by simp [HL.out], hH2, hF2, (lookE_other HNE.out _ _).trans HNB.out, R2⟩
            case measure => simp [intOf]; omega
          · have hjk : j = K := by omega
            subst hjk
            have HL : Hid (ents.length = j) := hel
            have HNB : Hid (NoBuild ents) := hnb
            clear hel hnb hlt3 hj
            go_wp2_with fail
            refine (addbuild11 _ _ ents v rv hv hrv hreg HNB.out (by have := HL.out; omega)).mono ?_
            rintro e w2 ⟨rfl, bb, hbb, hreg2, hbel2, hkc2, hbld⟩
            have hH2 := hheld.build (b := bb) hreg hkc2 (fun i hi => hnob i (by omega))
            have hF2 := hfr.build (b := bb)
            have hnx4 := hnx3.trans hbel2
            clear hreg hheld hfr hnx3 hbel2 hkc2 hbb
            go_wp2_with fail
            refine (len_is _ _ _ ((j : Int) + 1) hreg2 (by have := HL.out; simp [this])).mono ?_
            rintro e w3 ⟨rfl, rfl⟩
            go_wp2
            have HB0 : Hid (lookE ((BN, bb) :: ents) BN = some bb) := lookE_same _ _ _
            go_loopw [15] (fun i wx => ∃ (n : Nat) (ents : List (ByteArray × Nat)), j ≤ n ∧ n ≤ k ∧ i = .int .i64 n ∧ Reg wx wz.heap.size ents ∧ ents.length = n + 1 ∧ Held wx ents S n ∧ Fresh ents S n ∧ lookE ents BN = some bb ∧ BuildAt wx bb v rv ∧ Below wz.heap.size wz wx) (fun i _ => k - (intOf i).toNat)
            case atStart => exact ⟨j, _, Nat.le_refl _, hK, rfl, hreg2, by simp [HL.out], hH2, hF2, HB0.out, hbld, hnx4⟩
            case round =>
              clear hreg2 hH2 hF2 hbld hnx4 HB0 HL HNB
              obtain ⟨n, ents, hjn, hn, rfl, hreg, hel, hheld, hfr, hbn, hbld, hnx3⟩ := hrel
              by_cases hlt4 : n < k
              · obtain ⟨b, off, rfl, hb, hc⟩ := hao (by omega)
                have hbw := Nat.lt_of_lt_of_le hb hnx.size
                have hc2 := (hnx.cell (p := ⟨b, off + n, none⟩) hb).trans (hc n (by omega))
                have hck := (hnx3.cell (p := ⟨b, off + n, none⟩) hbw).trans hc2
                have hsj := hS n
                have HN : Hid (lookE ents (S n) = none) := hfr (S n) (hdis n (by omega)) (hnob n (by omega))
                have HL : Hid (ents.length = n + 1) := hel
                have HNE : Hid (S n ≠ BN) := hnob n (by omega)
                have HBN : Hid (lookE ents BN = some bb) := hbn
                clear hc hS hdis hao hnob hel hbn
                go_wp2_with fail
                refine (zzregister_any _ _ ents (S n) hsj hreg HN.out (by have := HL.out; omega)).mono ?_
                rintro e w4 ⟨rfl, bk, hbk, hreg2, hbel2, hkc2, hblk⟩
                have hH2 := hheld.step hreg hkc2 hblk
                have hF2 := hfr.step (b := bk)
                have hB2 := hbld.kept hreg hkc2
                have hck2 := (hbel2.cell (p := ⟨b, off + n, none⟩) hbw).trans hck
                clear hck hreg hkc2 hbk hheld hfr hblk hbld
                go_wp2_with fail
                refine (len_is _ _ _ ((n : Int) + 2) hreg2 (by have := HL.out; simp [this]; omega)).mono ?_
                rintro e w5 ⟨rfl, rfl⟩
                have R2 := hnx3.trans hbel2
                clear hbel2
                go_wp2
                go_roundw
                case rel => exact ⟨n + 1, _, by omega, by omega, by go_num, hreg2, by simp [HL.out], hH2, hF2, (lookE_other HNE.out _ _).trans HBN.out, hB2, R2⟩
                case measure => simp [intOf]; omega
              · have hnk : n = k := by omega
                subst hnk
                have HBN : Hid (lookE ents BN = some bb) := hbn
                clear hfr hel hbn hlt4 hn hdis hnob
                go_wp2
                go_loopw [16] (fun i wx => ∃ (m nd : Nat), m ≤ n ∧ i = .int .i64 m ∧ wx = wr.drewN nd) (fun i _ => n - (intOf i).toNat)
                case atStart => exact ⟨0, 0, Nat.zero_le _, rfl, rfl⟩
                case round =>
                  obtain ⟨m, nd, hm, rfl, rfl⟩ := hrel
                  by_cases hlt5 : m < n
                  · obtain ⟨b, off, rfl, hb, hc⟩ := hao (by omega)
                    have hbw := Nat.lt_of_lt_of_le hb hnx.size
                    have hc2 := (hnx.cell (p := ⟨b, off + m, none⟩) hb).trans (hc m (by omega))
                    have hck := (hnx3.cell (p := ⟨b, off + m, none⟩) hbw).trans hc2
                    have hsj := hS m
                    obtain ⟨bm, hbm1, hbm2⟩ := hheld m hlt5
                    have HM : Hid (lookE ents (S m) = some bm) := hbm1
                    have HP : Hid (PlainAt _ bm (S m)) := hbm2
                    clear hc hS hao hheld hbm1 hbm2 hbld
                    go_wp2_with fail
                    refine (family_any _ _ bm _ (S m) (S m) ⟨#[]⟩ ⟨#[103, 97, 117, 103, 101]⟩ none 0 0 hsj (by exact hreg.of_heap rfl) HM.out (by exact cell_blk HP.out rfl) (by exact cell_blk HP.out rfl) (by exact cell_blk HP.out rfl) (by exact cell_blk HP.out rfl)).mono ?_
                    rintro e w5 ⟨rfl, nq, rfl⟩
                    go_wp2
                    go_roundw
                    case rel => exact ⟨m + 1, _, by omega, by go_num, rfl⟩
                    case measure => simp [intOf]; omega
                  · clear hheld hao hS
                    go_wp2_with fail
                    refine (intact12 _ _ bb ents v rv (by exact hreg.of_heap rfl) HBN.out (by exact hbld.of_heap rfl)).mono ?_
                    rintro e w5 ⟨rfl, hb5⟩
                    have E := (hnx.trans (hnx3.mono hnx.size)).trans ((below_dn (Below.refl _ _) nd).trans (hb5.mono (Nat.le_trans hnx.size hnx3.size)))
                    clear hb5
                    go_wp2
                    go_ret
                    exact ⟨rfl, E⟩
end Go.Proofs.Qxb6618618a
