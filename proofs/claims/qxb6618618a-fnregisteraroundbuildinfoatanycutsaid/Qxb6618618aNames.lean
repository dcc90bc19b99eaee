import Derived.Test.Qxb6618618aReg
import Derived.Test.Qxb6618618aBytes
namespace Go.Proofs.Qxb6618618a
open Go.RowKit Go.Maps Go.WideMaps
open Go.MuLone

theorem makeMap_hint (n : Int) (w : World) : (Instr.makeMap 24 (some (.int .i64 n))).run Try.prog w = .ok (.map (some w.heap.size)) (w.alloc (.map #[] 0)) := by kernel_rfl

/-- Is x among the first k names? -/
def Among (S : Nat → ByteArray) (k : Nat) (x : ByteArray) : Prop := ∃ j, j < k ∧ S j = x
/-- The set 'seen' tells just that. -/
def SeenIs (D : DataW Unit) (S : Nat → ByteArray) (k : Nat) : Prop :=
  ∀ x : ByteArray, x.size ≤ maxLen → (Among S k x → D.atKey (.string x.data.toList) (.lit (.bool false)) = .lit (.bool true)) ∧ (¬ Among S k x → D.atKey (.string x.data.toList) (.lit (.bool false)) = .lit (.bool false))
def Distinct (S : Nat → ByteArray) (k : Nat) : Prop := ∀ i, i < k → ¬ Among S i (S i)
def EntsAre (ents : List (ByteArray × Nat)) (S : Nat → ByteArray) (k : Nat) : Prop := ents.length = k ∧ ∀ x, (Among S k x → (lookE ents x).isSome = true) ∧ (¬ Among S k x → lookE ents x = none)

theorem lit_ne {x y : ByteArray} (h : x ≠ y) : (Lit.string x.data.toList) ≠ (Lit.string y.data.toList) := by
  intro e
  apply h
  have h1 : x.data.toList = y.data.toList := by simpa using e
  have h2 : x.data = y.data := Array.toList_inj.1 h1
  cases x; cases y; simp at h2; rw [h2]

theorem among_succ {S : Nat → ByteArray} {k : Nat} {x : ByteArray} : Among S (k + 1) x ↔ Among S k x ∨ S k = x := by
  constructor
  · rintro ⟨j, hj, rfl⟩
    by_cases e : j = k
    · subst e; exact .inr rfl
    · exact .inl ⟨j, by omega, rfl⟩
  · rintro (⟨j, hj, rfl⟩ | rfl)
    · exact ⟨j, by omega, rfl⟩
    · exact ⟨k, by omega, rfl⟩

theorem seen_start (S : Nat → ByteArray) : SeenIs (.map []) S 0 := fun _ _ => ⟨fun ⟨j, hj, _⟩ => absurd hj (Nat.not_lt_zero j), fun _ => rfl⟩
theorem seen_step {D : DataW Unit} {S : Nat → ByteArray} {k : Nat} (hD : IsMap D) (h : SeenIs D S k) : SeenIs (D.put (.string (S k).data.toList) (.lit (.bool true))) S (k + 1) := by
  intro x hx
  by_cases e : x = S k
  · subst e
    exact ⟨fun _ => atKey_put_same hD (k := .string (S k).data.toList) trivial _ _, fun hn => absurd (among_succ.2 (.inr rfl)) hn⟩
  · rw [atKey_put_other (lit_ne e)]
    refine ⟨fun ha => (h x hx).1 ?_, fun hn => (h x hx).2 (fun ha => hn (among_succ.2 (.inl ha)))⟩
    rcases among_succ.1 ha with ha | ha
    · exact ha
    · exact absurd ha.symm e

theorem plainElem_bool_inv {H : Type} {P : Program} {e : TypeId} (he : P.underlying e = some .bool) {v : Value} {z : DataW H × List MemPlace} (h : plainElem P e v = some z) : ∃ c, v = .bool c ∧ z = (.lit (.bool c), []) := by
  unfold plainElem at h
  rw [he] at h
  cases v <;> simp at h
  exact ⟨_, rfl, h.symm⟩

/-- 'seen[x]' -/
theorem seen_run {w : World} {B n : Nat} {D : DataW Unit} {S : Nat → ByteArray} {k : Nat} (hown : w.ownsMap Try.prog 9 (plainElem Try.prog 4) B n D) (h : SeenIs D S k) {x : ByteArray} (hx : x.size ≤ maxLen) :
    (Among S k x → (Instr.lookup 24 (.map (some B)) (.string x) false).run Try.prog w = .ok (.bool true) w) ∧ (¬ Among S k x → (Instr.lookup 24 (.map (some B)) (.string x) false).run Try.prog w = .ok (.bool false) w) := by
  obtain ⟨v, ps, hrun, hv⟩ := hown.lookup law9 Try.underlying24 (zero4 _) (plainElem_bool Try.underlying4 false) (keyOf_string_mk Try.underlying9 hx)
  have hb : ∀ c : Bool, D.atKey (.string x.data.toList) (.lit (.bool false)) = .lit (.bool c) → v = .bool c := by
    intro c hc
    rw [hc] at hv
    obtain ⟨c', rfl, h2⟩ := plainElem_bool_inv Try.underlying4 hv
    simp only [Prod.mk.injEq, DataW.lit.injEq, Lit.bool.injEq] at h2
    rw [h2.1]
  exact ⟨fun ha => by rw [hrun, hb true ((h x hx).1 ha)], fun ha => by rw [hrun, hb false ((h x hx).2 ha)]⟩

theorem below_dn {B : Nat} {a w : World} (h : Below B a w) (n : Nat) : Below B a (w.drewN n) := ⟨h.os, h.tape, h.output, h.size, h.block⟩
theorem owns_of_blk {P : Program} {k : TypeId} {R : Value → Option (DataW Unit × List MemPlace)} {w w' : World} {b n : Nat} {D : DataW Unit} (h : w.ownsMap P k R b n D) (hb : w'.heap[b]? = w.heap[b]?) : w'.ownsMap P k R b n D := by
  obtain ⟨es, cl, h1, r⟩ := h
  exact ⟨es, cl, hb.trans h1, r⟩
theorem reg_new (w : World) : Reg (w.alloc (.cells #[.int .i32 0, .int .u32 0, .map none] 35)) w.heap.size [] := by
  have h := heap_alloc_new w (.cells #[.int .i32 0, .int .u32 0, .map none] 35)
  exact ⟨cell_blk h rfl, free_blk h 0, free_blk h 2, .inl ⟨rfl, cell_blk h rfl⟩⟩
theorem ents_start (S : Nat → ByteArray) : EntsAre [] S 0 := ⟨rfl, fun _ => ⟨fun ⟨j, hj, _⟩ => absurd hj (Nat.not_lt_zero j), fun _ => rfl⟩⟩
theorem ents_step {ents : List (ByteArray × Nat)} {S : Nat → ByteArray} {k b : Nat} (h : EntsAre ents S k) : EntsAre ((S k, b) :: ents) S (k + 1) := by
  refine ⟨by simp [h.1], fun x => ?_⟩
  by_cases e : S k = x
  · subst e
    refine ⟨fun _ => by simp [lookE], fun hn => absurd (among_succ.2 (.inr rfl)) hn⟩
  · have hl : lookE ((S k, b) :: ents) x = lookE ents x := by simp [lookE, e]
    rw [hl]
    refine ⟨fun ha => (h.2 x).1 ?_, fun hn => (h.2 x).2 (fun ha => hn (among_succ.2 (.inl ha)))⟩
    rcases among_succ.1 ha with ha | ha
    · exact ha
    · exact absurd ha e

set_option maxRecDepth 100000 in
set_option maxHeartbeats 1000000 in
theorem names_any (ao : Option Addr) (len cap : Nat) (S : Nat → ByteArray) (p : ByteArray) (w : World) (hao : Strs w ao len S) (hS : ∀ i, (S i).size ≤ maxLen) (hp : p.size ≤ maxLen) (hl : len ≤ maxLen) :
    Calls Try.prog 3 #[.slice ao len cap, .string p] w fun e w' => e = .returned (.bool true) ∧ Below w.heap.size w w' := by
  have hmm := makeMap_hint
  have hS' := hS
  have hp' := hp
  unfold maxLen at hS' hp'
  go_enter Try.func3, Try.ntmps3
  go_wp2_with fail
  refine (bytes5 ao len cap S p _ hao hS hp hl).mono ?_
  rintro e w' ⟨⟨r, rfl⟩, rfl⟩
  cases r
  · go_wp2
    go_ret
    exact ⟨rfl, Below.refl _ _⟩
  by_cases h16 : (65536 : Int) < (len : Int)
  · go_wp2
    go_ret
    exact ⟨rfl, Below.refl _ _⟩
  by_cases hp20 : (1048576 : Int) < (p.size : Int)
  · go_wp2
    go_ret
    exact ⟨rfl, Below.refl _ _⟩
  clear hl
  go_wp2
  go_loop [5, 6] (fun n i => ∃ (k : Nat) (z : Int), k ≤ len ∧ i = .int .i64 k ∧ n = .int .i64 z) (fun _ i => len - (intOf i).toNat)
  case atStart => exact ⟨0, p.size, Nat.zero_le _, rfl, rfl⟩
  case round =>
    obtain ⟨k, z, hk, rfl, rfl⟩ := hrel
    by_cases hlt : k < len
    · obtain ⟨b, off, rfl, hb, hc⟩ := hao (by omega)
      have hck := hc k hlt
      have hsk := hS' k
      clear hc hS hS'
      go_wp2
      · go_ret
        exact ⟨rfl, Below.refl _ _⟩
      · go_round
        case rel => exact ⟨k + 1, _, by omega, by go_num, rfl⟩
        case measure => simp [intOf]; omega
    · clear hS'
      go_wp2
      clear hk hlt
      go_loopw [8] (fun i wr => ∃ (k : Nat) (D : DataW Unit), k ≤ len ∧ i = .int .i64 k ∧ wr.ownsMap Try.prog 9 (plainElem Try.prog 4) w'.heap.size k D ∧ SeenIs D S k ∧ Distinct S k ∧ Below w'.heap.size w' wr) (fun i _ => len - (intOf i).toNat)
      case atStart => exact ⟨0, .map [], Nat.zero_le _, rfl, World.ownsMap_made _ _ _ _, seen_start S, fun i hi => absurd hi (Nat.not_lt_zero i), (Below.refl _ _).alloc (Nat.le_refl _) _⟩
      case round =>
        obtain ⟨k, D, hk, rfl, hown, hsee, hdis, hnx⟩ := hrel
        by_cases hlt : k < len
        · obtain ⟨b, off, rfl, hb, hc⟩ := hao (by omega)
          have hck := (hnx.cell (p := ⟨b, off + k, none⟩) hb).trans (hc k hlt)
          have hkey := keyOf_string_mk Try.underlying9 (hS k)
          by_cases ham : Among S k (S k)
          · have hrun := (seen_run hown hsee (hS k)).1 ham
            clear hc hS hown hsee hdis hao
            go_wp2
            go_ret
            exact ⟨rfl, hnx⟩
          · have hrun := (seen_run hown hsee (hS k)).2 ham
            have HD : Hid (Distinct S (k + 1)) := fun i hi => by
              by_cases e : i = k
              · subst e; exact ham
              · exact hdis i (by omega)
            have HS1 : Hid (SeenIs (D.put (.string (S k).data.toList) (.lit (.bool true))) S (k + 1)) := seen_step (hown.tidy law9).isMap hsee
            clear hc hS hsee hdis hao ham
            go_wp2_with (at_mapUpdate; refine wpList_mapUpdate_own _ rfl _ _ _ 24 rfl 9 4 law9 Try.underlying24 _ w'.heap.size k D rfl hown (by unfold maxLen; omega) _ _ _ rfl rfl hkey _ [] (plainElem_bool Try.underlying4 true) ?_; intro w1 hown1 hgrow1)
            have R2 := hnx.grown hgrow1 hnx.size (fun j hj => by cases hj; exact Nat.le_refl _)
            go_roundw
            case rel => exact ⟨k + 1, _, by omega, by go_num, hown1, HS1.out, HD.out, R2⟩
            case measure => simp [intOf]; omega
        · have hkl : k = len := by omega
          subst hkl
          go_wp2
          go_loopw [10] (fun i wx => ∃ (j : Nat) (ents : List (ByteArray × Nat)), j ≤ k ∧ i = .int .i64 j ∧ Reg wx wr.heap.size ents ∧ EntsAre ents S j ∧ Below wr.heap.size wr wx) (fun i _ => k - (intOf i).toNat)
          case atStart => exact ⟨0, [], Nat.zero_le _, rfl, reg_new wr, ents_start S, (Below.refl _ _).alloc (Nat.le_refl _) _⟩
          case round =>
            obtain ⟨j, ents, hj, rfl, hreg, hent, hnx3⟩ := hrel
            by_cases hlt3 : j < k
            · obtain ⟨b, off, rfl, hb, hc⟩ := hao (by omega)
              have hbw := Nat.lt_of_lt_of_le hb hnx.size
              have hc2 := (hnx.cell (p := ⟨b, off + j, none⟩) hb).trans (hc j (by omega))
              have hck := (hnx3.cell (p := ⟨b, off + j, none⟩) hbw).trans hc2
              have hsj := hS j
              have HN : Hid (lookE ents (S j) = none) := (hent.2 (S j)).2 (hdis j (by omega))
              have HE : Hid (EntsAre ents S j) := hent
              have HC : Hid (∃ x, x = (j : Int)) := ⟨_, rfl⟩
              clear hc hS hsee hdis hao hent hown
              go_wp2_with fail
              refine (has_no _ _ ents (S j) hsj hreg HN.out).mono ?_
              rintro e w1 ⟨rfl, rfl⟩
              go_wp2_with fail
              refine (zzregister_any _ _ ents (S j) hsj hreg HN.out (by have := HE.out.1; omega)).mono ?_
              rintro e w2 ⟨rfl, bk, hbk, hreg2, hbel2, hkc2, hblk⟩
              have hck2 := (hbel2.cell (p := ⟨b, off + j, none⟩) hbw).trans hck
              clear hck hreg hkc2 hbk
              go_wp2_with fail
              refine (len_is _ _ _ ((j : Int) + 1) hreg2 (by have := HE.out.1; simp [this])).mono ?_
              rintro e w3 ⟨rfl, rfl⟩
              go_wp2_with fail
              refine (has_yes _ _ _ (S j) hsj hreg2 (by simp [lookE])).mono ?_
              rintro e w4 ⟨rfl, rfl⟩
              go_wp2_with fail
              refine (family_any _ _ bk _ (S j) (S j) ⟨#[]⟩ ⟨#[103, 97, 117, 103, 101]⟩ none 0 0 hsj hreg2 (by simp [lookE]) (cell_blk hblk rfl) (cell_blk hblk rfl) (cell_blk hblk rfl) (cell_blk hblk rfl)).mono ?_
              rintro e w5 ⟨rfl, nq, rfl⟩
              have R1 := hreg2.of_heap (w' := w4.drewN nq) rfl
              have R2 := below_dn (hnx3.trans hbel2) nq
              clear hreg2 hblk hbel2
              go_wp2
              go_roundw
              case rel => exact ⟨j + 1, _, by omega, by go_num, R1, ents_step HE.out, R2⟩
              case measure => simp [intOf]; omega
            · have hjk : j = k := by omega
              subst hjk
              clear hlt3 hj hdis
              go_wp2
              go_loop [16] (fun i => ∃ n : Nat, n ≤ j ∧ i = .int .i64 n) (fun i => j - (intOf i).toNat)
              case atStart => exact ⟨0, Nat.zero_le _, rfl⟩
              case round =>
                obtain ⟨n, hn, rfl⟩ := hrel
                by_cases hlt4 : n < j
                · obtain ⟨b, off, rfl, hb, hc⟩ := hao (by omega)
                  have hbw := Nat.lt_of_lt_of_le hb hnx.size
                  have hc2 := (hnx.cell (p := ⟨b, off + n, none⟩) hb).trans (hc n (by omega))
                  have hck := (hnx3.cell (p := ⟨b, off + n, none⟩) hbw).trans hc2
                  have hsn := hS n
                  have HY : Hid ((lookE ents (S n)).isSome = true) := (hent.2 (S n)).1 ⟨n, hlt4, rfl⟩
                  clear hc hS hsee hao hent hown hc2
                  go_wp2_with fail
                  refine (has_yes _ _ ents (S n) hsn hreg HY.out).mono ?_
                  rintro e w1 ⟨rfl, rfl⟩
                  go_wp2
                  go_round
                  case rel => exact ⟨n + 1, by omega, by go_num⟩
                  case measure => simp [intOf]; omega
                · have hown3 : ∀ nq, (wr.drewN nq).ownsMap Try.prog 9 (plainElem Try.prog 4) w'.heap.size j D := fun nq => owns_of_blk hown (hnx3.block _ hown.lt)
                  have HB : Hid (Below w'.heap.size w' wr) := hnx.trans (hnx3.mono hnx.size)
                  by_cases ham : Among S j p
                  · have hrun := fun nq => (seen_run (hown3 nq) hsee hp).1 ham
                    have HY : Hid ((lookE ents p).isSome = true) := (hent.2 p).1 ham
                    clear hS hsee hao hent hown hnx hnx3 hown3 ham
                    go_wp2
                    go_quiet ((go_at_call 6; exact Calls.quiet_of_same (has_yes _ _ ents p hp (hreg.of_heap rfl) HY.out)))
                    go_wp2
                    go_ret
                    exact ⟨rfl, below_dn HB.out _⟩
                  · have hrun := fun nq => (seen_run (hown3 nq) hsee hp).2 ham
                    have HN : Hid (lookE ents p = none) := (hent.2 p).2 ham
                    clear hS hsee hao hent hown hnx hnx3 hown3 ham
                    go_wp2
                    go_quiet ((go_at_call 6; exact Calls.quiet_of_same (has_no _ _ ents p hp (hreg.of_heap rfl) HN.out)))
                    go_wp2
                    go_ret
                    exact ⟨rfl, below_dn HB.out _⟩
end Go.Proofs.Qxb6618618a
