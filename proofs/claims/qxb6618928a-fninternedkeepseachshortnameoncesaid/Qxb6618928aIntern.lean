import Derived.Test.Qxb6618928aReader
namespace Go.Proofs.Qxb6618928a
open Go.RowKit Go.Maps Go.WideMaps

/-- what one call of interned does to the names -/
def Step (ks : List ByteArray) (T : ByteArray) (ks' : List ByteArray) : Prop :=
  (T ∈ ks ∧ ks' = ks) ∨ (T ∉ ks ∧ 128 < T.size ∧ ks' = ks) ∨ (T ∉ ks ∧ T.size ≤ 128 ∧ ks.length = 1024 ∧ ks' = [T]) ∨ (T ∉ ks ∧ T.size ≤ 128 ∧ ks.length < 1024 ∧ ks' = T :: ks)

theorem lit_ne {x y : ByteArray} (h : x ≠ y) : (Lit.string x.data.toList) ≠ (Lit.string y.data.toList) := by
  intro e
  apply h
  have h1 : x.data.toList = y.data.toList := by simpa using e
  have h2 : x.data = y.data := Array.toList_inj.1 h1
  cases x; cases y; simp at h2; rw [h2]

theorem Rd.of_heap {w w' : World} {L M : Nat} {ks : List ByteArray} (h : Rd w L M ks) (hh : w'.heap = w.heap) : Rd w' L M ks := by
  obtain ⟨D, h1, h2⟩ := h.m
  obtain ⟨es, cl, hb, r⟩ := h1
  exact ⟨by simpa [World.cell?, hh] using h.c6, D, ⟨es, cl, by rw [hh]; exact hb, r⟩, h2⟩

def LookIs (D : DataW Unit) (ks : List ByteArray) : Prop := ∀ s : ByteArray, s.size ≤ maxLen → (s ∈ ks → D.atKey (.string s.data.toList) (.lit (.string [])) = .lit (.string s.data.toList) ∧ Maps.has D (.string s.data.toList) = true) ∧ (s ∉ ks → Maps.has D (.string s.data.toList) = false)

theorem look_put {D : DataW Unit} {ks : List ByteArray} (hD : IsMap D) (h : LookIs D ks) (T : ByteArray) : LookIs (D.put (.string T.data.toList) (.lit (.string T.data.toList))) (T :: ks) := by
  intro s hs
  by_cases e : s = T
  · subst e
    exact ⟨fun _ => ⟨atKey_put_same hD (k := .string s.data.toList) trivial _ _, has_put_same hD (k := .string s.data.toList) trivial _⟩, fun hn => absurd (List.mem_cons_self) hn⟩
  · rw [atKey_put_other (lit_ne e), has_put_other (lit_ne e)]
    refine ⟨fun hm => (h s hs).1 ?_, fun hm => (h s hs).2 (fun hm' => hm (List.mem_cons_of_mem _ hm'))⟩
    rcases List.mem_cons.1 hm with h1 | h1
    · exact absurd h1 e
    · exact h1
theorem look_none : LookIs (.map []) [] := fun _ _ => ⟨fun h => absurd h (by simp), fun _ => rfl⟩

/-- behind a store into the names -/
theorem rd_turned {w w' : World} {L M : Nat} {ks : List ByteArray} {D : DataW Unit} (h6 : w.cell? ⟨L, 6, none⟩ = some (.map (some M))) (hg : w.grownBy w' (some M)) (hM : ∃ es cl, w.heap[M]? = some (.map es cl))
    (hown : w'.ownsMap Try.prog 9 (plainElem Try.prog 9) M ks.length D) (hl : LookIs D ks) (hs : Maps.size D = ks.length) : Rd w' L M ks := by
  have hne : L ≠ M := by
    rintro rfl
    obtain ⟨es, cl, hb⟩ := hM
    simp [World.cell?, hb] at h6
  refine ⟨?_, D, hown, hs, hl⟩
  exact hg.cell (a := ⟨L, 6, none⟩) h6 (fun e => hne (Option.some.inj e))

theorem grown_dn {w w' : World} {r : Option Nat} {n : Nat} (h : (w.drewN n).grownBy w' r) : w.grownBy w' r := ⟨h.os, h.tape, h.output, h.size, h.block⟩

set_option maxRecDepth 100000 in
set_option maxHeartbeats 1600000 in
theorem intern18 (w : World) (L M n c : Nat) (ao : Option Addr) (Z : Nat → Int) (ks : List ByteArray) (h : Rd w L M ks) (hb : Bys w ao n Z) (hn : n ≤ maxLen) (hk : ks.length ≤ 1024) :
    Calls Try.prog 18 #[.pointer (some ⟨L, 0, none⟩), .slice ao n c] w fun e w' => e = .returned (.string (txt Z n)) ∧ ∃ ks', Step ks (txt Z n) ks' ∧ Rd w' L M ks' ∧ w.grownBy w' (some M) := by
  obtain ⟨T, hT⟩ : ∃ T, T = txt Z n := ⟨_, rfl⟩
  have hTs : T.size = n := by rw [hT]; exact txt_size Z n
  have hcv : ∀ nq, (convert 24 9 (.slice ao n c)).run Try.prog (w.drewN nq) = .ok (.string T) (w.drewN nq) := fun nq => by rw [hT]; exact conv24 c (w := w.drewN nq) hb
  rw [← hT]
  clear hT hb Z
  obtain ⟨D, hown, hsz, hlook⟩ := h.m
  have h6 := h.c6
  have hTm : T.size ≤ maxLen := by rw [hTs]; exact hn
  have hkey := keyOf_string_mk Try.underlying9 hTm
  have hownq : ∀ nq, (w.drewN nq).ownsMap Try.prog 9 (plainElem (H := Unit) Try.prog 9) M ks.length D := fun nq => hown
  by_cases hin : T ∈ ks
  · have hrun : ∀ nq, (Instr.lookup 43 (.map (some M)) (.string T) true).run Try.prog (w.drewN nq) = .ok (.tuple #[.string T, .bool true]) (w.drewN nq) := fun nq => by
      obtain ⟨v, ps, hr, hv⟩ := (hownq nq).look_ok law9 Try.underlying43 (zero9 _) (plainElem_string Try.underlying9 (by decide)) hkey
      rw [show (⟨#[]⟩ : ByteArray).data.toList = [] from rfl, ((hlook T hTm).1 hin).1] at hv
      obtain ⟨c', rfl, hc, _⟩ := plainElem_string_inv Try.underlying9 hv
      simp only [Prod.mk.injEq, DataW.lit.injEq, Lit.string.injEq] at hc
      have : c' = T := by
        have h2 : c'.data = T.data := (Array.toList_inj.1 hc.1).symm
        cases c'; cases T; simp at h2; rw [h2]
      rw [hr, ((hlook T hTm).1 hin).2, this]
    have HR : Hid (Step ks T ks) := .inl ⟨hin, rfl⟩
    have HRd : Hid (Rd w L M ks) := h
    clear h hlook hown hownq hsz hkey hin hTs hTm
    go_enter Try.func18, Try.ntmps18
    go_wp2
    go_quiet (fail)
    go_wp2
    go_ret
    exact ⟨rfl, ks, HR.out, HRd.out.of_heap rfl, ⟨rfl, rfl, rfl, Nat.le_refl _, fun _ _ _ => rfl⟩⟩
  · have hno := (hlook T hTm).2 hin
    have hrun : ∀ nq, (Instr.lookup 43 (.map (some M)) (.string T) true).run Try.prog (w.drewN nq) = .ok (.tuple #[.string ⟨#[]⟩, .bool false]) (w.drewN nq) := fun nq => by
      obtain ⟨v, ps, hr, hv⟩ := (hownq nq).look_ok law9 Try.underlying43 (zero9 _) (plainElem_string Try.underlying9 (by decide)) hkey
      rw [atKey_of_not_has hno] at hv
      obtain ⟨c', rfl, hc, _⟩ := plainElem_string_inv Try.underlying9 hv
      simp only [Prod.mk.injEq, DataW.lit.injEq, Lit.string.injEq] at hc
      have : c' = ⟨#[]⟩ := by
        have h2 : c'.data = #[] := (Array.toList_inj.1 hc.1).symm
        cases c'; simp at h2; rw [h2]
      rw [hr, hno, this]
    have htid := hown.tidy law9
    have hMm : ∃ es cl, w.heap[M]? = some (.map es cl) := by obtain ⟨es, cl, hb, _⟩ := hown; exact ⟨es, cl, hb⟩
    by_cases h128 : (128 : Int) < (T.size : Int)
    · have HR : Hid (Step ks T ks) := .inr (.inl ⟨hin, by omega, rfl⟩)
      have HRd : Hid (Rd w L M ks) := h
      have h128' : ¬ (T.size : Int) ≤ 128 := by omega
      clear h hlook hown hownq hsz hkey hin hTs hTm hno hMm htid
      go_enter Try.func18, Try.ntmps18
      go_wp2
      go_quiet (fail)
      go_wp2
      go_ret
      exact ⟨rfl, ks, HR.out, HRd.out.of_heap rfl, ⟨rfl, rfl, rfl, Nat.le_refl _, fun _ _ _ => rfl⟩⟩
    · have h128' : (T.size : Int) ≤ 128 := by omega
      have hlen : ∀ nq ty, (Builtin.len_ #[43] ty #[.map (some M)]).run Try.prog (w.drewN nq) = .ok (.int .i64 ks.length) (w.drewN nq) := fun nq ty => by rw [(hownq nq).len Try.underlying43 ty, hsz]
      by_cases h1024 : ks.length = 1024
      · have hl1 : ((ks.length : Int) == 1024) = true := by simp; omega
        have HR : Hid (Step ks T [T]) := .inr (.inr (.inl ⟨hin, by omega, h1024, rfl⟩))
        have HSZ : Hid (Maps.size ((DataW.map [] : DataW Unit).put (.string T.data.toList) (.lit (.string T.data.toList))) = [T].length) := by show _ = _; rw [size_put tidy_empty]; rfl
        clear h hlook hown hsz hin hTs hno htid h1024 h128
        go_enter Try.func18, Try.ntmps18
        go_wp2
        go_quiet (fail)
        obtain ⟨w1, hcl, hown1, hturn1⟩ := owns_clear (hownq nq) Try.underlying43
        have h61 : w1.cell? ⟨L, 6, none⟩ = some (.map (some M)) := by
          have hne : L ≠ M := by
            rintro rfl
            obtain ⟨es, cl, hb⟩ := hMm
            simp [World.cell?, hb] at h6
          exact hturn1.grown.cell (a := ⟨L, 6, none⟩) h6 (fun e => hne (Option.some.inj e))
        go_wp2_with (at_mapUpdate; refine wpList_mapUpdate_in _ rfl _ _ _ 43 rfl 9 9 law9 Try.underlying43 _ M 0 _ rfl hown1 (by unfold maxLen; omega) _ _ _ rfl rfl hkey _ [] (plainElem_string Try.underlying9 hTm) ?_; intro w2 hown2 hturn2)
        have E1 := grown_dn (hturn1.trans hturn2).grown
        have E2 := rd_turned (ks := [T]) h6 E1 hMm hown2 (look_put isMap_empty look_none T) HSZ.out
        clear hown2 hturn2 hturn1 hown1 hcl hrun hcv hlen h61
        go_wp2
        go_ret
        exact ⟨rfl, [T], HR.out, E2, E1⟩
      · have hl1 : ((ks.length : Int) == 1024) = false := by simp; omega
        have HR : Hid (Step ks T (T :: ks)) := .inr (.inr (.inr ⟨hin, by omega, by omega, rfl⟩))
        have HSZ : Hid (Maps.size (D.put (.string T.data.toList) (.lit (.string T.data.toList))) = (T :: ks).length) := by show _ = _; rw [size_put htid, hno, hsz]; rfl
        have HL : Hid (LookIs (D.put (.string T.data.toList) (.lit (.string T.data.toList))) (T :: ks)) := look_put htid.isMap hlook T
        clear h hlook hown hsz hin hTs hno htid h1024 h128
        go_enter Try.func18, Try.ntmps18
        go_wp2
        go_quiet (fail)
        go_wp2_with (at_mapUpdate; refine wpList_mapUpdate_in _ rfl _ _ _ 43 rfl 9 9 law9 Try.underlying43 _ M ks.length D rfl (hownq nq) (by unfold maxLen; omega) _ _ _ rfl rfl hkey _ [] (plainElem_string Try.underlying9 hTm) ?_; intro w2 hown2 hturn2)
        have E1 := grown_dn hturn2.grown
        have E2 := rd_turned (ks := T :: ks) h6 E1 hMm hown2 HL.out HSZ.out
        clear hown2 hturn2 hrun hcv hlen hownq
        go_wp2
        go_ret
        exact ⟨rfl, _, HR.out, E2, E1⟩
end Go.Proofs.Qxb6618928a
