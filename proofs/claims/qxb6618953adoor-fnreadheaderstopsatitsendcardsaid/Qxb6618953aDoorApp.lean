import Derived.Test.Qxb6618953aDoorGrow
namespace Go.Proofs.Qxb6618953aDoor
open Go.RowKit Go.Deep

/-- ReadAtLeast of m bytes, m asked -/
theorem atLeast17 (w : World) (g B N sc h p m dc C : Nat) (sp : Option Addr) (Z : Nat → Int) (hx : Ctx w g B sp N sc Z) (hr : Rdr w g sp N sc p) (hh : Hrow w h C p Z) (hm : 0 < m) (hm63 : m ≤ 1048576) (hpN : p ≤ N) (hC : p + m ≤ C) (hdc : m ≤ dc) (hhB : B ≤ h) (hhg : h ≠ g) (p' : Nat) (hp' : p' = min (p + m) N) :
    Calls Tryd.prog 17 #[.iface 35 (.pointer (some ⟨g, 0, none⟩)), .slice (some ⟨h, p, none⟩) m dc, .int .i64 m] w fun e w' => ∃ v, e = .returned (.tuple #[.int .i64 (p' - p : Nat), v]) ∧
      Hid (Err (p + m ≤ N) v ∧ Rdr w' g sp N sc p' ∧ Hrow w' h C p' Z ∧ KB g B w w') := by
  by_cases hall : p + m ≤ N
  · obtain rfl : p' = p + m := by omega
    rw [show p + m - p = m by omega]
    exact (atLeast_all w g B N sc h p m dc C sp Z hx hr hh hm hall hC hhB hhg).mono (fun e w' ⟨h1, h2⟩ => ⟨_, h1, .inl ⟨hall, rfl⟩, h2⟩)
  · obtain rfl : p' = N := by omega
    by_cases hsome : p < p'
    · exact (atLeast_some w g B p' sc h p m dc C sp Z hx hr hh hsome (by omega) hC hm63 hdc hhB hhg).mono (fun e w' ⟨ea, h1, h2⟩ => ⟨_, h1, .inr ⟨hall, ea, rfl⟩, h2⟩)
    · obtain rfl : p = p' := by omega
      obtain ⟨ea, hea⟩ := hx.eof
      rw [Nat.sub_self]
      exact (atLeast_end w g p sc sp _ m dc ea hr hea hm hm63).mono (fun e w' ⟨h1, h2⟩ => ⟨_, h1, .inr ⟨hall, ea, rfl⟩, hr.qt h2, hh.heap (by rw [h2.heap]), h2.kb g B⟩)

set_option maxRecDepth 100000 in
set_option maxHeartbeats 800000 in
theorem full16 (w : World) (g B N sc h p m dc C : Nat) (sp : Option Addr) (Z : Nat → Int) (hx : Ctx w g B sp N sc Z) (hr : Rdr w g sp N sc p) (hh : Hrow w h C p Z) (hm : 0 < m) (hm63 : m ≤ 1048576) (hpN : p ≤ N) (hC : p + m ≤ C) (hdc : m ≤ dc) (hhB : B ≤ h) (hhg : h ≠ g) (p' : Nat) (hp' : p' = min (p + m) N) :
    Calls Tryd.prog 16 #[.iface 35 (.pointer (some ⟨g, 0, none⟩)), .slice (some ⟨h, p, none⟩) m dc] w fun e w' => ∃ v, e = .returned (.tuple #[.int .i64 (p' - p : Nat), v]) ∧
      Hid (Err (p + m ≤ N) v ∧ Rdr w' g sp N sc p' ∧ Hrow w' h C p' Z ∧ KB g B w w') := by
  have C := atLeast17 w g B N sc h p m dc C sp Z hx hr hh hm hm63 hpN hC hdc hhB hhg p' hp'
  clear hx hr hh hp'
  go_enter Tryd.func16, Tryd.ntmps16
  go_wp2_with fail
  refine C.mono ?_
  rintro e w1 ⟨v, rfl, H⟩
  go_wp2
  go_ret2
  exact ⟨v, rfl, H⟩

set_option maxRecDepth 100000 in
set_option maxHeartbeats 1600000 in
/-- appendN: the next n bytes -/
theorem append13 (w : World) (g B N sc p c n : Nat) (sp hp : Option Addr) (Z : Nat → Int) (hx : Ctx w g B sp N sc Z) (hr : Rdr w g sp N sc p) (hd : Hd w g B hp p c Z) (hn : n ≤ 1048576) (hpN : p ≤ N) (hB : B ≤ w.heap.size) (p' : Nat) (hp' : p' = min (p + n) N) :
    Calls Tryd.prog 13 #[.slice hp p c, .iface 35 (.pointer (some ⟨g, 0, none⟩)), .int .i64 n] w fun e w' => ∃ hp' c' v, e = .returned (.tuple #[.slice hp' p' c', v]) ∧
      Hid (Err (p + n ≤ N) v ∧ Rdr w' g sp N sc p' ∧ Hd w' g B hp' p' c' Z ∧ KB g B w w') := by
  have hlen := hx.len
  by_cases h0 : n = 0
  · subst h0
    obtain rfl : p' = p := by omega
    have HH : Hid (Rdr w g sp N sc p' ∧ Hd w g B hp p' c Z) := ⟨hr, hd⟩
    clear hx hr hd
    show Calls Tryd.prog 13 #[.slice hp p' c, .iface 35 (.pointer (some ⟨g, 0, none⟩)), .int .i64 0] w _
    go_enter Tryd.func13, Tryd.ntmps13
    go_wp2
    refine wp_loop_rounds 1 ?_
    rw [rounds_succ]
    go_wp2
    go_ret2
    exact ⟨hp, c, .nilIface, rfl, .inl ⟨by omega, rfl⟩, HH.out.1, HH.out.2, KB.refl _ _ _⟩
  · have hgl : g < w.heap.size := by obtain ⟨_, _, h⟩ := hr; exact h.lt
    have C1 := grow15 w g B hp p c n Z hd (by omega) hn (by omega) hB hgl
    have C2 : ∀ w1 h c', (c' ≤ 9223372036854775807 ∧ p + n ≤ c' ∧ B ≤ h ∧ h ≠ g ∧ Hrow w1 h c' p Z ∧ KB g B w w1 ∧ SameAt g w w1) →
        Calls Tryd.prog 16 #[.iface 35 (.pointer (some ⟨g, 0, none⟩)), .slice (some ⟨h, p, none⟩) n (c' - p)] w1 fun e w' => ∃ v, e = .returned (.tuple #[.int .i64 (p' - p : Nat), v]) ∧
          Hid (Err (p + n ≤ N) v ∧ Rdr w' g sp N sc p' ∧ Hd w' g B (some ⟨h, 0, none⟩) p' c' Z ∧ KB g B w w') := by
      rintro w1 h c' ⟨h1, h2, h3, h4, h5, h6, h7⟩
      have hr1 : Rdr w1 g sp N sc p := by
        obtain ⟨pr, T, hr⟩ := hr
        exact ⟨pr, T, hr.of_block h7⟩
      refine (full16 w1 g B N sc h p n (c' - p) c' sp Z (hx.later h6) hr1 h5 (by omega) hn hpN h2 (by omega) h3 h4 p' hp').mono ?_
      rintro e w' ⟨v, rfl, k1, k2, k3, k4⟩
      exact ⟨v, rfl, k1, k2, ⟨h1, by omega, .inr ⟨h, rfl, h3, h4, k3⟩⟩, h6.trans k4⟩
    have hpos : (n : Int) > 0 := by omega
    have hmin : min (n : Int) 1048576 = n := by omega
    have hpp : p ≤ p' := by omega
    have hppn : p' ≤ p + n := by omega
    obtain ⟨q, rfl⟩ : ∃ q, p' = p + q := ⟨p' - p, by omega⟩
    rw [Nat.add_sub_cancel_left] at C2
    clear hx hr hd hp'
    go_enter Tryd.func13, Tryd.ntmps13
    go_wp2
    refine wp_loop_rounds 2 ?_
    rw [rounds_succ]
    go_wp2_with fail
    refine C1.mono ?_
    rintro e w1 ⟨h, c', rfl, H⟩
    have hc'1 := H.out.1
    have hc'2 := H.out.2.1
    go_wp2_with fail
    refine (C2 w1 h c' H.out).mono ?_
    rintro e w2 ⟨v, rfl, H2⟩
    clear C1 C2 H
    have hq1 : q ≤ n := by omega
    rcases H2.out with ⟨⟨hok, rfl⟩ | ⟨hno, a, rfl⟩, _⟩
    · go_wp2
      rw [rounds_succ]
      go_wp2
      go_ret2
      exact ⟨_, c', _, rfl, H2.out⟩
    · go_wp2
      go_ret2
      exact ⟨_, c', _, rfl, H2.out⟩
end Go.Proofs.Qxb6618953aDoor
