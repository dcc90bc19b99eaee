import Derived.Test.Qxb6614951aDoorLawk
namespace Go.Proofs.Qxb6614951aDoor
open Go.RowKit Go.Deep

set_option maxRecDepth 100000 in
set_option maxHeartbeats 6000000 in
/-- the law where it comes to its end -/
theorem main3A (w : World) (b off n cap i : Nat) (t x : P4) (A C : Nat → P4) (hn : n ≤ 16384) (hi : i < n) (hc : n ≤ cap) (hO : Own A C i 1 x)
    (hT : Told w b off n A C) (hD : At4 w 0 0 4 500000000 0 0) :
    Calls Tryd.prog 3 #[.slice (some ⟨b, off, none⟩) n cap, .agg t.v, .int .i64 i, .int .i64 1] w fun e w' => e = .returned (.bool true) ∧ Below w.heap.size w w' := by
  have hst := storef
  have C4 := bytes4 (some ⟨b, off, none⟩) n cap t i 1
  have b1 := below1 w (.cells t.v 25)
  have e1 := blk_alloc_new w (.cells t.v 25)
  obtain ⟨y, hy, hyx⟩ := orV_P4 x t
  have d1 : decide (n ≤ 1048576) = true := decide_eq_true (by omega)
  go_enter Tryd.func3, Tryd.ntmps3
  go_wp2_with fail
  refine (C4 _ (by omega)).mono ?_
  rw [d1]
  rintro e w1 ⟨rfl, hb⟩
  have HB : Hid (Below w.heap.size w w1) := b1.trans (hb.mono b1.size)
  have HE : Hid (w1.heap[w.heap.size]? = some (.cells t.v 25)) := (hb.block _ (by simp)).trans e1
  obtain ⟨g0, g1, g2, g3⟩ := blk_cell HE.out
  have HT : Hid (Told w b off n A C) := hT
  have HD : Hid (At4 w 0 0 4 500000000 0 0) := hD
  have HY : Hid (orV x.a x.b x.f x.d t.a t.b t.f t.d = y.v ∧ (isZ x.a x.b x.f x.d = false → y = x)) := ⟨hy, hyx⟩
  clear C4 b1 hb d1 e1 hT hD hy hyx
  have h2' : ¬ (16384 < (n : Int)) := by omega
  have h3' : ¬ ((i : Int) < 0) := by omega
  have h4 : (i : Int) < (n : Int) := by omega
  have h4' : ¬ ((n : Int) ≤ (i : Int)) := by omega
  have C5 := at5 w1 b off n cap i 1 A C t hi hn (HT.out.later HB.out) (HD.out.below HB.out) x hO y.a y.b y.f y.d HY.out.1
  go_wp2_with fail
  refine C5.mono ?_
  rintro e w2 ⟨rfl, hb2⟩
  clear C5 g0 g1 g2 g3
  have b2 := below1 w2 (.cells y.v 25)
  have HE2 : Hid ((w2.alloc (.cells y.v 25)).heap[w.heap.size]? = some (.cells t.v 25)) := blk_keep (blk_keep HE.out hb2) b2
  have HF2 : Hid ((w2.alloc (.cells y.v 25)).heap[w2.heap.size]? = some (.cells y.v 25)) := blk_alloc_new w2 (.cells y.v 25)
  have HB2 : Hid (Below w.heap.size w (w2.alloc (.cells y.v 25))) := (HB.out.trans (hb2.mono HB.out.size)).trans (b2.mono (by have := HB.out.size; have := hb2.size; omega))
  clear HE HB hb2 b2
  obtain ⟨g0, g1, g2, g3⟩ := blk_cell HE2.out
  go_wp2_with fail
  obtain ⟨W2, hW2⟩ : ∃ W, W = w2.alloc (.cells y.v 25) := ⟨_, rfl⟩
  obtain ⟨q2, hq2⟩ : ∃ q, q = w2.heap.size := ⟨_, rfl⟩
  rw [← hW2, ← hq2]
  rw [← hW2] at HE2 HF2 HB2 g0 g1 g2 g3
  rw [← hq2] at HF2
  clear hW2 hq2
  have lN : w.heap.size < W2.heap.size := blk_lt HE2.out
  have G : ∀ Z o, (W2.alloc Z).cell? ⟨w.heap.size, o, none⟩ = W2.cell? ⟨w.heap.size, o, none⟩ := fun Z o => World.cell?_of_block (w := W2) (Below.heap_alloc W2 Z _ lN)
  have C5 : ∀ W, Below w.heap.size w W → _ := fun W hW => at5 W b (off + i * 8) 1 (cap - i) 0 _ (fun _ => A i) (fun _ => C i) t (by omega) (by omega) ((HT.out.later hW).one i hi) (HD.out.below hW) x hO y.a y.b y.f y.d HY.out.1
  have hsl := slice22 b off n cap i (by omega)
  have hsl' := sliceAt22 b off n cap i (by omega)
  have hwr : IntKind.i64.wrap ((i : Int) + 1) = (i : Int) + 1 := by rw [IntKind.wrap_i64]; omega
  clear lN
  go_cut [10] from 40 to 47 (fun s wx => ∃ q3, s = .pointer (some ⟨q3, 0, none⟩) ∧ Hid (wx.heap[q3]? = some (.cells y.v 25) ∧ Below W2.heap.size W2 wx))
  case first =>
    have hsz : w.heap.size ≤ W2.heap.size := HB2.out.size
    go_region_with (go_at_call 5; first | (refine (C5 _ (by exact HB2.out.drew)).mono ?_; rintro e w3 ⟨rfl, H3⟩) | (refine (C5 _ (by exact (HB2.out.alloc hsz _).drew)).mono ?_; rintro e w3 ⟨rfl, H3'⟩; have H3b := ahead H3'; obtain ⟨⟨z0, z1, z2, z3⟩, y0, y1, y2, y3⟩ := zcell H3b.1; clear H3'))
    all_goals clear C5
    all_goals go_wp2_with fail
    all_goals go_meet
    all_goals first | exact ⟨_, rfl, stored4 H3b.1 H3b.2⟩ | exact ⟨_, rfl, blk_alloc_new _ _, (Below.trans (b := w3) ⟨H3.os, H3.tape, H3.output, H3.size, H3.block⟩ ((below1 w3 _).mono H3.size))⟩
  case rest =>
    obtain ⟨q3, rfl, hcc⟩ := hcut
    clear C5 hsl hsl' hwr G g0 g1 g2 g3 HE2
    have HF3 : Hid (wc.heap[q2]? = some (.cells y.v 25)) := blk_keep HF2.out hcc.out.2
    have HB3 : Hid (Below w.heap.size w wc) := HB2.out.trans (hcc.out.2.mono HB2.out.size)
    have C6 := own6 wc b off n cap i _ A C x hi (HT.out.later HB3.out) hO
    go_wp2_with fail
    refine C6.mono ?_
    rintro e w5 ⟨rfl, H5⟩
    clear C6
    have b5 := below1 w5 (.cells x.v 25)
    have B6 : Below wc.heap.size wc (w5.alloc (.cells x.v 25)) := H5.trans (b5.mono H5.size)
    have HF6 : Hid ((w5.alloc (.cells x.v 25)).heap[q2]? = some (.cells y.v 25)) := blk_keep HF3.out B6
    have HG6 : Hid ((w5.alloc (.cells x.v 25)).heap[q3]? = some (.cells y.v 25)) := blk_keep hcc.out.1 B6
    have HX6 : Hid ((w5.alloc (.cells x.v 25)).heap[w5.heap.size]? = some (.cells x.v 25)) := blk_alloc_new w5 (.cells x.v 25)
    have HB6 : Hid (Below w.heap.size w (w5.alloc (.cells x.v 25))) := HB3.out.trans (B6.mono HB3.out.size)
    clear B6 b5 H5 HF3 HB3 hcc HF2 HB2
    obtain ⟨f0, f1, f2, f3⟩ := blk_cell HF6.out
    obtain ⟨g0, g1, g2, g3⟩ := blk_cell HG6.out
    have C7 := same7 y (w5.alloc (.cells x.v 25))
    go_wp2_with fail
    refine C7.mono ?_
    rintro e w7 ⟨rfl, H7⟩
    have HF7 : Hid (w7.heap[q2]? = some (.cells y.v 25)) := blk_keep HF6.out H7
    have HX7 : Hid (w7.heap[w5.heap.size]? = some (.cells x.v 25)) := blk_keep HX6.out H7
    have HB7 : Hid (Below w.heap.size w w7) := HB6.out.trans (H7.mono HB6.out.size)
    clear C7 H7 HF6 HG6 HX6 HB6 f0 f1 f2 f3 g0 g1 g2 g3
    obtain ⟨f0, f1, f2, f3⟩ := blk_cell HX7.out
    have C8 := zero8 x w7
    go_wp2_with fail
    refine C8.mono ?_
    rintro e w8 ⟨rfl, H8⟩
    have HF8 : Hid (w8.heap[q2]? = some (.cells y.v 25)) := blk_keep HF7.out H8
    have HX8 : Hid (w8.heap[w5.heap.size]? = some (.cells x.v 25)) := blk_keep HX7.out H8
    have HB8 : Hid (Below w.heap.size w w8) := HB7.out.trans (H8.mono HB7.out.size)
    clear C8 H8 HF7 HX7 HB7 f0 f1 f2 f3
    cases hz : isZ x.a x.b x.f x.d with
    | true =>
      go_wp2
      go_ret
      exact ⟨rfl, HB8.out⟩
    | false =>
      obtain rfl := HY.out.2 hz
      obtain ⟨f0, f1, f2, f3⟩ := blk_cell HF8.out
      obtain ⟨g0, g1, g2, g3⟩ := blk_cell HX8.out
      have C7 := same7 y w8
      go_wp2_with fail
      refine C7.mono ?_
      rintro e w9 ⟨rfl, H9⟩
      have HB9 : Hid (Below w.heap.size w w9) := HB8.out.trans (H9.mono HB8.out.size)
      clear C7 H9
      go_wp2
      go_ret
      exact ⟨rfl, HB9.out⟩
end Go.Proofs.Qxb6614951aDoor
