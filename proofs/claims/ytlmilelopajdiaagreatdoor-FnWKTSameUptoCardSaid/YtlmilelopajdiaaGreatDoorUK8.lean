/-
  The law's own walk.
-/
import Derived.Test.YtlmilelopajdiaaGreatDoorUK6
import Derived.Test.YtlmilelopajdiaaGreatDoorUG4
import Derived.Test.YtlmilelopajdiaaGreatDoorUH7
import Derived.Test.YtlmilelopajdiaaGreatDoorUI0
namespace Go.Proofs.YtlmilelopajdiaaGreatDoor
open Go.RowKit

/-- The point (1 2). -/
def pt : Gm := .mk 1 1 0 [4607182418800017408, 4611686018427387904] [] [] []
theorem pt_small : Small pt := by
  unfold pt
  rw [small_eq]
  refine ⟨by decide, by decide, by decide, fun es h => by simp at h, by decide, fun x hx => ?_, fun g h => by simp at h⟩
  simp only [List.mem_cons, List.not_mem_nil, or_false] at hx
  rcases hx with rfl | rfl <;> decide
theorem pt_lay : Lay pt := by
  unfold pt
  rw [lay_eq]
  exact ⟨fun _ => by decide, by decide, by decide, fun g h => by simp at h⟩
theorem pt_good : GoodX pt := by
  unfold pt
  rw [goodX_one (by decide)]
  exact ⟨by decide, rfl, Or.inl rfl, Or.inl ⟨rfl, rfl, by decide⟩⟩
theorem pt_ok : okT pt := by
  unfold pt
  rw [okT_eq, layoutT_eq, if_neg (by decide)]
  exact ⟨by decide, fun g h => by simp at h⟩
theorem pt_wt : wT pt ≤ 2000 := by
  unfold pt
  rw [wT_eq]; decide
theorem pt_arep (w : World) : ARep (w.alloc (.cells #[.float .f64 4607182418800017408, .float .f64 4611686018427387904] 32)) (w.alloc (.cells #[.float .f64 4607182418800017408, .float .f64 4611686018427387904] 32)).heap.size pt [.int .i64 1, .int .i64 1, .int .i64 0, .slice (some ⟨w.heap.size, 0, none⟩) 2 2, .slice none 0 0, .slice none 0 0, .slice none 0 0] := by
  unfold pt
  rw [arep_eq]
  have hn : ∀ x : List Value, x = [] → Row (w.alloc (.cells #[.float .f64 4607182418800017408, .float .f64 4611686018427387904] 32)) (w.alloc (.cells #[.float .f64 4607182418800017408, .float .f64 4611686018427387904] 32)).heap.size (.slice none 0 0) x := by
    rintro x rfl
    exact ⟨none, 0, rfl, Nat.le_refl _, ⟨Nat.zero_le _, Nat.zero_le _⟩, fun _ => ⟨rfl, rfl⟩, fun h => absurd rfl h⟩
  refine ⟨_, _, _, _, rfl, ⟨some ⟨w.heap.size, 0, none⟩, 2, rfl, by decide, by decide, fun h => (by cases h), fun _ => ⟨w.heap.size, 0, rfl, by simp, fun j u hu => ?_⟩⟩, hn _ rfl, ⟨[], hn _ rfl, rfl, fun i x es h => by simp at h⟩, [], ⟨none, 0, rfl, Nat.le_refl _, ⟨Nat.zero_le _, Nat.zero_le _⟩, fun _ => ⟨rfl, rfl⟩, fun h => absurd rfl h⟩, rfl, fun i c g h => by simp at h⟩
  rw [Lib.cell_of_heap (heap_alloc_new w _), Nat.zero_add]
  simpa [fv] using hu
theorem impl_of (g : Gm) (hX : GoodX g) (hL : Lay g) (hS : Small g) (hV : wT g ≤ 2000) (dg : Int) (d0 : -1 ≤ dg) (d1 : dg ≤ 20) (w : World) (B : Nat) (cs : List Value) (ha : ARep w B g cs) (hB : B ≤ w.heap.size) (hT : Tabs w.heap.size w) :
    Calls Tryz.prog 7 #[.agg cs.toArray, .int .i64 dg] w fun e w' => WAnsI dg g w e w' := by
  obtain ⟨h1, h2, h3⟩ := gp_good g hX hL hS
  have htl := text_len dg d0 d1 2000 g hS hV
  have : 1000000 * 2000 * wT g ≤ 1000000 * 2000 * 2000 := Nat.mul_le_mul_left _ hV
  exact implWrite g dg w w.heap.size cs h1 (sane_of g h3 hS) h2 (ARep.below (Below.refl _ _) hB g cs ha) (Nat.le_refl _) hT d0 d1 (by omega)

set_option maxRecDepth 100000 in
set_option maxHeartbeats 4000000 in
theorem lawWalk (g : Gm) (w : World) (cs : List Value) (h : ARep w w.heap.size g cs) (hwf : WfI g) (hfl : Flo g) (hwt : wT g ≤ 1048576) (hT : Tabs w.heap.size w) (dg : Int) :
    Calls Tryz.prog 3 #[.agg cs.toArray, .int .i64 dg] w fun e w' => e = .returned (.bool true) ∧ Below w.heap.size w w' := by
  obtain ⟨k, l, s, a3, n3, p3, a4, n4, p4, a5, n5, p5, a6, n6, p6, hcs⟩ : ∃ k l s a3 n3 p3 a4 n4 p4 a5 n5 p5 a6 n6 p6, cs = [.int .i64 k, .int .i64 l, .int .i64 s, .slice a3 n3 p3, .slice a4 n4 p4, .slice a5 n5 p5, .slice a6 n6 p6] := by
    obtain ⟨s', a3, p3, a4, p4, a5, p5, a6, p6, e⟩ := arep_lit h
    exact ⟨_, _, _, _, _, _, _, _, _, _, _, _, _, _, _, e⟩
  subst hcs
  obtain ⟨W1, hW1⟩ : ∃ W1, W1 = w.alloc (.cells #[.int .i64 k, .int .i64 l, .int .i64 s, .slice a3 n3 p3, .slice a4 n4 p4, .slice a5 n5 p5, .slice a6 n6 p6] 27) := ⟨_, rfl⟩
  have hbw : Below w.heap.size w W1 := by rw [hW1]; exact (Below.refl _ _).alloc (Nat.le_refl _) _
  have hsz : W1.heap.size = w.heap.size + 1 := by rw [hW1]; simp
  have hbx : Box W1 w.heap.size k l s (.slice a3 n3 p3) (.slice a4 n4 p4) (.slice a5 n5 p5) (.slice a6 n6 p6) := by unfold Box; rw [hW1]; exact heap_alloc_new w _
  have HA := Lib.hid h
  have HT := Lib.hid hT
  have HFI := Lib.hid (fits2 g W1 w.heap.size _ (ARep.below hbw (Nat.le_refl _) g _ h) hbw.size)
  have HGO : Hid (∀ w2, Below w.heap.size w w2 → Calls Tryz.prog 5 #[.slice (some ⟨w2.heap.size, 0, none⟩) 1 1] (w2.alloc (.cells #[.int .i64 k, .int .i64 l, .int .i64 s, .slice a3 n3 p3, .slice a4 n4 p4, .slice a5 n5 p5, .slice a6 n6 p6] 27)) fun e w' => BoolOut (wT g ≤ 2000 ∧ Lay g ∧ GoodX g) (w2.alloc (.cells #[.int .i64 k, .int .i64 l, .int .i64 s, .slice a3 n3 p3, .slice a4 n4 p4, .slice a5 n5 p5, .slice a6 n6 p6] 27)) e w') := Lib.hid (fun w2 hb => by
    have hb3 : Below w.heap.size w (w2.alloc (.cells #[.int .i64 k, .int .i64 l, .int .i64 s, .slice a3 n3 p3, .slice a4 n4 p4, .slice a5 n5 p5, .slice a6 n6 p6] 27)) := hb.alloc hb.size _
    exact gGood g (by omega) hwf _ w.heap.size w2.heap.size k l s a3 a4 a5 a6 n3 p3 n4 p4 n5 p5 n6 p6 (by unfold Box; exact heap_alloc_new w2 _) (ARep.below hb3 (Nat.le_refl _) g _ h) hb3.size)
  have HSM : Hid (wT g ≤ 2000 → Small g) := Lib.hid (fun h => small_of g hfl (by omega))
  have q0 := hbx.c0
  have q1 := hbx.c1
  have q2 := hbx.c2
  have q3 := hbx.c3
  have q4 := hbx.c4
  have q5 := hbx.c5
  have q6 := hbx.c6
  obtain ⟨b1, hb1⟩ : ∃ b1, b1 = w.heap.size := ⟨_, rfl⟩
  have HSZ : Hid (W1.heap.size = b1 + 1) := Lib.hid (by rw [hb1]; exact hsz)
  rw [← hb1] at q0 q1 q2 q3 q4 q5 q6 hbx
  have HBX := Lib.hid hbx
  have HBW := Lib.hid hbw
  clear hbx hbw h hsz hwf hfl hwt hT
  go_enter Tryz.func3, Tryz.ntmps3
  go_wp2_with fail
  rw [← hW1, ← hb1]
  have HB1 := Lib.hid hb1
  clear hW1 hb1
  refine HFI.out.mono ?_
  rintro en w2 ⟨rfl, hb2⟩
  have HBx2 := Lib.hid (HBX.out.below hb2 (by have := HSZ.out; omega))
  have HB2 := Lib.hid (HBW.out.trans (hb2.mono (by have := HSZ.out; have := HB1.out; omega)))
  have q0 := HBx2.out.c0
  have q1 := HBx2.out.c1
  have q2 := HBx2.out.c2
  have q3 := HBx2.out.c3
  have q4 := HBx2.out.c4
  have q5 := HBx2.out.c5
  have q6 := HBx2.out.c6
  have hb12 : b1 < w2.heap.size := lt_of_block HBx2.out
  clear hb2 HFI HBX
  go_wp2_with fail
  refine (HGO.out w2 HB2.out).mono ?_
  rintro en w4 ⟨r, rfl, hb4, hr⟩
  have hb24 : Below w2.heap.size w2 w4 := ((Below.refl _ _).alloc (Nat.le_refl _) _).trans (hb4.mono (by simp))
  have HBx4 := Lib.hid (HBx2.out.below hb24 hb12)
  have HB4 := Lib.hid (HB2.out.trans (hb24.mono HB2.out.size))
  have HR := Lib.hid hr
  clear hb4 hr HGO q0 q1 q2 q3 q4 q5 q6 hb24
  cases r with
  | false =>
    clear HR
    go_wp2_with fail
    go_ret
    exact ⟨rfl, HB4.out⟩
  | true =>
    have HG := Lib.hid (HR.out rfl)
    clear HR
    by_cases hd0 : dg < -1
    · clear HG
      go_wp2_with fail
      go_ret
      exact ⟨rfl, HB4.out⟩
    · by_cases hd1 : dg > 20
      · clear HG
        go_wp2_with fail
        go_ret
        exact ⟨rfl, HB4.out⟩
      · have d0 : -1 ≤ dg := by omega
        have d1 : dg ≤ 20 := by omega
        have HS : Hid (Small g) := Lib.hid (HSM.out HG.out.1)
        have HAt : Hid (∀ w', Below w.heap.size w w' → ARep w' w'.heap.size g [.int .i64 k, .int .i64 l, .int .i64 s, .slice a3 n3 p3, .slice a4 n4 p4, .slice a5 n5 p5, .slice a6 n6 p6]) := Lib.hid (fun w' hb => ARep.below hb hb.size g _ HA.out)
        have HTt : Hid (∀ w', Below w.heap.size w w' → Tabs w'.heap.size w') := Lib.hid (fun w' hb => (HT.out.below hb).mono hb.size)
        have HSP := Lib.hid (specWrite dg d0 d1 g HG.out.2.2 HG.out.2.1 HS.out HG.out.1 w4 _ _ (HAt.out w4 HB4.out) (Nat.le_refl _) (HTt.out w4 HB4.out))
        have HIM : Hid (∀ w', Below w.heap.size w w' → Calls Tryz.prog 7 #[.agg #[.int .i64 k, .int .i64 l, .int .i64 s, .slice a3 n3 p3, .slice a4 n4 p4, .slice a5 n5 p5, .slice a6 n6 p6], .int .i64 dg] w' fun e w'' => WAnsI dg g w' e w'') := Lib.hid (fun w' hb => impl_of g HG.out.2.2 HG.out.2.1 HS.out HG.out.1 dg d0 d1 w' _ _ (HAt.out w' hb) (Nat.le_refl _) (HTt.out w' hb))
        have HPT : Hid (∀ w', Below w.heap.size w w' → Calls Tryz.prog 7 #[.agg #[.int .i64 1, .int .i64 1, .int .i64 0, .slice (some ⟨w'.heap.size, 0, none⟩) 2 2, .slice none 0 0, .slice none 0 0, .slice none 0 0], .int .i64 dg] (w'.alloc (.cells #[.float .f64 4607182418800017408, .float .f64 4611686018427387904] 32)) fun e w'' => e = .returned (.tuple #[.string ⟨(textT dg pt).toArray⟩, .bool true]) ∧ Below w.heap.size w w'') := Lib.hid (fun w' hb => by
          have hb3 : Below w.heap.size w (w'.alloc (.cells #[.float .f64 4607182418800017408, .float .f64 4611686018427387904] 32)) := hb.alloc hb.size _
          refine (impl_of pt pt_good pt_lay pt_small pt_wt dg d0 d1 _ _ _ (pt_arep w') (Nat.le_refl _) (HTt.out _ hb3)).mono ?_
          rintro en w5 ⟨hb5, h1, _⟩
          exact ⟨h1 pt_ok, hb3.trans (hb5.mono hb3.size)⟩)
        have z0 := HBx4.out.c0
        have z1 := HBx4.out.c1
        have z2 := HBx4.out.c2
        have z3 := HBx4.out.c3
        have z4 := HBx4.out.c4
        have z5 := HBx4.out.c5
        have z6 := HBx4.out.c6
        have hb14 : b1 < w4.heap.size := lt_of_block HBx4.out
        clear HSM HA HT HAt HTt HS HG
        go_wp2_with fail
        refine HSP.out.mono ?_
        rintro en w5 ⟨e1, e2⟩
        by_cases ho : okT g
        · obtain ⟨rfl, hb5⟩ := e1 ho
          have HBx5 := Lib.hid (HBx4.out.below hb5 hb14)
          have HB5 := Lib.hid (HB4.out.trans (hb5.mono HB4.out.size))
          obtain ⟨S, hS⟩ : ∃ S, S = textT dg g := ⟨_, rfl⟩
          have HI5 : Hid (Calls Tryz.prog 7 #[.agg #[.int .i64 k, .int .i64 l, .int .i64 s, .slice a3 n3 p3, .slice a4 n4 p4, .slice a5 n5 p5, .slice a6 n6 p6], .int .i64 dg] w5 fun e w'' => e = .returned (.tuple #[.string ⟨S.toArray⟩, .bool true]) ∧ Below w5.heap.size w5 w'') := Lib.hid ((HIM.out w5 HB5.out).mono fun en w6 hq => ⟨by rw [hS]; exact hq.2.1 ho, hq.1⟩)
          rw [← hS]
          have y0 := HBx5.out.c0
          have y1 := HBx5.out.c1
          have y2 := HBx5.out.c2
          have y3 := HBx5.out.c3
          have y4 := HBx5.out.c4
          have y5 := HBx5.out.c5
          have y6 := HBx5.out.c6
          clear hb5 e1 e2 ho hS HSP HIM z0 z1 z2 z3 z4 z5 z6
          go_wp2_with fail
          refine HI5.out.mono ?_
          rintro en w6 ⟨rfl, hb6⟩
          have HB6 := Lib.hid (HB5.out.trans (hb6.mono HB5.out.size))
          clear hb6 HI5 y0 y1 y2 y3 y4 y5 y6
          go_wp2_with fail
          refine (HPT.out w6 HB6.out).mono ?_
          rintro en w7 ⟨rfl, hb7⟩
          have HB7 := Lib.hid hb7
          clear hb7 HPT
          go_wp2_with fail
          go_ret
          exact ⟨rfl, HB7.out⟩
        · obtain ⟨rfl, hb5⟩ := e2 ho
          have HBx5 := Lib.hid (HBx4.out.below hb5 hb14)
          have HB5 := Lib.hid (HB4.out.trans (hb5.mono HB4.out.size))
          have HI5 : Hid (Calls Tryz.prog 7 #[.agg #[.int .i64 k, .int .i64 l, .int .i64 s, .slice a3 n3 p3, .slice a4 n4 p4, .slice a5 n5 p5, .slice a6 n6 p6], .int .i64 dg] w5 fun e w'' => e = .returned (.tuple #[.string ⟨#[]⟩, .bool false]) ∧ Below w5.heap.size w5 w'') := Lib.hid ((HIM.out w5 HB5.out).mono fun en w6 hq => ⟨hq.2.2 ho, hq.1⟩)
          have y0 := HBx5.out.c0
          have y1 := HBx5.out.c1
          have y2 := HBx5.out.c2
          have y3 := HBx5.out.c3
          have y4 := HBx5.out.c4
          have y5 := HBx5.out.c5
          have y6 := HBx5.out.c6
          clear hb5 e1 e2 ho HSP HIM z0 z1 z2 z3 z4 z5 z6
          go_wp2_with fail
          refine HI5.out.mono ?_
          rintro en w6 ⟨rfl, hb6⟩
          have HB6 := Lib.hid (HB5.out.trans (hb6.mono HB5.out.size))
          clear hb6 HI5 y0 y1 y2 y3 y4 y5 y6
          go_wp2_with fail
          refine (HPT.out w6 HB6.out).mono ?_
          rintro en w7 ⟨rfl, hb7⟩
          have HB7 := Lib.hid hb7
          clear hb7 HPT
          go_wp2_with fail
          go_ret
          exact ⟨rfl, HB7.out⟩
end Go.Proofs.YtlmilelopajdiaaGreatDoor
