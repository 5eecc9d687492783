/-
  The statement's side: body, where parts are joined.
-/
import Derived.Test.YtlmilelopajdiaaGreatDoorUK0
namespace Go.Proofs.YtlmilelopajdiaaGreatDoor
open Go.RowKit

set_option maxRecDepth 100000 in
set_option maxHeartbeats 4000000 in
theorem bodyL6 (l s : Int) (f : List Nat) (e : List Int) (ee : List (List Int)) (kids : List Gm) (hX : GoodX (.mk 6 l s f e ee kids)) (hF : Fit (.mk 6 l s f e ee kids)) (w : World) (B : Nat) (cs : List Value) (h : ARep w B (.mk 6 l s f e ee kids) cs) (hB : B ≤ w.heap.size) (hN9 : numP (.mk 6 l s f e ee kids) ≤ 1000000) (hN0 : 0 < numP (.mk 6 l s f e ee kids)) (st : Nat) (dg : Int) (whole : Bool) (L : Nat → List UInt8) 
    (hlen : ([40] ++ joinN L (numP (.mk 6 l s f e ee kids)) ++ [41]).length ≤ 70000000000000) (HC : ∀ i, i < numP (.mk 6 l s f e ee kids) → ∀ w' c, Below w.heap.size w w' → ARep w' w'.heap.size (partG (.mk 6 l s f e ee kids) i) c → Calls Tryz.prog 12 #[.agg c.toArray, .int .i64 (st : Nat), .int .i64 dg, .bool false] w' fun en w'' => BodyOut (L i) true w' en w'') :
    Calls Tryz.prog 12 #[.agg cs.toArray, .int .i64 (st : Nat), .int .i64 dg, .bool whole] w fun en w' => BodyOut ([40] ++ joinN L (numP (.mk 6 l s f e ee kids)) ++ [41]) true w en w' := by
  obtain ⟨s', a3, p3, a4, p4, a5, p5, a6, p6, hcs⟩ := arep_lit h
  simp only [Gm.kind, Gm.layout, Gm.flat, Gm.ends, Gm.endss, Gm.kids] at hcs
  obtain ⟨n3, hn3⟩ : ∃ n, n = f.length := ⟨_, rfl⟩
  obtain ⟨n4, hn4⟩ : ∃ n, n = e.length := ⟨_, rfl⟩
  obtain ⟨n5, hn5⟩ : ∃ n, n = ee.length := ⟨_, rfl⟩
  obtain ⟨n6, hn6⟩ : ∃ n, n = kids.length := ⟨_, rfl⟩
  rw [← hn3, ← hn4, ← hn5, ← hn6] at hcs
  obtain ⟨N, hN⟩ : ∃ N, N = numP (.mk 6 l s f e ee kids) := ⟨_, rfl⟩
  rw [← hN] at hlen hN0 hN9 ⊢
  obtain ⟨W1, hW1⟩ : ∃ W1, W1 = w.alloc (.cells #[.int .i64 6, .int .i64 l, .int .i64 s', .slice a3 n3 p3, .slice a4 n4 p4, .slice a5 n5 p5, .slice a6 n6 p6] 27) := ⟨_, rfl⟩
  have hbw : Below w.heap.size w W1 := by rw [hW1]; exact (Below.refl _ _).alloc (Nat.le_refl _) _
  have hsz : W1.heap.size = w.heap.size + 1 := by rw [hW1]; simp
  have hbx : Box W1 w.heap.size 6 l s' (.slice a3 n3 p3) (.slice a4 n4 p4) (.slice a5 n5 p5) (.slice a6 n6 p6) := by unfold Box; rw [hW1]; exact heap_alloc_new w _
  have HPA : Hid (Calls Tryz.prog 23 #[.agg #[.int .i64 6, .int .i64 l, .int .i64 s', .slice a3 n3 p3, .slice a4 n4 p4, .slice a5 n5 p5, .slice a6 n6 p6]] W1 fun en w'' => PartsAns (.mk 6 l s f e ee kids) W1 en w'') := Lib.hid (by
    have := partsAns _ hX hF W1 B cs (ARep.below (hbw.mono hB) (Nat.le_refl _) _ cs h) (by omega) (by omega)
    rw [hcs] at this
    exact this)
  rw [hcs]
  have HLEN : Hid (∀ j, j < N → (joinN L j).length + 2 + (L j).length + 2 ≤ 70000000000010) := Lib.hid (fun j hj => by
    have h1 := joinN_mono L (j + 1) N hj
    rw [joinN_succ, List.length_append, List.length_append] at h1
    rw [List.length_append, List.length_append] at hlen
    simp only [List.length_cons, List.length_nil] at hlen
    by_cases h0 : j = 0
    · subst h0
      have : (joinN L 0).length = 0 := rfl
      rw [if_pos rfl] at h1
      simp only [List.length_nil] at h1
      omega
    · rw [if_neg h0] at h1
      simp only [List.length_cons, List.length_nil] at h1
      omega)
  have HLN : Hid ((joinN L N).length + 2 ≤ 70000000000000) := Lib.hid (by
    rw [List.length_append, List.length_append] at hlen
    simp only [List.length_cons, List.length_nil] at hlen
    omega)
  have HNN := Lib.hid hN
  have HCC := Lib.hid HC
  have q0 := hbx.c0
  have q1 := hbx.c1
  have q2 := hbx.c2
  have q3 := hbx.c3
  have q4 := hbx.c4
  have q5 := hbx.c5
  have q6 := hbx.c6
  obtain ⟨b1, hb1⟩ : ∃ b1, b1 = w.heap.size := ⟨_, rfl⟩
  have HSZ : Hid (W1.heap.size = b1 + 1) := Lib.hid (by rw [hb1]; exact hsz)
  rw [← hb1] at q0 q1 q2 q3 q4 q5 q6 hbx
  have HBX := Lib.hid hbx
  have HBW := Lib.hid hbw
  clear hn3 hn4 hn5 hn6 hcs hbx hbw h hN hB hsz hX hF HC hlen
  go_enter Tryz.func12, Tryz.ntmps12
  go_wp2_with fail
  rw [← hW1, ← hb1]
  have HB1 := Lib.hid hb1
  clear hW1 hb1
  refine HPA.out.mono ?_
  rintro en w2 ⟨v, css, rfl, hrk, hcl, hpr, hb2⟩
  rw [← HNN.out] at hcl
  obtain ⟨a9, c9, hv⟩ := hrk.lit
  rw [hcl] at hv
  subst hv
  have hc9 : N ≤ c9 ∧ c9 ≤ 9223372036854775807 := by
    obtain ⟨a', c', e1, e2, e3, _⟩ := hrk
    injection e1 with _ _ e1
    rw [hcl] at e2
    omega
  have HBx2 := Lib.hid (HBX.out.below hb2 (by have := HSZ.out; omega))
  have HRK := Lib.hid hrk
  have HCL := Lib.hid hcl
  have HPR := Lib.hid hpr
  have HB2 := Lib.hid hb2
  have t0 := HBx2.out.c0
  have t3 := HBx2.out.c3
  have hneN : ((N : Int) == 0) = false := beq_eq_false_iff_ne.2 (by omega)
  clear hrk hcl hpr hb2 q0 q1 q2 q3 q4 q5 q6 HPA HBX
  go_wp2_with fail
  go_loopg [9, 11, 55] N (fun gk v9 v11 v55 wr => ∃ (j : Nat), j + gk = N ∧ v9 = .bool true ∧ v11 = .string ⟨([40] ++ joinN L j).toArray⟩ ∧ v55 = .int .i64 j ∧ Hid (Below w2.heap.size w2 wr))
  case atStart => exact ⟨0, by omega, rfl, by simp [joinN], rfl, Lib.hid (Below.refl _ _)⟩
  case round =>
    obtain ⟨j, hj, rfl, rfl, rfl, HBr⟩ := hrel
    clear t0 t3
    obtain ⟨O, hO⟩ : ∃ O, O = [40] ++ joinN L j := ⟨_, rfl⟩
    rw [← hO]
    by_cases hjN : j < N
    · have hOl : O.length + 2 + (L j).length + 2 ≤ 70000000000011 := by rw [hO, List.length_append]; have := HLEN.out j hjN; simp only [List.length_cons, List.length_nil]; omega
      obtain ⟨T, hT⟩ : ∃ T, T = L j := ⟨_, rfl⟩
      rw [← hT] at hOl
      obtain ⟨kb, ko, k', l', s'', b3, m3, r3', b4, m4, r4', b5, m5, r5', b6, m6, r6', rfl, hkb, d0, d1, d2, d3, d4, d5, d6, HAR, HM3⟩ := part_round HRK.out HCL.out HPR.out hjN HBr.out
      have t0 := (HBx2.out.below HBr.out (by have := HB2.out.size; have := HSZ.out; omega)).c0
      have hb1r : b1 < wr.heap.size := lt_of_block (HBx2.out.below HBr.out (by have := HB2.out.size; have := HSZ.out; omega))
      obtain ⟨W4, hW4⟩ : ∃ W4, W4 = wr.alloc (.cells #[.int .i64 k', .int .i64 l', .int .i64 s'', .slice b3 m3 r3', .slice b4 m4 r4', .slice b5 m5 r5', .slice b6 m6 r6'] 27) := ⟨_, rfl⟩
      have hb4 : Below wr.heap.size wr W4 := by rw [hW4]; exact (Below.refl _ _).alloc (Nat.le_refl _) _
      have HBr4 : Hid (Below w2.heap.size w2 W4) := Lib.hid (HBr.out.trans (hb4.mono HBr.out.size))
      have HW24 : Hid (Below w.heap.size w W4) := Lib.hid (HBW.out.trans ((HB2.out.trans (HBr4.out.mono HB2.out.size)).mono (by have := HSZ.out; have := HB1.out; omega)))
      have HCA : Hid (Calls Tryz.prog 12 #[.agg #[.int .i64 k', .int .i64 l', .int .i64 s'', .slice b3 m3 r3', .slice b4 m4 r4', .slice b5 m5 r5', .slice b6 m6 r6'], .int .i64 (st : Nat), .int .i64 dg, .bool false] W4 fun en w'' => BodyOut T true W4 en w'') := Lib.hid (by
        rw [hT]
        exact HCC.out j (by rw [← HNN.out]; exact hjN) W4 _ HW24.out (ARep.below hb4 hb4.size _ _ HAR.out))
      rw [hW4] at HCA HBr4
      have HQj : Hid ([40] ++ joinN L (j + 1) = O ++ (if j = 0 then [] else [44, 32]) ++ T) := Lib.hid (by rw [joinN_succ, hO, hT]; simp)
      have hA1 : ∀ w, (binOp .add 9 (.string ⟨O.toArray⟩) (.string ⟨#[44, 32]⟩)).run Tryz.prog w = .ok (.string ⟨(O ++ [44, 32]).toArray⟩) w := fun w => strAdd O [44, 32] (by simp; omega) w
      have hA2 : ∀ w, (binOp .add 9 (.string ⟨O.toArray⟩) (.string ⟨T.toArray⟩)).run Tryz.prog w = .ok (.string ⟨(O ++ T).toArray⟩) w := fun w => strAdd O T (by omega) w
      have hA3 : ∀ w, (binOp .add 9 (.string ⟨(O ++ [44, 32]).toArray⟩) (.string ⟨T.toArray⟩)).run Tryz.prog w = .ok (.string ⟨(O ++ [44, 32] ++ T).toArray⟩) w := fun w => strAdd (O ++ [44, 32]) T (by rw [List.length_append]; simp; omega) w
      clear hO hT HAR HM3 HCC hb4 HPR HRK hW4
      by_cases hj0 : j = 0
      · subst hj0
        simp only [Nat.zero_mul, Nat.add_zero] at d0 d1 d2 d3 d4 d5 d6
        clear hA1 hA3
        go_wp2_with fail
        refine HCA.out.mono ?_
        rintro en w5 ⟨rfl, hb5⟩
        have HB5 : Hid (Below w2.heap.size w2 w5) := Lib.hid (HBr4.out.trans (hb5.mono HBr4.out.size))
        clear hb5 HCA
        go_wp2_with fail
        go_roundg (gk - 1)
        case measure => omega
        case rel => exact ⟨1, by omega, rfl, by rw [HQj.out, if_pos (by trivial), List.append_nil]; exact congrArg Value.string (ba_app O T), rfl, HB5⟩
      · have hji : ((j : Int) > 0) := by omega
        clear hA2
        go_wp2_with fail
        refine HCA.out.mono ?_
        rintro en w5 ⟨rfl, hb5⟩
        have HB5 : Hid (Below w2.heap.size w2 w5) := Lib.hid (HBr4.out.trans (hb5.mono HBr4.out.size))
        clear hb5 HCA
        go_wp2_with fail
        go_roundg (gk - 1)
        case measure => omega
        case rel => exact ⟨j + 1, by omega, rfl, by rw [HQj.out, if_neg hj0, ← ba_app (O ++ [44, 32]) T, ← ba_app O [44, 32]], by go_num, HB5⟩
    · obtain rfl : j = N := by omega
      have hOl : O.length ≤ 70000000000011 := by rw [hO, List.length_append]; have := HLN.out; simp only [List.length_cons, List.length_nil]; omega
      have hA1 : ∀ w, (binOp .add 9 (.string ⟨O.toArray⟩) (.string ⟨#[41]⟩)).run Tryz.prog w = .ok (.string ⟨(O ++ [41]).toArray⟩) w := fun w => strAdd O [41] (by simp; omega) w
      have HF : Hid (40 :: (joinN L j ++ [41]) = O ++ [41]) := Lib.hid (by rw [hO]; simp)
      clear hO
      go_wp2_with fail
      go_ret2
      have hbb : Below w.heap.size w wr := HBW.out.trans ((HB2.out.trans (HBr.out.mono HB2.out.size)).mono (by have := HSZ.out; have := HB1.out; omega))
      refine ⟨?_, hbb⟩
      rw [HF.out, ← ba_app O [41]]; rfl

set_option maxRecDepth 100000 in
set_option maxHeartbeats 4000000 in
theorem bodyL7 (l s : Int) (f : List Nat) (e : List Int) (ee : List (List Int)) (kids : List Gm) (hX : GoodX (.mk 7 l s f e ee kids)) (hF : Fit (.mk 7 l s f e ee kids)) (w : World) (B : Nat) (cs : List Value) (h : ARep w B (.mk 7 l s f e ee kids) cs) (hB : B ≤ w.heap.size) (hN9 : numP (.mk 7 l s f e ee kids) ≤ 1000000) (hN0 : 0 < numP (.mk 7 l s f e ee kids)) (st : Nat) (dg : Int) (whole : Bool) (L : Nat → List UInt8) (okb : Nat → Bool)
    (hlen : ([40] ++ joinN L (numP (.mk 7 l s f e ee kids)) ++ [41]).length ≤ 70000000000000) (HC : ∀ i, i < numP (.mk 7 l s f e ee kids) → ∀ w' c, Below w.heap.size w w' → ARep w' w'.heap.size (partG (.mk 7 l s f e ee kids) i) c → Calls Tryz.prog 6 #[.agg c.toArray, .int .i64 dg] w' fun en w'' => BodyOut (L i) (okb i) w' en w'') :
    Calls Tryz.prog 12 #[.agg cs.toArray, .int .i64 (st : Nat), .int .i64 dg, .bool whole] w fun en w' => BodyOut ([40] ++ joinN L (numP (.mk 7 l s f e ee kids)) ++ [41]) (decide (∀ i, i < numP (.mk 7 l s f e ee kids) → okb i = true)) w en w' := by
  obtain ⟨s', a3, p3, a4, p4, a5, p5, a6, p6, hcs⟩ := arep_lit h
  simp only [Gm.kind, Gm.layout, Gm.flat, Gm.ends, Gm.endss, Gm.kids] at hcs
  obtain ⟨n3, hn3⟩ : ∃ n, n = f.length := ⟨_, rfl⟩
  obtain ⟨n4, hn4⟩ : ∃ n, n = e.length := ⟨_, rfl⟩
  obtain ⟨n5, hn5⟩ : ∃ n, n = ee.length := ⟨_, rfl⟩
  obtain ⟨n6, hn6⟩ : ∃ n, n = kids.length := ⟨_, rfl⟩
  rw [← hn3, ← hn4, ← hn5, ← hn6] at hcs
  obtain ⟨N, hN⟩ : ∃ N, N = numP (.mk 7 l s f e ee kids) := ⟨_, rfl⟩
  rw [← hN] at hlen hN0 hN9 ⊢
  obtain ⟨W1, hW1⟩ : ∃ W1, W1 = w.alloc (.cells #[.int .i64 7, .int .i64 l, .int .i64 s', .slice a3 n3 p3, .slice a4 n4 p4, .slice a5 n5 p5, .slice a6 n6 p6] 27) := ⟨_, rfl⟩
  have hbw : Below w.heap.size w W1 := by rw [hW1]; exact (Below.refl _ _).alloc (Nat.le_refl _) _
  have hsz : W1.heap.size = w.heap.size + 1 := by rw [hW1]; simp
  have hbx : Box W1 w.heap.size 7 l s' (.slice a3 n3 p3) (.slice a4 n4 p4) (.slice a5 n5 p5) (.slice a6 n6 p6) := by unfold Box; rw [hW1]; exact heap_alloc_new w _
  have HPA : Hid (Calls Tryz.prog 23 #[.agg #[.int .i64 7, .int .i64 l, .int .i64 s', .slice a3 n3 p3, .slice a4 n4 p4, .slice a5 n5 p5, .slice a6 n6 p6]] W1 fun en w'' => PartsAns (.mk 7 l s f e ee kids) W1 en w'') := Lib.hid (by
    have := partsAns _ hX hF W1 B cs (ARep.below (hbw.mono hB) (Nat.le_refl _) _ cs h) (by omega) (by omega)
    rw [hcs] at this
    exact this)
  rw [hcs]
  have HLEN : Hid (∀ j, j < N → (joinN L j).length + 2 + (L j).length + 2 ≤ 70000000000010) := Lib.hid (fun j hj => by
    have h1 := joinN_mono L (j + 1) N hj
    rw [joinN_succ, List.length_append, List.length_append] at h1
    rw [List.length_append, List.length_append] at hlen
    simp only [List.length_cons, List.length_nil] at hlen
    by_cases h0 : j = 0
    · subst h0
      have : (joinN L 0).length = 0 := rfl
      rw [if_pos rfl] at h1
      simp only [List.length_nil] at h1
      omega
    · rw [if_neg h0] at h1
      simp only [List.length_cons, List.length_nil] at h1
      omega)
  have HLN : Hid ((joinN L N).length + 2 ≤ 70000000000000) := Lib.hid (by
    rw [List.length_append, List.length_append] at hlen
    simp only [List.length_cons, List.length_nil] at hlen
    omega)
  have HNN := Lib.hid hN
  have HCC := Lib.hid HC
  have q0 := hbx.c0
  have q1 := hbx.c1
  have q2 := hbx.c2
  have q3 := hbx.c3
  have q4 := hbx.c4
  have q5 := hbx.c5
  have q6 := hbx.c6
  obtain ⟨b1, hb1⟩ : ∃ b1, b1 = w.heap.size := ⟨_, rfl⟩
  have HSZ : Hid (W1.heap.size = b1 + 1) := Lib.hid (by rw [hb1]; exact hsz)
  rw [← hb1] at q0 q1 q2 q3 q4 q5 q6 hbx
  have HBX := Lib.hid hbx
  have HBW := Lib.hid hbw
  clear hn3 hn4 hn5 hn6 hcs hbx hbw h hN hB hsz hX hF HC hlen
  go_enter Tryz.func12, Tryz.ntmps12
  go_wp2_with fail
  rw [← hW1, ← hb1]
  have HB1 := Lib.hid hb1
  clear hW1 hb1
  refine HPA.out.mono ?_
  rintro en w2 ⟨v, css, rfl, hrk, hcl, hpr, hb2⟩
  rw [← HNN.out] at hcl
  obtain ⟨a9, c9, hv⟩ := hrk.lit
  rw [hcl] at hv
  subst hv
  have hc9 : N ≤ c9 ∧ c9 ≤ 9223372036854775807 := by
    obtain ⟨a', c', e1, e2, e3, _⟩ := hrk
    injection e1 with _ _ e1
    rw [hcl] at e2
    omega
  have HBx2 := Lib.hid (HBX.out.below hb2 (by have := HSZ.out; omega))
  have HRK := Lib.hid hrk
  have HCL := Lib.hid hcl
  have HPR := Lib.hid hpr
  have HB2 := Lib.hid hb2
  have t0 := HBx2.out.c0
  have t3 := HBx2.out.c3
  have hneN : ((N : Int) == 0) = false := beq_eq_false_iff_ne.2 (by omega)
  clear hrk hcl hpr hb2 q0 q1 q2 q3 q4 q5 q6 HPA HBX
  go_wp2_with fail
  go_loopg [9, 11, 55] N (fun gk v9 v11 v55 wr => ∃ (j : Nat) (b : Bool), j + gk = N ∧ v9 = .bool b ∧ v11 = .string ⟨([40] ++ joinN L j).toArray⟩ ∧ v55 = .int .i64 j ∧ Hid (Below w2.heap.size w2 wr) ∧ Hid (b = true ↔ ∀ i, i < j → okb i = true))
  case atStart => exact ⟨0, true, by omega, rfl, by simp [joinN], rfl, Lib.hid (Below.refl _ _), Lib.hid ⟨fun _ i hi => absurd hi (Nat.not_lt_zero _), fun _ => rfl⟩⟩
  case round =>
    obtain ⟨j, b, hj, rfl, rfl, rfl, HBr, HBO⟩ := hrel
    clear t0 t3
    obtain ⟨O, hO⟩ : ∃ O, O = [40] ++ joinN L j := ⟨_, rfl⟩
    rw [← hO]
    by_cases hjN : j < N
    · have hOl : O.length + 2 + (L j).length + 2 ≤ 70000000000011 := by rw [hO, List.length_append]; have := HLEN.out j hjN; simp only [List.length_cons, List.length_nil]; omega
      obtain ⟨T, hT⟩ : ∃ T, T = L j := ⟨_, rfl⟩
      rw [← hT] at hOl
      obtain ⟨kb, ko, k', l', s'', b3, m3, r3', b4, m4, r4', b5, m5, r5', b6, m6, r6', rfl, hkb, d0, d1, d2, d3, d4, d5, d6, HAR, HM3⟩ := part_round HRK.out HCL.out HPR.out hjN HBr.out
      have t0 := (HBx2.out.below HBr.out (by have := HB2.out.size; have := HSZ.out; omega)).c0
      have hb1r : b1 < wr.heap.size := lt_of_block (HBx2.out.below HBr.out (by have := HB2.out.size; have := HSZ.out; omega))
      obtain ⟨W4, hW4⟩ : ∃ W4, W4 = wr.alloc (.cells #[.int .i64 k', .int .i64 l', .int .i64 s'', .slice b3 m3 r3', .slice b4 m4 r4', .slice b5 m5 r5', .slice b6 m6 r6'] 27) := ⟨_, rfl⟩
      have hb4 : Below wr.heap.size wr W4 := by rw [hW4]; exact (Below.refl _ _).alloc (Nat.le_refl _) _
      have HBr4 : Hid (Below w2.heap.size w2 W4) := Lib.hid (HBr.out.trans (hb4.mono HBr.out.size))
      have HW24 : Hid (Below w.heap.size w W4) := Lib.hid (HBW.out.trans ((HB2.out.trans (HBr4.out.mono HB2.out.size)).mono (by have := HSZ.out; have := HB1.out; omega)))
      obtain ⟨r, hr⟩ : ∃ r, r = okb j := ⟨_, rfl⟩
      have HBO1 : Hid ((b && r) = true ↔ ∀ i, i < j + 1 → okb i = true) := Lib.hid (by
        rw [Bool.and_eq_true, HBO.out, hr]
        exact ⟨fun h i hi => by rcases Nat.lt_succ_iff_lt_or_eq.1 hi with h' | h'; exact h.1 i h'; rw [h']; exact h.2, fun h => ⟨fun i hi => h i (by omega), h j (by omega)⟩⟩)
      have HCA : Hid (Calls Tryz.prog 6 #[.agg #[.int .i64 k', .int .i64 l', .int .i64 s'', .slice b3 m3 r3', .slice b4 m4 r4', .slice b5 m5 r5', .slice b6 m6 r6'], .int .i64 dg] W4 fun en w'' => BodyOut T r W4 en w'') := Lib.hid (by
        rw [hT, hr]
        exact HCC.out j (by rw [← HNN.out]; exact hjN) W4 _ HW24.out (ARep.below hb4 hb4.size _ _ HAR.out))
      rw [hW4] at HCA HBr4
      have HQj : Hid ([40] ++ joinN L (j + 1) = O ++ (if j = 0 then [] else [44, 32]) ++ T) := Lib.hid (by rw [joinN_succ, hO, hT]; simp)
      have hA1 : ∀ w, (binOp .add 9 (.string ⟨O.toArray⟩) (.string ⟨#[44, 32]⟩)).run Tryz.prog w = .ok (.string ⟨(O ++ [44, 32]).toArray⟩) w := fun w => strAdd O [44, 32] (by simp; omega) w
      have hA2 : ∀ w, (binOp .add 9 (.string ⟨O.toArray⟩) (.string ⟨T.toArray⟩)).run Tryz.prog w = .ok (.string ⟨(O ++ T).toArray⟩) w := fun w => strAdd O T (by omega) w
      have hA3 : ∀ w, (binOp .add 9 (.string ⟨(O ++ [44, 32]).toArray⟩) (.string ⟨T.toArray⟩)).run Tryz.prog w = .ok (.string ⟨(O ++ [44, 32] ++ T).toArray⟩) w := fun w => strAdd (O ++ [44, 32]) T (by rw [List.length_append]; simp; omega) w
      clear hO hT HAR HM3 HCC hb4 HPR HRK hW4 hr HBO
      by_cases hj0 : j = 0
      · subst hj0
        simp only [Nat.zero_mul, Nat.add_zero] at d0 d1 d2 d3 d4 d5 d6
        clear hA1 hA3
        cases b
        · go_wp2_with fail
          refine HCA.out.mono ?_
          rintro en w5 ⟨rfl, hb5⟩
          have HB5 : Hid (Below w2.heap.size w2 w5) := Lib.hid (HBr4.out.trans (hb5.mono HBr4.out.size))
          clear hb5 HCA
          go_wp2_with fail
          go_roundg (gk - 1)
          case measure => omega
          case rel => exact ⟨1, false, by omega, rfl, by rw [HQj.out, if_pos (by trivial), List.append_nil]; exact congrArg Value.string (ba_app O T), rfl, HB5, HBO1⟩
        · go_wp2_with fail
          refine HCA.out.mono ?_
          rintro en w5 ⟨rfl, hb5⟩
          have HB5 : Hid (Below w2.heap.size w2 w5) := Lib.hid (HBr4.out.trans (hb5.mono HBr4.out.size))
          clear hb5 HCA
          go_wp2_with fail
          go_roundg (gk - 1)
          case measure => omega
          case rel => exact ⟨1, r, by omega, rfl, by rw [HQj.out, if_pos (by trivial), List.append_nil]; exact congrArg Value.string (ba_app O T), rfl, HB5, HBO1⟩
      · have hji : ((j : Int) > 0) := by omega
        clear hA2
        cases b
        · go_wp2_with fail
          refine HCA.out.mono ?_
          rintro en w5 ⟨rfl, hb5⟩
          have HB5 : Hid (Below w2.heap.size w2 w5) := Lib.hid (HBr4.out.trans (hb5.mono HBr4.out.size))
          clear hb5 HCA
          go_wp2_with fail
          go_roundg (gk - 1)
          case measure => omega
          case rel => exact ⟨j + 1, false, by omega, rfl, by rw [HQj.out, if_neg hj0, ← ba_app (O ++ [44, 32]) T, ← ba_app O [44, 32]], by go_num, HB5, HBO1⟩
        · go_wp2_with fail
          refine HCA.out.mono ?_
          rintro en w5 ⟨rfl, hb5⟩
          have HB5 : Hid (Below w2.heap.size w2 w5) := Lib.hid (HBr4.out.trans (hb5.mono HBr4.out.size))
          clear hb5 HCA
          go_wp2_with fail
          go_roundg (gk - 1)
          case measure => omega
          case rel => exact ⟨j + 1, r, by omega, rfl, by rw [HQj.out, if_neg hj0, ← ba_app (O ++ [44, 32]) T, ← ba_app O [44, 32]], by go_num, HB5, HBO1⟩
    · obtain rfl : j = N := by omega
      have hOl : O.length ≤ 70000000000011 := by rw [hO, List.length_append]; have := HLN.out; simp only [List.length_cons, List.length_nil]; omega
      have hA1 : ∀ w, (binOp .add 9 (.string ⟨O.toArray⟩) (.string ⟨#[41]⟩)).run Tryz.prog w = .ok (.string ⟨(O ++ [41]).toArray⟩) w := fun w => strAdd O [41] (by simp; omega) w
      have HF : Hid (40 :: (joinN L j ++ [41]) = O ++ [41]) := Lib.hid (by rw [hO]; simp)
      clear hO
      go_wp2_with fail
      go_ret2
      have hbb : Below w.heap.size w wr := HBW.out.trans ((HB2.out.trans (HBr.out.mono HB2.out.size)).mono (by have := HSZ.out; have := HB1.out; omega))
      refine ⟨?_, hbb⟩
      have hbd : b = decide (∀ i, i < j → okb i = true) := by
        rw [Bool.eq_iff_iff, HBO.out, decide_eq_true_iff]
      rw [HF.out, ← ba_app O [41], ← hbd]; rfl
end Go.Proofs.YtlmilelopajdiaaGreatDoor

/-
  The statement's side: body, where parts are joined.
-/
namespace Go.Proofs.YtlmilelopajdiaaGreatDoor
open Go.RowKit

set_option maxRecDepth 100000 in
set_option maxHeartbeats 4000000 in
theorem bodyL4 (l s : Int) (f : List Nat) (e : List Int) (ee : List (List Int)) (kids : List Gm) (hX : GoodX (.mk 4 l s f e ee kids)) (hF : Fit (.mk 4 l s f e ee kids)) (w : World) (B : Nat) (cs : List Value) (h : ARep w B (.mk 4 l s f e ee kids) cs) (hB : B ≤ w.heap.size) (hN9 : numP (.mk 4 l s f e ee kids) ≤ 1000000) (hN0 : 0 < numP (.mk 4 l s f e ee kids)) (st : Nat) (dg : Int) (whole : Bool) (L : Nat → List UInt8) 
    (hlen : ([40] ++ joinN L (numP (.mk 4 l s f e ee kids)) ++ [41]).length ≤ 70000000000000) (HC : ∀ i, i < numP (.mk 4 l s f e ee kids) → (partG (.mk 4 l s f e ee kids) i).flat = [] → ∀ w' c, Below w.heap.size w w' → ARep w' w'.heap.size (partG (.mk 4 l s f e ee kids) i) c → Calls Tryz.prog 12 #[.agg c.toArray, .int .i64 (st : Nat), .int .i64 dg, .bool false] w' fun en w'' => BodyOut (L i) true w' en w'') (HQ : ∀ i, i < numP (.mk 4 l s f e ee kids) → (partG (.mk 4 l s f e ee kids) i).flat ≠ [] → ∀ w' c, Below w.heap.size w w' → ARep w' w'.heap.size (partG (.mk 4 l s f e ee kids) i) c → Calls Tryz.prog 24 #[c.getD 3 undef, .int .i64 (st : Nat), .int .i64 dg] w' fun en w'' => en = .returned (.string ⟨([40] ++ L i ++ [41]).toArray⟩) ∧ Below w'.heap.size w' w'') :
    Calls Tryz.prog 12 #[.agg cs.toArray, .int .i64 (st : Nat), .int .i64 dg, .bool whole] w fun en w' => BodyOut ([40] ++ joinN L (numP (.mk 4 l s f e ee kids)) ++ [41]) true w en w' := by
  obtain ⟨s', a3, p3, a4, p4, a5, p5, a6, p6, hcs⟩ := arep_lit h
  simp only [Gm.kind, Gm.layout, Gm.flat, Gm.ends, Gm.endss, Gm.kids] at hcs
  obtain ⟨n3, hn3⟩ : ∃ n, n = f.length := ⟨_, rfl⟩
  obtain ⟨n4, hn4⟩ : ∃ n, n = e.length := ⟨_, rfl⟩
  obtain ⟨n5, hn5⟩ : ∃ n, n = ee.length := ⟨_, rfl⟩
  obtain ⟨n6, hn6⟩ : ∃ n, n = kids.length := ⟨_, rfl⟩
  rw [← hn3, ← hn4, ← hn5, ← hn6] at hcs
  obtain ⟨N, hN⟩ : ∃ N, N = numP (.mk 4 l s f e ee kids) := ⟨_, rfl⟩
  rw [← hN] at hlen hN0 hN9 ⊢
  obtain ⟨W1, hW1⟩ : ∃ W1, W1 = w.alloc (.cells #[.int .i64 4, .int .i64 l, .int .i64 s', .slice a3 n3 p3, .slice a4 n4 p4, .slice a5 n5 p5, .slice a6 n6 p6] 27) := ⟨_, rfl⟩
  have hbw : Below w.heap.size w W1 := by rw [hW1]; exact (Below.refl _ _).alloc (Nat.le_refl _) _
  have hsz : W1.heap.size = w.heap.size + 1 := by rw [hW1]; simp
  have hbx : Box W1 w.heap.size 4 l s' (.slice a3 n3 p3) (.slice a4 n4 p4) (.slice a5 n5 p5) (.slice a6 n6 p6) := by unfold Box; rw [hW1]; exact heap_alloc_new w _
  have HPA : Hid (Calls Tryz.prog 23 #[.agg #[.int .i64 4, .int .i64 l, .int .i64 s', .slice a3 n3 p3, .slice a4 n4 p4, .slice a5 n5 p5, .slice a6 n6 p6]] W1 fun en w'' => PartsAns (.mk 4 l s f e ee kids) W1 en w'') := Lib.hid (by
    have := partsAns _ hX hF W1 B cs (ARep.below (hbw.mono hB) (Nat.le_refl _) _ cs h) (by omega) (by omega)
    rw [hcs] at this
    exact this)
  rw [hcs]
  have HLEN : Hid (∀ j, j < N → (joinN L j).length + 2 + (L j).length + 2 ≤ 70000000000010) := Lib.hid (fun j hj => by
    have h1 := joinN_mono L (j + 1) N hj
    rw [joinN_succ, List.length_append, List.length_append] at h1
    rw [List.length_append, List.length_append] at hlen
    simp only [List.length_cons, List.length_nil] at hlen
    by_cases h0 : j = 0
    · subst h0
      have : (joinN L 0).length = 0 := rfl
      rw [if_pos rfl] at h1
      simp only [List.length_nil] at h1
      omega
    · rw [if_neg h0] at h1
      simp only [List.length_cons, List.length_nil] at h1
      omega)
  have HLN : Hid ((joinN L N).length + 2 ≤ 70000000000000) := Lib.hid (by
    rw [List.length_append, List.length_append] at hlen
    simp only [List.length_cons, List.length_nil] at hlen
    omega)
  have HNN := Lib.hid hN
  have HCC := Lib.hid HC
  have HQQ := Lib.hid HQ
  have q0 := hbx.c0
  have q1 := hbx.c1
  have q2 := hbx.c2
  have q3 := hbx.c3
  have q4 := hbx.c4
  have q5 := hbx.c5
  have q6 := hbx.c6
  obtain ⟨b1, hb1⟩ : ∃ b1, b1 = w.heap.size := ⟨_, rfl⟩
  have HSZ : Hid (W1.heap.size = b1 + 1) := Lib.hid (by rw [hb1]; exact hsz)
  rw [← hb1] at q0 q1 q2 q3 q4 q5 q6 hbx
  have HBX := Lib.hid hbx
  have HBW := Lib.hid hbw
  clear hn3 hn4 hn5 hn6 hcs hbx hbw h hN hB hsz hX hF HC hlen HQ
  go_enter Tryz.func12, Tryz.ntmps12
  go_wp2_with fail
  rw [← hW1, ← hb1]
  have HB1 := Lib.hid hb1
  clear hW1 hb1
  refine HPA.out.mono ?_
  rintro en w2 ⟨v, css, rfl, hrk, hcl, hpr, hb2⟩
  rw [← HNN.out] at hcl
  obtain ⟨a9, c9, hv⟩ := hrk.lit
  rw [hcl] at hv
  subst hv
  have hc9 : N ≤ c9 ∧ c9 ≤ 9223372036854775807 := by
    obtain ⟨a', c', e1, e2, e3, _⟩ := hrk
    injection e1 with _ _ e1
    rw [hcl] at e2
    omega
  have HBx2 := Lib.hid (HBX.out.below hb2 (by have := HSZ.out; omega))
  have HRK := Lib.hid hrk
  have HCL := Lib.hid hcl
  have HPR := Lib.hid hpr
  have HB2 := Lib.hid hb2
  have t0 := HBx2.out.c0
  have t3 := HBx2.out.c3
  have hneN : ((N : Int) == 0) = false := beq_eq_false_iff_ne.2 (by omega)
  clear hrk hcl hpr hb2 q0 q1 q2 q3 q4 q5 q6 HPA HBX
  go_wp2_with fail
  go_loopg [9, 11, 55] N (fun gk v9 v11 v55 wr => ∃ (j : Nat), j + gk = N ∧ v9 = .bool true ∧ v11 = .string ⟨([40] ++ joinN L j).toArray⟩ ∧ v55 = .int .i64 j ∧ Hid (Below w2.heap.size w2 wr))
  case atStart => exact ⟨0, by omega, rfl, by simp [joinN], rfl, Lib.hid (Below.refl _ _)⟩
  case round =>
    obtain ⟨j, hj, rfl, rfl, rfl, HBr⟩ := hrel
    clear t0 t3
    obtain ⟨O, hO⟩ : ∃ O, O = [40] ++ joinN L j := ⟨_, rfl⟩
    rw [← hO]
    by_cases hjN : j < N
    · have hOl : O.length + 2 + (L j).length + 2 ≤ 70000000000011 := by rw [hO, List.length_append]; have := HLEN.out j hjN; simp only [List.length_cons, List.length_nil]; omega
      obtain ⟨T, hT⟩ : ∃ T, T = L j := ⟨_, rfl⟩
      rw [← hT] at hOl
      obtain ⟨kb, ko, k', l', s'', b3, m3, r3', b4, m4, r4', b5, m5, r5', b6, m6, r6', rfl, hkb, d0, d1, d2, d3, d4, d5, d6, HAR, HM3⟩ := part_round HRK.out HCL.out HPR.out hjN HBr.out
      have t0 := (HBx2.out.below HBr.out (by have := HB2.out.size; have := HSZ.out; omega)).c0
      have hb1r : b1 < wr.heap.size := lt_of_block (HBx2.out.below HBr.out (by have := HB2.out.size; have := HSZ.out; omega))
      obtain ⟨W4, hW4⟩ : ∃ W4, W4 = wr.alloc (.cells #[.int .i64 k', .int .i64 l', .int .i64 s'', .slice b3 m3 r3', .slice b4 m4 r4', .slice b5 m5 r5', .slice b6 m6 r6'] 27) := ⟨_, rfl⟩
      have hb4 : Below wr.heap.size wr W4 := by rw [hW4]; exact (Below.refl _ _).alloc (Nat.le_refl _) _
      have HBr4 : Hid (Below w2.heap.size w2 W4) := Lib.hid (HBr.out.trans (hb4.mono HBr.out.size))
      have HW24 : Hid (Below w.heap.size w W4) := Lib.hid (HBW.out.trans ((HB2.out.trans (HBr4.out.mono HB2.out.size)).mono (by have := HSZ.out; have := HB1.out; omega)))
      have HM30 : Hid (m3 = 0 ↔ (partG (.mk 4 l s f e ee kids) j).flat = []) := Lib.hid (by rw [HM3.out, List.length_eq_zero_iff])
      have HCA : Hid (m3 = 0 → Calls Tryz.prog 12 #[.agg #[.int .i64 k', .int .i64 l', .int .i64 s'', .slice b3 m3 r3', .slice b4 m4 r4', .slice b5 m5 r5', .slice b6 m6 r6'], .int .i64 (st : Nat), .int .i64 dg, .bool false] W4 fun en w'' => BodyOut T true W4 en w'') := Lib.hid (by
        intro hm
        rw [hT]
        exact HCC.out j (by rw [← HNN.out]; exact hjN) (HM30.out.1 hm) W4 _ HW24.out (ARep.below hb4 hb4.size _ _ HAR.out))
      have HCB : Hid (m3 ≠ 0 → Calls Tryz.prog 24 #[.slice b3 m3 r3', .int .i64 (st : Nat), .int .i64 dg] W4 fun en w'' => en = .returned (.string ⟨([40] ++ T ++ [41]).toArray⟩) ∧ Below W4.heap.size W4 w'') := Lib.hid (by
        intro hm
        rw [hT]
        have h1 := HQQ.out j (by rw [← HNN.out]; exact hjN) (fun h => hm (HM30.out.2 h)) W4 _ HW24.out (ARep.below hb4 hb4.size _ _ HAR.out)
        rw [show ([.int .i64 k', .int .i64 l', .int .i64 s'', .slice b3 m3 r3', .slice b4 m4 r4', .slice b5 m5 r5', .slice b6 m6 r6'] : List Value).getD 3 undef = .slice b3 m3 r3' from rfl] at h1
        exact h1)
      rw [hW4] at HCA HBr4 HCB
      have HQj : Hid ([40] ++ joinN L (j + 1) = O ++ (if j = 0 then [] else [44, 32]) ++ T) := Lib.hid (by rw [joinN_succ, hO, hT]; simp)
      have hA1 : ∀ w, (binOp .add 9 (.string ⟨O.toArray⟩) (.string ⟨#[44, 32]⟩)).run Tryz.prog w = .ok (.string ⟨(O ++ [44, 32]).toArray⟩) w := fun w => strAdd O [44, 32] (by simp; omega) w
      have hA2 : ∀ w, (binOp .add 9 (.string ⟨O.toArray⟩) (.string ⟨T.toArray⟩)).run Tryz.prog w = .ok (.string ⟨(O ++ T).toArray⟩) w := fun w => strAdd O T (by omega) w
      have hA3 : ∀ w, (binOp .add 9 (.string ⟨(O ++ [44, 32]).toArray⟩) (.string ⟨T.toArray⟩)).run Tryz.prog w = .ok (.string ⟨(O ++ [44, 32] ++ T).toArray⟩) w := fun w => strAdd (O ++ [44, 32]) T (by rw [List.length_append]; simp; omega) w
      clear hO hT HAR HM3 HCC hb4 HPR HRK hW4 HQQ
      by_cases hj0 : j = 0
      · subst hj0
        simp only [Nat.zero_mul, Nat.add_zero] at d0 d1 d2 d3 d4 d5 d6
        clear hA1 hA3
        by_cases hm0 : m3 = 0
        · have hc := Lib.hid (HCA.out hm0)
          subst hm0
          clear HCA HCB HM30
          go_wp2_with fail
          refine hc.out.mono ?_
          rintro en w5 ⟨rfl, hb5⟩
          have HB5 : Hid (Below w2.heap.size w2 w5) := Lib.hid (HBr4.out.trans (hb5.mono HBr4.out.size))
          clear hb5 hc
          go_wp2_with fail
          go_roundg (gk - 1)
          case measure => omega
          case rel => exact ⟨1, by omega, rfl, by rw [HQj.out, if_pos (by trivial), List.append_nil]; exact congrArg Value.string (ba_app O T), rfl, HB5⟩
        · have hc := Lib.hid (HCB.out hm0)
          have hmi : ((m3 : Int) > 0) := by omega
          obtain ⟨Z, hZ⟩ : ∃ Z : List UInt8, Z = [40] ++ T ++ [41] := ⟨_, rfl⟩
          have hZl : Z.length = T.length + 2 := by rw [hZ]; simp
          rw [← hZ] at hc
          have HZZ := Lib.hid hZ
          clear HCA HCB HM30 hm0 hZ
          go_wp2_with fail
          refine hc.out.mono ?_
          rintro en w5 ⟨rfl, hb5⟩
          have HB5 : Hid (Below w2.heap.size w2 w5) := Lib.hid (HBr4.out.trans (hb5.mono HBr4.out.size))
          clear hb5 hc
          have hsub : (⟨Z.toArray⟩ : ByteArray).extract 1 (T.length + 1) = ⟨T.toArray⟩ := by rw [HZZ.out]; exact mid_text T
          go_wp2_with fail
          go_roundg (gk - 1)
          case measure => omega
          case rel => exact ⟨1, by omega, rfl, by rw [HQj.out, if_pos (by trivial), List.append_nil]; exact congrArg Value.string (ba_app O T), rfl, HB5⟩
      · have hji : ((j : Int) > 0) := by omega
        clear hA2
        by_cases hm0 : m3 = 0
        · have hc := Lib.hid (HCA.out hm0)
          subst hm0
          clear HCA HCB HM30
          go_wp2_with fail
          refine hc.out.mono ?_
          rintro en w5 ⟨rfl, hb5⟩
          have HB5 : Hid (Below w2.heap.size w2 w5) := Lib.hid (HBr4.out.trans (hb5.mono HBr4.out.size))
          clear hb5 hc
          go_wp2_with fail
          go_roundg (gk - 1)
          case measure => omega
          case rel => exact ⟨j + 1, by omega, rfl, by rw [HQj.out, if_neg hj0, ← ba_app (O ++ [44, 32]) T, ← ba_app O [44, 32]], by go_num, HB5⟩
        · have hc := Lib.hid (HCB.out hm0)
          have hmi : ((m3 : Int) > 0) := by omega
          obtain ⟨Z, hZ⟩ : ∃ Z : List UInt8, Z = [40] ++ T ++ [41] := ⟨_, rfl⟩
          have hZl : Z.length = T.length + 2 := by rw [hZ]; simp
          rw [← hZ] at hc
          have HZZ := Lib.hid hZ
          clear HCA HCB HM30 hm0 hZ
          go_wp2_with fail
          refine hc.out.mono ?_
          rintro en w5 ⟨rfl, hb5⟩
          have HB5 : Hid (Below w2.heap.size w2 w5) := Lib.hid (HBr4.out.trans (hb5.mono HBr4.out.size))
          clear hb5 hc
          have hsub : (⟨Z.toArray⟩ : ByteArray).extract 1 (T.length + 1) = ⟨T.toArray⟩ := by rw [HZZ.out]; exact mid_text T
          go_wp2_with fail
          go_roundg (gk - 1)
          case measure => omega
          case rel => exact ⟨j + 1, by omega, rfl, by rw [HQj.out, if_neg hj0, ← ba_app (O ++ [44, 32]) T, ← ba_app O [44, 32]], by go_num, HB5⟩
    · obtain rfl : j = N := by omega
      have hOl : O.length ≤ 70000000000011 := by rw [hO, List.length_append]; have := HLN.out; simp only [List.length_cons, List.length_nil]; omega
      have hA1 : ∀ w, (binOp .add 9 (.string ⟨O.toArray⟩) (.string ⟨#[41]⟩)).run Tryz.prog w = .ok (.string ⟨(O ++ [41]).toArray⟩) w := fun w => strAdd O [41] (by simp; omega) w
      have HF : Hid (40 :: (joinN L j ++ [41]) = O ++ [41]) := Lib.hid (by rw [hO]; simp)
      clear hO
      go_wp2_with fail
      go_ret2
      have hbb : Below w.heap.size w wr := HBW.out.trans ((HB2.out.trans (HBr.out.mono HB2.out.size)).mono (by have := HSZ.out; have := HB1.out; omega))
      refine ⟨?_, hbb⟩
      rw [HF.out, ← ba_app O [41]]; rfl
end Go.Proofs.YtlmilelopajdiaaGreatDoor
