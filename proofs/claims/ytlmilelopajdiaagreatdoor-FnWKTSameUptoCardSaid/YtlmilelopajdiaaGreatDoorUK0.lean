/-
  The statement's side: body, where parts are joined.
-/
import Derived.Test.YtlmilelopajdiaaGreatDoorUJ7
import Derived.Test.YtlmilelopajdiaaGreatDoorUH0
import Derived.Deep.DeepCutAuto
import Derived.Deep.CutBlock
namespace Go.Proofs.YtlmilelopajdiaaGreatDoor
open Go.RowKit

/-- What body answers. -/
def BodyOut (t : List UInt8) (ok : Bool) (w : World) (e : Ending) (w' : World) : Prop := e = .returned (.tuple #[.string ⟨t.toArray⟩, .bool ok]) ∧ Below w.heap.size w w'
/-- A part as body takes it in a round. -/
theorem part_round {g : Gm} {w2 wr : World} {N c9 j : Nat} {a9 : Option Addr} {css : List (List Value)} (hrk : RowK w2 w2.heap.size (.slice a9 N c9) css) (hcl : css.length = N) (hp : ∀ (i : Nat) c, css[i]? = some c → ARep w2 w2.heap.size (partG g i) c) (hj : j < N) (hwr : Below w2.heap.size w2 wr) :
    ∃ kb ko k l s a3 n3 p3 a4 n4 p4 a5 n5 p5 a6 n6 p6, a9 = some ⟨kb, ko, none⟩ ∧ kb < w2.heap.size ∧ wr.cell? ⟨kb, ko + j * 7, none⟩ = some (.int .i64 k) ∧ wr.cell? ⟨kb, ko + j * 7 + 1, none⟩ = some (.int .i64 l) ∧ wr.cell? ⟨kb, ko + j * 7 + 2, none⟩ = some (.int .i64 s) ∧
      wr.cell? ⟨kb, ko + j * 7 + 3, none⟩ = some (.slice a3 n3 p3) ∧ wr.cell? ⟨kb, ko + j * 7 + 4, none⟩ = some (.slice a4 n4 p4) ∧ wr.cell? ⟨kb, ko + j * 7 + 5, none⟩ = some (.slice a5 n5 p5) ∧ wr.cell? ⟨kb, ko + j * 7 + 6, none⟩ = some (.slice a6 n6 p6) ∧
      Hid (ARep wr wr.heap.size (partG g j) [.int .i64 k, .int .i64 l, .int .i64 s, .slice a3 n3 p3, .slice a4 n4 p4, .slice a5 n5 p5, .slice a6 n6 p6]) ∧ Hid (n3 = (partG g j).flat.length) := by
  have hkid : ∀ (i : Nat) c p, ((List.range N).map (partG g))[i]? = some p → css[i]? = some c → ARep w2 w2.heap.size p c := by
    intro i c p hi hc
    rw [List.getElem?_map] at hi
    have hlt := (List.getElem?_eq_some_iff.1 hc).1
    rw [List.getElem?_range (by omega)] at hi
    injection hi with hi
    rw [← hi]; exact hp i c hc
  obtain ⟨p, kb, ko, k, l, s, a3, n3, p3, a4, n4, p4, a5, n5, p5, a6, n6, p6, q, r1, r2, d0, d1, d2, d3, d4, d5, d6, har, hh⟩ := kid_round hrk (by rw [List.length_map, List.length_range, hcl]) hkid hcl.symm hj hwr hwr.size
  rw [List.getElem?_map, List.getElem?_range hj] at q
  injection q with q
  subst q
  exact ⟨kb, ko, k, l, s, a3, n3, p3, a4, n4, p4, a5, n5, p5, a6, n6, p6, r1, r2, d0, d1, d2, d3, d4, d5, d6, har, Lib.hid hh.out.2.2.1⟩
theorem mid_text (T : List UInt8) : (⟨([40] ++ T ++ [41]).toArray⟩ : ByteArray).extract 1 (T.length + 1) = ⟨T.toArray⟩ := by
  apply ByteArray.ext
  simp [ByteArray.extract, ByteArray.copySlice]

set_option maxRecDepth 100000 in
set_option maxHeartbeats 4000000 in
theorem bodyL3a (l s : Int) (f : List Nat) (e : List Int) (ee : List (List Int)) (kids : List Gm) (hX : GoodX (.mk 3 l s f e ee kids)) (hF : Fit (.mk 3 l s f e ee kids)) (w : World) (B : Nat) (cs : List Value) (h : ARep w B (.mk 3 l s f e ee kids) cs) (hB : B ≤ w.heap.size) (hN9 : numP (.mk 3 l s f e ee kids) ≤ 1000000) (hN0 : 0 < numP (.mk 3 l s f e ee kids)) (st : Nat) (dg : Int) (whole : Bool) (hfw : f ≠ []) (L : Nat → List UInt8) 
    (hlen : ([40] ++ joinN L (numP (.mk 3 l s f e ee kids)) ++ [41]).length ≤ 70000000000000) (HC : ∀ i, i < numP (.mk 3 l s f e ee kids) → ∀ w' c, Below w.heap.size w w' → ARep w' w'.heap.size (partG (.mk 3 l s f e ee kids) i) c → Calls Tryz.prog 12 #[.agg c.toArray, .int .i64 (st : Nat), .int .i64 dg, .bool false] w' fun en w'' => BodyOut (L i) true w' en w'') :
    Calls Tryz.prog 12 #[.agg cs.toArray, .int .i64 (st : Nat), .int .i64 dg, .bool whole] w fun en w' => BodyOut ([40] ++ joinN L (numP (.mk 3 l s f e ee kids)) ++ [41]) true w en w' := by
  obtain ⟨s', a3, p3, a4, p4, a5, p5, a6, p6, hcs⟩ := arep_lit h
  simp only [Gm.kind, Gm.layout, Gm.flat, Gm.ends, Gm.endss, Gm.kids] at hcs
  obtain ⟨n3, hn3⟩ : ∃ n, n = f.length := ⟨_, rfl⟩
  obtain ⟨n4, hn4⟩ : ∃ n, n = e.length := ⟨_, rfl⟩
  obtain ⟨n5, hn5⟩ : ∃ n, n = ee.length := ⟨_, rfl⟩
  obtain ⟨n6, hn6⟩ : ∃ n, n = kids.length := ⟨_, rfl⟩
  rw [← hn3, ← hn4, ← hn5, ← hn6] at hcs
  obtain ⟨N, hN⟩ : ∃ N, N = numP (.mk 3 l s f e ee kids) := ⟨_, rfl⟩
  rw [← hN] at hlen hN0 hN9 ⊢
  obtain ⟨W1, hW1⟩ : ∃ W1, W1 = w.alloc (.cells #[.int .i64 3, .int .i64 l, .int .i64 s', .slice a3 n3 p3, .slice a4 n4 p4, .slice a5 n5 p5, .slice a6 n6 p6] 27) := ⟨_, rfl⟩
  have hbw : Below w.heap.size w W1 := by rw [hW1]; exact (Below.refl _ _).alloc (Nat.le_refl _) _
  have hsz : W1.heap.size = w.heap.size + 1 := by rw [hW1]; simp
  have hbx : Box W1 w.heap.size 3 l s' (.slice a3 n3 p3) (.slice a4 n4 p4) (.slice a5 n5 p5) (.slice a6 n6 p6) := by unfold Box; rw [hW1]; exact heap_alloc_new w _
  have HPA : Hid (Calls Tryz.prog 23 #[.agg #[.int .i64 3, .int .i64 l, .int .i64 s', .slice a3 n3 p3, .slice a4 n4 p4, .slice a5 n5 p5, .slice a6 n6 p6]] W1 fun en w'' => PartsAns (.mk 3 l s f e ee kids) W1 en w'') := Lib.hid (by
    have := partsAns _ hX hF W1 B cs (ARep.below (hbw.mono hB) (Nat.le_refl _) _ cs h) (by omega) (by omega)
    rw [hcs] at this
    exact this)
  rw [hcs]
  have HLEN : Hid (∀ j, j < N → (joinN L j).length + 2 + (L j).length + 2 ≤ 70000000000010) := Lib.hid (fun j hj => by
    have h1 := joinN_mono L (j + 1) N hj
    rw [joinN_succ, List.length_append, List.length_append] at h1
    rw [List.length_append, List.length_append] at hlen
    simp only [List.length_cons, List.length_nil] at hlen
    by_cases h0 : j = 0
    · subst h0
      have : (joinN L 0).length = 0 := rfl
      rw [if_pos rfl] at h1
      simp only [List.length_nil] at h1
      omega
    · rw [if_neg h0] at h1
      simp only [List.length_cons, List.length_nil] at h1
      omega)
  have HLN : Hid ((joinN L N).length + 2 ≤ 70000000000000) := Lib.hid (by
    rw [List.length_append, List.length_append] at hlen
    simp only [List.length_cons, List.length_nil] at hlen
    omega)
  have HNN := Lib.hid hN
  have HCC := Lib.hid HC
  have q0 := hbx.c0
  have q1 := hbx.c1
  have q2 := hbx.c2
  have q3 := hbx.c3
  have q4 := hbx.c4
  have q5 := hbx.c5
  have q6 := hbx.c6
  have hn30 : ((n3 : Int) == 0) = false := beq_eq_false_iff_ne.2 (fun h0 => hfw (List.length_eq_zero_iff.1 (by omega)))
  clear hfw
  obtain ⟨b1, hb1⟩ : ∃ b1, b1 = w.heap.size := ⟨_, rfl⟩
  have HSZ : Hid (W1.heap.size = b1 + 1) := Lib.hid (by rw [hb1]; exact hsz)
  rw [← hb1] at q0 q1 q2 q3 q4 q5 q6 hbx
  have HBX := Lib.hid hbx
  have HBW := Lib.hid hbw
  clear hn3 hn4 hn5 hn6 hcs hbx hbw h hN hB hsz hX hF HC hlen
  go_enter Tryz.func12, Tryz.ntmps12
  go_wp2_with fail
  rw [← hW1, ← hb1]
  have HB1 := Lib.hid hb1
  clear hW1 hb1
  refine HPA.out.mono ?_
  rintro en w2 ⟨v, css, rfl, hrk, hcl, hpr, hb2⟩
  rw [← HNN.out] at hcl
  obtain ⟨a9, c9, hv⟩ := hrk.lit
  rw [hcl] at hv
  subst hv
  have hc9 : N ≤ c9 ∧ c9 ≤ 9223372036854775807 := by
    obtain ⟨a', c', e1, e2, e3, _⟩ := hrk
    injection e1 with _ _ e1
    rw [hcl] at e2
    omega
  have HBx2 := Lib.hid (HBX.out.below hb2 (by have := HSZ.out; omega))
  have HRK := Lib.hid hrk
  have HCL := Lib.hid hcl
  have HPR := Lib.hid hpr
  have HB2 := Lib.hid hb2
  have t0 := HBx2.out.c0
  have t3 := HBx2.out.c3
  have hneN : ((N : Int) == 0) = false := beq_eq_false_iff_ne.2 (by omega)
  clear hrk hcl hpr hb2 q0 q1 q2 q3 q4 q5 q6 HPA HBX
  go_wp2_with fail
  go_loopg [9, 11, 55] N (fun gk v9 v11 v55 wr => ∃ (j : Nat), j + gk = N ∧ v9 = .bool true ∧ v11 = .string ⟨([40] ++ joinN L j).toArray⟩ ∧ v55 = .int .i64 j ∧ Hid (Below w2.heap.size w2 wr))
  case atStart => exact ⟨0, by omega, rfl, by simp [joinN], rfl, Lib.hid (Below.refl _ _)⟩
  case round =>
    obtain ⟨j, hj, rfl, rfl, rfl, HBr⟩ := hrel
    clear t0 t3
    obtain ⟨O, hO⟩ : ∃ O, O = [40] ++ joinN L j := ⟨_, rfl⟩
    rw [← hO]
    by_cases hjN : j < N
    · have hOl : O.length + 2 + (L j).length + 2 ≤ 70000000000011 := by rw [hO, List.length_append]; have := HLEN.out j hjN; simp only [List.length_cons, List.length_nil]; omega
      obtain ⟨T, hT⟩ : ∃ T, T = L j := ⟨_, rfl⟩
      rw [← hT] at hOl
      obtain ⟨kb, ko, k', l', s'', b3, m3, r3', b4, m4, r4', b5, m5, r5', b6, m6, r6', rfl, hkb, d0, d1, d2, d3, d4, d5, d6, HAR, HM3⟩ := part_round HRK.out HCL.out HPR.out hjN HBr.out
      have t0 := (HBx2.out.below HBr.out (by have := HB2.out.size; have := HSZ.out; omega)).c0
      have hb1r : b1 < wr.heap.size := lt_of_block (HBx2.out.below HBr.out (by have := HB2.out.size; have := HSZ.out; omega))
      obtain ⟨W4, hW4⟩ : ∃ W4, W4 = wr.alloc (.cells #[.int .i64 k', .int .i64 l', .int .i64 s'', .slice b3 m3 r3', .slice b4 m4 r4', .slice b5 m5 r5', .slice b6 m6 r6'] 27) := ⟨_, rfl⟩
      have hb4 : Below wr.heap.size wr W4 := by rw [hW4]; exact (Below.refl _ _).alloc (Nat.le_refl _) _
      have HBr4 : Hid (Below w2.heap.size w2 W4) := Lib.hid (HBr.out.trans (hb4.mono HBr.out.size))
      have HW24 : Hid (Below w.heap.size w W4) := Lib.hid (HBW.out.trans ((HB2.out.trans (HBr4.out.mono HB2.out.size)).mono (by have := HSZ.out; have := HB1.out; omega)))
      have HCA : Hid (Calls Tryz.prog 12 #[.agg #[.int .i64 k', .int .i64 l', .int .i64 s'', .slice b3 m3 r3', .slice b4 m4 r4', .slice b5 m5 r5', .slice b6 m6 r6'], .int .i64 (st : Nat), .int .i64 dg, .bool false] W4 fun en w'' => BodyOut T true W4 en w'') := Lib.hid (by
        rw [hT]
        exact HCC.out j (by rw [← HNN.out]; exact hjN) W4 _ HW24.out (ARep.below hb4 hb4.size _ _ HAR.out))
      rw [hW4] at HCA HBr4
      have HQj : Hid ([40] ++ joinN L (j + 1) = O ++ (if j = 0 then [] else [44, 32]) ++ T) := Lib.hid (by rw [joinN_succ, hO, hT]; simp)
      have hA1 : ∀ w, (binOp .add 9 (.string ⟨O.toArray⟩) (.string ⟨#[44, 32]⟩)).run Tryz.prog w = .ok (.string ⟨(O ++ [44, 32]).toArray⟩) w := fun w => strAdd O [44, 32] (by simp; omega) w
      have hA2 : ∀ w, (binOp .add 9 (.string ⟨O.toArray⟩) (.string ⟨T.toArray⟩)).run Tryz.prog w = .ok (.string ⟨(O ++ T).toArray⟩) w := fun w => strAdd O T (by omega) w
      have hA3 : ∀ w, (binOp .add 9 (.string ⟨(O ++ [44, 32]).toArray⟩) (.string ⟨T.toArray⟩)).run Tryz.prog w = .ok (.string ⟨(O ++ [44, 32] ++ T).toArray⟩) w := fun w => strAdd (O ++ [44, 32]) T (by rw [List.length_append]; simp; omega) w
      clear hO hT HAR HM3 HCC hb4 HPR HRK hW4
      by_cases hj0 : j = 0
      · subst hj0
        simp only [Nat.zero_mul, Nat.add_zero] at d0 d1 d2 d3 d4 d5 d6
        clear hA1 hA3
        go_wp2_with fail
        refine HCA.out.mono ?_
        rintro en w5 ⟨rfl, hb5⟩
        have HB5 : Hid (Below w2.heap.size w2 w5) := Lib.hid (HBr4.out.trans (hb5.mono HBr4.out.size))
        clear hb5 HCA
        go_wp2_with fail
        go_roundg (gk - 1)
        case measure => omega
        case rel => exact ⟨1, by omega, rfl, by rw [HQj.out, if_pos (by trivial), List.append_nil]; exact congrArg Value.string (ba_app O T), rfl, HB5⟩
      · have hji : ((j : Int) > 0) := by omega
        clear hA2
        go_wp2_with fail
        refine HCA.out.mono ?_
        rintro en w5 ⟨rfl, hb5⟩
        have HB5 : Hid (Below w2.heap.size w2 w5) := Lib.hid (HBr4.out.trans (hb5.mono HBr4.out.size))
        clear hb5 HCA
        go_wp2_with fail
        go_roundg (gk - 1)
        case measure => omega
        case rel => exact ⟨j + 1, by omega, rfl, by rw [HQj.out, if_neg hj0, ← ba_app (O ++ [44, 32]) T, ← ba_app O [44, 32]], by go_num, HB5⟩
    · obtain rfl : j = N := by omega
      have hOl : O.length ≤ 70000000000011 := by rw [hO, List.length_append]; have := HLN.out; simp only [List.length_cons, List.length_nil]; omega
      have hA1 : ∀ w, (binOp .add 9 (.string ⟨O.toArray⟩) (.string ⟨#[41]⟩)).run Tryz.prog w = .ok (.string ⟨(O ++ [41]).toArray⟩) w := fun w => strAdd O [41] (by simp; omega) w
      have HF : Hid (40 :: (joinN L j ++ [41]) = O ++ [41]) := Lib.hid (by rw [hO]; simp)
      clear hO
      go_wp2_with fail
      go_ret2
      have hbb : Below w.heap.size w wr := HBW.out.trans ((HB2.out.trans (HBr.out.mono HB2.out.size)).mono (by have := HSZ.out; have := HB1.out; omega))
      refine ⟨?_, hbb⟩
      rw [HF.out, ← ba_app O [41]]; rfl

set_option maxRecDepth 100000 in
set_option maxHeartbeats 4000000 in
theorem bodyL3b (l s : Int) (f : List Nat) (e : List Int) (ee : List (List Int)) (kids : List Gm) (hX : GoodX (.mk 3 l s f e ee kids)) (hF : Fit (.mk 3 l s f e ee kids)) (w : World) (B : Nat) (cs : List Value) (h : ARep w B (.mk 3 l s f e ee kids) cs) (hB : B ≤ w.heap.size) (hN9 : numP (.mk 3 l s f e ee kids) ≤ 1000000) (hN0 : 0 < numP (.mk 3 l s f e ee kids)) (st : Nat) (dg : Int) (whole : Bool) (hfw : f = []) (hwf : whole = false) (L : Nat → List UInt8) 
    (hlen : ([40] ++ joinN L (numP (.mk 3 l s f e ee kids)) ++ [41]).length ≤ 70000000000000) (HC : ∀ i, i < numP (.mk 3 l s f e ee kids) → ∀ w' c, Below w.heap.size w w' → ARep w' w'.heap.size (partG (.mk 3 l s f e ee kids) i) c → Calls Tryz.prog 12 #[.agg c.toArray, .int .i64 (st : Nat), .int .i64 dg, .bool false] w' fun en w'' => BodyOut (L i) true w' en w'') :
    Calls Tryz.prog 12 #[.agg cs.toArray, .int .i64 (st : Nat), .int .i64 dg, .bool whole] w fun en w' => BodyOut ([40] ++ joinN L (numP (.mk 3 l s f e ee kids)) ++ [41]) true w en w' := by
  obtain ⟨s', a3, p3, a4, p4, a5, p5, a6, p6, hcs⟩ := arep_lit h
  simp only [Gm.kind, Gm.layout, Gm.flat, Gm.ends, Gm.endss, Gm.kids] at hcs
  obtain ⟨n3, hn3⟩ : ∃ n, n = f.length := ⟨_, rfl⟩
  obtain ⟨n4, hn4⟩ : ∃ n, n = e.length := ⟨_, rfl⟩
  obtain ⟨n5, hn5⟩ : ∃ n, n = ee.length := ⟨_, rfl⟩
  obtain ⟨n6, hn6⟩ : ∃ n, n = kids.length := ⟨_, rfl⟩
  rw [← hn3, ← hn4, ← hn5, ← hn6] at hcs
  obtain ⟨N, hN⟩ : ∃ N, N = numP (.mk 3 l s f e ee kids) := ⟨_, rfl⟩
  rw [← hN] at hlen hN0 hN9 ⊢
  obtain ⟨W1, hW1⟩ : ∃ W1, W1 = w.alloc (.cells #[.int .i64 3, .int .i64 l, .int .i64 s', .slice a3 n3 p3, .slice a4 n4 p4, .slice a5 n5 p5, .slice a6 n6 p6] 27) := ⟨_, rfl⟩
  have hbw : Below w.heap.size w W1 := by rw [hW1]; exact (Below.refl _ _).alloc (Nat.le_refl _) _
  have hsz : W1.heap.size = w.heap.size + 1 := by rw [hW1]; simp
  have hbx : Box W1 w.heap.size 3 l s' (.slice a3 n3 p3) (.slice a4 n4 p4) (.slice a5 n5 p5) (.slice a6 n6 p6) := by unfold Box; rw [hW1]; exact heap_alloc_new w _
  have HPA : Hid (Calls Tryz.prog 23 #[.agg #[.int .i64 3, .int .i64 l, .int .i64 s', .slice a3 n3 p3, .slice a4 n4 p4, .slice a5 n5 p5, .slice a6 n6 p6]] W1 fun en w'' => PartsAns (.mk 3 l s f e ee kids) W1 en w'') := Lib.hid (by
    have := partsAns _ hX hF W1 B cs (ARep.below (hbw.mono hB) (Nat.le_refl _) _ cs h) (by omega) (by omega)
    rw [hcs] at this
    exact this)
  rw [hcs]
  have HLEN : Hid (∀ j, j < N → (joinN L j).length + 2 + (L j).length + 2 ≤ 70000000000010) := Lib.hid (fun j hj => by
    have h1 := joinN_mono L (j + 1) N hj
    rw [joinN_succ, List.length_append, List.length_append] at h1
    rw [List.length_append, List.length_append] at hlen
    simp only [List.length_cons, List.length_nil] at hlen
    by_cases h0 : j = 0
    · subst h0
      have : (joinN L 0).length = 0 := rfl
      rw [if_pos rfl] at h1
      simp only [List.length_nil] at h1
      omega
    · rw [if_neg h0] at h1
      simp only [List.length_cons, List.length_nil] at h1
      omega)
  have HLN : Hid ((joinN L N).length + 2 ≤ 70000000000000) := Lib.hid (by
    rw [List.length_append, List.length_append] at hlen
    simp only [List.length_cons, List.length_nil] at hlen
    omega)
  have HNN := Lib.hid hN
  have HCC := Lib.hid HC
  have q0 := hbx.c0
  have q1 := hbx.c1
  have q2 := hbx.c2
  have q3 := hbx.c3
  have q4 := hbx.c4
  have q5 := hbx.c5
  have q6 := hbx.c6
  have hn30 : n3 = 0 := by rw [hn3, hfw]; rfl
  subst hwf hn30
  clear hfw
  obtain ⟨b1, hb1⟩ : ∃ b1, b1 = w.heap.size := ⟨_, rfl⟩
  have HSZ : Hid (W1.heap.size = b1 + 1) := Lib.hid (by rw [hb1]; exact hsz)
  rw [← hb1] at q0 q1 q2 q3 q4 q5 q6 hbx
  have HBX := Lib.hid hbx
  have HBW := Lib.hid hbw
  clear hn3 hn4 hn5 hn6 hcs hbx hbw h hN hB hsz hX hF HC hlen
  go_enter Tryz.func12, Tryz.ntmps12
  go_wp2_with fail
  rw [← hW1, ← hb1]
  have HB1 := Lib.hid hb1
  clear hW1 hb1
  refine HPA.out.mono ?_
  rintro en w2 ⟨v, css, rfl, hrk, hcl, hpr, hb2⟩
  rw [← HNN.out] at hcl
  obtain ⟨a9, c9, hv⟩ := hrk.lit
  rw [hcl] at hv
  subst hv
  have hc9 : N ≤ c9 ∧ c9 ≤ 9223372036854775807 := by
    obtain ⟨a', c', e1, e2, e3, _⟩ := hrk
    injection e1 with _ _ e1
    rw [hcl] at e2
    omega
  have HBx2 := Lib.hid (HBX.out.below hb2 (by have := HSZ.out; omega))
  have HRK := Lib.hid hrk
  have HCL := Lib.hid hcl
  have HPR := Lib.hid hpr
  have HB2 := Lib.hid hb2
  have t0 := HBx2.out.c0
  have t3 := HBx2.out.c3
  have hneN : ((N : Int) == 0) = false := beq_eq_false_iff_ne.2 (by omega)
  clear hrk hcl hpr hb2 q0 q1 q2 q3 q4 q5 q6 HPA HBX
  go_wp2_with fail
  go_loopg [9, 11, 55] N (fun gk v9 v11 v55 wr => ∃ (j : Nat), j + gk = N ∧ v9 = .bool true ∧ v11 = .string ⟨([40] ++ joinN L j).toArray⟩ ∧ v55 = .int .i64 j ∧ Hid (Below w2.heap.size w2 wr))
  case atStart => exact ⟨0, by omega, rfl, by simp [joinN], rfl, Lib.hid (Below.refl _ _)⟩
  case round =>
    obtain ⟨j, hj, rfl, rfl, rfl, HBr⟩ := hrel
    clear t0 t3
    obtain ⟨O, hO⟩ : ∃ O, O = [40] ++ joinN L j := ⟨_, rfl⟩
    rw [← hO]
    by_cases hjN : j < N
    · have hOl : O.length + 2 + (L j).length + 2 ≤ 70000000000011 := by rw [hO, List.length_append]; have := HLEN.out j hjN; simp only [List.length_cons, List.length_nil]; omega
      obtain ⟨T, hT⟩ : ∃ T, T = L j := ⟨_, rfl⟩
      rw [← hT] at hOl
      obtain ⟨kb, ko, k', l', s'', b3, m3, r3', b4, m4, r4', b5, m5, r5', b6, m6, r6', rfl, hkb, d0, d1, d2, d3, d4, d5, d6, HAR, HM3⟩ := part_round HRK.out HCL.out HPR.out hjN HBr.out
      have t0 := (HBx2.out.below HBr.out (by have := HB2.out.size; have := HSZ.out; omega)).c0
      have hb1r : b1 < wr.heap.size := lt_of_block (HBx2.out.below HBr.out (by have := HB2.out.size; have := HSZ.out; omega))
      obtain ⟨W4, hW4⟩ : ∃ W4, W4 = wr.alloc (.cells #[.int .i64 k', .int .i64 l', .int .i64 s'', .slice b3 m3 r3', .slice b4 m4 r4', .slice b5 m5 r5', .slice b6 m6 r6'] 27) := ⟨_, rfl⟩
      have hb4 : Below wr.heap.size wr W4 := by rw [hW4]; exact (Below.refl _ _).alloc (Nat.le_refl _) _
      have HBr4 : Hid (Below w2.heap.size w2 W4) := Lib.hid (HBr.out.trans (hb4.mono HBr.out.size))
      have HW24 : Hid (Below w.heap.size w W4) := Lib.hid (HBW.out.trans ((HB2.out.trans (HBr4.out.mono HB2.out.size)).mono (by have := HSZ.out; have := HB1.out; omega)))
      have HCA : Hid (Calls Tryz.prog 12 #[.agg #[.int .i64 k', .int .i64 l', .int .i64 s'', .slice b3 m3 r3', .slice b4 m4 r4', .slice b5 m5 r5', .slice b6 m6 r6'], .int .i64 (st : Nat), .int .i64 dg, .bool false] W4 fun en w'' => BodyOut T true W4 en w'') := Lib.hid (by
        rw [hT]
        exact HCC.out j (by rw [← HNN.out]; exact hjN) W4 _ HW24.out (ARep.below hb4 hb4.size _ _ HAR.out))
      rw [hW4] at HCA HBr4
      have HQj : Hid ([40] ++ joinN L (j + 1) = O ++ (if j = 0 then [] else [44, 32]) ++ T) := Lib.hid (by rw [joinN_succ, hO, hT]; simp)
      have hA1 : ∀ w, (binOp .add 9 (.string ⟨O.toArray⟩) (.string ⟨#[44, 32]⟩)).run Tryz.prog w = .ok (.string ⟨(O ++ [44, 32]).toArray⟩) w := fun w => strAdd O [44, 32] (by simp; omega) w
      have hA2 : ∀ w, (binOp .add 9 (.string ⟨O.toArray⟩) (.string ⟨T.toArray⟩)).run Tryz.prog w = .ok (.string ⟨(O ++ T).toArray⟩) w := fun w => strAdd O T (by omega) w
      have hA3 : ∀ w, (binOp .add 9 (.string ⟨(O ++ [44, 32]).toArray⟩) (.string ⟨T.toArray⟩)).run Tryz.prog w = .ok (.string ⟨(O ++ [44, 32] ++ T).toArray⟩) w := fun w => strAdd (O ++ [44, 32]) T (by rw [List.length_append]; simp; omega) w
      clear hO hT HAR HM3 HCC hb4 HPR HRK hW4
      by_cases hj0 : j = 0
      · subst hj0
        simp only [Nat.zero_mul, Nat.add_zero] at d0 d1 d2 d3 d4 d5 d6
        clear hA1 hA3
        go_wp2_with fail
        refine HCA.out.mono ?_
        rintro en w5 ⟨rfl, hb5⟩
        have HB5 : Hid (Below w2.heap.size w2 w5) := Lib.hid (HBr4.out.trans (hb5.mono HBr4.out.size))
        clear hb5 HCA
        go_wp2_with fail
        go_roundg (gk - 1)
        case measure => omega
        case rel => exact ⟨1, by omega, rfl, by rw [HQj.out, if_pos (by trivial), List.append_nil]; exact congrArg Value.string (ba_app O T), rfl, HB5⟩
      · have hji : ((j : Int) > 0) := by omega
        clear hA2
        go_wp2_with fail
        refine HCA.out.mono ?_
        rintro en w5 ⟨rfl, hb5⟩
        have HB5 : Hid (Below w2.heap.size w2 w5) := Lib.hid (HBr4.out.trans (hb5.mono HBr4.out.size))
        clear hb5 HCA
        go_wp2_with fail
        go_roundg (gk - 1)
        case measure => omega
        case rel => exact ⟨j + 1, by omega, rfl, by rw [HQj.out, if_neg hj0, ← ba_app (O ++ [44, 32]) T, ← ba_app O [44, 32]], by go_num, HB5⟩
    · obtain rfl : j = N := by omega
      have hOl : O.length ≤ 70000000000011 := by rw [hO, List.length_append]; have := HLN.out; simp only [List.length_cons, List.length_nil]; omega
      have hA1 : ∀ w, (binOp .add 9 (.string ⟨O.toArray⟩) (.string ⟨#[41]⟩)).run Tryz.prog w = .ok (.string ⟨(O ++ [41]).toArray⟩) w := fun w => strAdd O [41] (by simp; omega) w
      have HF : Hid (40 :: (joinN L j ++ [41]) = O ++ [41]) := Lib.hid (by rw [hO]; simp)
      clear hO
      go_wp2_with fail
      go_ret2
      have hbb : Below w.heap.size w wr := HBW.out.trans ((HB2.out.trans (HBr.out.mono HB2.out.size)).mono (by have := HSZ.out; have := HB1.out; omega))
      refine ⟨?_, hbb⟩
      rw [HF.out, ← ba_app O [41]]; rfl

set_option maxRecDepth 100000 in
set_option maxHeartbeats 4000000 in
theorem bodyL5 (l s : Int) (f : List Nat) (e : List Int) (ee : List (List Int)) (kids : List Gm) (hX : GoodX (.mk 5 l s f e ee kids)) (hF : Fit (.mk 5 l s f e ee kids)) (w : World) (B : Nat) (cs : List Value) (h : ARep w B (.mk 5 l s f e ee kids) cs) (hB : B ≤ w.heap.size) (hN9 : numP (.mk 5 l s f e ee kids) ≤ 1000000) (hN0 : 0 < numP (.mk 5 l s f e ee kids)) (st : Nat) (dg : Int) (whole : Bool) (L : Nat → List UInt8) 
    (hlen : ([40] ++ joinN L (numP (.mk 5 l s f e ee kids)) ++ [41]).length ≤ 70000000000000) (HC : ∀ i, i < numP (.mk 5 l s f e ee kids) → ∀ w' c, Below w.heap.size w w' → ARep w' w'.heap.size (partG (.mk 5 l s f e ee kids) i) c → Calls Tryz.prog 12 #[.agg c.toArray, .int .i64 (st : Nat), .int .i64 dg, .bool false] w' fun en w'' => BodyOut (L i) true w' en w'') :
    Calls Tryz.prog 12 #[.agg cs.toArray, .int .i64 (st : Nat), .int .i64 dg, .bool whole] w fun en w' => BodyOut ([40] ++ joinN L (numP (.mk 5 l s f e ee kids)) ++ [41]) true w en w' := by
  obtain ⟨s', a3, p3, a4, p4, a5, p5, a6, p6, hcs⟩ := arep_lit h
  simp only [Gm.kind, Gm.layout, Gm.flat, Gm.ends, Gm.endss, Gm.kids] at hcs
  obtain ⟨n3, hn3⟩ : ∃ n, n = f.length := ⟨_, rfl⟩
  obtain ⟨n4, hn4⟩ : ∃ n, n = e.length := ⟨_, rfl⟩
  obtain ⟨n5, hn5⟩ : ∃ n, n = ee.length := ⟨_, rfl⟩
  obtain ⟨n6, hn6⟩ : ∃ n, n = kids.length := ⟨_, rfl⟩
  rw [← hn3, ← hn4, ← hn5, ← hn6] at hcs
  obtain ⟨N, hN⟩ : ∃ N, N = numP (.mk 5 l s f e ee kids) := ⟨_, rfl⟩
  rw [← hN] at hlen hN0 hN9 ⊢
  obtain ⟨W1, hW1⟩ : ∃ W1, W1 = w.alloc (.cells #[.int .i64 5, .int .i64 l, .int .i64 s', .slice a3 n3 p3, .slice a4 n4 p4, .slice a5 n5 p5, .slice a6 n6 p6] 27) := ⟨_, rfl⟩
  have hbw : Below w.heap.size w W1 := by rw [hW1]; exact (Below.refl _ _).alloc (Nat.le_refl _) _
  have hsz : W1.heap.size = w.heap.size + 1 := by rw [hW1]; simp
  have hbx : Box W1 w.heap.size 5 l s' (.slice a3 n3 p3) (.slice a4 n4 p4) (.slice a5 n5 p5) (.slice a6 n6 p6) := by unfold Box; rw [hW1]; exact heap_alloc_new w _
  have HPA : Hid (Calls Tryz.prog 23 #[.agg #[.int .i64 5, .int .i64 l, .int .i64 s', .slice a3 n3 p3, .slice a4 n4 p4, .slice a5 n5 p5, .slice a6 n6 p6]] W1 fun en w'' => PartsAns (.mk 5 l s f e ee kids) W1 en w'') := Lib.hid (by
    have := partsAns _ hX hF W1 B cs (ARep.below (hbw.mono hB) (Nat.le_refl _) _ cs h) (by omega) (by omega)
    rw [hcs] at this
    exact this)
  rw [hcs]
  have HLEN : Hid (∀ j, j < N → (joinN L j).length + 2 + (L j).length + 2 ≤ 70000000000010) := Lib.hid (fun j hj => by
    have h1 := joinN_mono L (j + 1) N hj
    rw [joinN_succ, List.length_append, List.length_append] at h1
    rw [List.length_append, List.length_append] at hlen
    simp only [List.length_cons, List.length_nil] at hlen
    by_cases h0 : j = 0
    · subst h0
      have : (joinN L 0).length = 0 := rfl
      rw [if_pos rfl] at h1
      simp only [List.length_nil] at h1
      omega
    · rw [if_neg h0] at h1
      simp only [List.length_cons, List.length_nil] at h1
      omega)
  have HLN : Hid ((joinN L N).length + 2 ≤ 70000000000000) := Lib.hid (by
    rw [List.length_append, List.length_append] at hlen
    simp only [List.length_cons, List.length_nil] at hlen
    omega)
  have HNN := Lib.hid hN
  have HCC := Lib.hid HC
  have q0 := hbx.c0
  have q1 := hbx.c1
  have q2 := hbx.c2
  have q3 := hbx.c3
  have q4 := hbx.c4
  have q5 := hbx.c5
  have q6 := hbx.c6
  obtain ⟨b1, hb1⟩ : ∃ b1, b1 = w.heap.size := ⟨_, rfl⟩
  have HSZ : Hid (W1.heap.size = b1 + 1) := Lib.hid (by rw [hb1]; exact hsz)
  rw [← hb1] at q0 q1 q2 q3 q4 q5 q6 hbx
  have HBX := Lib.hid hbx
  have HBW := Lib.hid hbw
  clear hn3 hn4 hn5 hn6 hcs hbx hbw h hN hB hsz hX hF HC hlen
  go_enter Tryz.func12, Tryz.ntmps12
  go_wp2_with fail
  rw [← hW1, ← hb1]
  have HB1 := Lib.hid hb1
  clear hW1 hb1
  refine HPA.out.mono ?_
  rintro en w2 ⟨v, css, rfl, hrk, hcl, hpr, hb2⟩
  rw [← HNN.out] at hcl
  obtain ⟨a9, c9, hv⟩ := hrk.lit
  rw [hcl] at hv
  subst hv
  have hc9 : N ≤ c9 ∧ c9 ≤ 9223372036854775807 := by
    obtain ⟨a', c', e1, e2, e3, _⟩ := hrk
    injection e1 with _ _ e1
    rw [hcl] at e2
    omega
  have HBx2 := Lib.hid (HBX.out.below hb2 (by have := HSZ.out; omega))
  have HRK := Lib.hid hrk
  have HCL := Lib.hid hcl
  have HPR := Lib.hid hpr
  have HB2 := Lib.hid hb2
  have t0 := HBx2.out.c0
  have t3 := HBx2.out.c3
  have hneN : ((N : Int) == 0) = false := beq_eq_false_iff_ne.2 (by omega)
  clear hrk hcl hpr hb2 q0 q1 q2 q3 q4 q5 q6 HPA HBX
  go_wp2_with fail
  go_loopg [9, 11, 55] N (fun gk v9 v11 v55 wr => ∃ (j : Nat), j + gk = N ∧ v9 = .bool true ∧ v11 = .string ⟨([40] ++ joinN L j).toArray⟩ ∧ v55 = .int .i64 j ∧ Hid (Below w2.heap.size w2 wr))
  case atStart => exact ⟨0, by omega, rfl, by simp [joinN], rfl, Lib.hid (Below.refl _ _)⟩
  case round =>
    obtain ⟨j, hj, rfl, rfl, rfl, HBr⟩ := hrel
    clear t0 t3
    obtain ⟨O, hO⟩ : ∃ O, O = [40] ++ joinN L j := ⟨_, rfl⟩
    rw [← hO]
    by_cases hjN : j < N
    · have hOl : O.length + 2 + (L j).length + 2 ≤ 70000000000011 := by rw [hO, List.length_append]; have := HLEN.out j hjN; simp only [List.length_cons, List.length_nil]; omega
      obtain ⟨T, hT⟩ : ∃ T, T = L j := ⟨_, rfl⟩
      rw [← hT] at hOl
      obtain ⟨kb, ko, k', l', s'', b3, m3, r3', b4, m4, r4', b5, m5, r5', b6, m6, r6', rfl, hkb, d0, d1, d2, d3, d4, d5, d6, HAR, HM3⟩ := part_round HRK.out HCL.out HPR.out hjN HBr.out
      have t0 := (HBx2.out.below HBr.out (by have := HB2.out.size; have := HSZ.out; omega)).c0
      have hb1r : b1 < wr.heap.size := lt_of_block (HBx2.out.below HBr.out (by have := HB2.out.size; have := HSZ.out; omega))
      obtain ⟨W4, hW4⟩ : ∃ W4, W4 = wr.alloc (.cells #[.int .i64 k', .int .i64 l', .int .i64 s'', .slice b3 m3 r3', .slice b4 m4 r4', .slice b5 m5 r5', .slice b6 m6 r6'] 27) := ⟨_, rfl⟩
      have hb4 : Below wr.heap.size wr W4 := by rw [hW4]; exact (Below.refl _ _).alloc (Nat.le_refl _) _
      have HBr4 : Hid (Below w2.heap.size w2 W4) := Lib.hid (HBr.out.trans (hb4.mono HBr.out.size))
      have HW24 : Hid (Below w.heap.size w W4) := Lib.hid (HBW.out.trans ((HB2.out.trans (HBr4.out.mono HB2.out.size)).mono (by have := HSZ.out; have := HB1.out; omega)))
      have HCA : Hid (Calls Tryz.prog 12 #[.agg #[.int .i64 k', .int .i64 l', .int .i64 s'', .slice b3 m3 r3', .slice b4 m4 r4', .slice b5 m5 r5', .slice b6 m6 r6'], .int .i64 (st : Nat), .int .i64 dg, .bool false] W4 fun en w'' => BodyOut T true W4 en w'') := Lib.hid (by
        rw [hT]
        exact HCC.out j (by rw [← HNN.out]; exact hjN) W4 _ HW24.out (ARep.below hb4 hb4.size _ _ HAR.out))
      rw [hW4] at HCA HBr4
      have HQj : Hid ([40] ++ joinN L (j + 1) = O ++ (if j = 0 then [] else [44, 32]) ++ T) := Lib.hid (by rw [joinN_succ, hO, hT]; simp)
      have hA1 : ∀ w, (binOp .add 9 (.string ⟨O.toArray⟩) (.string ⟨#[44, 32]⟩)).run Tryz.prog w = .ok (.string ⟨(O ++ [44, 32]).toArray⟩) w := fun w => strAdd O [44, 32] (by simp; omega) w
      have hA2 : ∀ w, (binOp .add 9 (.string ⟨O.toArray⟩) (.string ⟨T.toArray⟩)).run Tryz.prog w = .ok (.string ⟨(O ++ T).toArray⟩) w := fun w => strAdd O T (by omega) w
      have hA3 : ∀ w, (binOp .add 9 (.string ⟨(O ++ [44, 32]).toArray⟩) (.string ⟨T.toArray⟩)).run Tryz.prog w = .ok (.string ⟨(O ++ [44, 32] ++ T).toArray⟩) w := fun w => strAdd (O ++ [44, 32]) T (by rw [List.length_append]; simp; omega) w
      clear hO hT HAR HM3 HCC hb4 HPR HRK hW4
      by_cases hj0 : j = 0
      · subst hj0
        simp only [Nat.zero_mul, Nat.add_zero] at d0 d1 d2 d3 d4 d5 d6
        clear hA1 hA3
        go_wp2_with fail
        refine HCA.out.mono ?_
        rintro en w5 ⟨rfl, hb5⟩
        have HB5 : Hid (Below w2.heap.size w2 w5) := Lib.hid (HBr4.out.trans (hb5.mono HBr4.out.size))
        clear hb5 HCA
        go_wp2_with fail
        go_roundg (gk - 1)
        case measure => omega
        case rel => exact ⟨1, by omega, rfl, by rw [HQj.out, if_pos (by trivial), List.append_nil]; exact congrArg Value.string (ba_app O T), rfl, HB5⟩
      · have hji : ((j : Int) > 0) := by omega
        clear hA2
        go_wp2_with fail
        refine HCA.out.mono ?_
        rintro en w5 ⟨rfl, hb5⟩
        have HB5 : Hid (Below w2.heap.size w2 w5) := Lib.hid (HBr4.out.trans (hb5.mono HBr4.out.size))
        clear hb5 HCA
        go_wp2_with fail
        go_roundg (gk - 1)
        case measure => omega
        case rel => exact ⟨j + 1, by omega, rfl, by rw [HQj.out, if_neg hj0, ← ba_app (O ++ [44, 32]) T, ← ba_app O [44, 32]], by go_num, HB5⟩
    · obtain rfl : j = N := by omega
      have hOl : O.length ≤ 70000000000011 := by rw [hO, List.length_append]; have := HLN.out; simp only [List.length_cons, List.length_nil]; omega
      have hA1 : ∀ w, (binOp .add 9 (.string ⟨O.toArray⟩) (.string ⟨#[41]⟩)).run Tryz.prog w = .ok (.string ⟨(O ++ [41]).toArray⟩) w := fun w => strAdd O [41] (by simp; omega) w
      have HF : Hid (40 :: (joinN L j ++ [41]) = O ++ [41]) := Lib.hid (by rw [hO]; simp)
      clear hO
      go_wp2_with fail
      go_ret2
      have hbb : Below w.heap.size w wr := HBW.out.trans ((HB2.out.trans (HBr.out.mono HB2.out.size)).mono (by have := HSZ.out; have := HB1.out; omega))
      refine ⟨?_, hbb⟩
      rw [HF.out, ← ba_app O [41]]; rfl
end Go.Proofs.YtlmilelopajdiaaGreatDoor
