/-
  The statement's side: weights and layouts.
-/
import Derived.Test.YtlmilelopajdiaaGreatDoorUH6
namespace Go.Proofs.YtlmilelopajdiaaGreatDoor
open Go.RowKit

/-- How much a geometry weighs. -/
def wT : Gm → Nat
  | .mk _ _ _ f e ee kids => 1 + f.length + e.length + (ee.map fun es => 1 + es.length).sum + (kids.attach.map fun g => wT g.1).sum
termination_by g => SizeOf.sizeOf g
decreasing_by
  have := List.sizeOf_lt_of_mem g.2
  simp only [Gm.mk.sizeOf_spec]
  omega
theorem wT_eq (k l s : Int) (f : List Nat) (e : List Int) (ee : List (List Int)) (kids : List Gm) : wT (.mk k l s f e ee kids) = 1 + f.length + e.length + (ee.map fun es => 1 + es.length).sum + (kids.map wT).sum := by
  rw [wT]
  have h : kids.attach.map (fun g => wT g.val) = kids.map wT := by simp
  rw [h]
theorem sum_take {α : Type} (F : α → Nat) (L : List α) (j : Nat) (hj : j < L.length) : ((L.take (j + 1)).map F).sum = ((L.take j).map F).sum + F L[j] := by
  rw [List.take_add_one, List.getElem?_eq_getElem hj]
  show ((L.take j ++ [L[j]]).map F).sum = _
  rw [List.map_append, List.sum_append]
  show _ + (F L[j] + 0) = _
  rw [Nat.add_zero]
theorem mem_sum (L : List Nat) (a : Nat) (h : a ∈ L) : a ≤ L.sum := by
  induction L with
  | nil => simp at h
  | cons b t ih =>
    rw [List.sum_cons]
    rcases List.mem_cons.1 h with rfl | h
    · omega
    · have := ih h; omega
theorem sum_take_le {α : Type} (F : α → Nat) (L : List α) (j : Nat) : ((L.take j).map F).sum ≤ (L.map F).sum := by
  conv => rhs; rw [← List.take_append_drop j L]
  rw [List.map_append, List.sum_append]
  omega
/-- What Weight answers. -/
def WtAns (g : Gm) : Prop := ∀ (w : World) (B : Nat) (cs : List Value) (most : Int), ARep w B g cs → B ≤ w.heap.size → 0 ≤ most → most ≤ 2000 →
  Calls Tryz.prog 19 #[.agg cs.toArray, .int .i64 most] w fun e w' => ∃ n : Int, e = .returned (.int .i64 n) ∧ Below w.heap.size w w' ∧ 0 ≤ n ∧ n ≤ (wT g : Int) ∧ (n ≤ most → n = (wT g : Int))

set_option maxRecDepth 100000 in
set_option maxHeartbeats 4000000 in
theorem weightStep (k l s : Int) (f : List Nat) (e : List Int) (ee : List (List Int)) (kids : List Gm) (hwt : wT (.mk k l s f e ee kids) ≤ 1000000000000) (ih : ∀ g, g ∈ kids → WtAns g) : WtAns (.mk k l s f e ee kids) := by
  intro w B cs most h hB hm0 hm1
  obtain ⟨s', a3, p3, a4, p4, a5, p5, a6, p6, hcs⟩ := arep_lit h
  simp only [Gm.kind, Gm.layout, Gm.flat, Gm.ends, Gm.endss, Gm.kids] at hcs
  rw [hcs] at h ⊢
  rw [arep_eq] at h
  obtain ⟨vf, ve, vee, vk, e1, hrf, hre, ⟨vs, hrs, hvl, hvi⟩, css, hrk, hcl, hkid⟩ := h
  simp only [List.cons.injEq, and_true] at e1
  obtain ⟨_, _, _, e4, e5, e6, e7⟩ := e1
  subst e4 e5 e6 e7
  rw [wT_eq] at hwt
  have HWT : Hid (wT (.mk k l s f e ee kids) = 1 + f.length + e.length + (ee.map fun es => 1 + es.length).sum + (kids.map wT).sum) := Lib.hid (wT_eq ..)
  obtain ⟨n3, hn3⟩ : ∃ n, n = f.length := ⟨_, rfl⟩
  obtain ⟨n4, hn4⟩ : ∃ n, n = e.length := ⟨_, rfl⟩
  obtain ⟨n5, hn5⟩ : ∃ n, n = ee.length := ⟨_, rfl⟩
  obtain ⟨N, hN⟩ : ∃ n, n = kids.length := ⟨_, rfl⟩
  rw [← hn3, ← hn4, ← hn5, ← hN]
  rw [← hN] at hrk hcl
  obtain ⟨SE, hSE⟩ : ∃ SE : Nat → Nat, SE = fun j => ((ee.take j).map fun es => 1 + es.length).sum := ⟨_, rfl⟩
  obtain ⟨SK, hSK⟩ : ∃ SK : Nat → Nat, SK = fun j => ((kids.take j).map wT).sum := ⟨_, rfl⟩
  obtain ⟨A, hA⟩ : ∃ A, A = 1 + n3 + n4 := ⟨_, rfl⟩
  obtain ⟨C, hC⟩ : ∃ C, C = A + SE n5 := ⟨_, rfl⟩
  have HSE0 : Hid (SE 0 = 0) := Lib.hid (by rw [hSE]; simp)
  have HSK0 : Hid (SK 0 = 0) := Lib.hid (by rw [hSK]; simp)
  have HSEs : Hid (∀ j (hj : j < ee.length), SE (j + 1) = SE j + (1 + ee[j].length)) := Lib.hid (fun j hj => by rw [hSE]; exact sum_take _ ee j hj)
  have HSKs : Hid (∀ j (hj : j < kids.length), SK (j + 1) = SK j + wT kids[j]) := Lib.hid (fun j hj => by rw [hSK]; exact sum_take _ kids j hj)
  have HT : Hid (wT (.mk k l s f e ee kids) = C + SK N) := Lib.hid (by
    rw [HWT.out, hC, hA, hSE, hSK, hn5, hN, hn3, hn4]
    simp only [List.take_length])
  have HSEm : Hid (∀ j, A + SE j ≤ C) := Lib.hid (fun j => by
    have := sum_take_le (fun es : List Int => 1 + es.length) ee j
    rw [hC, hSE, hn5]
    simp only [List.take_length]
    omega)
  have HSKm : Hid (∀ j, C + SK j ≤ wT (.mk k l s f e ee kids)) := Lib.hid (fun j => by
    rw [HT.out, hSK, hN]
    have := sum_take_le wT kids j
    simp only [List.take_length]
    omega)
  have hwb : wT (.mk k l s f e ee kids) ≤ 1000000000000 := by rw [HWT.out]; exact hwt
  have hNb := rowK_len hrk
  have hs9 : n5 ≤ 1000000000 := by
    obtain ⟨_, c, e, h1, h2, _⟩ := hrs
    rw [hvl] at h1 h2; omega
  have hf9 : n3 ≤ 1000000000 := by
    obtain ⟨_, c, e, h1, h2, _⟩ := hrf
    rw [List.length_map] at h1 h2; omega
  have he9 : n4 ≤ 1000000000 := by
    obtain ⟨_, c, e, h1, h2, _⟩ := hre
    rw [List.length_map] at h1 h2; omega
  obtain ⟨T, hTT⟩ : ∃ T, T = wT (.mk k l s f e ee kids) := ⟨_, rfl⟩
  rw [← hTT] at hwb HSKm HT
  have hAC := HSEm.out 0
  rw [HSE0.out] at hAC
  have hCT := HSKm.out 0
  rw [HSK0.out] at hCT
  obtain ⟨W1, hW1⟩ : ∃ W1, W1 = w.alloc (.cells #[.int .i64 k, .int .i64 l, .int .i64 s', .slice a3 n3 p3, .slice a4 n4 p4, .slice a5 n5 p5, .slice a6 N p6] 27) := ⟨_, rfl⟩
  have hbw : Below w.heap.size w W1 := by rw [hW1]; exact (Below.refl _ _).alloc (Nat.le_refl _) _
  have hsz : W1.heap.size = w.heap.size + 1 := by rw [hW1]; simp
  have hbx : Box W1 w.heap.size k l s' (.slice a3 n3 p3) (.slice a4 n4 p4) (.slice a5 n5 p5) (.slice a6 N p6) := by unfold Box; rw [hW1]; exact heap_alloc_new w _
  have HRS : Hid (Row W1 B (.slice a5 n5 p5) vs) := Lib.hid (by rw [hn5]; exact hrs.below (hbw.mono hB))
  have HVI : Hid (∀ (i : Nat) (x : Value) (es : List Int), vs[i]? = some x → ee[i]? = some es → Row W1 B x (es.map iv)) := Lib.hid (fun i x es hx he => (hvi i x es hx he).below (hbw.mono hB))
  have HVL := Lib.hid hvl
  have HRK := Lib.hid hrk
  have HCL := Lib.hid hcl
  have HKI := Lib.hid hkid
  have HIH := Lib.hid ih
  have HNK := Lib.hid hN
  have H5 := Lib.hid hn5
  have HB := Lib.hid hbw
  have HSZ := Lib.hid hsz
  have q3 := hbx.c3
  have q4 := hbx.c4
  have q5 := hbx.c5
  have q6 := hbx.c6
  obtain ⟨b1, hb1⟩ : ∃ b1, b1 = w.heap.size := ⟨_, rfl⟩
  rw [← hb1] at q3 q4 q5 q6 hbx
  have HA := Lib.hid hA
  have HC := Lib.hid hC
  have HTT := Lib.hid hTT
  clear hcs hrf hre hrs hvl hvi hrk hcl hkid ih hn3 hn4 hn5 hN hbx hbw hsz hSE hSK hA hC hTT HWT hwt
  go_enter Tryz.func19, Tryz.ntmps19
  go_wp2_with fail
  rw [← hW1, ← hb1]
  have HB1 := Lib.hid hb1
  clear hW1 hb1
  go_wp2_with fail
  go_loopg [5, 21] n5 (fun g v5 v21 wr => ∃ (j P : Nat), j + g = n5 ∧ v21 = .int .i64 j ∧ v5 = .int .i64 P ∧ P ≤ C ∧ Hid (P = A + SE j) ∧ W1 = wr)
  case atStart => exact ⟨0, A, by omega, rfl, by rw [HA.out]; go_num, by omega, Lib.hid (by rw [HSE0.out]; rfl), rfl⟩
  case round =>
    obtain ⟨j, P, hj, rfl, rfl, hPC, HP, rfl⟩ := hrel
    by_cases hjN : j < n5
    · obtain ⟨eb, eo, ha5, hebB, hcel⟩ : ∃ eb eo, a5 = some ⟨eb, eo, none⟩ ∧ eb < B ∧ ∀ j u, vs[j]? = some u → W1.cell? ⟨eb, eo + j, none⟩ = some u := by
        obtain ⟨_, c, e, h1, h2, h3, h4⟩ := HRS.out
        injection e with e _ _
        subst e
        exact h4 (by intro h; have h7 := HVL.out; rw [h, ← H5.out] at h7; have h8 : n5 = 0 := h7.symm; omega)
      subst ha5
      have hje : j < ee.length := by rw [← H5.out]; exact hjN
      obtain ⟨x, hx⟩ : ∃ x, vs[j]? = some x := ⟨_, List.getElem?_eq_getElem (by rw [HVL.out]; exact hje)⟩
      have hcx := hcel j x hx
      obtain ⟨xa, xc, hxl⟩ := (HVI.out j x ee[j] hx (List.getElem?_eq_getElem hje)).lit
      rw [List.length_map] at hxl
      obtain ⟨nx, hnx⟩ : ∃ nx, nx = ee[j].length := ⟨_, rfl⟩
      rw [← hnx] at hxl
      have hP2 : P + (1 + nx) ≤ C := by
        have := HSEm.out (j + 1)
        rw [HSEs.out j hje, ← hnx] at this
        rw [HP.out]; omega
      have HP2 : Hid (P + (1 + nx) = A + SE (j + 1)) := Lib.hid (by rw [HSEs.out j hje, ← hnx, HP.out]; omega)
      clear hcel hx hje hnx HP
      subst hxl
      go_wp2_with fail
      go_roundg (gk - 1)
      case measure => omega
      case rel => exact ⟨j + 1, P + (1 + nx), by omega, by go_num, by go_num, hP2, HP2, rfl⟩
    · obtain rfl : j = n5 := by omega
      have hPe : P = C := by rw [HP.out, HC.out]
      clear HP HRS HVI HVL
      subst hPe
      go_wp2_with fail
      go_loopg [5, 34] N (fun g v5 v34 wr => ∃ (j : Nat) (n : Int), j + g = N ∧ v34 = .int .i64 j ∧ v5 = .int .i64 n ∧ 0 ≤ n ∧ n ≤ 1000000000000 ∧ Hid (n ≤ ((P + SK j : Nat) : Int)) ∧ Hid (n ≤ most → n = ((P + SK j : Nat) : Int)) ∧ Hid (Below W1.heap.size W1 wr))
      case atStart => exact ⟨0, (P : Int), by omega, rfl, rfl, by omega, by omega, Lib.hid (by rw [HSK0.out]; omega), Lib.hid (fun _ => by rw [HSK0.out]; omega), Lib.hid (Below.refl _ _)⟩
      case round =>
        obtain ⟨j, n, hj2, rfl, rfl, hn0, hn1, HN1, HN2, HBr⟩ := hrel
        have HFIN : Hid (Below w.heap.size w wr) := Lib.hid (HB.out.trans (HBr.out.mono (by have := HSZ.out; omega)))
        by_cases hjN2 : j < N
        · have hwr : Below B w wr := HFIN.out.mono hB
          obtain ⟨g, kb, ko, gk', gl, gs, b3, m3, r3, b4, m4, r4, b5, m5, r5, b6, m6, r6, hg, rfl, hkB, d0, d1, d2, d3, d4, d5, d6, HAR, _⟩ := kid_round HRK.out (by rw [HCL.out, HNK.out]) HKI.out HCL.out.symm hjN2 hwr (by have := HFIN.out.size; omega)
          have hgm := List.mem_of_getElem? hg
          have hjk : j < kids.length := by rw [← HNK.out]; exact hjN2
          have hgj : kids[j] = g := by
            rw [List.getElem?_eq_getElem hjk] at hg
            injection hg
          have hSs := HSKs.out j hjk
          rw [hgj] at hSs
          have hSm := HSKm.out (j + 1)
          rw [hSs] at hSm
          by_cases hnm : most < n
          · have hr1 : n ≤ (T : Int) := by have := HN1.out; have := HSKm.out j; omega
            clear hg hgm hjk hgj hSs hSm HAR HN1 HN2 hwr
            go_wp2_with fail
            go_ret
            exact ⟨_, rfl, HFIN.out.trans ((Below.refl _ _).alloc (by have := HFIN.out.size; omega) _), hn0, by rw [← HTT.out]; exact hr1, fun h => absurd h (by omega)⟩
          · have hmn : 0 ≤ most - n := by omega
            have hmn2 : most - n ≤ 2000 := by omega
            have HM : Hid (∀ w4, Below wr.heap.size wr w4 → Calls Tryz.prog 19 #[.agg #[.int .i64 gk', .int .i64 gl, .int .i64 gs, .slice b3 m3 r3, .slice b4 m4 r4, .slice b5 m5 r5, .slice b6 m6 r6], .int .i64 (most - n)] w4 fun e w5 => ∃ m : Int, e = .returned (.int .i64 m) ∧ Below w4.heap.size w4 w5 ∧ 0 ≤ m ∧ m ≤ (wT g : Int) ∧ (m ≤ most - n → m = (wT g : Int))) := Lib.hid (by
              intro w4 hb
              exact HIH.out g hgm w4 wr.heap.size _ (most - n) (ARep.below hb (Nat.le_refl _) g _ HAR.out) hb.size hmn hmn2)
            have hb4 : Below wr.heap.size wr (wr.alloc (.cells #[.int .i64 gk', .int .i64 gl, .int .i64 gs, .slice b3 m3 r3, .slice b4 m4 r4, .slice b5 m5 r5, .slice b6 m6 r6] 27)) := (Below.refl _ _).alloc (Nat.le_refl _) _
            have HB4 := Lib.hid hb4
            have hne := HN2.out (by omega)
            have HNE := Lib.hid hne
            have hgw : (wT g : Int) ≤ 1000000000000 - n := by rw [hne]; omega
            have HSS := Lib.hid hSs
            clear hg hgm hjk hgj hSs hSm HAR HN1 HN2 hwr hb4 hne
            go_wp2_with fail
            refine (HM.out _ HB4.out).mono ?_
            rintro en w5 ⟨m, rfl, hb5, hm0', hm1', hm2'⟩
            have HB5 := Lib.hid (HBr.out.trans ((HB4.out.trans (hb5.mono HB4.out.size)).mono HBr.out.size))
            have hnm1 : n + m ≤ 1000000000000 := by omega
            have hnm0 : 0 ≤ n + m := by omega
            have HX1 : Hid (n + m ≤ ((P + SK (j + 1) : Nat) : Int)) := Lib.hid (by rw [HSS.out]; have := HNE.out; omega)
            have HX2 : Hid (n + m ≤ most → n + m = ((P + SK (j + 1) : Nat) : Int)) := Lib.hid (fun h => by
              have h1 := hm2' (by omega)
              rw [HSS.out]; have := HNE.out; omega)
            clear hb5 HM HB4 hm1' hm2' hgw
            go_wp2_with fail
            go_roundg (gk - 1)
            case measure => omega
            case rel => exact ⟨j + 1, n + m, by omega, by go_num, by go_num, hnm0, hnm1, HX1, HX2, HB5⟩
        · obtain rfl : j = N := by omega
          have hr1 : n ≤ (T : Int) := by have := HN1.out; have := HSKm.out j; omega
          have HR2 : Hid (n ≤ most → n = (T : Int)) := Lib.hid (fun h => by rw [HN2.out h, HT.out])
          clear HN1 HN2
          go_wp2_with fail
          go_ret
          exact ⟨_, rfl, HFIN.out, hn0, by rw [← HTT.out]; exact hr1, fun h => by rw [← HTT.out]; exact HR2.out h⟩
theorem wT_kid {k l s : Int} {f : List Nat} {e : List Int} {ee : List (List Int)} {kids : List Gm} {g : Gm} (h : g ∈ kids) : wT g ≤ wT (.mk k l s f e ee kids) := by
  rw [wT_eq]
  have := mem_sum (kids.map wT) (wT g) (List.mem_map_of_mem h)
  omega
theorem weight : ∀ g, wT g ≤ 1000000000000 → WtAns g := by
  intro g
  induction g using Gm.ind with
  | h k l s f e ee kids ih =>
    intro h
    exact weightStep k l s f e ee kids h fun g hg => ih g hg (Nat.le_trans (wT_kid hg) h)
end Go.Proofs.YtlmilelopajdiaaGreatDoor

/-
  The statement's guards.
-/
namespace Go.Proofs.YtlmilelopajdiaaGreatDoor
open Go.RowKit

def BoolOut (X : Prop) (w : World) (e : Ending) (w' : World) : Prop := ∃ r, e = .returned (.bool r) ∧ Below w.heap.size w w' ∧ (r = true → X)
def GLAns (g : Gm) : Prop := ∀ (w : World) (B : Nat) (cs : List Value), ARep w B g cs → B ≤ w.heap.size →
  Calls Tryz.prog 20 #[.agg cs.toArray, .int .i64 9] w fun e w' => BoolOut (Lay g) w e w'

set_option maxRecDepth 100000 in
set_option maxHeartbeats 4000000 in
theorem layoutsStep (k l s : Int) (f : List Nat) (e : List Int) (ee : List (List Int)) (kids : List Gm) (ih : ∀ g, g ∈ kids → GLAns g) : GLAns (.mk k l s f e ee kids) := by
  intro w B cs h hB
  obtain ⟨s', a3, p3, a4, p4, a5, p5, a6, p6, hcs⟩ := arep_lit h
  simp only [Gm.kind, Gm.layout, Gm.flat, Gm.ends, Gm.endss, Gm.kids] at hcs
  rw [hcs] at h ⊢
  rw [arep_eq] at h
  obtain ⟨vf, ve, vee, vk, e1, _, _, _, css, hrk, hcl, hkid⟩ := h
  simp only [List.cons.injEq, and_true] at e1
  obtain ⟨_, _, _, _, _, _, e7⟩ := e1
  subst e7
  obtain ⟨n3, hn3⟩ : ∃ n, n = f.length := ⟨_, rfl⟩
  obtain ⟨n4, hn4⟩ : ∃ n, n = e.length := ⟨_, rfl⟩
  obtain ⟨n5, hn5⟩ : ∃ n, n = ee.length := ⟨_, rfl⟩
  obtain ⟨N, hN⟩ : ∃ n, n = kids.length := ⟨_, rfl⟩
  rw [← hn3, ← hn4, ← hn5, ← hN]
  rw [← hN] at hrk hcl
  have hNb := rowK_len hrk
  obtain ⟨W1, hW1⟩ : ∃ W1, W1 = w.alloc (.cells #[.int .i64 k, .int .i64 l, .int .i64 s', .slice a3 n3 p3, .slice a4 n4 p4, .slice a5 n5 p5, .slice a6 N p6] 27) := ⟨_, rfl⟩
  have hbw : Below w.heap.size w W1 := by rw [hW1]; exact (Below.refl _ _).alloc (Nat.le_refl _) _
  have hsz : W1.heap.size = w.heap.size + 1 := by rw [hW1]; simp
  have hbx : Box W1 w.heap.size k l s' (.slice a3 n3 p3) (.slice a4 n4 p4) (.slice a5 n5 p5) (.slice a6 N p6) := by unfold Box; rw [hW1]; exact heap_alloc_new w _
  have HRK := Lib.hid hrk
  have HCL := Lib.hid hcl
  have HKI := Lib.hid hkid
  have HIH := Lib.hid ih
  have HNK := Lib.hid hN
  have HB := Lib.hid hbw
  have HSZ := Lib.hid hsz
  have q6 := hbx.c6
  obtain ⟨b1, hb1⟩ : ∃ b1, b1 = w.heap.size := ⟨_, rfl⟩
  rw [← hb1] at q6 hbx
  have HBX := Lib.hid hbx
  clear hcs hrk hcl hkid ih hn3 hn4 hn5 hN hbx hbw hsz
  go_enter Tryz.func20, Tryz.ntmps20
  go_wp2_with fail
  rw [← hW1, ← hb1]
  have HB1 := Lib.hid hb1
  clear hW1 hb1
  go_wp2_with fail
  go_loopg [10] N (fun g v10 wr => ∃ (j : Nat), j + g = N ∧ v10 = .int .i64 j ∧ Hid (Below W1.heap.size W1 wr) ∧ Hid (∀ i g, i < j → kids[i]? = some g → Lay g))
  case atStart => exact ⟨0, by omega, rfl, Lib.hid (Below.refl _ _), Lib.hid (fun i g h => absurd h (Nat.not_lt_zero _))⟩
  case round =>
    clear q6
    obtain ⟨j, hj, rfl, HBr, HI⟩ := hrel
    have hbxr := HBX.out.below HBr.out (by have := HSZ.out; have := HB1.out; omega)
    have q0 := hbxr.c0
    have q1 := hbxr.c1
    have HFIN : Hid (Below w.heap.size w wr) := Lib.hid (HB.out.trans (HBr.out.mono (by have := HSZ.out; omega)))
    clear hbxr
    by_cases hjN : j < N
    · have hwr : Below B w wr := HFIN.out.mono hB
      obtain ⟨g, kb, ko, gk', gl, gs, b3, m3, r3, b4, m4, r4, b5, m5, r5, b6, m6, r6, hg, rfl, hkB, d0, d1, d2, d3, d4, d5, d6, HAR, _⟩ := kid_round HRK.out (by rw [HCL.out, HNK.out]) HKI.out HCL.out.symm hjN hwr (by have := HFIN.out.size; omega)
      have hgm := List.mem_of_getElem? hg
      have HM : Hid (∀ w4, Below wr.heap.size wr w4 → Calls Tryz.prog 20 #[.agg #[.int .i64 gk', .int .i64 gl, .int .i64 gs, .slice b3 m3 r3, .slice b4 m4 r4, .slice b5 m5 r5, .slice b6 m6 r6], .int .i64 9] w4 fun e w5 => BoolOut (Lay g) w4 e w5) := Lib.hid (by
        intro w4 hb
        exact HIH.out g hgm w4 wr.heap.size _ (ARep.below hb (Nat.le_refl _) g _ HAR.out) hb.size)
      have hb4 : Below wr.heap.size wr (wr.alloc (.cells #[.int .i64 gk', .int .i64 gl, .int .i64 gs, .slice b3 m3 r3, .slice b4 m4 r4, .slice b5 m5 r5, .slice b6 m6 r6] 27)) := (Below.refl _ _).alloc (Nat.le_refl _) _
      have HB4 := Lib.hid hb4
      have HG := Lib.hid hg
      clear hg hgm HAR hwr hb4
      go_wp2_with fail
      refine (HM.out _ HB4.out).mono ?_
      rintro en w5 ⟨r, rfl, hb5, hr⟩
      have HB5 := Lib.hid (HBr.out.trans ((HB4.out.trans (hb5.mono HB4.out.size)).mono HBr.out.size))
      have HR := Lib.hid hr
      clear hb5 HM HB4 hr
      cases r with
      | false =>
        go_wp2_with fail
        go_ret
        exact ⟨false, rfl, HB.out.trans (HB5.out.mono (by have := HSZ.out; omega)), fun h => by cases h⟩
      | true =>
        have HI' : Hid (∀ i g, i < j + 1 → kids[i]? = some g → Lay g) := Lib.hid (by
          intro i g' hi hg'
          rcases Nat.lt_succ_iff_lt_or_eq.1 hi with h | h
          · exact HI.out i g' h hg'
          · subst h; rw [HG.out] at hg'; injection hg' with hg'; rw [← hg']; exact HR.out rfl)
        clear HI HR HG
        go_wp2_with fail
        go_roundg (gk - 1)
        case measure => omega
        case rel => exact ⟨j + 1, by omega, by go_num, HB5, HI'⟩
    · obtain rfl : j = N := by omega
      have HK : Hid (∀ g, g ∈ kids → Lay g) := Lib.hid (fun g hg => by
        obtain ⟨i, hi, rfl⟩ := List.getElem_of_mem hg
        exact HI.out i _ (by rw [HNK.out]; exact hi) (List.getElem?_eq_getElem hi))
      clear HI
      by_cases h9 : l ≤ 9
      · by_cases h1 : 1 ≤ l
        · have HL : Hid (Lay (.mk k l s f e ee kids)) := Lib.hid (by rw [lay_eq]; exact ⟨fun _ => h1, by omega, h9, HK.out⟩)
          clear HK
          go_wp2_with fail
          go_ret
          exact ⟨_, rfl, HFIN.out, fun _ => HL.out⟩
        · by_cases h7 : k = 7
          · by_cases h0 : 0 ≤ l
            · have HL : Hid (Lay (.mk k l s f e ee kids)) := Lib.hid (by rw [lay_eq]; exact ⟨fun h => absurd h7 h, h0, h9, HK.out⟩)
              clear HK
              have t7 : (k == 7) = true := beq_iff_eq.2 h7
              clear h7
              go_wp2_with fail
              go_ret
              exact ⟨_, rfl, HFIN.out, fun _ => HL.out⟩
            · have t7 : (k == 7) = true := beq_iff_eq.2 h7
              have h0' : ¬ (l ≥ 0) := h0
              have hd : decide (0 ≤ l) = false := decide_eq_false h0
              clear h7 HK
              go_wp2_with fail
              go_ret
              exact ⟨_, rfl, HFIN.out, fun h => by first | (simp at h; done) | (simp at h; omega)⟩
          · have t7 : (k == 7) = false := beq_eq_false_iff_ne.2 h7
            clear h7 HK
            go_wp2_with fail
            go_ret
            exact ⟨_, rfl, HFIN.out, fun h => by simp at h⟩
      · clear HK
        go_wp2_with fail
        go_ret
        exact ⟨_, rfl, HFIN.out, fun h => by first | (simp at h; done) | (simp at h; omega)⟩
theorem layouts : ∀ g, GLAns g := by
  intro g
  induction g using Gm.ind with
  | h k l s f e ee kids ih => exact layoutsStep k l s f e ee kids ih
/-- A row of one geometry. -/
def One (w : World) (sb : Nat) (k l s : Int) (a3 : Option Addr) (n3 p3 : Nat) (a4 : Option Addr) (n4 p4 : Nat) (a5 : Option Addr) (n5 p5 : Nat) (a6 : Option Addr) (n6 p6 : Nat) : Prop := Box w sb k l s (.slice a3 n3 p3) (.slice a4 n4 p4) (.slice a5 n5 p5) (.slice a6 n6 p6)

set_option maxRecDepth 100000 in
set_option maxHeartbeats 4000000 in
theorem gSmall (g : Gm) (hwt : wT g ≤ 1000000000000) (w : World) (B sb : Nat) (k l s : Int) (a3 a4 a5 a6 : Option Addr) (n3 p3 n4 p4 n5 p5 n6 p6 : Nat) (hbx : Box w sb k l s (.slice a3 n3 p3) (.slice a4 n4 p4) (.slice a5 n5 p5) (.slice a6 n6 p6)) (ha : ARep w B g [.int .i64 k, .int .i64 l, .int .i64 s, .slice a3 n3 p3, .slice a4 n4 p4, .slice a5 n5 p5, .slice a6 n6 p6]) (hB : B ≤ w.heap.size) :
    Calls Tryz.prog 9 #[.slice (some ⟨sb, 0, none⟩) 1 1] w fun e w' => BoolOut (wT g ≤ 2000 ∧ Lay g) w e w' := by
  have q0 := hbx.c0
  have q1 := hbx.c1
  have q2 := hbx.c2
  have q3 := hbx.c3
  have q4 := hbx.c4
  have q5 := hbx.c5
  have q6 := hbx.c6
  have HA := Lib.hid ha
  have HWT := Lib.hid hwt
  clear ha hbx hwt
  go_enter Tryz.func9, Tryz.ntmps9
  go_wp2_with fail
  go_loopg [3, 8] 1 (fun gg v3 v8 wr => ∃ (j : Nat), j + gg = 1 ∧ v8 = .int .i64 j ∧ Hid (Below w.heap.size w wr) ∧ Hid (j = 0 → v3 = .int .i64 2000 ∧ wr = w) ∧ Hid (j = 1 → wT g ≤ 2000 ∧ Lay g))
  case atStart => exact ⟨0, rfl, rfl, Lib.hid (Below.refl _ _), Lib.hid (fun _ => ⟨rfl, rfl⟩), Lib.hid (fun h => absurd h (by decide))⟩
  case round =>
    obtain ⟨j, hj, rfl, HBr, HJ0, HJ1⟩ := hrel
    by_cases hj0 : j = 0
    · subst hj0
      obtain ⟨rfl, rfl⟩ := HJ0.out rfl
      have hb4 : Below wr.heap.size wr (wr.alloc (.cells #[.int .i64 k, .int .i64 l, .int .i64 s, .slice a3 n3 p3, .slice a4 n4 p4, .slice a5 n5 p5, .slice a6 n6 p6] 27)) := (Below.refl _ _).alloc (Nat.le_refl _) _
      obtain ⟨W4, hW4⟩ : ∃ W4, W4 = wr.alloc (.cells #[.int .i64 k, .int .i64 l, .int .i64 s, .slice a3 n3 p3, .slice a4 n4 p4, .slice a5 n5 p5, .slice a6 n6 p6] 27) := ⟨_, rfl⟩
      rw [← hW4] at hb4
      have hbk : Box W4 wr.heap.size k l s (.slice a3 n3 p3) (.slice a4 n4 p4) (.slice a5 n5 p5) (.slice a6 n6 p6) := by unfold Box; rw [hW4]; exact heap_alloc_new wr _
      have HM := Lib.hid (weight g HWT.out W4 wr.heap.size _ 2000 (ARep.below (hb4.mono hB) hB g _ HA.out) hb4.size (by decide) (by decide))
      have HL : Hid (∀ w5, Below wr.heap.size wr w5 → GLAns g → Calls Tryz.prog 20 #[.agg #[.int .i64 k, .int .i64 l, .int .i64 s, .slice a3 n3 p3, .slice a4 n4 p4, .slice a5 n5 p5, .slice a6 n6 p6], .int .i64 9] w5 fun e w' => BoolOut (Lay g) w5 e w') := Lib.hid (fun w5 hb5 hgl => hgl w5 wr.heap.size _ (ARep.below (hb5.mono hB) hB g _ HA.out) hb5.size)
      have HB4 := Lib.hid hb4
      have HBK := Lib.hid hbk
      clear hb4 hbk HJ0 HJ1 HA
      go_wp2_with fail
      rw [← hW4]
      clear hW4
      refine HM.out.mono ?_
      rintro en w5 ⟨n, rfl, hb5, hn0, hn1, hn2⟩
      have hn9 : n ≤ 1000000000000 := by have := HWT.out; omega
      have hbk5 := HBK.out.below hb5 (lt_of_block HBK.out)
      have z0 := hbk5.c0
      have z1 := hbk5.c1
      have z2 := hbk5.c2
      have z3 := hbk5.c3
      have z4 := hbk5.c4
      have z5 := hbk5.c5
      have z6 := hbk5.c6
      have HB5 := Lib.hid (HB4.out.trans (hb5.mono HB4.out.size))
      have HN1 := Lib.hid hn1
      have HN2 := Lib.hid hn2
      clear hb5 hbk5 HM HB4 hn1 hn2
      by_cases h2 : n ≤ 2000
      · have HW2 : Hid (wT g ≤ 2000) := Lib.hid (by have := HN2.out h2; omega)
        clear HN1 HN2
        go_wp2_with fail
        refine (HL.out _ HB5.out (layouts g)).mono ?_
        rintro en w6 ⟨r, rfl, hb6, hr⟩
        have HB6 := Lib.hid (HB5.out.trans (hb6.mono HB5.out.size))
        have HR := Lib.hid hr
        clear hb6 hr HL
        cases r with
        | false =>
          go_wp2_with fail
          go_ret
          exact ⟨_, rfl, HB6.out, fun h => by cases h⟩
        | true =>
          have HF : Hid (wT g ≤ 2000 ∧ Lay g) := Lib.hid ⟨HW2.out, HR.out rfl⟩
          clear HR HW2
          go_wp2_with fail
          go_roundg 0
          case measure => omega
          case rel => exact ⟨1, by omega, by go_num, HB6, Lib.hid (fun h => absurd h (by decide)), Lib.hid (fun _ => HF.out)⟩
      · clear HL HN1 HN2
        go_wp2_with fail
        go_ret
        exact ⟨_, rfl, HB5.out, fun h => by cases h⟩
    · obtain rfl : j = 1 := by omega
      have HF := Lib.hid (HJ1.out rfl)
      clear HJ0 HJ1
      go_wp2_with fail
      go_ret
      exact ⟨_, rfl, HBr.out, fun _ => HF.out⟩
set_option maxRecDepth 100000 in
set_option maxHeartbeats 4000000 in
theorem gGood (g : Gm) (hwt : wT g ≤ 1000000000000) (hwf : WfI g) (w : World) (B sb : Nat) (k l s : Int) (a3 a4 a5 a6 : Option Addr) (n3 p3 n4 p4 n5 p5 n6 p6 : Nat) (hbx : Box w sb k l s (.slice a3 n3 p3) (.slice a4 n4 p4) (.slice a5 n5 p5) (.slice a6 n6 p6)) (ha : ARep w B g [.int .i64 k, .int .i64 l, .int .i64 s, .slice a3 n3 p3, .slice a4 n4 p4, .slice a5 n5 p5, .slice a6 n6 p6]) (hB : B ≤ w.heap.size) :
    Calls Tryz.prog 5 #[.slice (some ⟨sb, 0, none⟩) 1 1] w fun e w' => BoolOut (wT g ≤ 2000 ∧ Lay g ∧ GoodX g) w e w' := by
  have HSM := Lib.hid (gSmall g hwt w B sb k l s a3 a4 a5 a6 n3 p3 n4 p4 n5 p5 n6 p6 hbx ha hB)
  have HA := Lib.hid ha
  have HBX := Lib.hid hbx
  have HWF := Lib.hid hwf
  clear ha hbx hwt hwf
  go_enter Tryz.func5, Tryz.ntmps5
  go_wp2_with fail
  refine HSM.out.mono ?_
  rintro en w2 ⟨r, rfl, hb2, hr⟩
  have HB2 := Lib.hid hb2
  have HR := Lib.hid hr
  clear hb2 hr HSM
  cases r with
  | false =>
    go_wp2_with fail
    go_ret
    exact ⟨_, rfl, HB2.out, fun h => by cases h⟩
  | true =>
    have HF : Hid (wT g ≤ 2000 ∧ Lay g) := Lib.hid (HR.out rfl)
    clear HR
    go_wp2_with fail
    go_loopg [10] 1 (fun gg v10 wr => ∃ (j : Nat), j + gg = 1 ∧ v10 = .int .i64 j ∧ Hid (Below w.heap.size w wr) ∧ Hid (j = 1 → GoodX g))
    case atStart => exact ⟨0, rfl, rfl, HB2, Lib.hid (fun h => absurd h (by decide))⟩
    case round =>
      obtain ⟨j, hj, rfl, HBr, HJ1⟩ := hrel
      by_cases hj0 : j = 0
      · subst hj0
        have hbxr := HBX.out.below HBr.out (lt_of_block HBX.out)
        have q0 := hbxr.c0
        have q1 := hbxr.c1
        have q2 := hbxr.c2
        have q3 := hbxr.c3
        have q4 := hbxr.c4
        have q5 := hbxr.c5
        have q6 := hbxr.c6
        have hb4 : Below wr.heap.size wr (wr.alloc (.cells #[.int .i64 k, .int .i64 l, .int .i64 s, .slice a3 n3 p3, .slice a4 n4 p4, .slice a5 n5 p5, .slice a6 n6 p6] 27)) := (Below.refl _ _).alloc (Nat.le_refl _) _
        have HM : Hid (∀ w4, Below wr.heap.size wr w4 → Calls Tryz.prog 10 #[.agg #[.int .i64 k, .int .i64 l, .int .i64 s, .slice a3 n3 p3, .slice a4 n4 p4, .slice a5 n5 p5, .slice a6 n6 p6]] w4 fun e w5 => GOut g w4 e w5) := Lib.hid (fun w4 hb => goodAns g HF.out.2 HWF.out w4 wr.heap.size _ (ARep.below ((HBr.out.trans (hb.mono HBr.out.size)).mono hB) (by have := HBr.out.size; omega) g _ HA.out) hb.size)
        have HB4 := Lib.hid hb4
        clear hb4 hbxr HJ1
        go_wp2_with fail
        refine (HM.out _ HB4.out).mono ?_
        rintro en w5 ⟨r, rfl, hb5, hr⟩
        have HB5 := Lib.hid (HBr.out.trans ((HB4.out.trans (hb5.mono HB4.out.size)).mono HBr.out.size))
        have HR := Lib.hid hr
        clear hb5 hr HM HB4
        cases r with
        | false =>
          clear HR
          go_wp2_with fail
          go_ret
          exact ⟨_, rfl, HB5.out, fun h => by cases h⟩
        | true =>
          have HX : Hid (GoodX g) := Lib.hid (HR.out.1 rfl)
          clear HR
          go_wp2_with fail
          go_roundg 0
          case measure => omega
          case rel => exact ⟨1, by omega, by go_num, HB5, Lib.hid (fun _ => HX.out)⟩
      · obtain rfl : j = 1 := by omega
        have HX := Lib.hid (HJ1.out rfl)
        clear HJ1
        go_wp2_with fail
        go_ret
        exact ⟨_, rfl, HBr.out, fun _ => ⟨HF.out.1, HF.out.2, HX.out⟩⟩
set_option maxRecDepth 100000 in
set_option maxHeartbeats 2000000 in
theorem fits3 (w : World) (B : Nat) (v : Value) (vs : List Value) (ee : List (List Int)) (h : Row w B v vs) (hl : vs.length = ee.length) (hin : ∀ (i : Nat) (x : Value) (es : List Int), vs[i]? = some x → ee[i]? = some es → Row w B x (es.map iv)) :
    Calls Tryz.prog 8 #[v] w fun e w' => e = .returned (.bool true) ∧ w = w' := by
  obtain ⟨a, cap, rfl, hc, hc2, _, hcell⟩ := h
  obtain ⟨N, hN⟩ : ∃ N, N = vs.length := ⟨_, rfl⟩
  have HN := Lib.hid hN
  have HL := Lib.hid hl
  have HIN := Lib.hid hin
  have HC := Lib.hid hcell
  rw [← hN] at hc hc2 ⊢
  obtain ⟨hN9, hc9⟩ := hc2
  clear hN hl hin hcell
  go_enter Tryz.func8, Tryz.ntmps8
  go_wp2_with fail
  go_loopg [10] N (fun g v10 wr => ∃ j : Nat, j + g = N ∧ v10 = .int .i64 j ∧ w = wr)
  case atStart => exact ⟨0, by omega, rfl, rfl⟩
  case round =>
    obtain ⟨j, hj, rfl, rfl⟩ := hrel
    by_cases hjN : j < N
    · obtain ⟨b, o, rfl, hbB, hcl⟩ := HC.out (by intro h; have := HN.out; rw [h] at this; have h8 : N = 0 := this; omega)
      obtain ⟨x, hx⟩ : ∃ x, vs[j]? = some x := ⟨_, List.getElem?_eq_getElem (by rw [← HN.out]; exact hjN)⟩
      obtain ⟨es, hes⟩ : ∃ es, ee[j]? = some es := ⟨_, List.getElem?_eq_getElem (by rw [← HL.out, ← HN.out]; exact hjN)⟩
      have hcx := hcl j x hx
      obtain ⟨xa, xc, hxl, hx2, hx3, _⟩ := HIN.out j x es hx hes
      obtain ⟨nx, hnx⟩ : ∃ nx, nx = (es.map iv).length := ⟨_, rfl⟩
      rw [← hnx] at hxl hx2 hx3
      have hx4 : nx ≤ 1000000000 := by omega
      clear hnx hx hes hcl
      subst hxl
      go_wp2_with fail
      go_roundg (gk - 1)
      case measure => omega
      case rel => exact ⟨j + 1, by omega, by go_num, rfl⟩
    · obtain rfl : j = N := by omega
      clear HC HIN
      go_wp2_with fail
      go_ret
      exact ⟨rfl, rfl⟩
set_option maxRecDepth 100000 in
set_option maxHeartbeats 2000000 in
theorem fits2 (g : Gm) (w : World) (B : Nat) (cs : List Value) (h : ARep w B g cs) (hB : B ≤ w.heap.size) : Calls Tryz.prog 4 #[.agg cs.toArray] w fun e w' => e = .returned (.bool true) ∧ Below w.heap.size w w' := by
  obtain ⟨s', a3, p3, a4, p4, a5, p5, a6, p6, hcs⟩ := arep_lit h
  cases g with
  | mk k l s f e ee kids =>
  simp only [Gm.kind, Gm.layout, Gm.flat, Gm.ends, Gm.endss, Gm.kids] at hcs
  rw [hcs] at h ⊢
  rw [arep_eq] at h
  obtain ⟨vf, ve, vee, vk, e1, hrf, hre, ⟨vs, hrs, hvl, hvi⟩, css, hrk, hcl, hkid⟩ := h
  simp only [List.cons.injEq, and_true] at e1
  obtain ⟨_, _, _, e4, e5, e6, e7⟩ := e1
  subst e4 e5 e6 e7
  have hNb := rowK_len hrk
  obtain ⟨W1, hW1⟩ : ∃ W1, W1 = w.alloc (.cells #[.int .i64 k, .int .i64 l, .int .i64 s', .slice a3 f.length p3, .slice a4 e.length p4, .slice a5 ee.length p5, .slice a6 kids.length p6] 27) := ⟨_, rfl⟩
  have hbw : Below w.heap.size w W1 := by rw [hW1]; exact (Below.refl _ _).alloc (Nat.le_refl _) _
  have hbx : Box W1 w.heap.size k l s' (.slice a3 f.length p3) (.slice a4 e.length p4) (.slice a5 ee.length p5) (.slice a6 kids.length p6) := by unfold Box; rw [hW1]; exact heap_alloc_new w _
  have q3 := hbx.c3
  have q4 := hbx.c4
  have q5 := hbx.c5
  have q6 := hbx.c6
  have HF3 := Lib.hid (fits3 W1 B _ vs ee (hrs.below (hbw.mono hB)) hvl (fun i x es hx he => (hvi i x es hx he).below (hbw.mono hB)))
  have HB := Lib.hid hbw
  have hf9 : f.length ≤ 1000000000 := by
    obtain ⟨_, c, e, h1, h2, _⟩ := hrf
    rw [List.length_map] at h1 h2; omega
  have he9 : e.length ≤ 1000000000 := by
    obtain ⟨_, c, e, h1, h2, _⟩ := hre
    rw [List.length_map] at h1 h2; omega
  obtain ⟨n3, hn3⟩ : ∃ n, n = f.length := ⟨_, rfl⟩
  obtain ⟨n4, hn4⟩ : ∃ n, n = e.length := ⟨_, rfl⟩
  obtain ⟨n5, hn5⟩ : ∃ n, n = ee.length := ⟨_, rfl⟩
  obtain ⟨n6, hn6⟩ : ∃ n, n = kids.length := ⟨_, rfl⟩
  rw [← hn3, ← hn4, ← hn5, ← hn6]
  rw [← hn3, ← hn4, ← hn5, ← hn6] at hW1
  rw [← hn3] at hf9 q3
  rw [← hn4] at q4
  rw [← hn5] at q5
  rw [← hn6] at q6
  rw [← hn4] at he9
  rw [← hn5] at HF3
  rw [← hn6] at hNb
  clear hcs hrf hre hrs hvl hvi hrk hcl hkid hbw hbx hn3 hn4 hn5 hn6
  obtain ⟨b1, hb1⟩ : ∃ b1, b1 = w.heap.size := ⟨_, rfl⟩
  rw [← hb1] at q3 q4 q5 q6
  go_enter Tryz.func4, Tryz.ntmps4
  go_wp2_with fail
  rw [← hW1, ← hb1]
  clear hW1 hb1
  go_wp2_with fail
  refine HF3.out.mono ?_
  rintro en w' ⟨rfl, rfl⟩
  go_wp2_with fail
  go_ret
  exact ⟨rfl, HB.out⟩
end Go.Proofs.YtlmilelopajdiaaGreatDoor
