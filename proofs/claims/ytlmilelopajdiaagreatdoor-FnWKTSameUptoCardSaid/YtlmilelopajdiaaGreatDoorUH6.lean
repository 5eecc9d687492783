/-
  The statement's side: Good at collections, at every geometry.
-/
import Derived.Test.YtlmilelopajdiaaGreatDoorUH5
import Derived.Lib.QuietBelow
import Derived.BigQuiet
import Derived.Deep.CutBlock
namespace Go.Proofs.YtlmilelopajdiaaGreatDoor
open Go.RowKit Go.Sort

/-- Integers in their range, all through. -/
def WfI : Gm → Prop
  | .mk _ _ _ _ e ee kids => (∀ x ∈ e, x ≤ 9223372036854775807) ∧ (∀ es ∈ ee, ∀ x ∈ es, x ≤ 9223372036854775807) ∧ ∀ g (_h : g ∈ kids), WfI g
termination_by g => SizeOf.sizeOf g
decreasing_by
  have := List.sizeOf_lt_of_mem _h
  simp only [Gm.mk.sizeOf_spec]
  omega
theorem wfi_eq (k l s : Int) (f : List Nat) (e : List Int) (ee : List (List Int)) (kids : List Gm) : WfI (.mk k l s f e ee kids) ↔ (∀ x ∈ e, x ≤ 9223372036854775807) ∧ (∀ es ∈ ee, ∀ x ∈ es, x ≤ 9223372036854775807) ∧ ∀ g, g ∈ kids → WfI g := by
  rw [WfI]

set_option maxRecDepth 100000 in
set_option maxHeartbeats 4000000 in
theorem good7 (l s : Int) (f : List Nat) (e : List Int) (ee : List (List Int)) (kids : List Gm) (hL : Lay (.mk 7 l s f e ee kids)) (ih : ∀ g, g ∈ kids → GAns g) : GAns (.mk 7 l s f e ee kids) := by
  intro w B cs h hB
  obtain ⟨s', a3, p3, a4, p4, a5, p5, a6, p6, hcs⟩ := arep_lit h
  simp only [Gm.kind, Gm.layout, Gm.flat, Gm.ends, Gm.endss, Gm.kids] at hcs
  rw [hcs] at h ⊢
  rw [arep_eq] at h
  obtain ⟨vf, ve, vee, vk, e1, hrf, hre, ⟨vs, hrs, hvl, hvi⟩, css, hrk, hcl, hkid⟩ := h
  simp only [List.cons.injEq, and_true] at e1
  obtain ⟨_, _, _, e4, e5, e6, e7⟩ := e1
  subst e4 e5 e6 e7
  have hL' := (lay_eq ..).1 hL
  have hl0 := hL'.2.1
  obtain ⟨n3, hn3⟩ : ∃ n, n = f.length := ⟨_, rfl⟩
  obtain ⟨n4, hn4⟩ : ∃ n, n = e.length := ⟨_, rfl⟩
  obtain ⟨n5, hn5⟩ : ∃ n, n = ee.length := ⟨_, rfl⟩
  obtain ⟨N, hN⟩ : ∃ n, n = kids.length := ⟨_, rfl⟩
  rw [← hn3, ← hn4, ← hn5, ← hN]
  rw [← hN] at hrk hcl
  have hNb := rowK_len hrk
  have hf9 : n3 ≤ 1000000000 := by
    obtain ⟨_, c, e, h1, h2, _⟩ := hrf
    rw [List.length_map] at h1 h2; omega
  have he9 : n4 ≤ 1000000000 := by
    obtain ⟨_, c, e, h1, h2, _⟩ := hre
    rw [List.length_map] at h1 h2; omega
  have hs9 : n5 ≤ 1000000000 := by
    obtain ⟨_, c, e, h1, h2, _⟩ := hrs
    rw [hvl] at h1 h2; omega
  obtain ⟨W1, hW1⟩ : ∃ W1, W1 = w.alloc (.cells #[.int .i64 7, .int .i64 l, .int .i64 s', .slice a3 n3 p3, .slice a4 n4 p4, .slice a5 n5 p5, .slice a6 N p6] 27) := ⟨_, rfl⟩
  have hbw : Below w.heap.size w W1 := by rw [hW1]; exact (Below.refl _ _).alloc (Nat.le_refl _) _
  have hsz : W1.heap.size = w.heap.size + 1 := by rw [hW1]; simp
  have hbx : Box W1 w.heap.size 7 l s' (.slice a3 n3 p3) (.slice a4 n4 p4) (.slice a5 n5 p5) (.slice a6 N p6) := by unfold Box; rw [hW1]; exact heap_alloc_new w _
  have HST := Lib.hid (specStride l hl0)
  have HRK := Lib.hid hrk
  have HCL := Lib.hid hcl
  have HKI := Lib.hid hkid
  have HIH := Lib.hid ih
  have HLK : Hid (∀ g, g ∈ kids → Lay g) := Lib.hid hL'.2.2.2
  have HNK := Lib.hid hN
  have HB := Lib.hid hbw
  have H3 := Lib.hid hn3
  have H4 := Lib.hid hn4
  have H5 := Lib.hid hn5
  have HSZ := Lib.hid hsz
  have q0 := hbx.c0
  have q1 := hbx.c1
  have q6 := hbx.c6
  obtain ⟨b1, hb1⟩ : ∃ b1, b1 = w.heap.size := ⟨_, rfl⟩
  rw [← hb1] at q0 q1 q6 hbx
  have HBX := Lib.hid hbx
  have HL9 := Lib.hid hL'.2.2.1
  clear hrf hre hrs hvl hvi hrk hcl hkid ih hL hL' hn3 hn4 hn5 hN hcs hbw hbx hsz
  go_enter Tryz.func10, Tryz.ntmps10
  go_wp2_with fail
  rw [← hW1, ← hb1]
  have HB1 := Lib.hid hb1
  clear hW1 hb1
  refine (HST.out W1).mono ?_
  rintro en w' ⟨rfl, rfl⟩
  go_wp2_with fail
  go_loopg [22] N (fun g v22 wr => ∃ (j : Nat), j + g = N ∧ v22 = .int .i64 j ∧ Hid (Below W1.heap.size W1 wr) ∧ Hid (∀ i g, i < j → kids[i]? = some g → GoodX g ∧ (l ≠ 0 → layoutT g = l)))
  case atStart => exact ⟨0, by omega, rfl, Lib.hid (Below.refl _ _), Lib.hid (fun i g h => absurd h (Nat.not_lt_zero _))⟩
  case round =>
    clear q0 q1 q6
    obtain ⟨j, hj, rfl, HBr, HI⟩ := hrel
    have hbxr := HBX.out.below HBr.out (by have := HSZ.out; have := HB1.out; omega)
    have q1 := hbxr.c1
    have q3 := hbxr.c3
    have q4 := hbxr.c4
    have q5 := hbxr.c5
    have hb1r : b1 < wr.heap.size := lt_of_block hbxr
    have HBXR := Lib.hid hbxr
    clear hbxr
    by_cases hjN : j < N
    · have hwr : Below B w wr := (HB.out.trans (HBr.out.mono (by have := HSZ.out; omega))).mono hB
      obtain ⟨g, kb, ko, gk', gl, gs, b3, m3, r3, b4, m4, r4, b5, m5, r5, b6, m6, r6, hg, rfl, hkB, d0, d1, d2, d3, d4, d5, d6, HAR, _⟩ := kid_round HRK.out (by rw [HCL.out, HNK.out]) HKI.out HCL.out.symm hjN hwr (by have := HBr.out.size; have := HSZ.out; omega)
      have hgm := List.mem_of_getElem? hg
      have HG := Lib.hid hg
      obtain ⟨W4, hW4⟩ : ∃ W4, W4 = wr.alloc (.cells #[.int .i64 gk', .int .i64 gl, .int .i64 gs, .slice b3 m3 r3, .slice b4 m4 r4, .slice b5 m5 r5, .slice b6 m6 r6] 27) := ⟨_, rfl⟩
      have hb4 : Below wr.heap.size wr W4 := by rw [hW4]; exact (Below.refl _ _).alloc (Nat.le_refl _) _
      have hbk : Box W4 wr.heap.size gk' gl gs (.slice b3 m3 r3) (.slice b4 m4 r4) (.slice b5 m5 r5) (.slice b6 m6 r6) := by unfold Box; rw [hW4]; exact heap_alloc_new wr _
      have z0 := hbk.c0
      have z1 := hbk.c1
      have z2 := hbk.c2
      have z3 := hbk.c3
      have z4 := hbk.c4
      have z5 := hbk.c5
      have z6 := hbk.c6
      have zb := (HBXR.out.below hb4 hb1r).c1
      have k0 := cell_regrown z0
      have k1 := cell_regrown z1
      have k2 := cell_regrown z2
      have k3 := cell_regrown z3
      have k4 := cell_regrown z4
      have k5 := cell_regrown z5
      have k6 := cell_regrown z6
      have kb := cell_regrown zb
      obtain ⟨L, hL⟩ : ∃ L, L = layoutT g := ⟨_, rfl⟩
      obtain ⟨r, hr⟩ : ∃ r : Bool, (r = true ↔ GoodX g) := by
        by_cases h : GoodX g
        · exact ⟨true, fun _ => h, fun _ => rfl⟩
        · exact ⟨false, fun h' => Bool.noConfusion h', fun h' => absurd h' h⟩
      have HR := Lib.hid hr
      have hgr : ∀ d os, Below wr.heap.size wr (grow (redrawn W4 d) os) := fun d os => hb4.trans ((below_regrown W4 d os).mono hb4.size)
      have cG : Hid (∀ d os, Calls Tryz.prog 10 #[.agg #[.int .i64 gk', .int .i64 gl, .int .i64 gs, .slice b3 m3 r3, .slice b4 m4 r4, .slice b5 m5 r5, .slice b6 m6 r6]] (grow (redrawn W4 d) os) fun e w'' => e = .returned (.bool r) ∧ ∃ p : Regrown, w'' = grow (redrawn W4 p.d) p.os) := Lib.hid (fun d os => Calls.regrown_of (by
        refine (HIH.out g hgm _ wr.heap.size _ (ARep.below (hgr d os) (Nat.le_refl _) g _ HAR.out) (hgr d os).size).mono ?_
        rintro en w5 ⟨r', rfl, hb5, hgp⟩
        have hrr : r' = r := by
          rw [Bool.eq_iff_iff]; exact hgp.trans hr.symm
        subst hrr
        exact ⟨rfl, hb5⟩))
      have cL : Hid (∀ d os, Calls Tryz.prog 11 #[.agg #[.int .i64 gk', .int .i64 gl, .int .i64 gs, .slice b3 m3 r3, .slice b4 m4 r4, .slice b5 m5 r5, .slice b6 m6 r6]] (grow (redrawn W4 d) os) fun e w'' => e = .returned (.int .i64 L) ∧ ∃ p : Regrown, w'' = grow (redrawn W4 p.d) p.os) := Lib.hid (fun d os => Calls.regrown_of (by
        refine (layOf g (HLK.out g hgm) _ wr.heap.size _ (ARep.below (hgr d os) (Nat.le_refl _) g _ HAR.out) (hgr d os).size).mono ?_
        rintro en w6 ⟨rfl, hb6⟩
        exact ⟨by rw [hL], hb6⟩))
      have HGR : Hid (∀ d os, Below W1.heap.size W1 (grow (redrawn W4 d) os)) := Lib.hid (fun d os => HBr.out.trans ((hgr d os).mono HBr.out.size))
      have hmix : Tryz.prog.follows .mixedOrders = true := by kernel_rfl
      have HEL := Lib.hid hL
      have HNX : Hid (∀ (h1 : GoodX g) (h2 : l ≠ 0 → L = l), ∀ i g, i < j + 1 → kids[i]? = some g → GoodX g ∧ (l ≠ 0 → layoutT g = l)) := Lib.hid (by
        intro h1 h2 i g' hi hg'
        rcases Nat.lt_succ_iff_lt_or_eq.1 hi with h | h
        · exact HI.out i g' h hg'
        · subst h
          rw [HG.out] at hg'
          injection hg' with hg'
          subst hg'
          exact ⟨h1, fun h => by rw [← HEL.out]; exact h2 h⟩)
      have HNO : Hid (r = false ∨ (l ≠ 0 ∧ L ≠ l) → ¬ GoodX (.mk 7 l s f e ee kids)) := Lib.hid (by
        intro h hx
        rw [goodX_eq] at hx
        have h3 := (hx.2 rfl).1 g hgm
        rcases h with h | ⟨h1, h2⟩
        · rw [hr.2 h3.1] at h; exact Bool.noConfusion h
        · exact h2 (by rw [hL]; exact h3.2 h1))
      clear hgm hg hL HAR hb4 hbk hwr HI HIH hr hgr
      go_upto_region 6 with (fail)
      rw [← hW4]
      clear hW4 d0 d1 d2 d3 d4 d5 d6 z0 z1 z2 z3 z4 z5 z6 zb
      cases r with
      | false =>
        have HNX2 : Hid (¬ GoodX (.mk 7 l s f e ee kids)) := Lib.hid (HNO.out (Or.inl rfl))
        clear HNO HR
        refine wp_region_quiet_below hmix (by kernel_rfl) ?_
        repeat (go_big_quiet_step (first | exact cG.out _ _ | exact cL.out _ _))
        refine wpQuiet_nil ?_
        intro _ hw'
        obtain ⟨⟨dq, osq⟩, hw''⟩ := hw'
        subst hw''
        have HB6 := Lib.hid (HGR.out dq osq)
        clear k0 k1 k2 k3 k4 k5 k6 kb cG cL HGR
        generalize grow (redrawn W4 dq) osq = w6 at *
        go_wp2_with fail
        go_ret
        exact ⟨_, rfl, HB.out.trans (HB6.out.mono (by have := HSZ.out; omega)), notX rfl HNX2.out⟩
      | true =>
        have HGT : Hid (GoodX g) := Lib.hid (HR.out.1 rfl)
        clear HR
        by_cases hl : l = 0
        · subst hl
          have HI6 := Lib.hid (HNX.out HGT.out (fun h => absurd rfl h))
          clear HNX HGT HNO
          refine wp_region_quiet_below hmix (by kernel_rfl) ?_
          repeat (go_big_quiet_step (first | exact cG.out _ _ | exact cL.out _ _))
          refine wpQuiet_nil ?_
          intro _ hw'
          obtain ⟨⟨dq, osq⟩, hw''⟩ := hw'
          subst hw''
          have HB6 := Lib.hid (HGR.out dq osq)
          clear k0 k1 k2 k3 k4 k5 k6 kb cG cL HGR
          generalize grow (redrawn W4 dq) osq = w6 at *
          go_wp2_with fail
          go_roundg (gk - 1)
          case measure => omega
          case rel => exact ⟨j + 1, by omega, by go_num, HB6, HI6⟩
        · have hl2 : (l != 0) = true := bne_iff_ne.2 hl
          by_cases hLl : L = l
          · have HI6 := Lib.hid (HNX.out HGT.out (fun _ => hLl))
            clear HNX HGT HNO
            subst hLl
            have hLL : (L != L) = false := by simp
            refine wp_region_quiet_below hmix (by kernel_rfl) ?_
            repeat (go_big_quiet_step (first | exact cG.out _ _ | exact cL.out _ _))
            refine wpQuiet_nil ?_
            intro _ hw'
            obtain ⟨⟨dq, osq⟩, hw''⟩ := hw'
            subst hw''
            have HB6 := Lib.hid (HGR.out dq osq)
            clear k0 k1 k2 k3 k4 k5 k6 kb cG cL HGR
            generalize grow (redrawn W4 dq) osq = w6 at *
            go_wp2_with fail
            go_roundg (gk - 1)
            case measure => omega
            case rel => exact ⟨j + 1, by omega, by go_num, HB6, HI6⟩
          · have hLL : (L != l) = true := bne_iff_ne.2 hLl
            have HNX2 : Hid (¬ GoodX (.mk 7 l s f e ee kids)) := Lib.hid (HNO.out (Or.inr ⟨hl, hLl⟩))
            clear HNO HNX HGT
            refine wp_region_quiet_below hmix (by kernel_rfl) ?_
            repeat (go_big_quiet_step (first | exact cG.out _ _ | exact cL.out _ _))
            refine wpQuiet_nil ?_
            intro _ hw'
            obtain ⟨⟨dq, osq⟩, hw''⟩ := hw'
            subst hw''
            have HB6 := Lib.hid (HGR.out dq osq)
            clear k0 k1 k2 k3 k4 k5 k6 kb cG cL HGR
            generalize grow (redrawn W4 dq) osq = w6 at *
            go_wp2_with fail
            go_ret
            exact ⟨_, rfl, HB.out.trans (HB6.out.mono (by have := HSZ.out; omega)), notX rfl HNX2.out⟩
    · obtain rfl : j = N := by omega
      have HK : Hid (∀ g, g ∈ kids → GoodX g ∧ (l ≠ 0 → layoutT g = l)) := Lib.hid (fun g hg => by
        obtain ⟨i, hi, rfl⟩ := List.getElem_of_mem hg
        exact HI.out i _ (by rw [HNK.out]; exact hi) (List.getElem?_eq_getElem hi))
      have HFIN := Lib.hid (HB.out.trans (HBr.out.mono (by have := HSZ.out; omega)))
      clear HI
      by_cases hz : n3 + n4 + n5 = 0
      · have HG : Hid (GoodX (.mk 7 l s f e ee kids)) := Lib.hid (by
          rw [goodX_eq]
          exact ⟨fun h => absurd rfl h, fun _ => ⟨HK.out, by rw [← H3.out, ← H4.out, ← H5.out]; exact hz⟩⟩)
        obtain ⟨rfl, rfl, rfl⟩ : n3 = 0 ∧ n4 = 0 ∧ n5 = 0 := by omega
        clear HK hz
        go_wp2_with fail
        go_ret
        exact ⟨_, rfl, HFIN.out, isX (by first | rfl | (simp; done) | (simp; omega)) HG.out⟩
      · have HNO : Hid (¬ GoodX (.mk 7 l s f e ee kids)) := Lib.hid (by
          rw [goodX_eq]
          intro h
          have := (h.2 rfl).2
          rw [← H3.out, ← H4.out, ← H5.out] at this
          exact hz this)
        have hz' : (((n3 : Int) + (n4 : Int) + (n5 : Int)) == 0) = false := beq_eq_false_iff_ne.2 (by omega)
        clear HK hz
        go_wp2_with fail
        go_ret
        exact ⟨_, rfl, HFIN.out, notX (by first | rfl | (simp; done) | (simp; omega)) HNO.out⟩
theorem goodAns : ∀ g, Lay g → WfI g → GAns g := by
  intro g
  induction g using Gm.ind with
  | h k l s f e ee kids ih =>
    intro hL hW
    have hL' := (lay_eq ..).1 hL
    rw [wfi_eq] at hW
    by_cases h7 : k = 7
    · subst h7
      exact good7 l s f e ee kids hL fun g hg => ih g hg (hL'.2.2.2 g hg) (hW.2.2 g hg)
    · by_cases hok : f.length % (stride l).toNat = 0 ∧ kids = [] ∧ (ee = [] ∨ k = 6)
      · by_cases k1 : k = 1
        · exact good1 k l s f e ee kids h7 k1 hok hL hW.1 hW.2.1
        by_cases k2 : k = 2
        · exact good2 k l s f e ee kids h7 k2 hok hL hW.1 hW.2.1
        by_cases k8 : k = 8
        · exact good8 k l s f e ee kids h7 k8 hok hL hW.1 hW.2.1
        by_cases k3 : k = 3
        · exact good3 k l s f e ee kids h7 k3 hok hL hW.1 hW.2.1
        by_cases k4 : k = 4
        · exact good4 k l s f e ee kids h7 k4 hok hL hW.1 hW.2.1
        by_cases k5 : k = 5
        · exact good5 k l s f e ee kids h7 k5 hok hL hW.1 hW.2.1
        by_cases k6 : k = 6
        · exact good6 k l s f e ee kids h7 k6 hok hL hW.1 hW.2.1
        exact goodNone k l s f e ee kids h7 hok ⟨k1, k2, k8, k3, k4, k5, k6⟩ hL hW.1 hW.2.1
      · refine goodBad k l s f e ee kids h7 ?_ hL hW.1 hW.2.1
        by_cases h1 : f.length % (stride l).toNat = 0
        · by_cases h2 : kids = []
          · refine Or.inr (Or.inr ⟨fun h => hok ⟨h1, h2, Or.inl h⟩, fun h => hok ⟨h1, h2, Or.inr h⟩⟩)
          · exact Or.inr (Or.inl h2)
        · exact Or.inl h1
end Go.Proofs.YtlmilelopajdiaaGreatDoor
