/-
  Encoder.write at a collection.
-/
import Derived.Test.YtlmilelopajdiaaGreatDoorUE4
import Derived.Deep.DeepCutAuto
import Derived.Deep.RegionWith
import Derived.Deep.CutBlock
namespace Go.Proofs.YtlmilelopajdiaaGreatDoor
open Go.RowKit

/-- What Encoder.write does at an object. -/
def WAns (dg : Int) (g : Gm) : Prop := ∀ (B b eb q : Nat) (w : World) (t : List UInt8), Rep w B g (.iface (tyOf g.kind) (.pointer (some ⟨q, 0, none⟩))) → BB w B b t → WPre B b eb dg w → t.length + (textT dg g).length + 100 ≤ 70000000000000 →
  Calls Tryz.prog 53 #[.pointer (some ⟨eb, 0, none⟩), .pointer (some ⟨b, 0, none⟩), .iface (tyOf g.kind) (.pointer (some ⟨q, 0, none⟩))] w fun en w' => Below B w w' ∧ (okT g → en = .returned .nilIface ∧ BB w' B b (t ++ textT dg g)) ∧ (¬ okT g → ∃ u, en = .returned (.iface 134 u))

theorem kidsT_len (L : List (List UInt8)) (j : Nat) (hj : j ≤ L.length) (h0 : L ≠ []) : (joinN (fun i => L.getD i []) j).length + 2 ≤ (kidsT L).length := by
  unfold kidsT
  rw [if_neg h0]
  have := joinN_mono (fun i => L.getD i []) j L.length hj
  simp only [List.length_append, List.length_cons, List.length_nil]; omega

set_option maxRecDepth 100000 in
set_option maxHeartbeats 4000000 in
theorem write7 (dg l s : Int) (f : List Nat) (e : List Int) (ee : List (List Int)) (kids : List Gm) (hfit : Fit (.mk 7 l s f e ee kids)) (ih : ∀ g, g ∈ kids → WAns dg g) : WAns dg (.mk 7 l s f e ee kids) := by
  intro B b eb q w t hrep h hp hlen
  have hlay : Hid (LayAns w (.mk 7 l s f e ee kids) q) := Lib.hid (layAns _ w B q (fit_kinds _ hfit) hrep)
  have hEmp : Hid (layoutT (.mk 7 l s f e ee kids) = 0 → Calls Tryz.prog 61 #[.pointer (some ⟨q, 0, none⟩)] w fun e w' => e = .returned (.bool true) ∧ w = w') := Lib.hid (fun h0 => emptyAns _ hfit h0 w B q hrep)
  obtain ⟨hqB, c0, _, _, _, hk⟩ := rep_cells (k := 7) hrep
  obtain ⟨v, c1, hkl, hv⟩ := hk rfl
  have hlb := fit_layout _ hfit
  obtain ⟨L, hL⟩ : ∃ L, L = layoutT (.mk 7 l s f e ee kids) := ⟨_, rfl⟩
  rw [textT_eq] at hlen
  rw [← hL] at hlb hEmp hlen
  have HOK : Hid (okT (.mk 7 l s f e ee kids) ↔ L ≤ 4 ∧ ∀ g, g ∈ kids → okT g) := Lib.hid (by rw [hL]; exact okT_eq ..)
  obtain ⟨hd, hhd⟩ : ∃ hd, hd = nameT 7 ++ tagT L := ⟨_, rfl⟩
  have hhl : hd.length ≤ 40 := by rw [hhd]; exact head_len _ _
  obtain ⟨bd, hbd⟩ : ∃ bd, bd = kidsT (kids.map (textT dg)) := ⟨_, rfl⟩
  have HTX : Hid (textT dg (.mk 7 l s f e ee kids) = hd ++ bd) := Lib.hid (by rw [textT_eq, ← hL, if_pos rfl, hhd, hbd])
  rw [if_pos rfl, ← hhd, ← hbd] at hlen
  have hlen2 : t.length + hd.length + bd.length + 100 ≤ 70000000000000 := by rw [List.length_append] at hlen; omega
  have hLay : Hid (Calls Tryz.prog 166 #[.pointer (some ⟨q, 0, none⟩)] w fun e w' => e = .returned (.int .i64 L) ∧ w = w') := Lib.hid (by
    have := hlay.out
    unfold LayAns at this
    rw [← hL] at this
    exact this)
  have hL0 := hlb.1
  have hL9 := hlb.2.1
  have hd0 := hp.d0
  have hd1 := hp.d1
  have HHD := Lib.hid hhd
  have HBD := Lib.hid hbd
  have HP := Lib.hid hp
  have HB := Lib.hid h
  have HI := Lib.hid ih
  obtain ⟨N, hN⟩ : ∃ N, N = kids.length := ⟨_, rfl⟩
  have HN := Lib.hid hN
  have HV := Lib.hid hv
  obtain ⟨a, cap, rfl⟩ : ∃ a cap, v = .slice a N cap := by
    rcases hv with ⟨h1, h2⟩ | ⟨c, o, cap, h2, _⟩
    · exact ⟨none, 0, by rw [h2, hN, h1]; rfl⟩
    · exact ⟨_, cap, by rw [h2, hN]⟩
  rw [← hN] at hkl
  clear hlay hk hlb hhd hbd hL hlen hfit ih hrep hp h hN hv c0
  show Calls Tryz.prog 53 #[.pointer (some ⟨eb, 0, none⟩), .pointer (some ⟨b, 0, none⟩), .iface 88 (.pointer (some ⟨q, 0, none⟩))] w _
  have s62 := as88_62
  have s65 := as88_65
  have s68 := as88_68
  have s71 := as88_71
  have s75 := as88_75
  have s81 := as88_81
  have s84 := as88_84
  have s88 := as88_88
  by_cases h4 : 4 < L
  · have t0 : (L == 0) = false := beq_eq_false_iff_ne.2 (by omega)
    have t1 : (L == 1) = false := beq_eq_false_iff_ne.2 (by omega)
    have t2 : (L == 2) = false := beq_eq_false_iff_ne.2 (by omega)
    have t3 : (L == 3) = false := beq_eq_false_iff_ne.2 (by omega)
    have t4 : (L == 4) = false := beq_eq_false_iff_ne.2 (by omega)
    go_enter Tryz.func53, Tryz.ntmps53
    go_wp2_with fail
    refine hLay.out.mono ?_
    rintro en w' ⟨rfl, rfl⟩
    go_wp2_with fail
    go_ret
    exact ⟨Below.refl _ _, fun h => absurd (HOK.out.1 h).1 (by omega), fun _ => ⟨_, rfl⟩⟩
  · go_enter Tryz.func53, Tryz.ntmps53
    go_wp2_with fail
    refine hLay.out.mono ?_
    rintro en w' ⟨rfl, rfl⟩
    go_upto_block 1 with (fail)
    go_cut [7] (fun v7 wx => v7 = .string ⟨hd.toArray⟩ ∧ w = wx)
    case first =>
      have hl4 : L = 0 ∨ L = 1 ∨ L = 2 ∨ L = 3 ∨ L = 4 := by omega
      rcases hl4 with rfl | rfl | rfl | rfl | rfl
      · have HE := Lib.hid (hEmp.out rfl)
        go_wp2_with fail
        refine HE.out.mono ?_
        rintro en w' ⟨rfl, rfl⟩
        go_wp2_with fail
        go_meet
        exact ⟨by rw [HHD.out]; rfl, rfl⟩
      all_goals
        go_wp2_with fail
        go_meet
        exact ⟨by rw [HHD.out]; rfl, rfl⟩
    case rest =>
      obtain ⟨rfl, rfl⟩ := hcut
      go_wp2_with fail
      refine (writeString B b t hd w HB.out (by omega) HP.out.base).mono ?_
      rintro en w2 ⟨rfl, hb2', hbl2'⟩
      have hb2 := Lib.hid hb2'
      have HX : Hid (t ++ (hd ++ bd) = (t ++ hd) ++ bd) := Lib.hid (List.append_assoc _ _ _).symm
      have hbl2 := Lib.hid hbl2'
      have hp2 := Lib.hid (HP.out.below hbl2')
      have c1' : w2.cell? ⟨q, 1, none⟩ = some (.slice a N cap) := by rw [hbl2'.cell hqB]; exact c1
      have htl : (t ++ hd).length = t.length + hd.length := List.length_append
      have HTL := Lib.hid htl
      clear c1 HB hb2' hbl2' htl HHD hLay hEmp
      by_cases hN0 : N = 0
      · have hkn : kids = [] := List.length_eq_zero_iff.1 (by rw [← HN.out, hN0])
        have HBE : Hid (bd = EMPTY) := Lib.hid (by rw [HBD.out, hkn]; rfl)
        have HK : Hid (∀ g, g ∈ kids → okT g) := Lib.hid (by rw [hkn]; simp)
        clear hkn
        subst hN0
        go_wp2_with fail
        refine (gNumGeoms q w2 _ _ _ c1').mono ?_
        rintro en w' ⟨rfl, rfl⟩
        go_wp2_with fail
        refine (writeEMPTY B b eb _ w2 hb2.out hp2.out.base (by rw [HTL.out]; omega)).mono ?_
        rintro en w3 ⟨rfl, hb3, hbl3⟩
        go_wp2_with fail
        go_ret
        refine ⟨hbl2.out.trans hbl3, fun _ => ⟨rfl, ?_⟩, fun h => absurd (HOK.out.2 ⟨by omega, HK.out⟩) h⟩
        rw [HTX.out, HX.out, HBE.out]
        exact hb3
      · obtain ⟨c, o, rfl, hcB, hcap, hcap2, HC⟩ : ∃ c o, a = some ⟨c, o, none⟩ ∧ c < B ∧ N ≤ cap ∧ cap ≤ 9223372036854775807 ∧ Hid (∀ j (g : Gm), j < N → kids[j]? = some g → ∃ x, w.cell? ⟨c, o + j, none⟩ = some x ∧ Rep w B g x) := by
          rcases HV.out with ⟨h1, h2⟩ | ⟨c, o, cap', h2, h3, h5, h6, h7⟩
          · exact absurd (by rw [HN.out, h1]; rfl) hN0
          · injection h2 with e1 e2 e3
            subst e3
            refine ⟨c, o, e1, h3, by rw [HN.out]; exact h5, h6, Lib.hid (fun j g hj hg => ?_)⟩
            have hj' : j < kids.length := by rw [← HN.out]; exact hj
            rw [List.getElem?_eq_getElem hj'] at hg
            injection hg with hg
            rw [← hg]
            exact h7 j hj'
        have hLne : kids.map (textT dg) ≠ [] := by
          intro h; have := congrArg List.length h; rw [List.length_map, ← HN.out] at this; exact hN0 this
        have HLJ : Hid (∀ j, j ≤ N → (joinN (fun i => (kids.map (textT dg)).getD i []) j).length + 2 ≤ bd.length) := Lib.hid (by
          intro j hj
          rw [HBD.out]
          exact kidsT_len _ j (by rw [List.length_map, ← HN.out]; exact hj) hLne)
        have HBE : Hid (bd = [40] ++ joinN (fun i => (kids.map (textT dg)).getD i []) N ++ [41]) := Lib.hid (by rw [HBD.out]; unfold kidsT; rw [if_neg hLne, List.length_map, ← HN.out])
        obtain ⟨Jn, hJn⟩ : ∃ Jn, Jn = joinN (fun i => (kids.map (textT dg)).getD i []) := ⟨_, rfl⟩
        have HJS : Hid (∀ j g, kids[j]? = some g → Jn (j + 1) = Jn j ++ (if j = 0 then [] else [44, 32]) ++ textT dg g) := Lib.hid (by
          intro j g hg
          rw [hJn, joinN_succ]
          simp [List.getD, hg])
        have HJ0 : Hid (Jn 0 = []) := Lib.hid (by rw [hJn]; simp [joinN])
        rw [← hJn] at HLJ HBE
        have hn1 : ((N : Int) == 0) = false := beq_eq_false_iff_ne.2 (by omega)
        have HN0 := Lib.hid hN0
        clear hLne hJn hN0 HV HBD
        go_wp2_with fail
        refine (gNumGeoms q w2 _ _ _ c1').mono ?_
        rintro en w' ⟨rfl, rfl⟩
        go_wp2_with fail
        refine (writeRune B b (t ++ hd) 40 40 rfl (by decide) w2 hb2.out (by rw [HTL.out]; omega) hp2.out.base).mono ?_
        rintro en w3 ⟨y, rfl, hb3', hbl3'⟩
        have hbl3 := Lib.hid (hbl2.out.trans hbl3')
        have hb3 := Lib.hid hb3'
        have c1'' : w3.cell? ⟨q, 1, none⟩ = some (.slice (some ⟨c, o, none⟩) N cap) := by rw [hbl3'.cell hqB]; exact c1'
        clear hb3' hbl3' c1' hbl2 hp2 hb2
        go_wp2_with fail
        refine (gGeoms q w3 _ c1'').mono ?_
        rintro en w' ⟨rfl, rfl⟩
        go_wp2_with fail
        go_loopg [290] N (fun g v290 wr => ∃ k : Nat, k + g = N ∧ v290 = .int .i64 k ∧ BB wr B b (t ++ hd ++ [40] ++ Jn k) ∧ Below B w wr ∧ Hid (∀ j x, j < k → kids[j]? = some x → okT x))
        case atStart => exact ⟨0, by omega, rfl, by rw [HJ0.out, List.append_nil]; exact hb3.out, hbl3.out, Lib.hid (fun j x h => absurd h (Nat.not_lt_zero _))⟩
        case round =>
          clear hb3 hbl3 c1''
          obtain ⟨k, hk, rfl, hb', hbl', HAll⟩ := hrel
          have hb := Lib.hid hb'
          have hbl := Lib.hid hbl'
          have hpr := Lib.hid (HP.out.below hbl')
          by_cases hkn : k < N
          · obtain ⟨g, hg⟩ : ∃ g, kids[k]? = some g := ⟨_, List.getElem?_eq_getElem (by rw [← HN.out]; exact hkn)⟩
            have hgm : g ∈ kids := List.mem_of_getElem? hg
            obtain ⟨x, hx1, hx2⟩ := HC.out k g hkn hg
            obtain ⟨kq, hxq⟩ : ∃ q, x = .iface (tyOf g.kind) (.pointer (some ⟨q, 0, none⟩)) := by
              cases g
              unfold Rep at hx2
              obtain ⟨q, hq, _⟩ := hx2
              exact ⟨q, hq⟩
            subst hxq
            have hcx : wr.cell? ⟨c, o + k, none⟩ = some (.iface (tyOf g.kind) (.pointer (some ⟨kq, 0, none⟩))) := by rw [hbl'.cell hcB]; exact hx1
            have HW := Lib.hid (HI.out g hgm)
            have HR := Lib.hid (hx2.below hbl')
            obtain ⟨sep, hsep⟩ : ∃ sep : List UInt8, sep = if k = 0 then [] else [44, 32] := ⟨_, rfl⟩
            obtain ⟨T, hT⟩ : ∃ T, T = t ++ hd ++ [40] ++ Jn k := ⟨_, rfl⟩
            have HQ : Hid (t ++ hd ++ [40] ++ Jn (k + 1) = T ++ sep ++ textT dg g) := Lib.hid (by rw [HJS.out k g hg, hT, hsep]; simp)
            have HM : T.length + sep.length + (textT dg g).length + 101 ≤ 70000000000000 := by
              have h5 := congrArg List.length HQ.out
              have h6 := HLJ.out (k + 1) hkn
              simp only [List.length_append, List.length_cons, List.length_nil] at h5; omega
            have HA1 : Hid (okT g → ∀ j x, j < k + 1 → kids[j]? = some x → okT x) := Lib.hid (by
              intro ho j x hj hx
              rcases Nat.lt_succ_iff_lt_or_eq.1 hj with h | h
              · exact HAll.out j x h hx
              · subst h; rw [hg] at hx; injection hx with hx; rw [← hx]; exact ho)
            have HA2 : Hid (¬ okT g → ¬ okT (.mk 7 l s f e ee kids)) := Lib.hid (fun hno h => hno ((HOK.out.1 h).2 g hgm))
            rw [← hT] at hb
            have HSP := Lib.hid hsep
            clear hT hsep hg hgm hx1 hx2 HAll HJS HLJ HJ0 HC HI hb' hbl'
            obtain ⟨Tx, hTx⟩ : ∃ Tx, Tx = textT dg g := ⟨_, rfl⟩
            rw [← hTx] at HQ HM
            obtain ⟨ty, hty⟩ : ∃ ty, ty = tyOf g.kind := ⟨_, rfl⟩
            rw [← hty] at hcx HR
            have HTx := Lib.hid hTx
            have HTy := Lib.hid hty
            clear hTx hty
            go_upto_if 296 with (fail)
            go_cut [] (fun wx => BB wx B b (T ++ sep) ∧ Below B w wx ∧ Below B wr wx)
            case first =>
              by_cases hk0 : k = 0
              · subst hk0
                have HE : Hid (T ++ sep = T) := Lib.hid (by rw [HSP.out, if_pos rfl]; simp)
                go_wp2_with fail
                go_meet
                exact ⟨by rw [HE.out]; exact hb.out, hbl.out, Below.refl _ _⟩
              · have HE : Hid (sep = [44, 32]) := Lib.hid (by rw [HSP.out, if_neg hk0])
                have hki : ((k : Int) != 0) = true := by simp; omega
                have h2 : T.length + [(44 : UInt8), 32].length ≤ 140737488355328 := by simp; omega
                clear hk0
                go_wp2_with fail
                refine (writeString B b T [44, 32] _ hb.out h2 hpr.out.base).mono ?_
                rintro en w4 ⟨rfl, hb4, hbl4⟩
                go_wp2_with fail
                go_meet
                exact ⟨by rw [HE.out]; exact hb4, hbl.out.trans hbl4, hbl4⟩
            case rest =>
              obtain ⟨hb4', hbl4', hblr'⟩ := hcut
              generalize wc = w4 at *
              have hb4 := Lib.hid hb4'
              have hbl4 := Lib.hid hbl4'
              have HCAL : Hid (Calls Tryz.prog 53 #[.pointer (some ⟨eb, 0, none⟩), .pointer (some ⟨b, 0, none⟩), .iface ty (.pointer (some ⟨kq, 0, none⟩))] w4 fun en w' => Below B w4 w' ∧ (okT g → en = .returned .nilIface ∧ BB w' B b (T ++ sep ++ Tx)) ∧ (¬ okT g → ∃ u, en = .returned (.iface 134 u))) := Lib.hid (by
                have := HW.out B b eb kq w4 (T ++ sep) (by rw [← HTy.out]; exact HR.out.below hblr') hb4' (HP.out.below hbl4') (by rw [List.length_append, ← HTx.out]; omega)
                rw [← HTy.out, ← HTx.out] at this
                exact this)
              clear hb hbl hpr HW HR HTx HTy hcx hb4' hbl4' hblr'
              by_cases hok : okT g
              · have HA := Lib.hid (HA1.out hok)
                have HOG := Lib.hid hok
                clear HA1 HA2 hok
                go_wp2_with fail
                refine HCAL.out.mono ?_
                rintro en w5 ⟨hbl5, h5, _⟩
                obtain ⟨rfl, hb5⟩ := h5 HOG.out
                have HB5 : Hid (BB w5 B b (t ++ hd ++ [40] ++ Jn (k + 1))) := Lib.hid (by rw [HQ.out]; exact hb5)
                have HL5 := Lib.hid (hbl4.out.trans hbl5)
                clear h5 hb5 hbl5 HCAL hb4
                go_wp2_with fail
                go_roundg (gk - 1)
                case measure => omega
                case rel => exact ⟨k + 1, by omega, by go_num, HB5.out, HL5.out, HA⟩
              · have HA := Lib.hid (HA2.out hok)
                have HOG := Lib.hid hok
                clear HA1 HA2 hok
                go_wp2_with fail
                refine HCAL.out.mono ?_
                rintro en w5 ⟨hbl5, _, h5⟩
                obtain ⟨u, rfl⟩ := h5 HOG.out
                have HL5 := Lib.hid (hbl4.out.trans hbl5)
                clear h5 hbl5 HCAL hb4
                go_wp2_with fail
                go_ret
                exact ⟨HL5.out, fun h => absurd h HA.out, fun _ => ⟨_, rfl⟩⟩
          · obtain rfl : k = N := by omega
            have HE : Hid (t ++ hd ++ [40] ++ Jn k ++ [41] = t ++ textT dg (.mk 7 l s f e ee kids)) := Lib.hid (by rw [HTX.out, HBE.out]; simp)
            have hlj := HLJ.out k (Nat.le_refl _)
            have hl4 : (t ++ hd ++ [40] ++ Jn k).length + 4 ≤ 140737488355328 := by simp only [List.length_append, List.length_cons, List.length_nil]; omega
            have HK : Hid (okT (.mk 7 l s f e ee kids)) := Lib.hid (HOK.out.2 ⟨by omega, fun g hg => by
              obtain ⟨j, hj, rfl⟩ := List.getElem_of_mem hg
              exact HAll.out j _ (by rw [HN.out]; exact hj) (List.getElem?_eq_getElem hj)⟩)
            clear HAll HOK HI HC HJS HLJ hb' hbl'
            go_wp2_with fail
            refine (writeRune B b _ 41 41 rfl (by decide) _ hb.out hl4 hpr.out.base).mono ?_
            rintro en w4 ⟨y2, rfl, hb4, hbl4⟩
            go_wp2_with fail
            go_ret
            exact ⟨hbl.out.trans hbl4, fun _ => ⟨rfl, by rw [← HE.out]; exact hb4⟩, fun h => absurd HK.out h⟩
end Go.Proofs.YtlmilelopajdiaaGreatDoor
