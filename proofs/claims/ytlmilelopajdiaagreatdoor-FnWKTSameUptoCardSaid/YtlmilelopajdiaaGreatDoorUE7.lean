/-
  Encoder.write at points and lines.
-/
import Derived.Test.YtlmilelopajdiaaGreatDoorUE4
import Derived.Deep.DeepCutAuto
import Derived.Deep.RegionWith
import Derived.Deep.CutBlock
namespace Go.Proofs.YtlmilelopajdiaaGreatDoor
open Go.RowKit


set_option maxRecDepth 100000 in
set_option maxHeartbeats 4000000 in
theorem write1 (B b eb q : Nat) (dg l : Int) (f : List Nat) (e : List Int) (ee : List (List Int)) (t : List UInt8) (v : Value) (w : World) (hq : q < B) (c0 : w.cell? ⟨q, 0, none⟩ = some (.int .i64 l)) (c2 : w.cell? ⟨q, 2, none⟩ = some v) (hv : FRow w B v f)
    (h : BB w B b t) (hp : WPre B b eb dg w) (hF : FitF 1 l f e ee) (hlen : t.length + (nameT 1 ++ tagT l ++ flatT dg 1 l f e ee).length + 100 ≤ 70000000000000) :
    Calls Tryz.prog 53 #[.pointer (some ⟨eb, 0, none⟩), .pointer (some ⟨b, 0, none⟩), .iface 62 (.pointer (some ⟨q, 0, none⟩))] w fun en w' => Below B w w' ∧ (l ≤ 4 → en = .returned .nilIface ∧ BB w' B b (t ++ (nameT 1 ++ tagT l ++ flatT dg 1 l f e ee))) ∧ (4 < l → ∃ u, en = .returned (.iface 134 u)) := by
  obtain ⟨l1, l9, hdiv, F1, F3, F6⟩ := hF
  have hd0 := hp.d0
  have hd1 := hp.d1
  obtain ⟨st, hst⟩ : ∃ st, st = (stride l).toNat := ⟨_, rfl⟩
  have hsb := stride_bd l l1 l9
  rw [← hst] at hdiv hsb F1 F3 F6
  have HSt : Hid (∀ w, Calls Tryz.prog 55 #[.int .i64 l] w fun en w' => en = .returned (.int .i64 (st : Nat)) ∧ w = w') := Lib.hid (by intro w; rw [← hsb.1]; exact strideCall l w)
  obtain ⟨hd, hhd⟩ : ∃ hd, hd = nameT 1 ++ tagT l := ⟨_, rfl⟩
  have hhl : hd.length ≤ 40 := by rw [hhd]; exact head_len _ _
  obtain ⟨bd, hbd⟩ : ∃ bd, bd = flatT dg 1 l f e ee := ⟨_, rfl⟩
  rw [← hhd, ← hbd] at hlen ⊢
  have hlen2 : t.length + hd.length + bd.length + 100 ≤ 70000000000000 := by rw [List.length_append] at hlen; omega
  have HST := Lib.hid hst
  have HHD := Lib.hid hhd
  have HBD := Lib.hid hbd
  have HD := Lib.hid hdiv
  have H1 := Lib.hid (F1 rfl)
  have hs1 := hsb.2.1
  have hs2 := hsb.2.2
  have HV := Lib.hid hv
  have HP := Lib.hid hp
  have HB := Lib.hid h
  obtain ⟨a, cap, rfl⟩ := hv.lit
  clear hdiv F1 F3 F6 hst hhd hbd hsb hlen hv hp h
  have s62 := as62_62
  have s65 := as62_65
  have s68 := as62_68
  have s71 := as62_71
  have s75 := as62_75
  have s81 := as62_81
  have s84 := as62_84
  have s88 := as62_88
  by_cases h4 : 4 < l
  · have t0 : (l == 0) = false := beq_eq_false_iff_ne.2 (by omega)
    have t1 : (l == 1) = false := beq_eq_false_iff_ne.2 (by omega)
    have t2 : (l == 2) = false := beq_eq_false_iff_ne.2 (by omega)
    have t3 : (l == 3) = false := beq_eq_false_iff_ne.2 (by omega)
    have t4 : (l == 4) = false := beq_eq_false_iff_ne.2 (by omega)
    go_enter Tryz.func53, Tryz.ntmps53
    go_wp2_with fail
    refine (gLayout q w l c0).mono ?_
    rintro en w' ⟨rfl, rfl⟩
    go_wp2_with fail
    go_ret
    exact ⟨Below.refl _ _, fun h => absurd h (by omega), fun _ => ⟨_, rfl⟩⟩
  · go_enter Tryz.func53, Tryz.ntmps53
    go_wp2_with fail
    refine (gLayout q w l c0).mono ?_
    rintro en w' ⟨rfl, rfl⟩
    go_upto_block 1 with (fail)
    go_cut [7] (fun v7 wx => v7 = .string ⟨hd.toArray⟩ ∧ w = wx)
    case first =>
      have hl4 : l = 1 ∨ l = 2 ∨ l = 3 ∨ l = 4 := by omega
      rcases hl4 with rfl | rfl | rfl | rfl
      all_goals
        go_wp2_with fail
        go_meet
        exact ⟨by rw [HHD.out]; rfl, rfl⟩
    case rest =>
      obtain ⟨rfl, rfl⟩ := hcut
      go_wp2_with fail
      refine (writeString B b t hd w HB.out (by omega) HP.out.base).mono ?_
      rintro en w2 ⟨rfl, hb2', hbl2'⟩
      have hb2 := Lib.hid hb2'
      have HX : Hid (t ++ (hd ++ bd) = (t ++ hd) ++ bd) := Lib.hid (List.append_assoc _ _ _).symm
      have hbl2 := Lib.hid hbl2'
      have hp2 := Lib.hid (HP.out.below hbl2')
      have hv2 := Lib.hid (HV.out.below hbl2')
      have c2' : w2.cell? ⟨q, 2, none⟩ = some (.slice a f.length cap) := by rw [hbl2'.cell hq]; exact c2
      have htl : (t ++ hd).length = t.length + hd.length := List.length_append
      have HTL := Lib.hid htl
      clear c0 c2 HP HB HV hb2' hbl2' htl HHD
      by_cases hf0 : f = []
      · have HBE : Hid (bd = EMPTY) := Lib.hid (by rw [HBD.out]; unfold flatT; simp [hf0])
        have hz : f.length = 0 := by rw [hf0]; rfl
        rw [hz] at c2'
        clear hz
        go_wp2_with fail
        refine (gEmpty q w2 _ _ _ c2').mono ?_
        rintro en w' ⟨rfl, rfl⟩
        go_wp2_with fail
        refine (writeEMPTY B b eb _ w2 hb2.out hp2.out.base (by rw [HTL.out]; omega)).mono ?_
        rintro en w3 ⟨rfl, hb3, hbl3⟩
        go_wp2_with fail
        go_ret
        refine ⟨hbl2.out.trans hbl3, fun _ => ⟨rfl, ?_⟩, fun h => absurd h (by omega)⟩
        rw [HX.out, HBE.out]
        exact hb3
      · have hn0 : 0 < f.length := by exact List.length_pos_iff.2 hf0
        have hfl : f.length = st := by
          rcases H1.out with h | h
          · exact absurd h hf0
          · exact h
        have HBE : Hid (bd = [40] ++ placeS dg f ++ [41]) := Lib.hid (by rw [HBD.out]; unfold flatT; simp [hf0])
        have HW : Hid (Calls Tryz.prog 65 #[.pointer (some ⟨eb, 0, none⟩), .pointer (some ⟨b, 0, none⟩), .slice a f.length cap, .int .i64 (st : Nat)] w2 fun en w' => en = .returned .nilIface ∧ BB w' B b ((t ++ hd) ++ bd) ∧ Below B w2 w') := Lib.hid (by
          have hbl : bd.length = (placeS dg f).length + 2 := by rw [HBE.out]; simp
          have := writeFlat0 B b eb dg (t ++ hd) (.slice a f.length cap) f w2 hb2.out hp2.out hv2.out hn0 (by rw [HTL.out]; omega)
          rw [HBE.out, ← hfl]; exact this)
        have hn1 : ((f.length : Int) == 0) = false := beq_eq_false_iff_ne.2 (by omega)
        obtain ⟨n, hn⟩ : ∃ n, n = f.length := ⟨_, rfl⟩
        rw [← hn] at hn1
        have HN := Lib.hid hn
        rw [← hn] at c2' HW
        clear hn hn0 HD HBD HST hp2 hb2 hv2 H1
        go_wp2_with fail
        refine (gEmpty q w2 _ _ _ c2').mono ?_
        rintro en w' ⟨rfl, rfl⟩
        go_wp2_with fail
        refine (gFlat q w2 _ c2').mono ?_
        rintro en w' ⟨rfl, rfl⟩
        go_wp2_with fail
        refine (HSt.out w2).mono ?_
        rintro en w' ⟨rfl, rfl⟩
        go_wp2_with fail
        refine HW.out.mono ?_
        rintro en w3 ⟨rfl, hb3, hbl3⟩
        go_wp2_with fail
        go_ret
        refine ⟨hbl2.out.trans hbl3, fun _ => ⟨rfl, ?_⟩, fun h => absurd h (by omega)⟩
        rw [HX.out]
        exact hb3

set_option maxRecDepth 100000 in
set_option maxHeartbeats 4000000 in
theorem write2 (B b eb q : Nat) (dg l : Int) (f : List Nat) (e : List Int) (ee : List (List Int)) (t : List UInt8) (v : Value) (w : World) (hq : q < B) (c0 : w.cell? ⟨q, 0, none⟩ = some (.int .i64 l)) (c2 : w.cell? ⟨q, 2, none⟩ = some v) (hv : FRow w B v f)
    (h : BB w B b t) (hp : WPre B b eb dg w) (hF : FitF 2 l f e ee) (hlen : t.length + (nameT 2 ++ tagT l ++ flatT dg 2 l f e ee).length + 100 ≤ 70000000000000) :
    Calls Tryz.prog 53 #[.pointer (some ⟨eb, 0, none⟩), .pointer (some ⟨b, 0, none⟩), .iface 65 (.pointer (some ⟨q, 0, none⟩))] w fun en w' => Below B w w' ∧ (l ≤ 4 → en = .returned .nilIface ∧ BB w' B b (t ++ (nameT 2 ++ tagT l ++ flatT dg 2 l f e ee))) ∧ (4 < l → ∃ u, en = .returned (.iface 134 u)) := by
  obtain ⟨l1, l9, hdiv, F1, F3, F6⟩ := hF
  have hd0 := hp.d0
  have hd1 := hp.d1
  obtain ⟨st, hst⟩ : ∃ st, st = (stride l).toNat := ⟨_, rfl⟩
  have hsb := stride_bd l l1 l9
  rw [← hst] at hdiv hsb F1 F3 F6
  have HSt : Hid (∀ w, Calls Tryz.prog 55 #[.int .i64 l] w fun en w' => en = .returned (.int .i64 (st : Nat)) ∧ w = w') := Lib.hid (by intro w; rw [← hsb.1]; exact strideCall l w)
  obtain ⟨hd, hhd⟩ : ∃ hd, hd = nameT 2 ++ tagT l := ⟨_, rfl⟩
  have hhl : hd.length ≤ 40 := by rw [hhd]; exact head_len _ _
  obtain ⟨bd, hbd⟩ : ∃ bd, bd = flatT dg 2 l f e ee := ⟨_, rfl⟩
  rw [← hhd, ← hbd] at hlen ⊢
  have hlen2 : t.length + hd.length + bd.length + 100 ≤ 70000000000000 := by rw [List.length_append] at hlen; omega
  have HST := Lib.hid hst
  have HHD := Lib.hid hhd
  have HBD := Lib.hid hbd
  have HD := Lib.hid hdiv
  have hs1 := hsb.2.1
  have hs2 := hsb.2.2
  have HV := Lib.hid hv
  have HP := Lib.hid hp
  have HB := Lib.hid h
  obtain ⟨a, cap, rfl⟩ := hv.lit
  clear hdiv F1 F3 F6 hst hhd hbd hsb hlen hv hp h
  have s62 := as65_62
  have s65 := as65_65
  have s68 := as65_68
  have s71 := as65_71
  have s75 := as65_75
  have s81 := as65_81
  have s84 := as65_84
  have s88 := as65_88
  by_cases h4 : 4 < l
  · have t0 : (l == 0) = false := beq_eq_false_iff_ne.2 (by omega)
    have t1 : (l == 1) = false := beq_eq_false_iff_ne.2 (by omega)
    have t2 : (l == 2) = false := beq_eq_false_iff_ne.2 (by omega)
    have t3 : (l == 3) = false := beq_eq_false_iff_ne.2 (by omega)
    have t4 : (l == 4) = false := beq_eq_false_iff_ne.2 (by omega)
    go_enter Tryz.func53, Tryz.ntmps53
    go_wp2_with fail
    refine (gLayout q w l c0).mono ?_
    rintro en w' ⟨rfl, rfl⟩
    go_wp2_with fail
    go_ret
    exact ⟨Below.refl _ _, fun h => absurd h (by omega), fun _ => ⟨_, rfl⟩⟩
  · go_enter Tryz.func53, Tryz.ntmps53
    go_wp2_with fail
    refine (gLayout q w l c0).mono ?_
    rintro en w' ⟨rfl, rfl⟩
    go_upto_block 1 with (fail)
    go_cut [7] (fun v7 wx => v7 = .string ⟨hd.toArray⟩ ∧ w = wx)
    case first =>
      have hl4 : l = 1 ∨ l = 2 ∨ l = 3 ∨ l = 4 := by omega
      rcases hl4 with rfl | rfl | rfl | rfl
      all_goals
        go_wp2_with fail
        go_meet
        exact ⟨by rw [HHD.out]; rfl, rfl⟩
    case rest =>
      obtain ⟨rfl, rfl⟩ := hcut
      go_wp2_with fail
      refine (writeString B b t hd w HB.out (by omega) HP.out.base).mono ?_
      rintro en w2 ⟨rfl, hb2', hbl2'⟩
      have hb2 := Lib.hid hb2'
      have HX : Hid (t ++ (hd ++ bd) = (t ++ hd) ++ bd) := Lib.hid (List.append_assoc _ _ _).symm
      have hbl2 := Lib.hid hbl2'
      have hp2 := Lib.hid (HP.out.below hbl2')
      have hv2 := Lib.hid (HV.out.below hbl2')
      have c2' : w2.cell? ⟨q, 2, none⟩ = some (.slice a f.length cap) := by rw [hbl2'.cell hq]; exact c2
      have htl : (t ++ hd).length = t.length + hd.length := List.length_append
      have HTL := Lib.hid htl
      clear c0 c2 HP HB HV hb2' hbl2' htl HHD
      by_cases hf0 : f = []
      · have HBE : Hid (bd = EMPTY) := Lib.hid (by rw [HBD.out]; unfold flatT; simp [hf0])
        have hz : f.length = 0 := by rw [hf0]; rfl
        rw [hz] at c2'
        clear hz
        go_wp2_with fail
        refine (gEmpty q w2 _ _ _ c2').mono ?_
        rintro en w' ⟨rfl, rfl⟩
        go_wp2_with fail
        refine (writeEMPTY B b eb _ w2 hb2.out hp2.out.base (by rw [HTL.out]; omega)).mono ?_
        rintro en w3 ⟨rfl, hb3, hbl3⟩
        go_wp2_with fail
        go_ret
        refine ⟨hbl2.out.trans hbl3, fun _ => ⟨rfl, ?_⟩, fun h => absurd h (by omega)⟩
        rw [HX.out, HBE.out]
        exact hb3
      · have hn0 : 0 < f.length := by exact List.length_pos_iff.2 hf0
        have HBE : Hid (bd = lineS dg st f) := Lib.hid (by rw [HBD.out, HST.out]; unfold flatT; simp [hf0])
        have HW : Hid (Calls Tryz.prog 67 #[.pointer (some ⟨eb, 0, none⟩), .pointer (some ⟨b, 0, none⟩), .slice a f.length cap, .int .i64 (st : Nat)] w2 fun en w' => en = .returned .nilIface ∧ BB w' B b ((t ++ hd) ++ bd) ∧ Below B w2 w') := Lib.hid (by
          have hdv : f.length = f.length / st * st := by have := Nat.div_add_mod f.length st; rw [HD.out, Nat.mul_comm] at this; omega
          have := writeFlat1 B b eb dg st (f.length / st) (t ++ hd) (.slice a f.length cap) f w2 hb2.out hp2.out hv2.out hs1 hs2 hdv hn0 (by rw [HTL.out, ← HBE.out]; omega)
          rw [HBE.out]; exact this)
        have hn1 : ((f.length : Int) == 0) = false := beq_eq_false_iff_ne.2 (by omega)
        obtain ⟨n, hn⟩ : ∃ n, n = f.length := ⟨_, rfl⟩
        rw [← hn] at hn1
        have HN := Lib.hid hn
        rw [← hn] at c2' HW
        clear hn hn0 HD HBD HST hp2 hb2 hv2
        go_wp2_with fail
        refine (gEmpty q w2 _ _ _ c2').mono ?_
        rintro en w' ⟨rfl, rfl⟩
        go_wp2_with fail
        refine (gFlat q w2 _ c2').mono ?_
        rintro en w' ⟨rfl, rfl⟩
        go_wp2_with fail
        refine (HSt.out w2).mono ?_
        rintro en w' ⟨rfl, rfl⟩
        go_wp2_with fail
        refine HW.out.mono ?_
        rintro en w3 ⟨rfl, hb3, hbl3⟩
        go_wp2_with fail
        go_ret
        refine ⟨hbl2.out.trans hbl3, fun _ => ⟨rfl, ?_⟩, fun h => absurd h (by omega)⟩
        rw [HX.out]
        exact hb3

set_option maxRecDepth 100000 in
set_option maxHeartbeats 4000000 in
theorem write8 (B b eb q : Nat) (dg l : Int) (f : List Nat) (e : List Int) (ee : List (List Int)) (t : List UInt8) (v : Value) (w : World) (hq : q < B) (c0 : w.cell? ⟨q, 0, none⟩ = some (.int .i64 l)) (c2 : w.cell? ⟨q, 2, none⟩ = some v) (hv : FRow w B v f)
    (h : BB w B b t) (hp : WPre B b eb dg w) (hF : FitF 8 l f e ee) (hlen : t.length + (nameT 8 ++ tagT l ++ flatT dg 8 l f e ee).length + 100 ≤ 70000000000000) :
    Calls Tryz.prog 53 #[.pointer (some ⟨eb, 0, none⟩), .pointer (some ⟨b, 0, none⟩), .iface 68 (.pointer (some ⟨q, 0, none⟩))] w fun en w' => Below B w w' ∧ (l ≤ 4 → en = .returned .nilIface ∧ BB w' B b (t ++ (nameT 8 ++ tagT l ++ flatT dg 8 l f e ee))) ∧ (4 < l → ∃ u, en = .returned (.iface 134 u)) := by
  obtain ⟨l1, l9, hdiv, F1, F3, F6⟩ := hF
  have hd0 := hp.d0
  have hd1 := hp.d1
  obtain ⟨st, hst⟩ : ∃ st, st = (stride l).toNat := ⟨_, rfl⟩
  have hsb := stride_bd l l1 l9
  rw [← hst] at hdiv hsb F1 F3 F6
  have HSt : Hid (∀ w, Calls Tryz.prog 55 #[.int .i64 l] w fun en w' => en = .returned (.int .i64 (st : Nat)) ∧ w = w') := Lib.hid (by intro w; rw [← hsb.1]; exact strideCall l w)
  obtain ⟨hd, hhd⟩ : ∃ hd, hd = nameT 8 ++ tagT l := ⟨_, rfl⟩
  have hhl : hd.length ≤ 40 := by rw [hhd]; exact head_len _ _
  obtain ⟨bd, hbd⟩ : ∃ bd, bd = flatT dg 8 l f e ee := ⟨_, rfl⟩
  rw [← hhd, ← hbd] at hlen ⊢
  have hlen2 : t.length + hd.length + bd.length + 100 ≤ 70000000000000 := by rw [List.length_append] at hlen; omega
  have HST := Lib.hid hst
  have HHD := Lib.hid hhd
  have HBD := Lib.hid hbd
  have HD := Lib.hid hdiv
  have hs1 := hsb.2.1
  have hs2 := hsb.2.2
  have HV := Lib.hid hv
  have HP := Lib.hid hp
  have HB := Lib.hid h
  obtain ⟨a, cap, rfl⟩ := hv.lit
  clear hdiv F1 F3 F6 hst hhd hbd hsb hlen hv hp h
  have s62 := as68_62
  have s65 := as68_65
  have s68 := as68_68
  have s71 := as68_71
  have s75 := as68_75
  have s81 := as68_81
  have s84 := as68_84
  have s88 := as68_88
  by_cases h4 : 4 < l
  · have t0 : (l == 0) = false := beq_eq_false_iff_ne.2 (by omega)
    have t1 : (l == 1) = false := beq_eq_false_iff_ne.2 (by omega)
    have t2 : (l == 2) = false := beq_eq_false_iff_ne.2 (by omega)
    have t3 : (l == 3) = false := beq_eq_false_iff_ne.2 (by omega)
    have t4 : (l == 4) = false := beq_eq_false_iff_ne.2 (by omega)
    go_enter Tryz.func53, Tryz.ntmps53
    go_wp2_with fail
    refine (gLayout q w l c0).mono ?_
    rintro en w' ⟨rfl, rfl⟩
    go_wp2_with fail
    go_ret
    exact ⟨Below.refl _ _, fun h => absurd h (by omega), fun _ => ⟨_, rfl⟩⟩
  · go_enter Tryz.func53, Tryz.ntmps53
    go_wp2_with fail
    refine (gLayout q w l c0).mono ?_
    rintro en w' ⟨rfl, rfl⟩
    go_upto_block 1 with (fail)
    go_cut [7] (fun v7 wx => v7 = .string ⟨hd.toArray⟩ ∧ w = wx)
    case first =>
      have hl4 : l = 1 ∨ l = 2 ∨ l = 3 ∨ l = 4 := by omega
      rcases hl4 with rfl | rfl | rfl | rfl
      all_goals
        go_wp2_with fail
        go_meet
        exact ⟨by rw [HHD.out]; rfl, rfl⟩
    case rest =>
      obtain ⟨rfl, rfl⟩ := hcut
      go_wp2_with fail
      refine (writeString B b t hd w HB.out (by omega) HP.out.base).mono ?_
      rintro en w2 ⟨rfl, hb2', hbl2'⟩
      have hb2 := Lib.hid hb2'
      have HX : Hid (t ++ (hd ++ bd) = (t ++ hd) ++ bd) := Lib.hid (List.append_assoc _ _ _).symm
      have hbl2 := Lib.hid hbl2'
      have hp2 := Lib.hid (HP.out.below hbl2')
      have hv2 := Lib.hid (HV.out.below hbl2')
      have c2' : w2.cell? ⟨q, 2, none⟩ = some (.slice a f.length cap) := by rw [hbl2'.cell hq]; exact c2
      have htl : (t ++ hd).length = t.length + hd.length := List.length_append
      have HTL := Lib.hid htl
      clear c0 c2 HP HB HV hb2' hbl2' htl HHD
      by_cases hf0 : f = []
      · have HBE : Hid (bd = EMPTY) := Lib.hid (by rw [HBD.out]; unfold flatT; simp [hf0])
        have hz : f.length = 0 := by rw [hf0]; rfl
        rw [hz] at c2'
        clear hz
        go_wp2_with fail
        refine (gEmpty q w2 _ _ _ c2').mono ?_
        rintro en w' ⟨rfl, rfl⟩
        go_wp2_with fail
        refine (writeEMPTY B b eb _ w2 hb2.out hp2.out.base (by rw [HTL.out]; omega)).mono ?_
        rintro en w3 ⟨rfl, hb3, hbl3⟩
        go_wp2_with fail
        go_ret
        refine ⟨hbl2.out.trans hbl3, fun _ => ⟨rfl, ?_⟩, fun h => absurd h (by omega)⟩
        rw [HX.out, HBE.out]
        exact hb3
      · have hn0 : 0 < f.length := by exact List.length_pos_iff.2 hf0
        have HBE : Hid (bd = lineS dg st f) := Lib.hid (by rw [HBD.out, HST.out]; unfold flatT; simp [hf0])
        have HW : Hid (Calls Tryz.prog 67 #[.pointer (some ⟨eb, 0, none⟩), .pointer (some ⟨b, 0, none⟩), .slice a f.length cap, .int .i64 (st : Nat)] w2 fun en w' => en = .returned .nilIface ∧ BB w' B b ((t ++ hd) ++ bd) ∧ Below B w2 w') := Lib.hid (by
          have hdv : f.length = f.length / st * st := by have := Nat.div_add_mod f.length st; rw [HD.out, Nat.mul_comm] at this; omega
          have := writeFlat1 B b eb dg st (f.length / st) (t ++ hd) (.slice a f.length cap) f w2 hb2.out hp2.out hv2.out hs1 hs2 hdv hn0 (by rw [HTL.out, ← HBE.out]; omega)
          rw [HBE.out]; exact this)
        have hn1 : ((f.length : Int) == 0) = false := beq_eq_false_iff_ne.2 (by omega)
        obtain ⟨n, hn⟩ : ∃ n, n = f.length := ⟨_, rfl⟩
        rw [← hn] at hn1
        have HN := Lib.hid hn
        rw [← hn] at c2' HW
        clear hn hn0 HD HBD HST hp2 hb2 hv2
        go_wp2_with fail
        refine (gEmpty q w2 _ _ _ c2').mono ?_
        rintro en w' ⟨rfl, rfl⟩
        go_wp2_with fail
        refine (gFlat q w2 _ c2').mono ?_
        rintro en w' ⟨rfl, rfl⟩
        go_wp2_with fail
        refine (HSt.out w2).mono ?_
        rintro en w' ⟨rfl, rfl⟩
        go_wp2_with fail
        refine HW.out.mono ?_
        rintro en w3 ⟨rfl, hb3, hbl3⟩
        go_wp2_with fail
        go_ret
        refine ⟨hbl2.out.trans hbl3, fun _ => ⟨rfl, ?_⟩, fun h => absurd h (by omega)⟩
        rw [HX.out]
        exact hb3
end Go.Proofs.YtlmilelopajdiaaGreatDoor
