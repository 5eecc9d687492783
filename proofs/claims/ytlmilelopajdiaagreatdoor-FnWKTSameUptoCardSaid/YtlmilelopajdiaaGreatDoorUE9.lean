/-
  Encoder.write at lines of many, polygons of many.
-/
import Derived.Test.YtlmilelopajdiaaGreatDoorUE4
import Derived.Deep.DeepCutAuto
import Derived.Deep.RegionWith
import Derived.Deep.CutBlock
namespace Go.Proofs.YtlmilelopajdiaaGreatDoor
open Go.RowKit


set_option maxRecDepth 100000 in
set_option maxHeartbeats 4000000 in
theorem write5 (B b eb q : Nat) (dg l : Int) (f : List Nat) (e : List Int) (ee : List (List Int)) (t : List UInt8) (v ve : Value) (w : World) (hq : q < B) (c0 : w.cell? ⟨q, 0, none⟩ = some (.int .i64 l)) (c2 : w.cell? ⟨q, 2, none⟩ = some v) (hv : FRow w B v f) (c4 : w.cell? ⟨q, 4, none⟩ = some ve) (hve : IRow w B ve (nats e))
    (h : BB w B b t) (hp : WPre B b eb dg w) (hF : FitF 5 l f e ee) (hlen : t.length + (nameT 5 ++ tagT l ++ flatT dg 5 l f e ee).length + 100 ≤ 70000000000000) :
    Calls Tryz.prog 53 #[.pointer (some ⟨eb, 0, none⟩), .pointer (some ⟨b, 0, none⟩), .iface 81 (.pointer (some ⟨q, 0, none⟩))] w fun en w' => Below B w w' ∧ (l ≤ 4 → en = .returned .nilIface ∧ BB w' B b (t ++ (nameT 5 ++ tagT l ++ flatT dg 5 l f e ee))) ∧ (4 < l → ∃ u, en = .returned (.iface 134 u)) := by
  obtain ⟨l1, l9, hdiv, F1, F3, F6⟩ := hF
  have hd0 := hp.d0
  have hd1 := hp.d1
  obtain ⟨st, hst⟩ : ∃ st, st = (stride l).toNat := ⟨_, rfl⟩
  have hsb := stride_bd l l1 l9
  rw [← hst] at hdiv hsb F1 F3 F6
  have HSt : Hid (∀ w, Calls Tryz.prog 55 #[.int .i64 l] w fun en w' => en = .returned (.int .i64 (st : Nat)) ∧ w = w') := Lib.hid (by intro w; rw [← hsb.1]; exact strideCall l w)
  obtain ⟨hd, hhd⟩ : ∃ hd, hd = nameT 5 ++ tagT l := ⟨_, rfl⟩
  have hhl : hd.length ≤ 40 := by rw [hhd]; exact head_len _ _
  obtain ⟨bd, hbd⟩ : ∃ bd, bd = flatT dg 5 l f e ee := ⟨_, rfl⟩
  rw [← hhd, ← hbd] at hlen ⊢
  have hlen2 : t.length + hd.length + bd.length + 100 ≤ 70000000000000 := by rw [List.length_append] at hlen; omega
  have HST := Lib.hid hst
  have HHD := Lib.hid hhd
  have HBD := Lib.hid hbd
  have HD := Lib.hid hdiv
  have HIn := Lib.hid (F3 (by simp)).1
  have HDv := Lib.hid ((F3 (by simp)).2.1 (by omega))
  have hs1 := hsb.2.1
  have hs2 := hsb.2.2
  have HV := Lib.hid hv
  have HP := Lib.hid hp
  have HB := Lib.hid h
  obtain ⟨a, cap, rfl⟩ := hv.lit
  have HVE := Lib.hid hve
  obtain ⟨a4, cap4, rfl⟩ := hve.lit
  clear hve
  clear hdiv F1 F3 F6 hst hhd hbd hsb hlen hv hp h
  have s62 := as81_62
  have s65 := as81_65
  have s68 := as81_68
  have s71 := as81_71
  have s75 := as81_75
  have s81 := as81_81
  have s84 := as81_84
  have s88 := as81_88
  by_cases h4 : 4 < l
  · have t0 : (l == 0) = false := beq_eq_false_iff_ne.2 (by omega)
    have t1 : (l == 1) = false := beq_eq_false_iff_ne.2 (by omega)
    have t2 : (l == 2) = false := beq_eq_false_iff_ne.2 (by omega)
    have t3 : (l == 3) = false := beq_eq_false_iff_ne.2 (by omega)
    have t4 : (l == 4) = false := beq_eq_false_iff_ne.2 (by omega)
    go_enter Tryz.func53, Tryz.ntmps53
    go_wp2_with fail
    refine (gLayout q w l c0).mono ?_
    rintro en w' ⟨rfl, rfl⟩
    go_wp2_with fail
    go_ret
    exact ⟨Below.refl _ _, fun h => absurd h (by omega), fun _ => ⟨_, rfl⟩⟩
  · go_enter Tryz.func53, Tryz.ntmps53
    go_wp2_with fail
    refine (gLayout q w l c0).mono ?_
    rintro en w' ⟨rfl, rfl⟩
    go_upto_block 1 with (fail)
    go_cut [7] (fun v7 wx => v7 = .string ⟨hd.toArray⟩ ∧ w = wx)
    case first =>
      have hl4 : l = 1 ∨ l = 2 ∨ l = 3 ∨ l = 4 := by omega
      rcases hl4 with rfl | rfl | rfl | rfl
      all_goals
        go_wp2_with fail
        go_meet
        exact ⟨by rw [HHD.out]; rfl, rfl⟩
    case rest =>
      obtain ⟨rfl, rfl⟩ := hcut
      go_wp2_with fail
      refine (writeString B b t hd w HB.out (by omega) HP.out.base).mono ?_
      rintro en w2 ⟨rfl, hb2', hbl2'⟩
      have hb2 := Lib.hid hb2'
      have HX : Hid (t ++ (hd ++ bd) = (t ++ hd) ++ bd) := Lib.hid (List.append_assoc _ _ _).symm
      have hbl2 := Lib.hid hbl2'
      have hp2 := Lib.hid (HP.out.below hbl2')
      have hv2 := Lib.hid (HV.out.below hbl2')
      have hve2 := Lib.hid (HVE.out.below hbl2')
      have c4' : w2.cell? ⟨q, 4, none⟩ = some (.slice a4 (nats e).length cap4) := by rw [hbl2'.cell hq]; exact c4
      have c2' : w2.cell? ⟨q, 2, none⟩ = some (.slice a f.length cap) := by rw [hbl2'.cell hq]; exact c2
      have htl : (t ++ hd).length = t.length + hd.length := List.length_append
      have HTL := Lib.hid htl
      clear c0 c2 HP HB HV c4 HVE hb2' hbl2' htl HHD
      by_cases hf0 : e = []
      · have HBE : Hid (bd = EMPTY) := Lib.hid (by rw [HBD.out]; unfold flatT; simp [hf0])
        have hz : (nats e).length = 0 := by rw [hf0]; rfl
        rw [hz] at c4'
        clear hz
        go_wp2_with fail
        refine (gNumLines q w2 _ _ _ c4').mono ?_
        rintro en w' ⟨rfl, rfl⟩
        go_wp2_with fail
        refine (writeEMPTY B b eb _ w2 hb2.out hp2.out.base (by rw [HTL.out]; omega)).mono ?_
        rintro en w3 ⟨rfl, hb3, hbl3⟩
        go_wp2_with fail
        go_ret
        refine ⟨hbl2.out.trans hbl3, fun _ => ⟨rfl, ?_⟩, fun h => absurd h (by omega)⟩
        rw [HX.out, HBE.out]
        exact hb3
      · have hn0 : 0 < (nats e).length := by unfold nats; rw [List.length_map]; exact List.length_pos_iff.2 hf0
        have hn4 := hn0
        have HBE : Hid (bd = partsT (lineS dg st) f 0 (nats e)) := Lib.hid (by rw [HBD.out, HST.out]; unfold flatT; simp [hf0])
        have HW : Hid (∀ w', Below w2.heap.size w2 w' → Calls Tryz.prog 68 #[.pointer (some ⟨eb, 0, none⟩), .pointer (some ⟨b, 0, none⟩), .slice a f.length cap, .int .i64 0, .slice a4 (nats e).length cap4, .int .i64 (st : Nat)] w' fun en w'' => en = .returned .nilIface ∧ BB w'' B b ((t ++ hd) ++ bd) ∧ Below B w' w'') := Lib.hid (by
          intro w' hbw
          have hb := hb2.out.below hbw
          have hbB := hbw.mono hp2.out.base
          have hp' := hp2.out.below hbB
          have hvv := hv2.out.below hbB
          have hve' := hve2.out.below hbB
          have := writeFlat2 B b eb dg st 0 hs1 hs2 (t ++ hd) (.slice a f.length cap) (.slice a4 (nats e).length cap4) f (nats e) w' hb hp' hvv hve' hn4 (by omega) HIn.out HDv.out (by rw [HTL.out, ← HBE.out]; omega)
          rw [HBE.out]; exact this)
        have hn1 : (((nats e).length : Int) == 0) = false := beq_eq_false_iff_ne.2 (by omega)
        obtain ⟨n, hn⟩ : ∃ n, n = (nats e).length := ⟨_, rfl⟩
        rw [← hn] at hn1
        have HN := Lib.hid hn
        rw [← hn] at c4' HW
        clear hn hn0 HD HBD HST hp2 hb2 hv2 hve2 hn4 HIn HDv
        go_wp2_with fail
        refine (gNumLines q w2 _ _ _ c4').mono ?_
        rintro en w' ⟨rfl, rfl⟩
        have hz : Below B w2 w2.drew := ⟨rfl, rfl, rfl, Nat.le_refl _, fun _ _ => rfl⟩
        have HG2 : Hid (∀ w', Below B w2 w' → Calls Tryz.prog 66 #[.pointer (some ⟨q, 0, none⟩)] w' fun en w'' => en = .returned (.slice a f.length cap) ∧ w' = w'') := Lib.hid (fun w' hb => gFlat q w' _ (by rw [hb.cell hq]; exact c2'))
        have HG4 : Hid (∀ w', Below B w2 w' → Calls Tryz.prog 69 #[.pointer (some ⟨q, 0, none⟩)] w' fun en w'' => en = .returned (.slice a4 n cap4) ∧ w' = w'') := Lib.hid (fun w' hb => gEnds q w' _ (by rw [hb.cell hq]; exact c4'))
        go_wp2_with fail
        go_region_with (first
          | (go_at_call 66; refine (HG2.out _ ?_).mono ?_; exact ⟨rfl, rfl, rfl, Nat.le_refl _, fun _ _ => rfl⟩; rintro en w' ⟨rfl, rfl⟩)
          | (go_at_call 69; refine (HG4.out _ ?_).mono ?_; exact ⟨rfl, rfl, rfl, Nat.le_refl _, fun _ _ => rfl⟩; rintro en w' ⟨rfl, rfl⟩)
          | (go_at_call 55; refine (HSt.out _).mono ?_; rintro en w' ⟨rfl, rfl⟩)
          | (go_at_call 68; refine (HW.out _ ?_).mono ?_; exact ⟨rfl, rfl, rfl, Nat.le_refl _, fun _ _ => rfl⟩; rintro en w3 ⟨rfl, hb3, hbl3⟩))
        all_goals
          go_wp2_with fail
          go_ret
          refine ⟨hbl2.out.trans (hz.trans hbl3), fun _ => ⟨rfl, ?_⟩, fun h => absurd h (by omega)⟩
          rw [HX.out]
          exact hb3

set_option maxRecDepth 100000 in
set_option maxHeartbeats 4000000 in
theorem write6 (B b eb q : Nat) (dg l : Int) (f : List Nat) (e : List Int) (ee : List (List Int)) (t : List UInt8) (v ve : Value) (w : World) (hq : q < B) (c0 : w.cell? ⟨q, 0, none⟩ = some (.int .i64 l)) (c2 : w.cell? ⟨q, 2, none⟩ = some v) (hv : FRow w B v f) (c4 : w.cell? ⟨q, 4, none⟩ = some ve) (hve : SRow w B ve (ee.map nats))
    (h : BB w B b t) (hp : WPre B b eb dg w) (hF : FitF 6 l f e ee) (hlen : t.length + (nameT 6 ++ tagT l ++ flatT dg 6 l f e ee).length + 100 ≤ 70000000000000) :
    Calls Tryz.prog 53 #[.pointer (some ⟨eb, 0, none⟩), .pointer (some ⟨b, 0, none⟩), .iface 84 (.pointer (some ⟨q, 0, none⟩))] w fun en w' => Below B w w' ∧ (l ≤ 4 → en = .returned .nilIface ∧ BB w' B b (t ++ (nameT 6 ++ tagT l ++ flatT dg 6 l f e ee))) ∧ (4 < l → ∃ u, en = .returned (.iface 134 u)) := by
  obtain ⟨l1, l9, hdiv, F1, F3, F6⟩ := hF
  have hd0 := hp.d0
  have hd1 := hp.d1
  obtain ⟨st, hst⟩ : ∃ st, st = (stride l).toNat := ⟨_, rfl⟩
  have hsb := stride_bd l l1 l9
  rw [← hst] at hdiv hsb F1 F3 F6
  have HSt : Hid (∀ w, Calls Tryz.prog 55 #[.int .i64 l] w fun en w' => en = .returned (.int .i64 (st : Nat)) ∧ w = w') := Lib.hid (by intro w; rw [← hsb.1]; exact strideCall l w)
  obtain ⟨hd, hhd⟩ : ∃ hd, hd = nameT 6 ++ tagT l := ⟨_, rfl⟩
  have hhl : hd.length ≤ 40 := by rw [hhd]; exact head_len _ _
  obtain ⟨bd, hbd⟩ : ∃ bd, bd = flatT dg 6 l f e ee := ⟨_, rfl⟩
  rw [← hhd, ← hbd] at hlen ⊢
  have hlen2 : t.length + hd.length + bd.length + 100 ≤ 70000000000000 := by rw [List.length_append] at hlen; omega
  have HST := Lib.hid hst
  have HHD := Lib.hid hhd
  have HBD := Lib.hid hbd
  have HD := Lib.hid hdiv
  have H6 := Lib.hid (F6 rfl)
  have hs1 := hsb.2.1
  have hs2 := hsb.2.2
  have HV := Lib.hid hv
  have HP := Lib.hid hp
  have HB := Lib.hid h
  obtain ⟨a, cap, rfl⟩ := hv.lit
  have HVE := Lib.hid hve
  obtain ⟨a4, cap4, rfl⟩ := hve.lit
  clear hve
  clear hdiv F1 F3 F6 hst hhd hbd hsb hlen hv hp h
  have s62 := as84_62
  have s65 := as84_65
  have s68 := as84_68
  have s71 := as84_71
  have s75 := as84_75
  have s81 := as84_81
  have s84 := as84_84
  have s88 := as84_88
  by_cases h4 : 4 < l
  · have t0 : (l == 0) = false := beq_eq_false_iff_ne.2 (by omega)
    have t1 : (l == 1) = false := beq_eq_false_iff_ne.2 (by omega)
    have t2 : (l == 2) = false := beq_eq_false_iff_ne.2 (by omega)
    have t3 : (l == 3) = false := beq_eq_false_iff_ne.2 (by omega)
    have t4 : (l == 4) = false := beq_eq_false_iff_ne.2 (by omega)
    go_enter Tryz.func53, Tryz.ntmps53
    go_wp2_with fail
    refine (gLayout q w l c0).mono ?_
    rintro en w' ⟨rfl, rfl⟩
    go_wp2_with fail
    go_ret
    exact ⟨Below.refl _ _, fun h => absurd h (by omega), fun _ => ⟨_, rfl⟩⟩
  · go_enter Tryz.func53, Tryz.ntmps53
    go_wp2_with fail
    refine (gLayout q w l c0).mono ?_
    rintro en w' ⟨rfl, rfl⟩
    go_upto_block 1 with (fail)
    go_cut [7] (fun v7 wx => v7 = .string ⟨hd.toArray⟩ ∧ w = wx)
    case first =>
      have hl4 : l = 1 ∨ l = 2 ∨ l = 3 ∨ l = 4 := by omega
      rcases hl4 with rfl | rfl | rfl | rfl
      all_goals
        go_wp2_with fail
        go_meet
        exact ⟨by rw [HHD.out]; rfl, rfl⟩
    case rest =>
      obtain ⟨rfl, rfl⟩ := hcut
      go_wp2_with fail
      refine (writeString B b t hd w HB.out (by omega) HP.out.base).mono ?_
      rintro en w2 ⟨rfl, hb2', hbl2'⟩
      have hb2 := Lib.hid hb2'
      have HX : Hid (t ++ (hd ++ bd) = (t ++ hd) ++ bd) := Lib.hid (List.append_assoc _ _ _).symm
      have hbl2 := Lib.hid hbl2'
      have hp2 := Lib.hid (HP.out.below hbl2')
      have hv2 := Lib.hid (HV.out.below hbl2')
      have hve2 := Lib.hid (HVE.out.below hbl2')
      have c4' : w2.cell? ⟨q, 4, none⟩ = some (.slice a4 (ee.map nats).length cap4) := by rw [hbl2'.cell hq]; exact c4
      have c2' : w2.cell? ⟨q, 2, none⟩ = some (.slice a f.length cap) := by rw [hbl2'.cell hq]; exact c2
      have htl : (t ++ hd).length = t.length + hd.length := List.length_append
      have HTL := Lib.hid htl
      clear c0 c2 HP HB HV c4 HVE hb2' hbl2' htl HHD
      by_cases hf0 : ee = []
      · have HBE : Hid (bd = EMPTY) := Lib.hid (by rw [HBD.out]; unfold flatT; simp [hf0])
        have hz : (ee.map nats).length = 0 := by rw [hf0]; rfl
        rw [hz] at c4'
        clear hz
        go_wp2_with fail
        refine (gNumPolys q w2 _ _ _ c4').mono ?_
        rintro en w' ⟨rfl, rfl⟩
        go_wp2_with fail
        refine (writeEMPTY B b eb _ w2 hb2.out hp2.out.base (by rw [HTL.out]; omega)).mono ?_
        rintro en w3 ⟨rfl, hb3, hbl3⟩
        go_wp2_with fail
        go_ret
        refine ⟨hbl2.out.trans hbl3, fun _ => ⟨rfl, ?_⟩, fun h => absurd h (by omega)⟩
        rw [HX.out, HBE.out]
        exact hb3
      · have hn0 : 0 < (ee.map nats).length := by rw [List.length_map]; exact List.length_pos_iff.2 hf0
        have hn4 := hn0
        have HBE : Hid (bd = areasT dg st f (ee.map nats)) := Lib.hid (by rw [HBD.out, HST.out]; unfold flatT; simp [hf0])
        have HW : Hid (∀ w', Below w2.heap.size w2 w' → Calls Tryz.prog 74 #[.pointer (some ⟨eb, 0, none⟩), .pointer (some ⟨b, 0, none⟩), .slice a f.length cap, .slice a4 (ee.map nats).length cap4, .int .i64 (st : Nat)] w' fun en w'' => en = .returned .nilIface ∧ BB w'' B b ((t ++ hd) ++ bd) ∧ Below B w' w'') := Lib.hid (by
          intro w' hbw
          have hb := hb2.out.below hbw
          have hbB := hbw.mono hp2.out.base
          have hp' := hp2.out.below hbB
          have hvv := hv2.out.below hbB
          have hve' := hve2.out.below hbB
          have := writeFlat3 B b eb dg st hs1 hs2 (t ++ hd) (.slice a f.length cap) (.slice a4 (ee.map nats).length cap4) f (ee.map nats) w' hb hp' hvv hve' hn4 H6.out.1 H6.out.2.1 H6.out.2.2 (by rw [HTL.out, ← HBE.out]; omega)
          rw [HBE.out]; exact this)
        have hn1 : (((ee.map nats).length : Int) == 0) = false := beq_eq_false_iff_ne.2 (by omega)
        obtain ⟨n, hn⟩ : ∃ n, n = (ee.map nats).length := ⟨_, rfl⟩
        rw [← hn] at hn1
        have HN := Lib.hid hn
        rw [← hn] at c4' HW
        clear hn hn0 HD HBD HST hp2 hb2 hv2 hve2 hn4 H6
        go_wp2_with fail
        refine (gNumPolys q w2 _ _ _ c4').mono ?_
        rintro en w' ⟨rfl, rfl⟩
        have hz : Below B w2 w2.drew := ⟨rfl, rfl, rfl, Nat.le_refl _, fun _ _ => rfl⟩
        have HG2 : Hid (∀ w', Below B w2 w' → Calls Tryz.prog 66 #[.pointer (some ⟨q, 0, none⟩)] w' fun en w'' => en = .returned (.slice a f.length cap) ∧ w' = w'') := Lib.hid (fun w' hb => gFlat q w' _ (by rw [hb.cell hq]; exact c2'))
        have HG4 : Hid (∀ w', Below B w2 w' → Calls Tryz.prog 75 #[.pointer (some ⟨q, 0, none⟩)] w' fun en w'' => en = .returned (.slice a4 n cap4) ∧ w' = w'') := Lib.hid (fun w' hb => gEndss q w' _ (by rw [hb.cell hq]; exact c4'))
        go_wp2_with fail
        go_region_with (first
          | (go_at_call 66; refine (HG2.out _ ?_).mono ?_; exact ⟨rfl, rfl, rfl, Nat.le_refl _, fun _ _ => rfl⟩; rintro en w' ⟨rfl, rfl⟩)
          | (go_at_call 75; refine (HG4.out _ ?_).mono ?_; exact ⟨rfl, rfl, rfl, Nat.le_refl _, fun _ _ => rfl⟩; rintro en w' ⟨rfl, rfl⟩)
          | (go_at_call 55; refine (HSt.out _).mono ?_; rintro en w' ⟨rfl, rfl⟩)
          | (go_at_call 74; refine (HW.out _ ?_).mono ?_; exact ⟨rfl, rfl, rfl, Nat.le_refl _, fun _ _ => rfl⟩; rintro en w3 ⟨rfl, hb3, hbl3⟩))
        all_goals
          go_wp2_with fail
          go_ret
          refine ⟨hbl2.out.trans (hz.trans hbl3), fun _ => ⟨rfl, ?_⟩, fun h => absurd h (by omega)⟩
          rw [HX.out]
          exact hb3
end Go.Proofs.YtlmilelopajdiaaGreatDoor
