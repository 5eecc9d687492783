/-
  ftoa64 at the format f: its ways.
-/
import Derived.Test.YtlmilelopajdiaaGreatDoorUC2
import Derived.Deep.DeepCutAuto
import Derived.Deep.RegionWith
import Derived.Deep.CutBlock
import Derived.Lib.ItoaLen
namespace Go.Proofs.YtlmilelopajdiaaGreatDoor
open Go.RowKit


set_option maxRecDepth 100000 in
set_option maxHeartbeats 2000000 in
theorem ftoa_fast_d (b mant : Nat) (exp prec : Int) (h : Fl b mant exp) (h0 : 1 ≤ mant) (hp0 : 0 ≤ prec) (hp1 : prec ≤ 100) (s m L dn d : Nat) (K p : Int) (hF : Fast mant exp prec s m L dn d K p) (h1 : 1 ≤ d) : FtEx b prec := by
  have HF := Lib.hid h
  obtain ⟨g1, g2, g3, g4⟩ := h.bounds
  obtain ⟨b1, way⟩ := h
  have hdg0 : dgF exp prec ≤ 1000 := by unfold dgF lg10; split <;> omega
  have hdg1 : -1000 ≤ dgF exp prec := by unfold dgF lg10; split <;> omega
  obtain ⟨hs, hs1, hs2, m0, m1, hsh, HLen', k0, k1, hK, hdd, dn1, dn0, HFW', r2, r3, r4⟩ := hF
  have HLen := Lib.hid HLen'
  have HFW := Lib.hid HFW'
  have HK := Lib.hid hK
  have HDD := Lib.hid hdd
  clear HLen' HFW' hK hdd g4 HF
  have hd1 : 1 ≤ d := h1
  have HDZ : Hid (((d : Int) != 0) = true) := Lib.hid (by simp; omega)
  clear h1
  obtain ⟨n, hn⟩ : ∃ n, n = Lib.nDigits d := ⟨_, rfl⟩
  have hn1 : n ≤ 20 := by rw [hn]; exact Lib.nDigits_le20 d (by omega)
  have hdn : d < 10 ^ n := by rw [hn]; exact Lib.lt_pow_nDigits d
  have HND := Lib.hid (fun w ht => Tryz.internal_strconv_numDigits d (by omega) (by omega) w ht)
  rw [← hn] at HND
  clear hn
  have HSD := Lib.hid (fun w b (h2 : BRow w b (fun _ => 0) n) => setDigits w b 24 n d p (fun _ => 0) (fun _ _ => ⟨Int.le_refl 0, by decide⟩) h2 (by omega) (by omega) hdn (by omega) (by omega) (by omega))
  obtain ⟨D, hD⟩ : ∃ D, D = dgi d n := ⟨_, rfl⟩
  rw [← hD] at HSD
  have HDG : Hid (∀ j, 48 ≤ D j ∧ D j ≤ 57) := Lib.hid (by rw [hD]; exact dgi_bd d n)
  obtain ⟨nd, hnd⟩ : ∃ nd, nd = tz D n := ⟨_, rfl⟩
  have hnd1 : nd ≤ n := by rw [hnd]; exact tz_le D n
  rw [← hnd] at HSD
  clear hnd hD hdn
  refine ⟨D, (n : Int) + p, nd, prec.toNat, fun j _ => HDG.out j, by omega, by omega, by omega, by omega, ?_⟩
  clear HDG
  have r1' : (1 : Int) ≤ d := by omega
  clear hd1
  intro B v W how hT hBW
  have hfb := float64bits_run b
  obtain ⟨ng, hng⟩ : ∃ ng : Bool, ((b : Int) / 9223372036854775808 != 0) = ng := ⟨_, rfl⟩
  have hsg : Hid (sg b = ng) := Lib.hid hng
  obtain ⟨ef, hef⟩ : ∃ ef, ef = b / 4503599627370496 % 2048 := ⟨_, rfl⟩
  obtain ⟨mf, hmf⟩ : ∃ mf, mf = b % 4503599627370496 := ⟨_, rfl⟩
  have hE : bits .and .i64 ((b : Int) / 4503599627370496) 2047 = (ef : Int) := by rw [hef]; exact and_2047 b b1
  have hM : bits .and .u64 (b : Int) 4503599627370495 = (mf : Int) := by rw [hmf]; exact and_52 b b1
  have hef1 : ef ≤ 2047 := by omega
  have hmf1 : mf < 4503599627370496 := by omega
  rw [← hef, ← hmf] at way
  have hne : ((ef : Int) == 2047) = false := by rw [beq_eq_false_iff_ne]; omega
  have HW := Lib.hid way
  clear way hef hmf
  go_enter Tryz.func85, Tryz.ntmps85
  go_wp2_with fail
  go_quiet (fail)
  go_upto_if 78 with (fail)
  go_cut [14, 15] (fun v14 v15 wx => v14 = .int .i64 (exp + 1023) ∧ v15 = .int .u64 mant ∧ ∃ j, wx = W.drewN j)
  case first =>
    rcases HW.out with ⟨g1, g2, g3⟩ | ⟨g1, g2, g3, g4⟩
    · have t1 : ((ef : Int) == 0) = true := by rw [beq_iff_eq]; omega
      have g1' : (ef : Int) = 0 := by omega
      have HE : Hid (exp + 1023 = (ef : Int) + 1) := Lib.hid (by omega)
      have HM : Hid (mant = mf) := Lib.hid g2
      clear g1 g2 g3 g1'
      go_wp2_with fail
      go_meet
      exact ⟨by rw [HE.out], by rw [HM.out], _, rfl⟩
    · have t1 : ((ef : Int) == 0) = false := by rw [beq_eq_false_iff_ne]; omega
      have HO := or_52 mf hmf1
      have HE : Hid (exp + 1023 = (ef : Int)) := Lib.hid (by omega)
      have HM : Hid (mant = mf + 4503599627370496) := Lib.hid g3
      clear g1 g2 g3 g4
      go_wp2_with fail
      go_meet
      exact ⟨by rw [HE.out], by rw [HM.out]; go_num, _, rfl⟩
  case rest =>
    obtain ⟨rfl, rfl, j, rfl⟩ := hcut
    clear HW hE hM hne
    have howj : (W.drewN j).ownsRow B 5 1 v 0 [] := how
    have hBWj : B ≤ (W.drewN j).heap.size := hBW
    have hbj : Below B W (W.drewN j) := ⟨rfl, rfl, rfl, Nat.le_refl _, fun _ _ => rfl⟩
    have hTj : Tabs B (W.drewN j) := hT.below hbj
    generalize W.drewN j = w1 at *
    have h0' : ((mant : Int) == 0) = false := by rw [beq_eq_false_iff_ne]; omega
    have hopt := hTj.opt
    have E0 : exp + 1023 + -1023 = exp := by omega
    go_upto_block 2 with (fail)
    go_cut [3, 24] (fun v3 v24 wx => v3 = .int .i64 prec ∧ v24 = .int .i64 (dgF exp prec) ∧ w1 = wx)
    case first =>
      by_cases he : 0 ≤ exp
      · have HG : Hid (dgF exp prec = 1 + lg10 (1 + exp) + prec) := Lib.hid (by unfold dgF; rw [if_pos he])
        have q1 : -1000 ≤ lg10 (1 + exp) := by unfold lg10; omega
        have q2 : lg10 (1 + exp) ≤ 1000 := by unfold lg10; omega
        go_wp2_with fail
        refine (log10Pow2 _ (by omega) (by omega) _).mono ?_
        rintro en w' ⟨rfl, rfl⟩
        go_wp2_with fail
        go_meet
        exact ⟨rfl, by rw [HG.out], rfl⟩
      · have HG : Hid (dgF exp prec = 1 + prec - lg10 (-exp)) := Lib.hid (by unfold dgF; rw [if_neg he])
        have q1 : -1000 ≤ lg10 (-exp) := by unfold lg10; omega
        have q2 : lg10 (-exp) ≤ 1000 := by unfold lg10; omega
        go_wp2_with fail
        refine (log10Pow2 _ (by omega) (by omega) _).mono ?_
        rintro en w' ⟨rfl, rfl⟩
        go_wp2_with fail
        go_meet
        exact ⟨rfl, by rw [HG.out], rfl⟩
    case rest =>
      obtain ⟨rfl, rfl, rfl⟩ := hcut
      clear hopt
      rw [HDD.out]
      go_wp2_with fail
      refine (HLen.out _).mono ?_
      rintro e w' ⟨rfl, rfl⟩
      go_wp2_with fail
      rw [← HK.out]
      clear HLen
      have hrep : ∀ w : World, (w.alloc (.cells #[.int .u8 0, .int .u8 0, .int .u8 0, .int .u8 0, .int .u8 0, .int .u8 0, .int .u8 0, .int .u8 0, .int .u8 0, .int .u8 0, .int .u8 0, .int .u8 0, .int .u8 0, .int .u8 0, .int .u8 0, .int .u8 0, .int .u8 0, .int .u8 0, .int .u8 0, .int .u8 0, .int .u8 0, .int .u8 0, .int .u8 0, .int .u8 0] 174)).heap[w.heap.size]? = some (.cells (Array.replicate 24 (.int .u8 0)) 174 (0, 0)) := fun w => heap_alloc_new w _
      have hbk := hrep w1
      have hb2 : Below w1.heap.size w1 (w1.alloc (.cells #[.int .u8 0, .int .u8 0, .int .u8 0, .int .u8 0, .int .u8 0, .int .u8 0, .int .u8 0, .int .u8 0, .int .u8 0, .int .u8 0, .int .u8 0, .int .u8 0, .int .u8 0, .int .u8 0, .int .u8 0, .int .u8 0, .int .u8 0, .int .u8 0, .int .u8 0, .int .u8 0, .int .u8 0, .int .u8 0, .int .u8 0, .int .u8 0] 174)) := (Below.refl _ _).alloc (Nat.le_refl _) _
      clear hrep
      generalize w1.alloc _ = w2 at hbk hb2 ⊢
      obtain ⟨b0, hb0⟩ : ∃ b0, b0 = w1.heap.size := ⟨_, rfl⟩
      have HOW := Lib.hid (fun w' (hb : Below b0 w1 w') => own_below howj (by rw [← hb0]; exact hb))
      rw [← hb0] at hbk hb2 hBWj ⊢
      clear hb0
      have hbl := lt_of_block hbk
      have hT2 := hTj.below (hb2.mono hBWj)
      have h6 := hTj.lt
      refine (HFW.out B w2 (by omega) hT2).mono ?_
      rintro e w3 ⟨rfl, hb3⟩
      have HR : Hid (BRow w3 b0 (fun _ => 0) n) := Lib.hid (brow_below (brow_new w2 b0 24 n 174 (by decide) (by omega) hbk) hb3)
      have hT3 := hT2.below (hb3.mono (by omega))
      have hb13 := hb2.trans (hb3.mono (by omega))
      clear hbk hb2 hb3 HFW hbl hT2 hTj
      generalize w3.heap.size = sz3 at *
      have hsl := slice174 b0
      have hdz := HDZ.out
      have HT3 := Lib.hid (fun w' (hb : Below B w3 w') => (hT3.below hb).u10)
      clear hT3
      have hz : Below b0 w3 w3.drew := ⟨rfl, rfl, rfl, Nat.le_refl _, fun _ _ => rfl⟩
      go_wp2_with fail
      go_region_with (first
        | (go_at_call 97; refine (HND.out _ ?_).mono ?_; exact HT3.out _ ⟨rfl, rfl, rfl, Nat.le_refl _, fun _ _ => rfl⟩; rintro e w' ⟨rfl, rfl⟩)
        | (go_at_call 96; refine (HSD.out _ b0 ?_).mono ?_; exact brow_below HR.out ⟨rfl, rfl, rfl, Nat.le_refl _, fun _ _ => rfl⟩; rintro e w4 ⟨rfl, hb4', hR4⟩))
      have hb4 := hz.trans hb4'
      have how4 := HOW.out w4 (hb13.trans hb4)
      have HB4 : Hid (Below B W w4) := Lib.hid (hbj.trans ((hb13.trans hb4).mono hBWj))
      have hs4 : B ≤ w4.heap.size := by have := HB4.out.size; omega
      have hsrc : Src w4 b0 D nd := brow_src hR4 hnd1
      clear HOW hb13 hb4 hR4 HR HT3 HND HSD hbj
      go_wp2_with fail
      refine (fmtF B b0 D nd 24 24 prec.toNat ((n : Int) + p) ng _ _ w4 v ⟨how4, hsrc, Below.refl _ _, hs4⟩ (fun _ => rfl) (by omega) (by omega) (by omega) (by omega) (by omega) (by omega) prec (by omega)).mono ?_
      rintro e w' ⟨v', rfl, hF⟩
      go_wp2_with fail
      go_ret
      rw [hsg.out]
      exact ⟨_, rfl, hF.own, HB4.out.trans hF.below⟩
end Go.Proofs.YtlmilelopajdiaaGreatDoor
