/-
  ftoa64 at the format f: its ways.
-/
import Derived.Test.YtlmilelopajdiaaGreatDoorUC2
import Derived.Deep.DeepCutAuto
import Derived.Deep.RegionWith
import Derived.Deep.CutBlock
import Derived.Lib.ItoaLen
namespace Go.Proofs.YtlmilelopajdiaaGreatDoor
open Go.RowKit


theorem z179 : Tryz.zeroCells179 = Array.replicate 800 (.int .u8 0) ++ #[.int .i64 0, .int .i64 0, .bool false, .bool false] := by kernel_rfl
theorem slice177 (b : Nat) (w : World) : (Instr.sliceAt 177 (.pointer (some ⟨b, 0, none⟩)) none none none).run Tryz.prog w = .ok (.slice (some ⟨b, 0, none⟩) 800 800) w := by kernel_rfl
def dec0 : Dc := ⟨fun _ => 0, 0, 0, false⟩
theorem dec_new (w : World) : DecAt (w.alloc (.cells (Array.replicate 800 (.int .u8 0) ++ #[.int .i64 0, .int .i64 0, .bool false, .bool false]) 179)) w.heap.size dec0 := by
  refine ⟨_, heap_alloc_new w _, by simp, fun j hj => ?_, by simp [dec0], by simp [dec0], by simp [dec0]⟩
  rw [Array.getElem?_append_left (by simpa using hj), Array.getElem?_replicate, if_pos hj]; rfl
theorem rup_dig (s : Dc) (h : ∀ j, j < s.nd → 48 ≤ s.E j ∧ s.E j ≤ 57) : ∀ i, i ≤ s.nd → i ≤ 800 → ∀ j, j < (rup s i).nd → 48 ≤ (rup s i).E j ∧ (rup s i).E j ≤ 57
  | 0, _, _ => by
    intro j hj
    simp only [rup] at hj ⊢
    obtain rfl : j = 0 := by omega
    rw [upd_same]; omega
  | i + 1, hi, h8 => by
    rw [rup]; split
    · intro j hj
      dsimp only at hj ⊢
      by_cases e : j = i
      · subst e; rw [upd_same]; have := h j (by omega); omega
      · rw [upd_other _ _ _ _ e]; exact h j (by omega)
    · exact rup_dig s h i (by omega) (by omega)
theorem rup_dp (s : Dc) : ∀ i, s.dp ≤ (rup s i).dp ∧ (rup s i).dp ≤ s.dp + 1
  | 0 => by simp only [rup]; omega
  | i + 1 => by
    rw [rup]; split
    · dsimp only; omega
    · exact rup_dp s i
theorem rnd_dig (s : Dc) (n : Int) (h : Dig s) (h0 : -60000 ≤ s.dp) (h1 : s.dp ≤ 60000) : (∀ j, j < (rndD s n).nd → 48 ≤ (rndD s n).E j ∧ (rndD s n).E j ≤ 57) ∧ (rndD s n).nd ≤ 800 ∧ -60500 ≤ (rndD s n).dp ∧ (rndD s n).dp ≤ 60500 := by
  obtain ⟨n1, n8, hd, _⟩ := h
  unfold rndD
  split
  · exact ⟨hd, n8, by omega, by omega⟩
  · split
    · have := rup_dp s n.toNat
      exact ⟨rup_dig s hd _ (by omega) (by omega), rup_nd s _ (by omega), by omega, by omega⟩
    · have hz := tz_le s.E n.toNat
      unfold trimD
      dsimp only
      refine ⟨fun j hj => hd j (by omega), by omega, ?_, ?_⟩
      · split <;> omega
      · split <;> omega
theorem dec_src {w : World} {b : Nat} {s : Dc} (h : DecAt w b s) (h8 : s.nd ≤ 800) : Src w b s.E s.nd := by
  obtain ⟨cs, h1, _, h2, _⟩ := h
  exact Or.inr ⟨cs, 179, h1, by decide, fun j hj => h2 j (by omega)⟩
/-- What the slow way reckons with. -/
structure Slow (mant : Nat) (exp prec : Int) (s1 s2 s3 : Dc) : Prop where
  asg : ∀ (w : World) (b : Nat), DecAt w b dec0 → Calls Tryz.prog 100 #[.pointer (some ⟨b, 0, none⟩), .int .u64 mant] w fun e w' => e = .returned (.tuple #[]) ∧ DecAt w' b s1 ∧ Below b w w'
  shf : ∀ (w : World) (B b : Nat), DecAt w b s1 → Tabs B w → B ≤ b → Calls Tryz.prog 101 #[.pointer (some ⟨b, 0, none⟩), .int .i64 (exp - 52)] w fun e w' => e = .returned (.tuple #[]) ∧ DecAt w' b s2 ∧ Below b w w'
  rnd : ∀ (w : World) (b : Nat), DecAt w b s2 → Calls Tryz.prog 102 #[.pointer (some ⟨b, 0, none⟩), .int .i64 (s2.dp + prec)] w fun e w' => e = .returned (.tuple #[]) ∧ DecAt w' b s3 ∧ Below b w w'
  dp0 : -60000 ≤ s2.dp
  dp1 : s2.dp ≤ 60000
  dig : ∀ j, j < s3.nd → 48 ≤ s3.E j ∧ s3.E j ≤ 57
  n8 : s3.nd ≤ 800
  dq0 : -60500 ≤ s3.dp
  dq1 : s3.dp ≤ 60500
theorem pow_le_nDigits : ∀ u : Nat, 1 ≤ u → 10 ^ (Lib.nDigits u - 1) ≤ u := by
  intro u
  induction u using Nat.strongRecOn with
  | ind u ih =>
    intro h1
    by_cases h : u < 10
    · rw [Lib.nDigits_small h]; exact h1
    · have h2 := ih (u / 10) (by omega) (by omega)
      have h3 := Lib.nDigits_pos (u / 10)
      rw [Lib.nDigits_big h]
      obtain ⟨k, hk⟩ : ∃ k, Lib.nDigits (u / 10) = k + 1 := ⟨Lib.nDigits (u / 10) - 1, by omega⟩
      rw [hk] at h2 ⊢
      simp only [Nat.add_sub_cancel] at h2 ⊢
      rw [Nat.pow_succ]; omega
theorem slow_ex (b mant : Nat) (exp prec : Int) (h : Fl b mant exp) (h0 : 1 ≤ mant) : ∃ (s1 s2 s3 : Dc), Slow mant exp prec s1 s2 s3 := by
  obtain ⟨g1, g2, g3, g4⟩ := h.bounds
  obtain ⟨N, hN⟩ : ∃ N, N = Lib.nDigits mant := ⟨_, rfl⟩
  have hN1 : 1 ≤ N := by rw [hN]; exact Lib.nDigits_pos mant
  have hN20 : N ≤ 20 := by rw [hN]; exact Lib.nDigits_le20 mant (by omega)
  have hlt : mant < 10 ^ N := by rw [hN]; exact Lib.lt_pow_nDigits mant
  have hge : 10 ^ (N - 1) ≤ mant := by rw [hN]; exact pow_le_nDigits mant h0
  have hV : Val { dec0 with E := fun j => if j < N then dgi mant N j else dec0.E j, nd := N, dp := N } mant :=
    ⟨hN1, fun j hj => by dsimp only at hj ⊢; rw [if_pos hj], hlt, hge⟩
  obtain ⟨z, hz, hzp, hzn⟩ := trim_val _ _ hV
  have hzp' : (trimD { dec0 with E := fun j => if j < N then dgi mant N j else dec0.E j, nd := N, dp := N }).dp = (N : Int) := hzp
  have hzn' : (trimD { dec0 with E := fun j => if j < N then dgi mant N j else dec0.E j, nd := N, dp := N }).nd ≤ N := hzn
  have HAS := fun w b hD => assign w b dec0 hD mant N (by omega) hN20 (Nat.div_eq_of_lt hlt) (Or.inr (Nat.div_pos hge (Nat.pow_pos (by omega))))
  clear hzp hzn hV
  generalize trimD _ = T at hz hzp' hzn' HAS
  have hdiv : mant / 10 ^ z ≤ mant := Nat.div_le_self _ _
  obtain ⟨s2, hd2, hp0, hp1, hsh⟩ := shift_ex _ _ (exp - 52) hz (by omega) (by omega) (by omega) (by omega) (by omega) (by omega)
  have hr := rnd_dig s2 (s2.dp + prec) hd2 hp0 hp1
  refine ⟨T, s2, rndD s2 (s2.dp + prec), HAS, hsh, fun w b hD => round w b s2 _ hD hd2.n8 hd2.dig (by omega) (by omega), hp0, hp1, hr.1, hr.2.1, hr.2.2.1, hr.2.2.2⟩

set_option maxRecDepth 100000 in
set_option maxHeartbeats 4000000 in
theorem ftoa_slow (b mant : Nat) (exp prec : Int) (h : Fl b mant exp) (h0 : 1 ≤ mant) (hp0 : 0 ≤ prec) (hp1 : prec ≤ 100) (hdg : 18 < dgF exp prec) (s1 s2 s3 : Dc) (hF : Slow mant exp prec s1 s2 s3) : FtEx b prec := by
  have HF := Lib.hid h
  obtain ⟨g1, g2, g3, g4⟩ := h.bounds
  obtain ⟨b1, way⟩ := h
  have hdg0 : dgF exp prec ≤ 1000 := by unfold dgF lg10; split <;> omega
  have hdg1 : -1000 ≤ dgF exp prec := by unfold dgF lg10; split <;> omega
  obtain ⟨HA', HS', HR', p20, p21, dg3, n38, p30, p31⟩ := hF
  have HA := Lib.hid HA'
  have HS := Lib.hid HS'
  have HRn := Lib.hid HR'
  clear HA' HS' HR' g4 HF
  obtain ⟨D, hD⟩ : ∃ D, D = s3.E := ⟨_, rfl⟩
  refine ⟨s3.E, s3.dp, s3.nd, prec.toNat, dg3, n38, p30, p31, by omega, ?_⟩
  clear dg3
  intro B v W how hT hBW
  have hfb := float64bits_run b
  obtain ⟨ng, hng⟩ : ∃ ng : Bool, ((b : Int) / 9223372036854775808 != 0) = ng := ⟨_, rfl⟩
  have hsg : Hid (sg b = ng) := Lib.hid hng
  obtain ⟨ef, hef⟩ : ∃ ef, ef = b / 4503599627370496 % 2048 := ⟨_, rfl⟩
  obtain ⟨mf, hmf⟩ : ∃ mf, mf = b % 4503599627370496 := ⟨_, rfl⟩
  have hE : bits .and .i64 ((b : Int) / 4503599627370496) 2047 = (ef : Int) := by rw [hef]; exact and_2047 b b1
  have hM : bits .and .u64 (b : Int) 4503599627370495 = (mf : Int) := by rw [hmf]; exact and_52 b b1
  have hef1 : ef ≤ 2047 := by omega
  have hmf1 : mf < 4503599627370496 := by omega
  rw [← hef, ← hmf] at way
  have hne : ((ef : Int) == 2047) = false := by rw [beq_eq_false_iff_ne]; omega
  have HW := Lib.hid way
  clear way hef hmf
  go_enter Tryz.func85, Tryz.ntmps85
  go_wp2_with fail
  go_quiet (fail)
  go_upto_if 78 with (fail)
  go_cut [14, 15] (fun v14 v15 wx => v14 = .int .i64 (exp + 1023) ∧ v15 = .int .u64 mant ∧ ∃ j, wx = W.drewN j)
  case first =>
    rcases HW.out with ⟨g1, g2, g3⟩ | ⟨g1, g2, g3, g4⟩
    · have t1 : ((ef : Int) == 0) = true := by rw [beq_iff_eq]; omega
      have g1' : (ef : Int) = 0 := by omega
      have HE : Hid (exp + 1023 = (ef : Int) + 1) := Lib.hid (by omega)
      have HM : Hid (mant = mf) := Lib.hid g2
      clear g1 g2 g3 g1'
      go_wp2_with fail
      go_meet
      exact ⟨by rw [HE.out], by rw [HM.out], _, rfl⟩
    · have t1 : ((ef : Int) == 0) = false := by rw [beq_eq_false_iff_ne]; omega
      have HO := or_52 mf hmf1
      have HE : Hid (exp + 1023 = (ef : Int)) := Lib.hid (by omega)
      have HM : Hid (mant = mf + 4503599627370496) := Lib.hid g3
      clear g1 g2 g3 g4
      go_wp2_with fail
      go_meet
      exact ⟨by rw [HE.out], by rw [HM.out]; go_num, _, rfl⟩
  case rest =>
    obtain ⟨rfl, rfl, j, rfl⟩ := hcut
    clear HW hE hM hne
    have howj : (W.drewN j).ownsRow B 5 1 v 0 [] := how
    have hBWj : B ≤ (W.drewN j).heap.size := hBW
    have hbj : Below B W (W.drewN j) := ⟨rfl, rfl, rfl, Nat.le_refl _, fun _ _ => rfl⟩
    have hTj : Tabs B (W.drewN j) := hT.below hbj
    generalize W.drewN j = w1 at *
    have h0' : ((mant : Int) == 0) = false := by rw [beq_eq_false_iff_ne]; omega
    have hopt := hTj.opt
    have E0 : exp + 1023 + -1023 = exp := by omega
    go_upto_block 2 with (fail)
    go_cut [3, 24] (fun v3 v24 wx => v3 = .int .i64 prec ∧ v24 = .int .i64 (dgF exp prec) ∧ w1 = wx)
    case first =>
      by_cases he : 0 ≤ exp
      · have HG : Hid (dgF exp prec = 1 + lg10 (1 + exp) + prec) := Lib.hid (by unfold dgF; rw [if_pos he])
        have q1 : -1000 ≤ lg10 (1 + exp) := by unfold lg10; omega
        have q2 : lg10 (1 + exp) ≤ 1000 := by unfold lg10; omega
        go_wp2_with fail
        refine (log10Pow2 _ (by omega) (by omega) _).mono ?_
        rintro en w' ⟨rfl, rfl⟩
        go_wp2_with fail
        go_meet
        exact ⟨rfl, by rw [HG.out], rfl⟩
      · have HG : Hid (dgF exp prec = 1 + prec - lg10 (-exp)) := Lib.hid (by unfold dgF; rw [if_neg he])
        have q1 : -1000 ≤ lg10 (-exp) := by unfold lg10; omega
        have q2 : lg10 (-exp) ≤ 1000 := by unfold lg10; omega
        go_wp2_with fail
        refine (log10Pow2 _ (by omega) (by omega) _).mono ?_
        rintro en w' ⟨rfl, rfl⟩
        go_wp2_with fail
        go_meet
        exact ⟨rfl, by rw [HG.out], rfl⟩
    case rest =>
      obtain ⟨rfl, rfl, rfl⟩ := hcut
      clear hopt
      obtain ⟨dg, hdgq⟩ : ∃ dg, dg = dgF exp prec := ⟨_, rfl⟩
      rw [← hdgq] at hdg hdg0 hdg1 ⊢
      clear hdgq
      go_wp2_with fail
      rw [z179]
      have hD0 := dec_new w1
      have hb2 : Below w1.heap.size w1 (w1.alloc (.cells (Array.replicate 800 (.int .u8 0) ++ #[.int .i64 0, .int .i64 0, .bool false, .bool false]) 179)) := (Below.refl _ _).alloc (Nat.le_refl _) _
      generalize w1.alloc _ = w2 at hD0 hb2 ⊢
      obtain ⟨b0, hb0⟩ : ∃ b0, b0 = w1.heap.size := ⟨_, rfl⟩
      have HOW := Lib.hid (fun w' (hb : Below b0 w1 w') => own_below howj (by rw [← hb0]; exact hb))
      rw [← hb0] at hD0 hb2 hBWj ⊢
      clear hb0
      refine (HA.out w2 b0 hD0).mono ?_
      rintro e w3 ⟨rfl, hD1, hb3⟩
      have hb13 := hb2.trans hb3
      have HT3 := Lib.hid (hTj.below (hb13.mono hBWj))
      clear HA hD0 hb2 hb3
      go_wp2_with fail
      refine (HS.out w3 B b0 hD1 HT3.out hBWj).mono ?_
      rintro e w4 ⟨rfl, hD2, hb4⟩
      have hb14 := hb13.trans hb4
      have cP := hD2.cellP
      clear HS hD1 hb13 hb4 HT3
      go_wp2_with fail
      refine (HRn.out w4 b0 hD2).mono ?_
      rintro e w5 ⟨rfl, hD3, hb5⟩
      have hb15 := hb14.trans hb5
      have cP3 := hD3.cellP
      have cN3 := hD3.cellN
      have hsrc := dec_src hD3 n38
      have how5 := HOW.out w5 hb15
      have HB5 : Hid (Below B W w5) := Lib.hid (hbj.trans (hb15.mono hBWj))
      have hz : Below w5.heap.size w5 w5.drew := ⟨rfl, rfl, rfl, Nat.le_refl _, fun _ _ => rfl⟩
      have hs5 : B ≤ w5.drew.heap.size := by have := HB5.out.size; show B ≤ w5.heap.size; omega
      have hs5' : B ≤ w5.heap.size := hs5
      have HFM := Lib.hid (fmtF B b0 s3.E s3.nd 800 800 prec.toNat s3.dp ng false (some ⟨b0, 0, none⟩) w5.drew v ⟨own_below how5 hz, dec_src (hD3.drewN 1) n38, Below.refl _ _, hs5⟩ (fun _ => rfl) (by omega) (by omega) (by omega) (by omega) (by omega) (by omega) prec (by omega))
      have hsl := slice177 b0
      clear HRn hD2 hb14 hb5 hb15 cP HOW hbj hTj howj hsrc how5 hs5
      go_wp2_with fail
      go_region_with (go_at_call 93; refine HFM.out.mono ?_; rintro e w' ⟨v', rfl, hF⟩)
      all_goals
        go_wp2_with fail
        go_ret
        rw [hsg.out]
        exact ⟨_, rfl, hF.own, HB5.out.trans ((hz.mono hs5').trans hF.below)⟩
end Go.Proofs.YtlmilelopajdiaaGreatDoor
