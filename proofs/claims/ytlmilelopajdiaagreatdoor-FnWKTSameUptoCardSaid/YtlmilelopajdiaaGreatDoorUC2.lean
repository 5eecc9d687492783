/-
  ftoa64 at the format f: its ways.
-/
import Derived.Test.YtlmilelopajdiaaGreatDoorUC1
import Derived.Deep.DeepCutAuto
import Derived.Deep.RegionWith
import Derived.Deep.CutBlock
import Derived.Lib.ItoaLen
namespace Go.Proofs.YtlmilelopajdiaaGreatDoor
open Go.RowKit

/-- A text of a number there is. -/
def FtEx (b : Nat) (prec : Int) : Prop := ∃ (D : Nat → Int) (dp : Int) (nd pr : Nat), (∀ j, j < nd → 48 ≤ D j ∧ D j ≤ 57) ∧ nd ≤ 800 ∧ -60500 ≤ dp ∧ dp ≤ 60500 ∧ pr ≤ 3000 ∧ FtOk b prec (fmtL (sg b) D dp nd pr)
theorem len64 (x : Nat) (h : x < 18446744073709551616) (w : World) : Calls Tryz.prog 94 #[.int .u64 x] w fun e w' => e = .returned (.int .i64 (Lib.bitLen x)) ∧ w = w' := by
  refine (Tryz.bits_Len64 x w (by omega) (by omega)).mono ?_
  rintro e w' ⟨rfl, rfl⟩
  exact ⟨by rw [Int.toNat_natCast], rfl⟩
theorem own_below {w w' : World} {B : Nat} {e : TypeId} {v : Value} {n s : Nat} {xs : List Value} (h : w.ownsRow B e s v n xs) (hb : Below w.heap.size w w') : w'.ownsRow B e s v n xs := by
  refine ⟨h.1, ?_⟩
  rcases h.2 with hn | ⟨g, cap, cur, rfl, hB, hg, rest⟩
  · exact Or.inl hn
  · exact Or.inr ⟨g, cap, cur, rfl, hB, by rw [hb.block g (lt_of_block hg)]; exact hg, rest⟩
def dgF (exp prec : Int) : Int := if 0 ≤ exp then 1 + lg10 (1 + exp) + prec else 1 + prec - lg10 (-exp)
theorem fw_bd (m e : Int) (n : Nat) (prec : Int) (hm0 : 0 ≤ m) (hm1 : m ≤ 18446744073709551615) (he0 : -1137 ≤ e) (he1 : e ≤ 960) (hn : 1 ≤ n) (hn1 : n ≤ 18) (hp0 : 0 ≤ prec) (hp1 : prec ≤ 100) :
    0 ≤ fwD m e n prec ∧ fwD m e n prec ≤ 9223372036854775807 ∧ -1000 ≤ fwQ m e n prec ∧ fwQ m e n prec ≤ 1000 := by
  have hP0 : -348 ≤ fwP e n := by unfold fwP lg10; omega
  have hP1 : fwP e n ≤ 347 := by unfold fwP lg10; omega
  have hs0 : 1 ≤ -(e + lp (fwP e n) + 3) := by unfold lp fwP lg10; omega
  obtain ⟨q1, q2, q3, q4⟩ := p10_bd _ hP0 hP1
  have hu := usc_le63 m (phi (fwP e n)) (plo (fwP e n)) (-(e + lp (fwP e n) + 3)).toNat hm0 hm1 (by omega) q2 (by omega)
  have hu1 : 0 ≤ fwU1 m e n ∧ fwU1 m e n ≤ 9223372036854775807 := by
    unfold fwU1; split
    · exact undiv10_bd _ hu.1 hu.2
    · exact hu
  have hN := undivN_bd (fwP1 m e n - prec).toNat (fwU1 m e n) hu1.1 hu1.2
  have hp : fwP e n - 1 ≤ fwP1 m e n ∧ fwP1 m e n ≤ fwP e n := by unfold fwP1; split <;> omega
  unfold fwD fwQ rnd
  refine ⟨by omega, by omega, by omega, by omega⟩
theorem slice168 (b : Nat) (w : World) : (Instr.sliceAt 168 (.pointer (some ⟨b, 0, none⟩)) none none none).run Tryz.prog w = .ok (.slice (some ⟨b, 0, none⟩) 32 32) w := by kernel_rfl
theorem slice174 (b : Nat) (w : World) : (Instr.sliceAt 174 (.pointer (some ⟨b, 0, none⟩)) none none none).run Tryz.prog w = .ok (.slice (some ⟨b, 0, none⟩) 24 24) w := by kernel_rfl
theorem brow_new (w : World) (b N n : Nat) (T : TypeId) (hT : T ≠ 5) (hn : n ≤ N) (h : w.heap[b]? = some (.cells (Array.replicate N (.int .u8 0)) T (0, 0))) : BRow w b (fun _ => 0) n := by
  refine ⟨fun j hj => ?_, fun j hj => ?_, ⟨_, T, h, hT⟩⟩
  · rw [Lib.cell_of_heap h, Array.getElem?_replicate, if_pos (by omega)]
  · exact Lib.frozen_of_heap h j
theorem brow_src {w : World} {b : Nat} {D : Nat → Int} {n nd : Nat} (h : BRow w b D n) (hn : nd ≤ n) : Src w b D nd := by
  obtain ⟨cs, T, h1, h2⟩ := h.ty
  refine Or.inr ⟨cs, T, h1, h2, fun j hj => ?_⟩
  have := h.cell j (by omega)
  rw [Lib.cell_of_heap h1] at this
  exact this
theorem brow_below {w w' : World} {b : Nat} {D : Nat → Int} {n : Nat} (h : BRow w b D n) (hb : Below w.heap.size w w') : BRow w' b D n := by
  obtain ⟨cs, T, h1, h2⟩ := h.ty
  have hl := lt_of_block h1
  refine ⟨fun j hj => ?_, fun j hj => ?_, ⟨cs, T, by rw [hb.block b hl]; exact h1, h2⟩⟩
  · rw [hb.cell hl]; exact h.cell j hj
  · have := h.free j hj
    unfold World.frozen? at this ⊢
    rw [hb.block b hl]; exact this

set_option maxRecDepth 100000 in
set_option maxHeartbeats 2000000 in
theorem ftoa_zero (b mant : Nat) (exp prec : Int) (h : Fl b mant exp) (h0 : mant = 0) (hp0 : -1 ≤ prec) (hp1 : prec ≤ 100) : FtOk b prec (fmtL (sg b) (fun _ => 48) 0 0 prec.toNat) := by
  intro B v W how hT hBW
  obtain ⟨b1, way⟩ := h
  have H0 := Lib.hid h0
  clear h0
  have hfb := float64bits_run b
  obtain ⟨ng, hng⟩ : ∃ ng : Bool, ((b : Int) / 9223372036854775808 != 0) = ng := ⟨_, rfl⟩
  have hsg : Hid (sg b = ng) := Lib.hid hng
  obtain ⟨ef, hef⟩ : ∃ ef, ef = b / 4503599627370496 % 2048 := ⟨_, rfl⟩
  obtain ⟨mf, hmf⟩ : ∃ mf, mf = b % 4503599627370496 := ⟨_, rfl⟩
  have hE : bits .and .i64 ((b : Int) / 4503599627370496) 2047 = (ef : Int) := by rw [hef]; exact and_2047 b b1
  have hM : bits .and .u64 (b : Int) 4503599627370495 = (mf : Int) := by rw [hmf]; exact and_52 b b1
  have hef1 : ef ≤ 2047 := by omega
  have hmf1 : mf < 4503599627370496 := by omega
  rw [← hef, ← hmf] at way
  have hne : ((ef : Int) == 2047) = false := by rw [beq_eq_false_iff_ne]; omega
  have HW := Lib.hid way
  clear way hef hmf
  go_enter Tryz.func85, Tryz.ntmps85
  go_wp2_with fail
  go_quiet (fail)
  go_upto_if 78 with (fail)
  go_cut [14, 15] (fun v14 v15 wx => v14 = .int .i64 (exp + 1023) ∧ v15 = .int .u64 mant ∧ ∃ j, wx = W.drewN j)
  case first =>
    rcases HW.out with ⟨g1, g2, g3⟩ | ⟨g1, g2, g3, g4⟩
    · have t1 : ((ef : Int) == 0) = true := by rw [beq_iff_eq]; omega
      have g1' : (ef : Int) = 0 := by omega
      have HE : Hid (exp + 1023 = (ef : Int) + 1) := Lib.hid (by omega)
      have HM : Hid (mant = mf) := Lib.hid g2
      clear g1 g2 g3 g1'
      go_wp2_with fail
      go_meet
      exact ⟨by rw [HE.out], by rw [HM.out], _, rfl⟩
    · have t1 : ((ef : Int) == 0) = false := by rw [beq_eq_false_iff_ne]; omega
      have HO := or_52 mf hmf1
      have HE : Hid (exp + 1023 = (ef : Int)) := Lib.hid (by omega)
      have HM : Hid (mant = mf + 4503599627370496) := Lib.hid g3
      clear g1 g2 g3 g4
      go_wp2_with fail
      go_meet
      exact ⟨by rw [HE.out], by rw [HM.out]; go_num, _, rfl⟩
  case rest =>
    obtain ⟨rfl, rfl, j, rfl⟩ := hcut
    clear HW hE hM hne
    have howj : (W.drewN j).ownsRow B 5 1 v 0 [] := how
    have hBWj : B ≤ (W.drewN j).heap.size := hBW
    have hbj : Below B W (W.drewN j) := ⟨rfl, rfl, rfl, Nat.le_refl _, fun _ _ => rfl⟩
    have hTj : Tabs B (W.drewN j) := hT.below hbj
    generalize W.drewN j = w1 at *
    have h0 : (mant : Int) = 0 := by rw [H0.out]; rfl
    go_wp2_with fail
    refine (fmtF B 0 (fun _ => 48) 0 0 0 prec.toNat 0 ng _ none w1 v ⟨howj, Or.inl rfl, Below.refl _ _, hBWj⟩ (by omega) (by omega) (by omega) (by omega) (by omega) (by omega) (by omega) prec (by omega)).mono ?_
    rintro e w' ⟨v', rfl, hF⟩
    go_wp2_with fail
    go_ret
    rw [hsg.out]
    exact ⟨_, rfl, hF.own, hbj.trans hF.below⟩

set_option maxRecDepth 100000 in
set_option maxHeartbeats 2000000 in
theorem ftoa_short (b mant : Nat) (exp prec : Int) (h : Fl b mant exp) (h0 : 1 ≤ mant) (hp0 : prec < 0) : FtEx b prec := by
  have HF := Lib.hid h
  obtain ⟨g1, g2, g3, g4⟩ := h.bounds
  obtain ⟨b1, way⟩ := h
  obtain ⟨s, m, hs, hs1, hs2, hm, m0, m1, hn, hn2⟩ := norm_ex mant h0 g1
  obtain ⟨P, mn, mx, od, HP⟩ := sf_par HF.out h0 s m hs1 hs2 hm m0 m1 hn hn2
  have hsh := shl_norm mant s m hm m1
  clear hm hn hn2 HF g4
  obtain ⟨L, hL⟩ : ∃ L, L = Lib.bitLen mant := ⟨_, rfl⟩
  rw [← hL] at hs
  have HLen := Lib.hid (fun w => len64 mant (by omega) w)
  rw [← hL] at HLen
  clear hL
  obtain ⟨K, hK⟩ : ∃ K, K = exp + 1023 + -1023 - s - 52 := ⟨_, rfl⟩
  rw [← hK] at HP
  obtain ⟨r1, r2, r3, r4⟩ := sfRes_bd _ _ _ _ _ _ HP
  obtain ⟨d, hd⟩ : ∃ d : Nat, (sfRes m K P mn mx od).1 = (d : Int) := ⟨(sfRes m K P mn mx od).1.toNat, by omega⟩
  obtain ⟨p, hp⟩ : ∃ p, (sfRes m K P mn mx od).2 = p := ⟨_, rfl⟩
  have HSF := Lib.hid (fun w h1 h2 => sf_walk _ _ _ _ _ _ HP w h1 h2)
  rw [hd, hp] at HSF
  rw [hd] at r1 r2
  rw [hp] at r3 r4
  clear hd hp HP
  obtain ⟨n, hn⟩ : ∃ n, n = Lib.nDigits d := ⟨_, rfl⟩
  have hn1 : n ≤ 20 := by rw [hn]; exact Lib.nDigits_le20 d (by omega)
  have hdn : d < 10 ^ n := by rw [hn]; exact Lib.lt_pow_nDigits d
  have HND := Lib.hid (fun w ht => Tryz.internal_strconv_numDigits d (by omega) (by omega) w ht)
  rw [← hn] at HND
  clear hn
  have HSD := Lib.hid (fun w b (h2 : BRow w b (fun _ => 0) n) => setDigits w b 32 n d p (fun _ => 0) (fun _ _ => ⟨Int.le_refl 0, by decide⟩) h2 (by omega) (by omega) hdn (by omega) (by omega) (by omega))
  obtain ⟨D, hD⟩ : ∃ D, D = dgi d n := ⟨_, rfl⟩
  rw [← hD] at HSD
  have HDG : Hid (∀ j, 48 ≤ D j ∧ D j ≤ 57) := Lib.hid (by rw [hD]; exact dgi_bd d n)
  obtain ⟨nd, hnd⟩ : ∃ nd, nd = tz D n := ⟨_, rfl⟩
  have hnd1 : nd ≤ n := by rw [hnd]; exact tz_le D n
  rw [← hnd] at HSD
  clear hnd hD hdn
  obtain ⟨pr, hpr⟩ : ∃ pr : Nat, max ((nd : Int) - ((n : Int) + p)) 0 = (pr : Int) := ⟨((nd : Int) - ((n : Int) + p)).toNat, by omega⟩
  refine ⟨D, (n : Int) + p, nd, pr, fun j _ => HDG.out j, by omega, by omega, by omega, by omega, ?_⟩
  have HK := Lib.hid hK
  clear hK HDG
  intro B v W how hT hBW
  have hfb := float64bits_run b
  obtain ⟨ng, hng⟩ : ∃ ng : Bool, ((b : Int) / 9223372036854775808 != 0) = ng := ⟨_, rfl⟩
  have hsg : Hid (sg b = ng) := Lib.hid hng
  obtain ⟨ef, hef⟩ : ∃ ef, ef = b / 4503599627370496 % 2048 := ⟨_, rfl⟩
  obtain ⟨mf, hmf⟩ : ∃ mf, mf = b % 4503599627370496 := ⟨_, rfl⟩
  have hE : bits .and .i64 ((b : Int) / 4503599627370496) 2047 = (ef : Int) := by rw [hef]; exact and_2047 b b1
  have hM : bits .and .u64 (b : Int) 4503599627370495 = (mf : Int) := by rw [hmf]; exact and_52 b b1
  have hef1 : ef ≤ 2047 := by omega
  have hmf1 : mf < 4503599627370496 := by omega
  rw [← hef, ← hmf] at way
  have hne : ((ef : Int) == 2047) = false := by rw [beq_eq_false_iff_ne]; omega
  have HW := Lib.hid way
  clear way hef hmf
  go_enter Tryz.func85, Tryz.ntmps85
  go_wp2_with fail
  go_quiet (fail)
  go_upto_if 78 with (fail)
  go_cut [14, 15] (fun v14 v15 wx => v14 = .int .i64 (exp + 1023) ∧ v15 = .int .u64 mant ∧ ∃ j, wx = W.drewN j)
  case first =>
    rcases HW.out with ⟨g1, g2, g3⟩ | ⟨g1, g2, g3, g4⟩
    · have t1 : ((ef : Int) == 0) = true := by rw [beq_iff_eq]; omega
      have g1' : (ef : Int) = 0 := by omega
      have HE : Hid (exp + 1023 = (ef : Int) + 1) := Lib.hid (by omega)
      have HM : Hid (mant = mf) := Lib.hid g2
      clear g1 g2 g3 g1'
      go_wp2_with fail
      go_meet
      exact ⟨by rw [HE.out], by rw [HM.out], _, rfl⟩
    · have t1 : ((ef : Int) == 0) = false := by rw [beq_eq_false_iff_ne]; omega
      have HO := or_52 mf hmf1
      have HE : Hid (exp + 1023 = (ef : Int)) := Lib.hid (by omega)
      have HM : Hid (mant = mf + 4503599627370496) := Lib.hid g3
      clear g1 g2 g3 g4
      go_wp2_with fail
      go_meet
      exact ⟨by rw [HE.out], by rw [HM.out]; go_num, _, rfl⟩
  case rest =>
    obtain ⟨rfl, rfl, j, rfl⟩ := hcut
    clear HW hE hM hne
    have howj : (W.drewN j).ownsRow B 5 1 v 0 [] := how
    have hBWj : B ≤ (W.drewN j).heap.size := hBW
    have hbj : Below B W (W.drewN j) := ⟨rfl, rfl, rfl, Nat.le_refl _, fun _ _ => rfl⟩
    have hTj : Tabs B (W.drewN j) := hT.below hbj
    generalize W.drewN j = w1 at *
    have h0' : ((mant : Int) == 0) = false := by rw [beq_eq_false_iff_ne]; omega
    go_wp2_with fail
    refine (HLen.out _).mono ?_
    rintro e w' ⟨rfl, rfl⟩
    go_wp2_with fail
    rw [← HK.out]
    clear HLen
    have hrep : ∀ w : World, (w.alloc (.cells #[.int .u8 0, .int .u8 0, .int .u8 0, .int .u8 0, .int .u8 0, .int .u8 0, .int .u8 0, .int .u8 0, .int .u8 0, .int .u8 0, .int .u8 0, .int .u8 0, .int .u8 0, .int .u8 0, .int .u8 0, .int .u8 0, .int .u8 0, .int .u8 0, .int .u8 0, .int .u8 0, .int .u8 0, .int .u8 0, .int .u8 0, .int .u8 0, .int .u8 0, .int .u8 0, .int .u8 0, .int .u8 0, .int .u8 0, .int .u8 0, .int .u8 0, .int .u8 0] 168)).heap[w.heap.size]? = some (.cells (Array.replicate 32 (.int .u8 0)) 168 (0, 0)) := fun w => heap_alloc_new w _
    have hbk := hrep w1
    have hb2 : Below w1.heap.size w1 (w1.alloc (.cells #[.int .u8 0, .int .u8 0, .int .u8 0, .int .u8 0, .int .u8 0, .int .u8 0, .int .u8 0, .int .u8 0, .int .u8 0, .int .u8 0, .int .u8 0, .int .u8 0, .int .u8 0, .int .u8 0, .int .u8 0, .int .u8 0, .int .u8 0, .int .u8 0, .int .u8 0, .int .u8 0, .int .u8 0, .int .u8 0, .int .u8 0, .int .u8 0, .int .u8 0, .int .u8 0, .int .u8 0, .int .u8 0, .int .u8 0, .int .u8 0, .int .u8 0, .int .u8 0] 168)) := (Below.refl _ _).alloc (Nat.le_refl _) _
    clear hrep
    generalize w1.alloc _ = w2 at hbk hb2 ⊢
    obtain ⟨b0, hb0⟩ : ∃ b0, b0 = w1.heap.size := ⟨_, rfl⟩
    have HOW := Lib.hid (fun w' (hb : Below b0 w1 w') => own_below howj (by rw [← hb0]; exact hb))
    rw [← hb0] at hbk hb2 hBWj ⊢
    clear hb0
    have hbl := lt_of_block hbk
    have hT2 := hTj.below (hb2.mono hBWj)
    have h6 := hTj.lt
    refine (HSF.out w2 (by omega) hT2.p10).mono ?_
    rintro e w3 ⟨rfl, hb3⟩
    have HR : Hid (BRow w3 b0 (fun _ => 0) n) := Lib.hid (brow_below (brow_new w2 b0 32 n 168 (by decide) (by omega) hbk) hb3)
    have hT3 := hT2.below (hb3.mono (by omega))
    have hb13 := hb2.trans (hb3.mono (by omega))
    clear hbk hb2 hb3 HSF hbl hT2 hTj
    generalize w3.heap.size = sz3 at *
    have hsl := slice168 b0
    have HT3 := Lib.hid (fun w' (hb : Below B w3 w') => (hT3.below hb).u10)
    clear hT3
    go_upto_region 38 with (fail)
    go_cut [22, 23] (fun v22 v23 wx => v22 = .int .i64 ((n : Int) + p) ∧ v23 = .int .i64 nd ∧ Below b0 w3 wx ∧ BRow wx b0 D n)
    case first =>
      have hz : Below b0 w3 w3.drew := ⟨rfl, rfl, rfl, Nat.le_refl _, fun _ _ => rfl⟩
      go_region_with (first
        | (go_at_call 97; refine (HND.out _ ?_).mono ?_; exact HT3.out _ ⟨rfl, rfl, rfl, Nat.le_refl _, fun _ _ => rfl⟩; rintro e w' ⟨rfl, rfl⟩)
        | (go_at_call 96; refine (HSD.out _ b0 ?_).mono ?_; exact brow_below HR.out ⟨rfl, rfl, rfl, Nat.le_refl _, fun _ _ => rfl⟩; rintro e w' ⟨rfl, hb4, hR4⟩))
      all_goals
        go_wp2_with fail
        go_meet
        exact ⟨rfl, rfl, hz.trans hb4, hR4⟩
    case rest =>
      obtain ⟨rfl, rfl, hb4, hR4⟩ := hcut
      generalize wc = w4 at *
      have how4 := HOW.out w4 (hb13.trans hb4)
      have HB4 : Hid (Below B W w4) := Lib.hid (hbj.trans ((hb13.trans hb4).mono hBWj))
      have hs4 : B ≤ w4.heap.size := by have := HB4.out.size; omega
      have hsrc : Src w4 b0 D nd := brow_src hR4 hnd1
      clear HOW hb13 hb4 hR4 HR HT3 HND HSD hbj
      go_wp2_with fail
      refine (fmtF B b0 D nd 32 32 pr ((n : Int) + p) ng _ _ w4 v ⟨how4, hsrc, Below.refl _ _, hs4⟩ (fun _ => rfl) (by omega) (by omega) (by omega) (by omega) (by omega) (by omega) pr (by omega)).mono ?_
      rintro e w' ⟨v', rfl, hF⟩
      go_wp2_with fail
      go_ret
      rw [hsg.out]
      exact ⟨_, rfl, hF.own, HB4.out.trans hF.below⟩

set_option maxRecDepth 100000 in
set_option maxHeartbeats 2000000 in
theorem ftoa_fast0 (b mant : Nat) (exp prec : Int) (h : Fl b mant exp) (h0 : 1 ≤ mant) (hp0 : 0 ≤ prec) (hp1 : prec ≤ 100) (hdg : dgF exp prec ≤ 0) : FtEx b prec := by
  have HF := Lib.hid h
  obtain ⟨g1, g2, g3, g4⟩ := h.bounds
  obtain ⟨b1, way⟩ := h
  have hdg0 : dgF exp prec ≤ 1000 := by unfold dgF lg10; split <;> omega
  have hdg1 : -1000 ≤ dgF exp prec := by unfold dgF lg10; split <;> omega
  refine ⟨fun _ => 48, 0, 0, prec.toNat, fun j _ => by omega, by omega, by omega, by omega, by omega, ?_⟩
  clear HF g4
  intro B v W how hT hBW
  have hfb := float64bits_run b
  obtain ⟨ng, hng⟩ : ∃ ng : Bool, ((b : Int) / 9223372036854775808 != 0) = ng := ⟨_, rfl⟩
  have hsg : Hid (sg b = ng) := Lib.hid hng
  obtain ⟨ef, hef⟩ : ∃ ef, ef = b / 4503599627370496 % 2048 := ⟨_, rfl⟩
  obtain ⟨mf, hmf⟩ : ∃ mf, mf = b % 4503599627370496 := ⟨_, rfl⟩
  have hE : bits .and .i64 ((b : Int) / 4503599627370496) 2047 = (ef : Int) := by rw [hef]; exact and_2047 b b1
  have hM : bits .and .u64 (b : Int) 4503599627370495 = (mf : Int) := by rw [hmf]; exact and_52 b b1
  have hef1 : ef ≤ 2047 := by omega
  have hmf1 : mf < 4503599627370496 := by omega
  rw [← hef, ← hmf] at way
  have hne : ((ef : Int) == 2047) = false := by rw [beq_eq_false_iff_ne]; omega
  have HW := Lib.hid way
  clear way hef hmf
  go_enter Tryz.func85, Tryz.ntmps85
  go_wp2_with fail
  go_quiet (fail)
  go_upto_if 78 with (fail)
  go_cut [14, 15] (fun v14 v15 wx => v14 = .int .i64 (exp + 1023) ∧ v15 = .int .u64 mant ∧ ∃ j, wx = W.drewN j)
  case first =>
    rcases HW.out with ⟨g1, g2, g3⟩ | ⟨g1, g2, g3, g4⟩
    · have t1 : ((ef : Int) == 0) = true := by rw [beq_iff_eq]; omega
      have g1' : (ef : Int) = 0 := by omega
      have HE : Hid (exp + 1023 = (ef : Int) + 1) := Lib.hid (by omega)
      have HM : Hid (mant = mf) := Lib.hid g2
      clear g1 g2 g3 g1'
      go_wp2_with fail
      go_meet
      exact ⟨by rw [HE.out], by rw [HM.out], _, rfl⟩
    · have t1 : ((ef : Int) == 0) = false := by rw [beq_eq_false_iff_ne]; omega
      have HO := or_52 mf hmf1
      have HE : Hid (exp + 1023 = (ef : Int)) := Lib.hid (by omega)
      have HM : Hid (mant = mf + 4503599627370496) := Lib.hid g3
      clear g1 g2 g3 g4
      go_wp2_with fail
      go_meet
      exact ⟨by rw [HE.out], by rw [HM.out]; go_num, _, rfl⟩
  case rest =>
    obtain ⟨rfl, rfl, j, rfl⟩ := hcut
    clear HW hE hM hne
    have howj : (W.drewN j).ownsRow B 5 1 v 0 [] := how
    have hBWj : B ≤ (W.drewN j).heap.size := hBW
    have hbj : Below B W (W.drewN j) := ⟨rfl, rfl, rfl, Nat.le_refl _, fun _ _ => rfl⟩
    have hTj : Tabs B (W.drewN j) := hT.below hbj
    generalize W.drewN j = w1 at *
    have h0' : ((mant : Int) == 0) = false := by rw [beq_eq_false_iff_ne]; omega
    have hopt := hTj.opt
    have E0 : exp + 1023 + -1023 = exp := by omega
    go_upto_block 2 with (fail)
    go_cut [3, 24] (fun v3 v24 wx => v3 = .int .i64 prec ∧ v24 = .int .i64 (dgF exp prec) ∧ w1 = wx)
    case first =>
      by_cases he : 0 ≤ exp
      · have HG : Hid (dgF exp prec = 1 + lg10 (1 + exp) + prec) := Lib.hid (by unfold dgF; rw [if_pos he])
        have q1 : -1000 ≤ lg10 (1 + exp) := by unfold lg10; omega
        have q2 : lg10 (1 + exp) ≤ 1000 := by unfold lg10; omega
        go_wp2_with fail
        refine (log10Pow2 _ (by omega) (by omega) _).mono ?_
        rintro en w' ⟨rfl, rfl⟩
        go_wp2_with fail
        go_meet
        exact ⟨rfl, by rw [HG.out], rfl⟩
      · have HG : Hid (dgF exp prec = 1 + prec - lg10 (-exp)) := Lib.hid (by unfold dgF; rw [if_neg he])
        have q1 : -1000 ≤ lg10 (-exp) := by unfold lg10; omega
        have q2 : lg10 (-exp) ≤ 1000 := by unfold lg10; omega
        go_wp2_with fail
        refine (log10Pow2 _ (by omega) (by omega) _).mono ?_
        rintro en w' ⟨rfl, rfl⟩
        go_wp2_with fail
        go_meet
        exact ⟨rfl, by rw [HG.out], rfl⟩
    case rest =>
      obtain ⟨rfl, rfl, rfl⟩ := hcut
      clear hopt
      obtain ⟨dg, hdgq⟩ : ∃ dg, dg = dgF exp prec := ⟨_, rfl⟩
      rw [← hdgq] at hdg hdg0 hdg1 ⊢
      clear hdgq
      go_wp2_with fail
      have how2 := howj.alloc (.cells #[.int .u8 0, .int .u8 0, .int .u8 0, .int .u8 0, .int .u8 0, .int .u8 0, .int .u8 0, .int .u8 0, .int .u8 0, .int .u8 0, .int .u8 0, .int .u8 0, .int .u8 0, .int .u8 0, .int .u8 0, .int .u8 0, .int .u8 0, .int .u8 0, .int .u8 0, .int .u8 0, .int .u8 0, .int .u8 0, .int .u8 0, .int .u8 0] 174)
      have hb2 : Below B w1 (w1.alloc (.cells #[.int .u8 0, .int .u8 0, .int .u8 0, .int .u8 0, .int .u8 0, .int .u8 0, .int .u8 0, .int .u8 0, .int .u8 0, .int .u8 0, .int .u8 0, .int .u8 0, .int .u8 0, .int .u8 0, .int .u8 0, .int .u8 0, .int .u8 0, .int .u8 0, .int .u8 0, .int .u8 0, .int .u8 0, .int .u8 0, .int .u8 0, .int .u8 0] 174)) := (Below.refl _ _).alloc hBWj _
      generalize w1.alloc _ = w2 at how2 hb2 ⊢
      have hs2 : B ≤ w2.heap.size := by have := hb2.size; omega
      have HB2 := Lib.hid (hbj.trans hb2)
      clear hb2 hbj hTj
      refine (fmtF B 0 (fun _ => 48) 0 24 24 prec.toNat 0 ng _ _ w2 v ⟨how2, Or.inl rfl, Below.refl _ _, hs2⟩ (by omega) (by omega) (by omega) (by omega) (by omega) (by omega) (by omega) prec (by omega)).mono ?_
      rintro e w' ⟨v', rfl, hF⟩
      go_wp2_with fail
      go_ret
      rw [hsg.out]
      exact ⟨_, rfl, hF.own, HB2.out.trans hF.below⟩

/-- What the fast way reckons with. -/
structure Fast (mant : Nat) (exp prec : Int) (s m L dn d : Nat) (K p : Int) : Prop where
  hs : (64 : Int) - (L : Int) = (s : Int)
  hs1 : 11 ≤ s
  hs2 : s ≤ 63
  m0 : 9223372036854775808 ≤ m
  m1 : m < 18446744073709551616
  hsh : IntKind.u64.wrap ((mant : Int) * 2 ^ s) = (m : Int)
  len : ∀ w, Calls Tryz.prog 94 #[.int .u64 mant] w fun e w' => e = .returned (.int .i64 L) ∧ w = w'
  k0 : -1137 ≤ K
  k1 : K ≤ 960
  hK : K = exp - s - 52
  hdd : dgF exp prec = (dn : Int)
  dn1 : (dn : Int) ≤ 18
  dn0 : (0 : Int) < dn
  fw : ∀ (B : Nat) (w : World), 2 < w.heap.size → Tabs B w → Calls Tryz.prog 99 #[.int .u64 m, .int .i64 K, .int .i64 dn, .int .i64 prec, .int .u8 102] w fun en w' =>
    en = .returned (.tuple #[.int .u64 d, .int .i64 p]) ∧ Below w.heap.size w w'
  r2 : (d : Int) ≤ 18446744073709551615
  r3 : -1000 ≤ p
  r4 : p ≤ 1000
theorem fast_ex (b mant : Nat) (exp prec : Int) (h : Fl b mant exp) (h0 : 1 ≤ mant) (hp0 : 0 ≤ prec) (hp1 : prec ≤ 100) (hdg : 0 < dgF exp prec) (hdg2 : dgF exp prec ≤ 18) : ∃ (s m L dn d : Nat) (K p : Int), Fast mant exp prec s m L dn d K p := by
  obtain ⟨g1, g2, g3, g4⟩ := h.bounds
  obtain ⟨dn, hdn⟩ : ∃ dn : Nat, (dgF exp prec).toNat = dn := ⟨_, rfl⟩
  obtain ⟨s, m, hs, hs1, hs2, hm, m0, m1, hn, hn2⟩ := norm_ex mant h0 g1
  have hsh := shl_norm mant s m hm m1
  obtain ⟨K, hK⟩ : ∃ K, K = exp - s - 52 := ⟨_, rfl⟩
  have k0 : -1137 ≤ K := by omega
  have k1 : K ≤ 960 := by omega
  obtain ⟨r1, r2, r3, r4⟩ := fw_bd m K dn prec (by omega) (by omega) k0 k1 (by omega) (by omega) hp0 hp1
  have HFW := (fun B w h1 h2 => fixedWidth m K dn prec (by omega) (by omega) k0 k1 (by omega) (by omega) hp0 hp1 B w h1 h2)
  obtain ⟨d, hd⟩ : ∃ d : Nat, fwD m K dn prec = (d : Int) := ⟨(fwD m K dn prec).toNat, by omega⟩
  rw [hd] at HFW r1 r2
  exact ⟨s, m, Lib.bitLen mant, dn, d, K, _, hs, hs1, hs2, m0, m1, hsh, fun w => len64 mant (by omega) w, k0, k1, hK, by omega, by omega, by omega, HFW, by omega, r3, r4⟩
end Go.Proofs.YtlmilelopajdiaaGreatDoor
