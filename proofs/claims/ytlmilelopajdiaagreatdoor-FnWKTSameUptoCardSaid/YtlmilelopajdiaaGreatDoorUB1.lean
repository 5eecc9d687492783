/-
  leftShift: the walk.
-/
import Derived.Test.YtlmilelopajdiaaGreatDoorUA7
import Derived.Deep.DeepCutAuto
namespace Go.Proofs.YtlmilelopajdiaaGreatDoor
open Go.RowKit Go.PlainAid

def lsE (E : Nat → Int) (M nd' t : Nat) : Nat → Int := fun j => if nd' ≤ j + t ∧ j < nd' then dgi M nd' j else E j
def lsD (s : Dc) (V k : Nat) : Dc := { E := lsE s.E (V * 2 ^ k) (s.nd + deltaOf s.E s.nd k) (s.nd + deltaOf s.E s.nd k), nd := s.nd + deltaOf s.E s.nd k, dp := s.dp + deltaOf s.E s.nd k, tr := s.tr }
theorem lsE_zero (E : Nat → Int) (M nd' : Nat) : lsE E M nd' 0 = E := by
  funext j; unfold lsE; rw [if_neg (by omega)]
theorem lsE_low (E : Nat → Int) (M nd' t j : Nat) (h : j + t < nd') : lsE E M nd' t j = E j := by
  unfold lsE; rw [if_neg (by omega)]
theorem lsE_step (E : Nat → Int) (M nd' t p : Nat) (h : p + 1 + t = nd') : upd (lsE E M nd' t) p (dgi M nd' p) = lsE E M nd' (t + 1) := by
  funext j
  unfold upd lsE
  by_cases e : j = p
  · subst e; rw [if_pos rfl, if_pos (by omega)]
  · rw [if_neg e]
    by_cases h2 : nd' ≤ j + t ∧ j < nd'
    · rw [if_pos h2, if_pos (by omega)]
    · rw [if_neg h2, if_neg (by omega)]
theorem deltaOf_le (D : Nat → Int) (nd k : Nat) (h1 : 1 ≤ k) (h2 : k ≤ 60) : deltaOf D nd k ≤ 19 := by
  obtain ⟨_, _, _, _, t5, _⟩ := cheat_tab ⟨k, by omega⟩ h1
  dsimp only at t5
  unfold deltaOf cheatD
  split <;> omega

set_option maxRecDepth 100000 in
set_option maxHeartbeats 1000000 in
theorem leftShift (w : World) (B b : Nat) (s : Dc) (V k : Nat) (h : DecAt w b s) (hT : Tabs B w) (_hB : B ≤ b) (h1 : 1 ≤ k) (h2 : k ≤ 60) (hn : 1 ≤ s.nd) (hD : ∀ j, j < s.nd → s.E j = dgi V s.nd j) (hV : V < 10 ^ s.nd) (hV0 : 10 ^ (s.nd - 1) ≤ V)
    (hroom : s.nd + deltaOf s.E s.nd k < 800) (hp0 : -100000 ≤ s.dp) (hp1 : s.dp ≤ 100000) :
    Calls Tryz.prog 120 #[.pointer (some ⟨b, 0, none⟩), .int .u64 k] w fun e w' => e = .returned (.tuple #[]) ∧ DecAt w' b (trimD (lsD s V k)) ∧ Below b w w' := by
  obtain ⟨cb, co, cap, hcb, hc0, hcs⟩ := hT.cheats
  obtain ⟨hc1, hc2⟩ := hcs k (by omega)
  have hc1' : w.cell? ⟨cb, co + k * 2, none⟩ = some (.int .i64 (cheatD k)) := hc1
  have hc2' : w.cell? ⟨cb, co + k * 2 + 1, none⟩ = some (.string (cheatS k)) := hc2
  clear hcs hc1 hc2
  have cN := h.cellN
  have cP := h.cellP
  have hlB := hT.lt
  clear hT
  obtain ⟨-, -, -, d4, d5, d6, -, -⟩ := cheat_tab ⟨k, by omega⟩ h1
  dsimp only at d4 d5 d6
  have d4' : 1 ≤ cheatD k := d4
  have d5' : cheatD k ≤ 19 := d5
  clear d4 d5
  have hsz : (cheatS k).size ≤ 100 := by rw [cheatS_size]; omega
  have HE := Lib.hid (fun j hj => h.cellE j hj)
  have hnd8 : s.nd ≤ 800 := by omega
  have HP : Hid (∀ w', (∀ j, j < s.nd → w'.cell? ⟨b, j, none⟩ = some (.int .u8 (s.E j))) → ∀ cap : Nat, Calls Tryz.prog 130 #[.slice (some ⟨b, 0, none⟩) s.nd cap, .string (cheatS k)] w' fun e w'' => e = .returned (.bool (pfx s.E (bt (cheatS k)) s.nd (cheatS k).size (cheatS k).size)) ∧ ∃ n, w'' = w'.drewN n) :=
    Lib.hid fun w' hc cap => prefixLess w' b s.nd cap s.E (cheatS k) hnd8 hsz hc
  obtain ⟨PB, hPB⟩ : ∃ PB, PB = pfx s.E (bt (cheatS k)) s.nd (cheatS k).size (cheatS k).size := ⟨_, rfl⟩
  rw [← hPB] at HP
  have HDl : Hid (deltaOf s.E s.nd k = if PB then cheatD k - 1 else cheatD k) := Lib.hid (by rw [hPB]; rfl)
  clear hPB hsz
  have hdl := deltaOf_le s.E s.nd k h1 h2
  obtain ⟨g1, g2⟩ := left_delta s.E V s.nd k h1 h2 hn hD hV hV0
  have G1 := Lib.hid g1
  have G2 := Lib.hid g2
  have HV := Lib.hid hV
  have HD := Lib.hid hD
  have HG : Hid (lsD s V k = { E := lsE s.E (V * 2 ^ k) (s.nd + deltaOf s.E s.nd k) (s.nd + deltaOf s.E s.nd k), nd := s.nd + deltaOf s.E s.nd k, dp := s.dp + deltaOf s.E s.nd k, tr := s.tr }) := Lib.hid rfl
  clear g1 g2 hV hV0 hD
  generalize hdd : deltaOf s.E s.nd k = delta at HDl hdl G1 G2 HG hroom
  clear hdd
  have hsl : ∀ w', (Instr.sliceAt 177 (.pointer (some ⟨b, 0, none⟩)) (some (.int .i64 0)) (some (.int .i64 s.nd)) none).run Tryz.prog w' = .ok (.slice (some ⟨b, 0, none⟩) s.nd 800) w' := by
    intro w'
    have hal : Tryz.prog.arrayLen 177 = 800 := by kernel_rfl
    rw [run_sliceAt_array_lh w' 177 ⟨b, 0, none⟩ (by kernel_rfl) .i64 .i64 0 s.nd (by omega) (by omega) (by rw [hal]; omega)]
    rw [show Tryz.prog.elem 177 = 5 by kernel_rfl, hal]
    simp [go_sem, slicedAt, Tryz.sizeOf5]
  go_enter Tryz.func120, Tryz.ntmps120
  go_wp2_with fail
  go_quiet ((go_at_call 130; exact Calls.quiet_of (HP.out _ (by intro j hj; rw [World.cell?_drewN]; exact HE.out j (by omega)) _)))
  go_upto_if 30 with (fail)
  go_cut [4] (fun v4 wx => v4 = .int .i64 (delta : Int) ∧ ∃ j, wx = w.drewN j)
  case first =>
    cases PB with
    | true =>
      have HQ : Hid ((delta : Int) = (cheatD k : Int) - 1) := Lib.hid (by rw [HDl.out, if_pos rfl]; omega)
      go_wp2_with fail
      go_meet
      exact ⟨by rw [HQ.out], _, rfl⟩
    | false =>
      have HQ : Hid ((delta : Int) = (cheatD k : Int)) := Lib.hid (by rw [HDl.out]; simp)
      go_wp2_with fail
      go_meet
      exact ⟨by rw [HQ.out], _, rfl⟩
  case rest =>
    obtain ⟨rfl, j, rfl⟩ := hcut
    clear HP HDl hc0 hc1' hc2'
    go_wp2_with fail
    have hE0 : DecAt (w.drewN j) b { s with E := lsE s.E (V * 2 ^ k) (s.nd + delta) 0 } := by
      rw [lsE_zero]; exact h
    have hb0 : Below b w (w.drewN j) := below_drewN (Below.refl _ _) _
    generalize w.drewN j = w0 at hE0 hb0 ⊢
    clear h cN cP HE
    go_loopw [5, 6, 7] (fun v5 v6 v7 wr => ∃ (t m p n : Nat), m + t = s.nd ∧ p + t = s.nd + delta ∧ v5 = .int .i64 ((m : Int) - 1) ∧ v6 = .int .i64 p ∧ v7 = .int .u64 n ∧ Hid (n = V % 10 ^ t * 2 ^ k / 10 ^ t) ∧ n ≤ 1152921504606846976 ∧
        DecAt wr b { s with E := lsE s.E (V * 2 ^ k) (s.nd + delta) t } ∧ Below b w wr) (fun v5 _ _ _ => ((intOf v5 + 1).toNat))
    case atStart => exact ⟨0, s.nd, s.nd + delta, 0, by omega, by omega, rfl, by go_num, rfl, Lib.hid (by simp [Nat.mod_one]), by omega, hE0, hb0⟩
    case round =>
      obtain ⟨t, m, p, n, hmt, hpt, rfl, rfl, rfl, hn', hn60, hD', hb'⟩ := hrel
      by_cases hm : 0 < m
      · obtain ⟨m, rfl⟩ : ∃ m', m = m' + 1 := ⟨m - 1, by omega⟩
        obtain ⟨p, rfl⟩ : ∃ p', p = p' + 1 := ⟨p - 1, by omega⟩
        obtain ⟨d, hd⟩ : ∃ d, d = V / 10 ^ t % 10 := ⟨_, rfl⟩
        have hd9 : d ≤ 9 := by omega
        have hc := hD'.cellE m (by omega)
        dsimp only at hc
        rw [lsE_low _ _ _ _ _ (by omega), HD.out m (by omega), show dgi V s.nd m = 48 + (d : Int) by unfold dgi; rw [hd, show s.nd - 1 - m = t by omega]] at hc
        have hcp := hD'.cellE p (by omega)
        have hfp := hD'.free p
        obtain ⟨x, hx⟩ : ∃ x, x = d * 2 ^ k := ⟨_, rfl⟩
        obtain ⟨c1, c2⟩ := ls_carry V k t d n x hn'.out hd hx
        have hx60 : x ≤ 10376293541461622784 := by
          rw [hx]
          have h60 : 2 ^ k ≤ 2 ^ 60 := Nat.pow_le_pow_right (by omega) h2
          calc d * 2 ^ k ≤ 9 * 2 ^ 60 := Nat.mul_le_mul hd9 h60
            _ = 10376293541461622784 := by decide
        have eX : IntKind.u64.wrap ((48 + (d : Int) - 48) * 2 ^ k) = (x : Int) := by
          rw [show (48 + (d : Int) - 48) = (d : Int) by omega, show (d : Int) * 2 ^ k = (x : Int) by rw [hx]; simp]
          exact wrap_u64_of _ (by omega) (by omega)
        have hst : Hid ((n : Int) + (x : Int) - 10 * (((n : Int) + (x : Int)) / 10) + 48 = dgi (V * 2 ^ k) (s.nd + delta) p) := Lib.hid (by
          unfold dgi
          rw [show s.nd + delta - 1 - p = t by omega, ← c2]; omega)
        have hnx : Hid ((n + x) / 10 = V % 10 ^ (t + 1) * 2 ^ k / 10 ^ (t + 1)) := Lib.hid c1
        clear hd hx c1 c2
        have e1 : (((m + 1 : Nat) : Int) - 1) = (m : Int) := by omega
        rw [e1]
        go_wp2_with fail
        have hLE : Hid (upd (lsE s.E (V * 2 ^ k) (s.nd + delta) t) p (dgi (V * 2 ^ k) (s.nd + delta) p) = lsE s.E (V * 2 ^ k) (s.nd + delta) (t + 1)) := Lib.hid (lsE_step _ _ _ _ _ (by omega))
        go_roundw
        case rel => exact ⟨t + 1, m, p, (n + x) / 10, by omega, by omega, rfl, rfl, by go_num, hnx, by omega, by rw [hst.out, ← hLE.out]; exact hD'.setE p (by omega) _, hb'.setCell (by simp) _⟩
        case measure => simp [intOf]
      · obtain rfl : m = 0 := by omega
        have hnM : Hid (n = V * 2 ^ k / 10 ^ t) := Lib.hid (by rw [hn'.out, show V % 10 ^ t = V from Nat.mod_eq_of_lt (by rw [show t = s.nd by omega]; exact HV.out)])
        clear hn' hE0 hb0
        go_wp2_with fail
        go_loopw [6, 7] (fun v6 v7 wr => ∃ (t p n : Nat), s.nd ≤ t ∧ p + t = s.nd + delta ∧ v6 = .int .i64 p ∧ v7 = .int .u64 n ∧ Hid (n = V * 2 ^ k / 10 ^ t) ∧ n ≤ 1152921504606846976 ∧
          DecAt wr b { s with E := lsE s.E (V * 2 ^ k) (s.nd + delta) t } ∧ Below b w wr) (fun _ v7 _ => ((intOf v7).toNat))
        case atStart => exact ⟨t, p, n, by omega, hpt, rfl, rfl, hnM, hn60, hD', hb'⟩
        case round =>
          clear hmt hpt hnM hn60 hD' hb'
          obtain ⟨t, p, n, hmt, hpt, rfl, rfl, hn', hn60, hD', hb'⟩ := hrel
          by_cases hn0 : 0 < n
          · obtain ⟨p, rfl⟩ : ∃ p', p = p' + 1 := by
              refine ⟨p - 1, ?_⟩
              rcases Nat.eq_zero_or_pos p with h0 | h0
              · exfalso
                have := hn'.out
                rw [Nat.div_eq_of_lt (by rw [show t = s.nd + delta by omega]; exact G1.out)] at this
                omega
              · omega
            have hcp := hD'.cellE p (by omega)
            have hfp := hD'.free p
            have hst : Hid ((n : Int) - 10 * ((n : Int) / 10) + 48 = dgi (V * 2 ^ k) (s.nd + delta) p) := Lib.hid (by
              unfold dgi
              rw [show s.nd + delta - 1 - p = t by omega, ← hn'.out]; omega)
            have hnx : Hid (n / 10 = V * 2 ^ k / 10 ^ (t + 1)) := Lib.hid (by rw [div_succ, ← hn'.out])
            have hLE : Hid (upd (lsE s.E (V * 2 ^ k) (s.nd + delta) t) p (dgi (V * 2 ^ k) (s.nd + delta) p) = lsE s.E (V * 2 ^ k) (s.nd + delta) (t + 1)) := Lib.hid (lsE_step _ _ _ _ _ (by omega))
            clear hn'
            go_wp2_with fail
            go_roundw
            case rel => exact ⟨t + 1, p, n / 10, by omega, by omega, by go_num, by go_num, hnx, by omega, by rw [hst.out, ← hLE.out]; exact hD'.setE p (by omega) _, hb'.setCell (by simp) _⟩
            case measure => simp [intOf]; omega
          · have ht : t = s.nd + delta := by
              rcases Nat.lt_or_ge t (s.nd + delta) with h0 | h0
              · exfalso
                have h3 := hn'.out
                have h4 : 1 ≤ V * 2 ^ k / 10 ^ t := (Nat.le_div_iff_mul_le (Nat.pow_pos (by omega))).2 (by
                  rw [Nat.one_mul]
                  exact Nat.le_trans (Nat.pow_le_pow_right (by omega) (by omega)) G2.out)
                omega
              · omega
            obtain rfl : n = 0 := by omega
            obtain rfl : p = 0 := by omega
            subst ht
            clear hn'
            have cN := hD'.cellN
            have cP := hD'.cellP
            have fN := hD'.free 800
            have fP := hD'.free 801
            dsimp only at cN cP
            go_wp2_with fail
            refine (trim _ b _ ((hD'.setN (s.nd + delta)).setP (s.dp + delta)) (by dsimp only; omega)).mono ?_
            rintro en w' ⟨rfl, hT, hbT⟩
            go_wp2_with fail
            go_end0
            exact ⟨rfl, by rw [HG.out]; exact hT, ((hb'.setCell (by simp) _).setCell (by simp) _).trans hbT⟩
end Go.Proofs.YtlmilelopajdiaaGreatDoor

/-
  Plain laws for the right shift of a decimal.
-/
namespace Go.Proofs.YtlmilelopajdiaaGreatDoor
open Go.RowKit

/-- Digit j, 0 behind the last. -/
def dz (d : Nat → Nat) (nd j : Nat) : Nat := if j < nd then d j else 0
/-- The number of the first r digits. -/
def pr (d : Nat → Nat) (nd : Nat) : Nat → Nat
  | 0 => 0
  | r + 1 => pr d nd r * 10 + dz d nd r
/-- What is left after j digits have been put down, the first r0 digits read at the beginning. -/
def nn (d : Nat → Nat) (nd k r0 : Nat) : Nat → Nat
  | 0 => pr d nd r0
  | j + 1 => nn d nd k r0 j % 2 ^ k * 10 + dz d nd (r0 + j)
def rsE (d : Nat → Nat) (nd k r0 : Nat) (E : Nat → Int) : Nat → (Nat → Int)
  | 0 => E
  | j + 1 => if j < 800 then upd (rsE d nd k r0 E j) j (((nn d nd k r0 j / 2 ^ k : Nat) : Int) + 48) else rsE d nd k r0 E j
def rsT (d : Nat → Nat) (nd k r0 : Nat) (tr : Bool) : Nat → Bool
  | 0 => tr
  | j + 1 => if j < 800 then rsT d nd k r0 tr j else (rsT d nd k r0 tr j || decide (0 < nn d nd k r0 j / 2 ^ k))
structure RsPar (d : Nat → Nat) (nd k r0 J : Nat) : Prop where
  dig : ∀ j, j < nd → d j ≤ 9
  k1 : 1 ≤ k
  k2 : k ≤ 60
  nd8 : nd ≤ 800
  pos : 1 ≤ pr d nd nd
  before : ∀ r, r < r0 → pr d nd r < 2 ^ k
  at0 : 2 ^ k ≤ pr d nd r0
  r1 : r0 ≤ 1000
  J0 : nd ≤ r0 + J
  more : ∀ j, j < J → nd ≤ r0 + j → 0 < nn d nd k r0 j
  stop : nn d nd k r0 J = 0
  J1 : J ≤ 2000
section
variable {d : Nat → Nat} {nd k r0 J : Nat}
theorem dz_le (h : RsPar d nd k r0 J) (j : Nat) : dz d nd j ≤ 9 := by
  unfold dz; split
  · exact h.dig j ‹_›
  · omega
theorem pr_lt (h : RsPar d nd k r0 J) : pr d nd r0 < 10 * 2 ^ k := by
  have hp : 0 < 2 ^ k := Nat.pow_pos (by omega)
  cases hr : r0 with
  | zero => simp [pr]; omega
  | succ r =>
    have h1 := h.before r (by omega)
    have h2 := dz_le h r
    rw [pr]; omega
theorem nn_lt (h : RsPar d nd k r0 J) : ∀ j, nn d nd k r0 j < 10 * 2 ^ k
  | 0 => pr_lt h
  | j + 1 => by
    have hp : 0 < 2 ^ k := Nat.pow_pos (by omega)
    have h1 := Nat.mod_lt (nn d nd k r0 j) hp
    have h2 := dz_le h (r0 + j)
    rw [nn]; omega
theorem pr_step_le : ∀ a b, a ≤ b → pr d nd a ≤ pr d nd b := by
  intro a b h
  induction b with
  | zero => have : a = 0 := by omega
            subst this; exact Nat.le_refl _
  | succ b ih =>
    by_cases e : a = b + 1
    · subst e; exact Nat.le_refl _
    · have := ih (by omega); rw [pr]; omega
theorem r0_pos (h : RsPar d nd k r0 J) : 1 ≤ r0 := by
  rcases Nat.eq_zero_or_pos r0 with e | e
  · have := h.at0
    have hp : 0 < 2 ^ k := Nat.pow_pos (by omega)
    rw [e, pr] at this; omega
  · exact e
theorem rsE_high (E : Nat → Int) : ∀ j i, j ≤ i → rsE d nd k r0 E j i = E i
  | 0, _, _ => rfl
  | j + 1, i, hi => by
    rw [rsE]
    split
    · rw [upd_other _ _ _ _ (by omega)]; exact rsE_high E j i (by omega)
    · exact rsE_high E j i (by omega)
end
/-- There are such numbers. -/
theorem pr_ext (d : Nat → Nat) (nd : Nat) : ∀ t, pr d nd (nd + t) = pr d nd nd * 10 ^ t
  | 0 => by simp
  | t + 1 => by
    rw [← Nat.add_assoc, pr, pr_ext d nd t, dz, if_neg (by omega), Nat.pow_succ, ← Nat.mul_assoc, Nat.add_zero]
theorem least (p : Nat → Prop) [DecidablePred p] (n : Nat) (h : p n) : ∃ m, m ≤ n ∧ p m ∧ ∀ i, i < m → ¬ p i := by
  induction n using Nat.strongRecOn with
  | ind n ih =>
    by_cases e : ∃ i, i < n ∧ p i
    · obtain ⟨i, hi, hp⟩ := e
      obtain ⟨m, h1, h2, h3⟩ := ih i hi hp
      exact ⟨m, by omega, h2, h3⟩
    · exact ⟨n, Nat.le_refl _, h, fun i hi hp => e ⟨i, hi, hp⟩⟩
theorem nn_dvd (d : Nat → Nat) (nd k r0 j0 : Nat) (h0 : nd ≤ r0 + j0) : ∀ i, i ≤ k → 2 ^ i ∣ nn d nd k r0 (j0 + i) := by
  intro i
  induction i with
  | zero => intro _; exact ⟨_, (Nat.one_mul _).symm⟩
  | succ i ih =>
    intro hi
    rw [← Nat.add_assoc, nn, dz, if_neg (by omega), Nat.add_zero]
    have h1 : 2 ^ i ∣ nn d nd k r0 (j0 + i) % 2 ^ k := (Nat.dvd_mod_iff (Nat.pow_dvd_pow 2 (by omega))).2 (ih (by omega))
    obtain ⟨c, hc⟩ := h1
    exact ⟨c * 5, by rw [hc, Nat.pow_succ, Nat.add_zero, Nat.mul_assoc, Nat.mul_assoc]; congr 1; omega⟩
theorem rsPar_ex (d : Nat → Nat) (nd k : Nat) (dig : ∀ j, j < nd → d j ≤ 9) (k1 : 1 ≤ k) (k2 : k ≤ 60) (nd8 : nd ≤ 800) (pos : 1 ≤ pr d nd nd) : ∃ r0 J, RsPar d nd k r0 J := by
  have hp : 2 ^ k ≤ pr d nd (nd + k) := by
    rw [pr_ext]
    calc 2 ^ k ≤ 10 ^ k := Nat.pow_le_pow_left (by omega) k
      _ = 1 * 10 ^ k := by omega
      _ ≤ pr d nd nd * 10 ^ k := Nat.mul_le_mul_right _ pos
  obtain ⟨r0, h1, h2, h3⟩ := least (fun r => 2 ^ k ≤ pr d nd r) (nd + k) hp
  have hz : nd ≤ r0 + (nd + k + 1) ∧ nn d nd k r0 (nd + k + 1) = 0 := by
    refine ⟨by omega, ?_⟩
    have hd := nn_dvd d nd k r0 nd (by omega) k (Nat.le_refl _)
    rw [nn, dz, if_neg (by omega), Nat.mod_eq_zero_of_dvd hd]
  obtain ⟨J, g1, g2, g3⟩ := least (fun j => nd ≤ r0 + j ∧ nn d nd k r0 j = 0) (nd + k + 1) hz
  refine ⟨r0, J, dig, k1, k2, nd8, pos, fun r hr => ?_, h2, by omega, g2.1, fun j hj hnj => ?_, g2.2, by omega⟩
  · have := h3 r hr; omega
  · have := g3 j hj
    rcases Nat.eq_zero_or_pos (nn d nd k r0 j) with e | e
    · exact absurd ⟨hnj, e⟩ this
    · exact e
end Go.Proofs.YtlmilelopajdiaaGreatDoor
