/-
  shortFloat: the plain law: where its numbers lie.
-/
import Derived.Test.YtlmilelopajdiaaGreatDoorUA4
namespace Go.Proofs.YtlmilelopajdiaaGreatDoor
open Go.RowKit

theorem sfPar_normal (m e : Int) (hm : m % 2048 = 0) (m0 : 9223372036854775808 ≤ m) (m1 : m ≤ 18446744073709551615) (e0 : -1085 ≤ e) (e1 : e ≤ 960) : ∃ P mn mx od, SfPar m e P mn mx od := by
  by_cases h : m = 9223372036854775808 ∧ -1085 < e
  · refine ⟨_, _, _, _, ⟨Or.inl ⟨h.1, h.2, rfl, rfl, rfl, rfl⟩, ?_, ?_, ?_, ?_, ?_, ?_, ?_, ?_, ?_, ?_, ?_, ?_, ?_, ?_⟩⟩
    all_goals (try unfold lp); (try unfold skw); omega
  · refine ⟨_, _, _, _, ⟨Or.inr (Or.inl ⟨h, e0, rfl, rfl, rfl, rfl⟩), ?_, ?_, ?_, ?_, ?_, ?_, ?_, ?_, ?_, ?_, ?_, ?_, ?_, ?_⟩⟩
    all_goals (try unfold lp); (try unfold lg10); omega
theorem sfPar_small (m e : Int) (z : Nat) (hz0 : 12 ≤ z) (hz1 : z ≤ 63) (hm : m % 2 ^ z = 0) (m0 : 9223372036854775808 ≤ m) (m1 : m ≤ 18446744073709551615) (he : e = -1074 - (z : Int)) : ∃ P mn mx od, SfPar m e P mn mx od := by
  have hp : (0 : Int) < 2 ^ (z - 1) := Int.pow_pos (by omega)
  have hp62 : (2 : Int) ^ (z - 1) ≤ 4611686018427387904 := by
    have h := pow2_split 62 (z - 1) (by omega)
    have h' : (0 : Int) < 2 ^ (62 - (z - 1)) := Int.pow_pos (by omega)
    have : (2 : Int) ^ (z - 1) * 1 ≤ 2 ^ (z - 1) * 2 ^ (62 - (z - 1)) := Int.mul_le_mul_of_nonneg_left (by omega) (by omega)
    have e : (2 : Int) ^ 62 = 4611686018427387904 := by decide
    omega
  have h2 : (2 : Int) ^ z = 2 * 2 ^ (z - 1) := by rw [pow2_split z 1 (by omega)]; simp
  have hle : m + 2 ^ z ≤ 18446744073709551616 := by
    have h := pow2_split 64 z (by omega)
    have e : (2 : Int) ^ 64 = 18446744073709551616 := by decide
    have hd : m = 2 ^ z * (m / 2 ^ z) := (Int.mul_ediv_cancel' (Int.dvd_of_emod_eq_zero hm)).symm
    have hp2 : (0 : Int) < 2 ^ z := by omega
    have hlt : m / 2 ^ z < 2 ^ (64 - z) := by
      refine Int.ediv_lt_of_lt_mul hp2 ?_
      rw [Int.mul_comm, ← h, e]; omega
    have : 2 ^ z * (m / 2 ^ z + 1) ≤ 2 ^ z * 2 ^ (64 - z) := Int.mul_le_mul_of_nonneg_left (by omega) (by omega)
    rw [← h, e, Int.mul_add, ← hd] at this
    omega
  refine ⟨_, _, _, _, ⟨Or.inr (Or.inr ⟨z, hz0, hz1, by omega, rfl, rfl, rfl, rfl⟩), ?_, ?_, ?_, ?_, ?_, ?_, ?_, ?_, ?_, ?_, ?_, ?_, ?_, ?_⟩⟩
  all_goals (try unfold lp); (try unfold lg10); omega
/-- What shortFloat returns: a number that is not 0, and a small power of ten. -/
theorem sfRes_bd (m e P mn mx od : Int) (h : SfPar m e P mn mx od) : 1 ≤ (sfRes m e P mn mx od).1 ∧ (sfRes m e P mn mx od).1 ≤ 18446744073709551615 ∧ -1000 ≤ (sfRes m e P mn mx od).2 ∧ (sfRes m e P mn mx od).2 ≤ 1000 := by
  obtain ⟨way, e0, e1, m0, m1, mn0, mx1, P0, P1, s0, s1, od0, od1, mx0, mn1⟩ := h
  obtain ⟨q1, q2, q3, q4⟩ := p10_bd P P0 P1
  obtain ⟨f1, f2⟩ := usc_facts mn (phi P) (plo P) (-(e + lp P + 3)).toNat (by omega) (by omega) q1 q2 q3 q4 (by omega)
  obtain ⟨f3, f4⟩ := usc_facts mx (phi P) (plo P) (-(e + lp P + 3)).toNat (by omega) (by omega) q1 q2 q3 q4 (by omega)
  obtain ⟨f5, f6⟩ := usc_facts m (phi P) (plo P) (-(e + lp P + 3)).toNat (by omega) (by omega) q1 q2 q3 q4 (by omega)
  have f7 := usc_ge3 m (phi P) (plo P) (-(e + lp P + 3)).toNat (by omega) (by omega) q1 q2 (by omega)
  have g1 : 1 ≤ sfMin e P mn od ∧ sfMin e P mn od ≤ 18446744073709551615 := by unfold sfMin; omega
  have g2 : 0 ≤ sfMax e P mx od ∧ sfMax e P mx od ≤ 18446744073709551615 := by unfold sfMax; omega
  have g3 : 1 ≤ sfMid m e P ∧ sfMid m e P ≤ 18446744073709551615 := by unfold sfMid; omega
  unfold sfRes
  split
  · dsimp only; omega
  · split
    · dsimp only; omega
    · dsimp only; omega
end Go.Proofs.YtlmilelopajdiaaGreatDoor

/-
  fixedWidthFloat: what it returns.
-/
namespace Go.Proofs.YtlmilelopajdiaaGreatDoor
open Go.RowKit

def undivN : Nat → Int → Int
  | 0, u => u
  | k + 1, u => undivN k (undiv u 10)
theorem undiv10_bd (u : Int) (h0 : 0 ≤ u) (h1 : u ≤ 9223372036854775807) : 0 ≤ undiv u 10 ∧ undiv u 10 ≤ 9223372036854775807 := by
  have hb := bi_bd (u % 10 != 0)
  refine ⟨orr_nonneg _ _, ?_⟩
  have h2 := orr_lt (u / 10) (u % 2) 63 (by omega) (by omega)
  have h3 := orr_lt (orr (u / 10) (u % 2)) (bi (u % 10 != 0)) 63 h2 (by omega)
  unfold undiv; omega
theorem undivN_bd : ∀ (k : Nat) (u : Int), 0 ≤ u → u ≤ 9223372036854775807 → 0 ≤ undivN k u ∧ undivN k u ≤ 9223372036854775807
  | 0, u, h0, h1 => ⟨h0, h1⟩
  | k + 1, u, h0, h1 => by have := undiv10_bd u h0 h1; exact undivN_bd k _ this.1 this.2
theorem undivN_succ : ∀ (k : Nat) (u : Int), undivN (k + 1) u = undiv (undivN k u) 10
  | 0, u => rfl
  | k + 1, u => by rw [undivN, undivN_succ k]; rfl
def t10 (n : Nat) : Int := Lib.pow10Tab.getD n 0
theorem t10_bd : ∀ n : Fin 19, 1 ≤ t10 n.val ∧ t10 n.val ≤ 1000000000000000000 := by decide +kernel
theorem usc_le63 (x hi lo : Int) (s : Nat) (hx : 0 ≤ x) (hx1 : x ≤ 18446744073709551615) (hy : 0 ≤ hi) (hy1 : hi ≤ 18446744073709551615) (hs : 1 ≤ s) : 0 ≤ usc x hi lo s ∧ usc x hi lo s ≤ 9223372036854775807 := by
  have h1 := mhi_bd x hi (by omega) hx1 (by omega) hy1
  have hp : (0 : Int) < 2 ^ s := Int.pow_pos (by omega)
  have hp2 : (2 : Int) ≤ 2 ^ s := by
    rw [pow2_split s 1 hs]
    have : (0 : Int) < 2 ^ (s - 1) := Int.pow_pos (by omega)
    omega
  have hdiv : ∀ a : Int, 0 ≤ a → a ≤ 18446744073709551615 → a / 2 ^ s ≤ 9223372036854775807 := by
    intro a ha ha1
    refine Int.le_of_lt_add_one (Int.ediv_lt_of_lt_mul hp ?_)
    have : (9223372036854775807 + 1) * 2 ≤ ((9223372036854775807 : Int) + 1) * 2 ^ s := Int.mul_le_mul_of_nonneg_left hp2 (by omega)
    omega
  have hup : ∀ a b : Int, a ≤ 9223372036854775807 → b ≤ 1 → orr a b ≤ 9223372036854775807 := fun a b ha hb => by
    have := orr_lt a b 63 (by omega) (by omega); omega
  have hw := wrap_u64_bd (mhi x hi - bi (decide (mlo x hi < mhi x lo)))
  have hb1 := bi_bd (decide (1 < IntKind.u64.wrap (mlo x hi - mhi x lo)))
  unfold usc
  split
  · exact ⟨orr_nonneg _ _, hup _ _ (hdiv _ h1.1 (by omega)) (by omega)⟩
  · exact ⟨orr_nonneg _ _, hup _ _ (hdiv _ hw.1 hw.2) hb1.2⟩

def fwP (e : Int) (n : Nat) : Int := (n : Int) - 1 - lg10 (e + 63)
def fwU (m e : Int) (n : Nat) : Int := usc m (phi (fwP e n)) (plo (fwP e n)) (-(e + lp (fwP e n) + 3)).toNat
def fwU1 (m e : Int) (n : Nat) : Int := if t10 n * 4 - 2 ≤ fwU m e n then undiv (fwU m e n) 10 else fwU m e n
def fwP1 (m e : Int) (n : Nat) : Int := if t10 n * 4 - 2 ≤ fwU m e n then fwP e n - 1 else fwP e n
def rnd (u : Int) : Int := (u + 1 + u / 4 % 2) / 4
def fwD (m e : Int) (n : Nat) (prec : Int) : Int := rnd (undivN (fwP1 m e n - prec).toNat (fwU1 m e n))
def fwQ (m e : Int) (n : Nat) (prec : Int) : Int := -(fwP1 m e n - ((fwP1 m e n - prec).toNat : Int))

set_option maxHeartbeats 1000000 in
theorem fixedWidth (m e : Int) (n : Nat) (prec : Int) (hm0 : 0 ≤ m) (hm1 : m ≤ 18446744073709551615) (he0 : -1137 ≤ e) (he1 : e ≤ 960) (hn : 1 ≤ n) (hn1 : n ≤ 18) (hp0 : 0 ≤ prec) (hp1 : prec ≤ 100)
    (B : Nat) (w : World) (hB : 2 < w.heap.size) (hT : Tabs B w) :
    Calls Tryz.prog 99 #[.int .u64 m, .int .i64 e, .int .i64 n, .int .i64 prec, .int .u8 102] w fun en w' => en = .returned (.tuple #[.int .u64 (fwD m e n prec), .int .i64 (fwQ m e n prec)]) ∧ Below w.heap.size w w' := by
  have hP0 : -348 ≤ fwP e n := by unfold fwP lg10; omega
  have hP1 : fwP e n ≤ 347 := by unfold fwP lg10; omega
  have hs0 : 1 ≤ -(e + lp (fwP e n) + 3) := by unfold lp fwP lg10; omega
  have hs1 : -(e + lp (fwP e n) + 3) ≤ 63 := by unfold lp fwP lg10; omega
  have hfp : (n : Int) - 1 - lg10 (e + 63) = fwP e n := rfl
  have hc : w.cell? ⟨1, n, none⟩ = some (.int .u64 (t10 n)) := hT.u10.cell (by kernel_rfl) n (by show n < 20; omega)
  have ht := t10_bd ⟨n, by omega⟩
  dsimp only at ht
  have hPS := Lib.hid fun w hB hT => prescale w e (fwP e n) (lp (fwP e n)) hP0 hP1 (by omega) (by omega) (by unfold lp; omega) (by unfold lp; omega) hB hT
  have HT := Lib.hid hT.p10
  obtain ⟨q1, q2, q3, q4⟩ := p10_bd _ hP0 hP1
  obtain ⟨s, hs⟩ : ∃ s : Nat, -(e + lp (fwP e n) + 3) = (s : Int) := ⟨(-(e + lp (fwP e n) + 3)).toNat, by omega⟩
  have hU : usc m (phi (fwP e n)) (plo (fwP e n)) s = fwU m e n := by unfold fwU; rw [show (-(e + lp (fwP e n) + 3)).toNat = s by omega]
  obtain ⟨u0, u1⟩ := usc_le63 m (phi (fwP e n)) (plo (fwP e n)) s hm0 hm1 (by omega) q2 (by omega)
  rw [hU] at u0 u1
  have hs64 : s < 64 := by omega
  have hB1 : 1 < w.heap.size := by omega
  clear hs0 hs1 hT
  obtain ⟨U1, hU1⟩ : ∃ U1, U1 = fwU1 m e n := ⟨_, rfl⟩
  obtain ⟨P1, hP1'⟩ : ∃ P1, P1 = fwP1 m e n := ⟨_, rfl⟩
  have HD : Hid (fwD m e n prec = rnd (undivN (P1 - prec).toNat U1)) := Lib.hid (by rw [hU1, hP1']; rfl)
  have HQ : Hid (fwQ m e n prec = -(P1 - ((P1 - prec).toNat : Int))) := Lib.hid (by rw [hP1']; rfl)
  by_cases ht4 : t10 n * 4 - 2 ≤ fwU m e n
  · have g1 : undiv (fwU m e n) 10 = U1 := by rw [hU1]; unfold fwU1; rw [if_pos ht4]
    have g2 : fwP e n - 1 = P1 := by rw [hP1']; unfold fwP1; rw [if_pos ht4]
    clear hU1 hP1'
    obtain ⟨U0, U01⟩ := undiv10_bd (fwU m e n) u0 u1
    rw [g1] at U0 U01
    go_enter Tryz.func99, Tryz.ntmps99
    go_wp2_with fail
    refine (log10Pow2 _ (by omega) (by omega) _).mono ?_
    rintro en w' ⟨rfl, rfl⟩
    go_wp2_with fail
    refine (log2Pow10 _ (by omega) (by omega) _).mono ?_
    rintro en w' ⟨rfl, rfl⟩
    go_wp2_with fail
    refine (hPS.out w hB HT.out).mono ?_
    rintro en w' ⟨rfl, rfl⟩
    rw [hs]
    go_wp2_with fail
    refine (uscale m (phi (fwP e n)) (plo (fwP e n)) s _ _ (by omega) (by omega) (by omega) q2 q3 q4 (by omega) (by simp) (by simp) (by simp)).mono ?_
    rintro en w' ⟨rfl, n1, rfl⟩
    rw [hU]
    go_wp2_with fail
    refine (unmin _ (by omega) (by omega) _).mono ?_
    rintro en w' ⟨rfl, rfl⟩
    go_wp2_with fail
    refine (unDiv _ _ (by omega) (by omega) (by omega) _).mono ?_
    rintro en w' ⟨rfl, n2, rfl⟩
    rw [g1]
    go_wp2_with fail
    go_loopw [13, 11] (fun v13 v11 wr => ∃ (k j : Nat), (k : Int) ≤ P1 - prec ∧ v13 = .int .u64 (undivN k U1) ∧ v11 = .int .i64 (P1 - k) ∧ wr = (w.alloc (.cells #[.int .u64 (phi (fwP e n)), .int .u64 (plo (fwP e n)), .int .i64 s] 187)).drewN j ∨
        P1 < prec ∧ v13 = .int .u64 U1 ∧ v11 = .int .i64 P1 ∧ wr = (w.alloc (.cells #[.int .u64 (phi (fwP e n)), .int .u64 (plo (fwP e n)), .int .i64 s] 187)).drewN j) (fun _ v11 _ => (intOf v11 - prec).toNat)
    case atStart =>
      rcases Int.lt_or_le P1 prec with h | h
      · exact ⟨0, _, Or.inr ⟨h, rfl, rfl, rfl⟩⟩
      · exact ⟨0, _, Or.inl ⟨by omega, rfl, by go_num, rfl⟩⟩
    case round =>
      obtain ⟨k, j, ⟨hk, rfl, rfl, rfl⟩ | ⟨hk, rfl, rfl, rfl⟩⟩ := hrel
      · obtain ⟨v0, v1⟩ := undivN_bd k U1 U0 U01
        have HV := Lib.hid (undivN_succ k U1)
        by_cases hlt : prec < P1 - k
        · go_wp2_with fail
          refine (unDiv _ _ (by omega) (by omega) (by omega) _).mono ?_
          rintro en w' ⟨rfl, n2, rfl⟩
          go_wp2_with fail
          go_roundw
          case rel => exact ⟨k + 1, _, Or.inl ⟨by omega, by rw [HV.out], by go_num, rfl⟩⟩
          case measure => simp [intOf]; omega
        · have HK : Hid ((P1 - prec).toNat = k) := Lib.hid (by omega)
          go_wp2_with fail
          refine (unRound _ (by omega) (by omega) _).mono ?_
          rintro en w' ⟨rfl, rfl⟩
          go_wp2_with fail
          go_ret2
          exact ⟨by rw [HD.out, HQ.out, HK.out]; rfl, below_drewN ((Below.refl _ _).alloc (Nat.le_refl _) _) _⟩
      · have HK : Hid ((P1 - prec).toNat = 0) := Lib.hid (by omega)
        go_wp2_with fail
        refine (unRound _ (by omega) (by omega) _).mono ?_
        rintro en w' ⟨rfl, rfl⟩
        go_wp2_with fail
        go_ret2
        exact ⟨by rw [HD.out, HQ.out, HK.out]; simp [undivN, rnd], below_drewN ((Below.refl _ _).alloc (Nat.le_refl _) _) _⟩
  · have g1 : fwU m e n = U1 := by rw [hU1]; unfold fwU1; rw [if_neg ht4]
    have g2 : fwP e n = P1 := by rw [hP1']; unfold fwP1; rw [if_neg ht4]
    clear hU1 hP1'
    have U0 := u0
    have U01 := u1
    rw [g1] at U0 U01 u0 u1 hU ht4
    rw [g2] at hP0 hP1 hfp hPS q1 q2 q3 q4 hs hU
    clear g1 g2
    go_enter Tryz.func99, Tryz.ntmps99
    go_wp2_with fail
    refine (log10Pow2 _ (by omega) (by omega) _).mono ?_
    rintro en w' ⟨rfl, rfl⟩
    go_wp2_with fail
    refine (log2Pow10 _ (by omega) (by omega) _).mono ?_
    rintro en w' ⟨rfl, rfl⟩
    go_wp2_with fail
    refine (hPS.out w hB HT.out).mono ?_
    rintro en w' ⟨rfl, rfl⟩
    rw [hs]
    go_wp2_with fail
    refine (uscale m (phi (P1)) (plo (P1)) s _ _ (by omega) (by omega) (by omega) q2 q3 q4 (by omega) (by simp) (by simp) (by simp)).mono ?_
    rintro en w' ⟨rfl, n1, rfl⟩
    rw [hU]
    go_wp2_with fail
    refine (unmin _ (by omega) (by omega) _).mono ?_
    rintro en w' ⟨rfl, rfl⟩
    go_wp2_with fail
    go_loopw [13, 11] (fun v13 v11 wr => ∃ (k j : Nat), (k : Int) ≤ P1 - prec ∧ v13 = .int .u64 (undivN k U1) ∧ v11 = .int .i64 (P1 - k) ∧ wr = (w.alloc (.cells #[.int .u64 (phi (P1)), .int .u64 (plo (P1)), .int .i64 s] 187)).drewN j ∨
        P1 < prec ∧ v13 = .int .u64 U1 ∧ v11 = .int .i64 P1 ∧ wr = (w.alloc (.cells #[.int .u64 (phi (P1)), .int .u64 (plo (P1)), .int .i64 s] 187)).drewN j) (fun _ v11 _ => (intOf v11 - prec).toNat)
    case atStart =>
      rcases Int.lt_or_le P1 prec with h | h
      · exact ⟨0, _, Or.inr ⟨h, rfl, rfl, rfl⟩⟩
      · exact ⟨0, _, Or.inl ⟨by omega, rfl, by go_num, rfl⟩⟩
    case round =>
      obtain ⟨k, j, ⟨hk, rfl, rfl, rfl⟩ | ⟨hk, rfl, rfl, rfl⟩⟩ := hrel
      · obtain ⟨v0, v1⟩ := undivN_bd k U1 U0 U01
        have HV := Lib.hid (undivN_succ k U1)
        by_cases hlt : prec < P1 - k
        · go_wp2_with fail
          refine (unDiv _ _ (by omega) (by omega) (by omega) _).mono ?_
          rintro en w' ⟨rfl, n2, rfl⟩
          go_wp2_with fail
          go_roundw
          case rel => exact ⟨k + 1, _, Or.inl ⟨by omega, by rw [HV.out], by go_num, rfl⟩⟩
          case measure => simp [intOf]; omega
        · have HK : Hid ((P1 - prec).toNat = k) := Lib.hid (by omega)
          go_wp2_with fail
          refine (unRound _ (by omega) (by omega) _).mono ?_
          rintro en w' ⟨rfl, rfl⟩
          go_wp2_with fail
          go_ret2
          exact ⟨by rw [HD.out, HQ.out, HK.out]; rfl, below_drewN ((Below.refl _ _).alloc (Nat.le_refl _) _) _⟩
      · have HK : Hid ((P1 - prec).toNat = 0) := Lib.hid (by omega)
        go_wp2_with fail
        refine (unRound _ (by omega) (by omega) _).mono ?_
        rintro en w' ⟨rfl, rfl⟩
        go_wp2_with fail
        go_ret2
        exact ⟨by rw [HD.out, HQ.out, HK.out]; simp [undivN, rnd], below_drewN ((Below.refl _ _).alloc (Nat.le_refl _) _) _⟩
end Go.Proofs.YtlmilelopajdiaaGreatDoor
