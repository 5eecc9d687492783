/-
  shortFloat: the walk.
-/
import Derived.Test.YtlmilelopajdiaaGreatDoorUA1
import Derived.Deep.DeepCutAuto
namespace Go.Proofs.YtlmilelopajdiaaGreatDoor
open Go.RowKit

theorem and_one_i64 (x : Int) (h0 : 0 ≤ x) (h1 : x ≤ 9223372036854775807) : bits .and .i64 x 1 = x % 2 := by
  have := bits_mask .i64 63 (by decide) (fun n h0 h1 => by rw [IntKind.wrap_i64]; omega) 1 (by decide) x h0 (by omega)
  simpa using this
/-- What the first half of shortFloat finds. -/
structure SfPar (m e P mn mx od : Int) : Prop where
  way : (m = 9223372036854775808 ∧ -1085 < e ∧ P = -(skw (e + 11)) ∧ mn = m - 512 ∧ mx = m + 1024 ∧ od = m / 2048 % 2) ∨
    (¬ (m = 9223372036854775808 ∧ -1085 < e) ∧ -1085 ≤ e ∧ P = -(lg10 (e + 11)) ∧ mn = m - 1024 ∧ mx = m + 1024 ∧ od = m / 2048 % 2) ∨
    (∃ z : Nat, 12 ≤ z ∧ z ≤ 63 ∧ 11 + (-1085 - e) = (z : Int) ∧ P = -(lg10 (e + z)) ∧ mn = m - 2 ^ (z - 1) ∧ mx = m + 2 ^ (z - 1) ∧ od = m / 2 ^ z % 2)
  e0 : -2000 ≤ e
  e1 : e ≤ 2000
  m0 : 9223372036854775808 ≤ m
  m1 : m ≤ 18446744073709551615
  mn0 : 4611686018427387904 ≤ mn
  mx1 : mx ≤ 18446744073709551615
  P0 : -348 ≤ P
  P1 : P ≤ 347
  s0 : 3 ≤ -(e + lp P + 3)
  s1 : -(e + lp P + 3) ≤ 60
  od0 : 0 ≤ od
  od1 : od ≤ 1
  mx0 : 2 ≤ mx
  mn1 : mn ≤ 18446744073709551615

def sfMin (e P mn od : Int) : Int := (usc mn (phi P) (plo P) (-(e + lp P + 3)).toNat + od + 3) / 4
def sfMax (e P mx od : Int) : Int := (usc mx (phi P) (plo P) (-(e + lp P + 3)).toNat + -od) / 4
def sfMid (m e P : Int) : Int := (usc m (phi P) (plo P) (-(e + lp P + 3)).toNat + 1 + usc m (phi P) (plo P) (-(e + lp P + 3)).toNat / 4 % 2) / 4
def sfRes (m e P mn mx od : Int) : Int × Int :=
  if sfMin e P mn od ≤ sfMax e P mx od / 10 * 10 then (sfMax e P mx od / 10, -(P - 1))
  else if sfMin e P mn od < sfMax e P mx od then (sfMid m e P, -P) else (sfMin e P mn od, -P)

set_option maxHeartbeats 4000000 in
theorem sf_walk (m e P mn mx od : Int) (h : SfPar m e P mn mx od) (w : World) (hB : 2 < w.heap.size) (hT : ∀ i : Nat, i < 696 → w.cell? ⟨2, i * 2, none⟩ = some (.int .u64 (phi ((i : Int) - 348))) ∧ w.cell? ⟨2, i * 2 + 1, none⟩ = some (.int .u64 (plo ((i : Int) - 348)))) :
    Calls Tryz.prog 103 #[.int .u64 m, .int .i64 e] w fun en w' => en = .returned (.tuple #[.int .u64 (sfRes m e P mn mx od).1, .int .i64 (sfRes m e P mn mx od).2]) ∧ Below w.heap.size w w' := by
  obtain ⟨way, e0, e1, m0, m1, mn0, mx1, P0, P1, s0, s1, od0, od1, mx0, mn1⟩ := h
  have hPS := Lib.hid fun w hB hT => prescale w e P (lp P) P0 P1 (by omega) (by omega) (by unfold lp; omega) (by unfold lp; omega) hB hT
  have HT := Lib.hid hT
  obtain ⟨q1, q2, q3, q4⟩ := p10_bd P P0 P1
  obtain ⟨s, hs⟩ : ∃ s : Nat, -(e + lp P + 3) = (s : Int) := ⟨(-(e + lp P + 3)).toNat, by omega⟩
  have hs3 : 3 ≤ s := by omega
  have hs60 : s ≤ 60 := by omega
  have HS : Hid ((-(e + lp P + 3)).toNat = s) := Lib.hid (by omega)
  clear hT s0 s1
  obtain ⟨f1, f2⟩ := usc_facts mn (phi P) (plo P) s (by omega) (by omega) q1 q2 q3 q4 hs3
  obtain ⟨f3, f4⟩ := usc_facts mx (phi P) (plo P) s (by omega) (by omega) q1 q2 q3 q4 hs3
  obtain ⟨f5, f6⟩ := usc_facts m (phi P) (plo P) s (by omega) (by omega) q1 q2 q3 q4 hs3
  have HR : Hid (sfRes m e P mn mx od = (if (usc mn (phi P) (plo P) s + od + 3) / 4 ≤ (usc mx (phi P) (plo P) s + -od) / 4 / 10 * 10 then ((usc mx (phi P) (plo P) s + -od) / 4 / 10, -(P - 1))
      else if (usc mn (phi P) (plo P) s + od + 3) / 4 < (usc mx (phi P) (plo P) s + -od) / 4 then ((usc m (phi P) (plo P) s + 1 + usc m (phi P) (plo P) s / 4 % 2) / 4, -P) else ((usc mn (phi P) (plo P) s + od + 3) / 4, -P))) := Lib.hid (by
    unfold sfRes sfMin sfMax sfMid
    rw [HS.out])
  clear HS
  rcases way with ⟨h1, h2, h3, h4, h5, h6⟩ | ⟨h1, h2, h3, h4, h5, h6⟩ | ⟨z, h1, h2, h0, h3, h4, h5, h6⟩
  · have g1 : (m == 9223372036854775808) = true := by simp [h1]
    have g3 := h3.symm
    have g4 := h4.symm
    have g5 := h5.symm
    have g6 : bits .and .i64 (m / 2048) 1 = od := by rw [and_one_i64 _ (by omega) (by omega)]; exact h6.symm
    clear h1 h3 h4 h5 h6
    go_enter Tryz.func103, Tryz.ntmps103
    go_wp2_with (first | (go_at_call 107; refine (skewed _ (by omega) (by omega) _).mono ?_; rintro e w' ⟨rfl, rfl⟩) | (go_at_call 98; refine (log10Pow2 _ (by omega) (by omega) _).mono ?_; rintro e w' ⟨rfl, rfl⟩))
    refine (log2Pow10 P (by omega) (by omega) _).mono ?_
    rintro en w' ⟨rfl, rfl⟩
    go_wp2_with fail
    refine (hPS.out w hB HT.out).mono ?_
    rintro en w' ⟨rfl, rfl⟩
    rw [hs]
    go_wp2_with fail
    refine (uscale mn (phi P) (plo P) s _ _ (by omega) (by omega) (by omega) q2 q3 q4 (by omega) (by simp) (by simp) (by simp)).mono ?_
    rintro en w' ⟨rfl, n1, rfl⟩
    go_wp2_with fail
    refine (unNudge _ _ (by omega) (by omega) (by omega) (by omega) (by omega) _).mono ?_
    rintro en w' ⟨rfl, rfl⟩
    go_wp2_with fail
    refine (unCeil _ (by omega) (by omega) _).mono ?_
    rintro en w' ⟨rfl, rfl⟩
    go_wp2_with fail
    refine (uscale mx (phi P) (plo P) s _ _ (by omega) (by omega) (by omega) q2 q3 q4 (by omega) (by simp) (by simp) (by simp)).mono ?_
    rintro en w' ⟨rfl, n2, rfl⟩
    go_wp2_with fail
    refine (unNudge _ _ (by omega) (by omega) (by omega) (by omega) (by omega) _).mono ?_
    rintro en w' ⟨rfl, rfl⟩
    go_wp2_with fail
    refine (unFloor _ (by omega) (by omega) _).mono ?_
    rintro en w' ⟨rfl, rfl⟩
    go_wp2_with fail
    · have t1 : (usc mn (phi P) (plo P) s + od + 3) / 4 ≤ (usc mx (phi P) (plo P) s + -od) / 4 / 10 * 10 := by assumption
      go_ret2
      exact ⟨by rw [HR.out, if_pos t1]; rfl, below_drewN ((Below.refl _ _).alloc (Nat.le_refl _) _) _⟩
    · have t1 : ¬ (usc mn (phi P) (plo P) s + od + 3) / 4 ≤ (usc mx (phi P) (plo P) s + -od) / 4 / 10 * 10 := by omega
      have t2 : (usc mn (phi P) (plo P) s + od + 3) / 4 < (usc mx (phi P) (plo P) s + -od) / 4 := by assumption
      have R1 := Lib.hid t1
      clear t1
      refine (uscale m (phi P) (plo P) s _ _ (by omega) (by omega) (by omega) q2 q3 q4 (by omega) (by simp) (by simp) (by simp)).mono ?_
      rintro en w' ⟨rfl, n3, rfl⟩
      go_wp2_with fail
      refine (unRound _ (by omega) (by omega) _).mono ?_
      rintro en w' ⟨rfl, rfl⟩
      go_wp2_with fail
      go_ret2
      exact ⟨by rw [HR.out, if_neg (by have := R1.out; omega), if_pos t2]; rfl, below_drewN ((Below.refl _ _).alloc (Nat.le_refl _) _) _⟩
    · have t1 : ¬ (usc mn (phi P) (plo P) s + od + 3) / 4 ≤ (usc mx (phi P) (plo P) s + -od) / 4 / 10 * 10 := by omega
      have t2 : ¬ (usc mn (phi P) (plo P) s + od + 3) / 4 < (usc mx (phi P) (plo P) s + -od) / 4 := by omega
      go_ret2
      exact ⟨by rw [HR.out, if_neg t1, if_neg t2]; rfl, below_drewN ((Below.refl _ _).alloc (Nat.le_refl _) _) _⟩
  · have g3 := h3.symm
    have g4 := h4.symm
    have g5 := h5.symm
    have g6 : bits .and .i64 (m / 2048) 1 = od := by rw [and_one_i64 _ (by omega) (by omega)]; exact h6.symm
    clear h3 h4 h5 h6
    by_cases hm : m = 9223372036854775808
    · have g1 : (m == 9223372036854775808) = true := by simp [hm]
      have he : e ≤ -1085 := by omega
      clear h1 hm
      go_enter Tryz.func103, Tryz.ntmps103
      go_wp2_with (first | (go_at_call 107; refine (skewed _ (by omega) (by omega) _).mono ?_; rintro e w' ⟨rfl, rfl⟩) | (go_at_call 98; refine (log10Pow2 _ (by omega) (by omega) _).mono ?_; rintro e w' ⟨rfl, rfl⟩))
      refine (log2Pow10 P (by omega) (by omega) _).mono ?_
      rintro en w' ⟨rfl, rfl⟩
      go_wp2_with fail
      refine (hPS.out w hB HT.out).mono ?_
      rintro en w' ⟨rfl, rfl⟩
      rw [hs]
      go_wp2_with fail
      refine (uscale mn (phi P) (plo P) s _ _ (by omega) (by omega) (by omega) q2 q3 q4 (by omega) (by simp) (by simp) (by simp)).mono ?_
      rintro en w' ⟨rfl, n1, rfl⟩
      go_wp2_with fail
      refine (unNudge _ _ (by omega) (by omega) (by omega) (by omega) (by omega) _).mono ?_
      rintro en w' ⟨rfl, rfl⟩
      go_wp2_with fail
      refine (unCeil _ (by omega) (by omega) _).mono ?_
      rintro en w' ⟨rfl, rfl⟩
      go_wp2_with fail
      refine (uscale mx (phi P) (plo P) s _ _ (by omega) (by omega) (by omega) q2 q3 q4 (by omega) (by simp) (by simp) (by simp)).mono ?_
      rintro en w' ⟨rfl, n2, rfl⟩
      go_wp2_with fail
      refine (unNudge _ _ (by omega) (by omega) (by omega) (by omega) (by omega) _).mono ?_
      rintro en w' ⟨rfl, rfl⟩
      go_wp2_with fail
      refine (unFloor _ (by omega) (by omega) _).mono ?_
      rintro en w' ⟨rfl, rfl⟩
      go_wp2_with fail
      · have t1 : (usc mn (phi P) (plo P) s + od + 3) / 4 ≤ (usc mx (phi P) (plo P) s + -od) / 4 / 10 * 10 := by assumption
        go_ret2
        exact ⟨by rw [HR.out, if_pos t1]; rfl, below_drewN ((Below.refl _ _).alloc (Nat.le_refl _) _) _⟩
      · have t1 : ¬ (usc mn (phi P) (plo P) s + od + 3) / 4 ≤ (usc mx (phi P) (plo P) s + -od) / 4 / 10 * 10 := by omega
        have t2 : (usc mn (phi P) (plo P) s + od + 3) / 4 < (usc mx (phi P) (plo P) s + -od) / 4 := by assumption
        have R1 := Lib.hid t1
        clear t1
        refine (uscale m (phi P) (plo P) s _ _ (by omega) (by omega) (by omega) q2 q3 q4 (by omega) (by simp) (by simp) (by simp)).mono ?_
        rintro en w' ⟨rfl, n3, rfl⟩
        go_wp2_with fail
        refine (unRound _ (by omega) (by omega) _).mono ?_
        rintro en w' ⟨rfl, rfl⟩
        go_wp2_with fail
        go_ret2
        exact ⟨by rw [HR.out, if_neg (by have := R1.out; omega), if_pos t2]; rfl, below_drewN ((Below.refl _ _).alloc (Nat.le_refl _) _) _⟩
      · have t1 : ¬ (usc mn (phi P) (plo P) s + od + 3) / 4 ≤ (usc mx (phi P) (plo P) s + -od) / 4 / 10 * 10 := by omega
        have t2 : ¬ (usc mn (phi P) (plo P) s + od + 3) / 4 < (usc mx (phi P) (plo P) s + -od) / 4 := by omega
        go_ret2
        exact ⟨by rw [HR.out, if_neg t1, if_neg t2]; rfl, below_drewN ((Below.refl _ _).alloc (Nat.le_refl _) _) _⟩
    · have g1 : (m == 9223372036854775808) = false := by simp [hm]
      clear h1 hm
      go_enter Tryz.func103, Tryz.ntmps103
      go_wp2_with (first | (go_at_call 107; refine (skewed _ (by omega) (by omega) _).mono ?_; rintro e w' ⟨rfl, rfl⟩) | (go_at_call 98; refine (log10Pow2 _ (by omega) (by omega) _).mono ?_; rintro e w' ⟨rfl, rfl⟩))
      refine (log2Pow10 P (by omega) (by omega) _).mono ?_
      rintro en w' ⟨rfl, rfl⟩
      go_wp2_with fail
      refine (hPS.out w hB HT.out).mono ?_
      rintro en w' ⟨rfl, rfl⟩
      rw [hs]
      go_wp2_with fail
      refine (uscale mn (phi P) (plo P) s _ _ (by omega) (by omega) (by omega) q2 q3 q4 (by omega) (by simp) (by simp) (by simp)).mono ?_
      rintro en w' ⟨rfl, n1, rfl⟩
      go_wp2_with fail
      refine (unNudge _ _ (by omega) (by omega) (by omega) (by omega) (by omega) _).mono ?_
      rintro en w' ⟨rfl, rfl⟩
      go_wp2_with fail
      refine (unCeil _ (by omega) (by omega) _).mono ?_
      rintro en w' ⟨rfl, rfl⟩
      go_wp2_with fail
      refine (uscale mx (phi P) (plo P) s _ _ (by omega) (by omega) (by omega) q2 q3 q4 (by omega) (by simp) (by simp) (by simp)).mono ?_
      rintro en w' ⟨rfl, n2, rfl⟩
      go_wp2_with fail
      refine (unNudge _ _ (by omega) (by omega) (by omega) (by omega) (by omega) _).mono ?_
      rintro en w' ⟨rfl, rfl⟩
      go_wp2_with fail
      refine (unFloor _ (by omega) (by omega) _).mono ?_
      rintro en w' ⟨rfl, rfl⟩
      go_wp2_with fail
      · have t1 : (usc mn (phi P) (plo P) s + od + 3) / 4 ≤ (usc mx (phi P) (plo P) s + -od) / 4 / 10 * 10 := by assumption
        go_ret2
        exact ⟨by rw [HR.out, if_pos t1]; rfl, below_drewN ((Below.refl _ _).alloc (Nat.le_refl _) _) _⟩
      · have t1 : ¬ (usc mn (phi P) (plo P) s + od + 3) / 4 ≤ (usc mx (phi P) (plo P) s + -od) / 4 / 10 * 10 := by omega
        have t2 : (usc mn (phi P) (plo P) s + od + 3) / 4 < (usc mx (phi P) (plo P) s + -od) / 4 := by assumption
        have R1 := Lib.hid t1
        clear t1
        refine (uscale m (phi P) (plo P) s _ _ (by omega) (by omega) (by omega) q2 q3 q4 (by omega) (by simp) (by simp) (by simp)).mono ?_
        rintro en w' ⟨rfl, n3, rfl⟩
        go_wp2_with fail
        refine (unRound _ (by omega) (by omega) _).mono ?_
        rintro en w' ⟨rfl, rfl⟩
        go_wp2_with fail
        go_ret2
        exact ⟨by rw [HR.out, if_neg (by have := R1.out; omega), if_pos t2]; rfl, below_drewN ((Below.refl _ _).alloc (Nat.le_refl _) _) _⟩
      · have t1 : ¬ (usc mn (phi P) (plo P) s + od + 3) / 4 ≤ (usc mx (phi P) (plo P) s + -od) / 4 / 10 * 10 := by omega
        have t2 : ¬ (usc mn (phi P) (plo P) s + od + 3) / 4 < (usc mx (phi P) (plo P) s + -od) / 4 := by omega
        go_ret2
        exact ⟨by rw [HR.out, if_neg t1, if_neg t2]; rfl, below_drewN ((Below.refl _ _).alloc (Nat.le_refl _) _) _⟩
  · have g3 := h3.symm
    have g4 := h4.symm
    have g5 := h5.symm
    have hz0 : 0 ≤ m / 2 ^ z := (div_pow_bd m z (by omega)).1
    have hz1 : m / 2 ^ z ≤ 9223372036854775807 := by
      have hp : (0 : Int) < 2 ^ z := Int.pow_pos (by omega)
      have h2' : (2 : Int) ≤ 2 ^ z := by
        rw [pow2_split z 1 (by omega)]
        have : (0 : Int) < 2 ^ (z - 1) := Int.pow_pos (by omega)
        omega
      refine Int.le_of_lt_add_one (Int.ediv_lt_of_lt_mul hp ?_)
      have : (9223372036854775807 + 1) * 2 ≤ ((9223372036854775807 : Int) + 1) * 2 ^ z := Int.mul_le_mul_of_nonneg_left h2' (by omega)
      omega
    have g6 : bits .and .i64 (m / 2 ^ z) 1 = od := by rw [and_one_i64 _ hz0 hz1]; exact h6.symm
    have he : e ≤ -1086 := by omega
    have hH0 : (0 : Int) < 2 ^ (z - 1) := Int.pow_pos (by omega)
    have hH1 : (2 : Int) ^ (z - 1) ≤ 4611686018427387904 := by
      have h := pow2_split 62 (z - 1) (by omega)
      have h' : (0 : Int) < 2 ^ (62 - (z - 1)) := Int.pow_pos (by omega)
      have : (2 : Int) ^ (z - 1) * 1 ≤ 2 ^ (z - 1) * 2 ^ (62 - (z - 1)) := Int.mul_le_mul_of_nonneg_left (by omega) (by omega)
      have e : (2 : Int) ^ 62 = 4611686018427387904 := by decide
      omega
    obtain ⟨H, hH⟩ : ∃ H : Int, (2 : Int) ^ (z - 1) = H := ⟨_, rfl⟩
    rw [hH] at g4 g5 hH0 hH1
    clear h3 h4 h5 h6
    by_cases hm : m = 9223372036854775808
    · have g1 : (m == 9223372036854775808) = true := by simp [hm]
      clear hm
      go_enter Tryz.func103, Tryz.ntmps103
      go_wp2_with (first | (go_at_call 107; refine (skewed _ (by omega) (by omega) _).mono ?_; rintro e w' ⟨rfl, rfl⟩) | (go_at_call 98; refine (log10Pow2 _ (by omega) (by omega) _).mono ?_; rintro e w' ⟨rfl, rfl⟩))
      refine (log2Pow10 P (by omega) (by omega) _).mono ?_
      rintro en w' ⟨rfl, rfl⟩
      go_wp2_with fail
      refine (hPS.out w hB HT.out).mono ?_
      rintro en w' ⟨rfl, rfl⟩
      rw [hs]
      go_wp2_with fail
      refine (uscale mn (phi P) (plo P) s _ _ (by omega) (by omega) (by omega) q2 q3 q4 (by omega) (by simp) (by simp) (by simp)).mono ?_
      rintro en w' ⟨rfl, n1, rfl⟩
      go_wp2_with fail
      refine (unNudge _ _ (by omega) (by omega) (by omega) (by omega) (by omega) _).mono ?_
      rintro en w' ⟨rfl, rfl⟩
      go_wp2_with fail
      refine (unCeil _ (by omega) (by omega) _).mono ?_
      rintro en w' ⟨rfl, rfl⟩
      go_wp2_with fail
      refine (uscale mx (phi P) (plo P) s _ _ (by omega) (by omega) (by omega) q2 q3 q4 (by omega) (by simp) (by simp) (by simp)).mono ?_
      rintro en w' ⟨rfl, n2, rfl⟩
      go_wp2_with fail
      refine (unNudge _ _ (by omega) (by omega) (by omega) (by omega) (by omega) _).mono ?_
      rintro en w' ⟨rfl, rfl⟩
      go_wp2_with fail
      refine (unFloor _ (by omega) (by omega) _).mono ?_
      rintro en w' ⟨rfl, rfl⟩
      go_wp2_with fail
      · have t1 : (usc mn (phi P) (plo P) s + od + 3) / 4 ≤ (usc mx (phi P) (plo P) s + -od) / 4 / 10 * 10 := by assumption
        go_ret2
        exact ⟨by rw [HR.out, if_pos t1]; rfl, below_drewN ((Below.refl _ _).alloc (Nat.le_refl _) _) _⟩
      · have t1 : ¬ (usc mn (phi P) (plo P) s + od + 3) / 4 ≤ (usc mx (phi P) (plo P) s + -od) / 4 / 10 * 10 := by omega
        have t2 : (usc mn (phi P) (plo P) s + od + 3) / 4 < (usc mx (phi P) (plo P) s + -od) / 4 := by assumption
        have R1 := Lib.hid t1
        clear t1
        refine (uscale m (phi P) (plo P) s _ _ (by omega) (by omega) (by omega) q2 q3 q4 (by omega) (by simp) (by simp) (by simp)).mono ?_
        rintro en w' ⟨rfl, n3, rfl⟩
        go_wp2_with fail
        refine (unRound _ (by omega) (by omega) _).mono ?_
        rintro en w' ⟨rfl, rfl⟩
        go_wp2_with fail
        go_ret2
        exact ⟨by rw [HR.out, if_neg (by have := R1.out; omega), if_pos t2]; rfl, below_drewN ((Below.refl _ _).alloc (Nat.le_refl _) _) _⟩
      · have t1 : ¬ (usc mn (phi P) (plo P) s + od + 3) / 4 ≤ (usc mx (phi P) (plo P) s + -od) / 4 / 10 * 10 := by omega
        have t2 : ¬ (usc mn (phi P) (plo P) s + od + 3) / 4 < (usc mx (phi P) (plo P) s + -od) / 4 := by omega
        go_ret2
        exact ⟨by rw [HR.out, if_neg t1, if_neg t2]; rfl, below_drewN ((Below.refl _ _).alloc (Nat.le_refl _) _) _⟩
    · have g1 : (m == 9223372036854775808) = false := by simp [hm]
      clear hm
      go_enter Tryz.func103, Tryz.ntmps103
      go_wp2_with (first | (go_at_call 107; refine (skewed _ (by omega) (by omega) _).mono ?_; rintro e w' ⟨rfl, rfl⟩) | (go_at_call 98; refine (log10Pow2 _ (by omega) (by omega) _).mono ?_; rintro e w' ⟨rfl, rfl⟩))
      refine (log2Pow10 P (by omega) (by omega) _).mono ?_
      rintro en w' ⟨rfl, rfl⟩
      go_wp2_with fail
      refine (hPS.out w hB HT.out).mono ?_
      rintro en w' ⟨rfl, rfl⟩
      rw [hs]
      go_wp2_with fail
      refine (uscale mn (phi P) (plo P) s _ _ (by omega) (by omega) (by omega) q2 q3 q4 (by omega) (by simp) (by simp) (by simp)).mono ?_
      rintro en w' ⟨rfl, n1, rfl⟩
      go_wp2_with fail
      refine (unNudge _ _ (by omega) (by omega) (by omega) (by omega) (by omega) _).mono ?_
      rintro en w' ⟨rfl, rfl⟩
      go_wp2_with fail
      refine (unCeil _ (by omega) (by omega) _).mono ?_
      rintro en w' ⟨rfl, rfl⟩
      go_wp2_with fail
      refine (uscale mx (phi P) (plo P) s _ _ (by omega) (by omega) (by omega) q2 q3 q4 (by omega) (by simp) (by simp) (by simp)).mono ?_
      rintro en w' ⟨rfl, n2, rfl⟩
      go_wp2_with fail
      refine (unNudge _ _ (by omega) (by omega) (by omega) (by omega) (by omega) _).mono ?_
      rintro en w' ⟨rfl, rfl⟩
      go_wp2_with fail
      refine (unFloor _ (by omega) (by omega) _).mono ?_
      rintro en w' ⟨rfl, rfl⟩
      go_wp2_with fail
      · have t1 : (usc mn (phi P) (plo P) s + od + 3) / 4 ≤ (usc mx (phi P) (plo P) s + -od) / 4 / 10 * 10 := by assumption
        go_ret2
        exact ⟨by rw [HR.out, if_pos t1]; rfl, below_drewN ((Below.refl _ _).alloc (Nat.le_refl _) _) _⟩
      · have t1 : ¬ (usc mn (phi P) (plo P) s + od + 3) / 4 ≤ (usc mx (phi P) (plo P) s + -od) / 4 / 10 * 10 := by omega
        have t2 : (usc mn (phi P) (plo P) s + od + 3) / 4 < (usc mx (phi P) (plo P) s + -od) / 4 := by assumption
        have R1 := Lib.hid t1
        clear t1
        refine (uscale m (phi P) (plo P) s _ _ (by omega) (by omega) (by omega) q2 q3 q4 (by omega) (by simp) (by simp) (by simp)).mono ?_
        rintro en w' ⟨rfl, n3, rfl⟩
        go_wp2_with fail
        refine (unRound _ (by omega) (by omega) _).mono ?_
        rintro en w' ⟨rfl, rfl⟩
        go_wp2_with fail
        go_ret2
        exact ⟨by rw [HR.out, if_neg (by have := R1.out; omega), if_pos t2]; rfl, below_drewN ((Below.refl _ _).alloc (Nat.le_refl _) _) _⟩
      · have t1 : ¬ (usc mn (phi P) (plo P) s + od + 3) / 4 ≤ (usc mx (phi P) (plo P) s + -od) / 4 / 10 * 10 := by omega
        have t2 : ¬ (usc mn (phi P) (plo P) s + od + 3) / 4 < (usc mx (phi P) (plo P) s + -od) / 4 := by omega
        go_ret2
        exact ⟨by rw [HR.out, if_neg t1, if_neg t2]; rfl, below_drewN ((Below.refl _ _).alloc (Nat.le_refl _) _) _⟩
end Go.Proofs.YtlmilelopajdiaaGreatDoor
