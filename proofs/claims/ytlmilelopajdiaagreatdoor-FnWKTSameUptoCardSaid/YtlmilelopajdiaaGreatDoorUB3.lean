/-
  rightShift: the walk.
-/
import Derived.Test.YtlmilelopajdiaaGreatDoorUB1
import Derived.Deep.DeepCutAuto
import Derived.Deep.CutBlock
namespace Go.Proofs.YtlmilelopajdiaaGreatDoor
open Go.RowKit

def rsD (s : Dc) (d : Nat → Nat) (k r0 J : Nat) : Dc := { E := rsE d s.nd k r0 s.E J, nd := min J 800, dp := s.dp - (r0 - 1), tr := rsT d s.nd k r0 s.tr J }
theorem and_mask (n k : Nat) (hk : k ≤ 60) (hn : n < 18446744073709551616) (K : Nat) (hK : K = 2 ^ k) : bits .and .u64 (n : Int) ((K : Int) - 1) = ((n % K : Nat) : Int) := by
  subst hK
  have := bits_mask .u64 64 (by decide) (fun m h0 h1 => by rw [IntKind.wrap_u64]; omega) k (by omega) n (by omega) (by omega)
  rw [show ((2 ^ k : Nat) : Int) = 2 ^ k by simp, this]
  simp

set_option maxRecDepth 100000 in
set_option maxHeartbeats 1000000 in
theorem rightShift (w : World) (b : Nat) (s : Dc) (d : Nat → Nat) (k r0 J : Nat) (h : DecAt w b s) (hP : RsPar d s.nd k r0 J) (hD : ∀ j, j < s.nd → s.E j = 48 + (d j : Int)) (hp0 : -100000 ≤ s.dp) (hp1 : s.dp ≤ 100000) :
    Calls Tryz.prog 121 #[.pointer (some ⟨b, 0, none⟩), .int .u64 k] w fun e w' => e = .returned (.tuple #[]) ∧ DecAt w' b (trimD (rsD s d k r0 J)) ∧ Below b w w' := by
  have cN := h.cellN
  have hn8 := hP.nd8
  have hk2 := hP.k2
  have hr1 := hP.r1
  obtain ⟨K, hK⟩ : ∃ K, K = 2 ^ k := ⟨_, rfl⟩
  have hK0 : 1 ≤ K := by rw [hK]; exact Nat.pow_pos (by omega)
  have hK1 : K ≤ 1152921504606846976 := by
    rw [hK]; exact Nat.pow_le_pow_right (by omega) hk2
  have eK : (2 : Int) ^ k = (K : Int) := by rw [hK]; simp
  have HKr := Lib.hid hK
  have HP := Lib.hid hP
  have HE := Lib.hid fun j hj => h.cellE j hj
  have HD := Lib.hid hD
  clear hP hD hK
  go_enter Tryz.func121, Tryz.ntmps121
  go_upto_block 0 with (fail)
  go_cut [4, 6] (fun v4 v6 wx => v4 = .int .i64 r0 ∧ v6 = .int .u64 (pr d s.nd r0) ∧ w = wx)
  case first =>
    go_wp2_with fail
    go_loop [4, 6] (fun v4 v6 => ∃ r : Nat, r ≤ r0 ∧ v4 = .int .i64 r ∧ v6 = .int .u64 (pr d s.nd r)) (fun v4 _ => (r0 - (intOf v4).toNat))
    case atStart => exact ⟨0, Nat.zero_le _, rfl, rfl⟩
    case round =>
      obtain ⟨r, hr, rfl, rfl⟩ := hrel
      obtain ⟨n, hn⟩ : ∃ n, n = pr d s.nd r := ⟨_, rfl⟩
      rw [← hn]
      by_cases hr0 : r < r0
      · have hlt : n < K := by rw [hn, HKr.out]; exact HP.out.before r hr0
        have e0 : ((n : Int) / (K : Int)) = 0 := by
          have : ((n / K : Nat) : Int) = 0 := by rw [Nat.div_eq_of_lt hlt]; rfl
          simpa using this
        by_cases hnd : r < s.nd
        · have hc := HE.out r (by omega)
          rw [HD.out r hnd] at hc
          have hd9 := HP.out.dig r hnd
          have hnx : Hid (pr d s.nd (r + 1) = n * 10 + d r) := Lib.hid (by rw [pr, ← hn, dz, if_pos hnd])
          have Hn := Lib.hid hn
          clear hn
          go_wp2_with fail
          go_round
          case rel => exact ⟨r + 1, by omega, by go_num, by rw [hnx.out]; go_num⟩
          case measure => simp [intOf]; omega
        · have hn1 : 1 ≤ n := by rw [hn]; exact Nat.le_trans HP.out.pos (pr_step_le _ _ (by omega))
          have hn0 : ((n : Int) == 0) = false := by rw [beq_eq_false_iff_ne]; omega
          clear e0 hlt
          have Hn := Lib.hid hn
          clear hn
          have e0 : ((n : Int) / (K : Int)) = 0 := by
            have : ((n / K : Nat) : Int) = 0 := by rw [Nat.div_eq_of_lt (by rw [Hn.out, HKr.out]; exact HP.out.before r hr0)]; rfl
            simpa using this
          go_wp2_with fail
          clear e0
          go_loop [4, 6] (fun v4 v6 => ∃ r : Nat, r ≤ r0 ∧ s.nd ≤ r ∧ v4 = .int .i64 r ∧ v6 = .int .u64 (pr d s.nd r)) (fun v4 _ => (r0 - (intOf v4).toNat))
          case atStart => exact ⟨r, hr, by omega, rfl, by rw [Hn.out]⟩
          case round =>
            clear Hn hn1 hn0 hr0 hr hnd
            obtain ⟨r, hr, hnd, rfl, rfl⟩ := hrel
            obtain ⟨n, hn⟩ : ∃ n, n = pr d s.nd r := ⟨_, rfl⟩
            rw [← hn]
            have Hn := Lib.hid hn
            clear hn
            by_cases hr0 : r < r0
            · have hlt : n < K := by rw [Hn.out, HKr.out]; exact HP.out.before r hr0
              have e0 : ((n : Int) / (K : Int)) = 0 := by
                have : ((n / K : Nat) : Int) = 0 := by rw [Nat.div_eq_of_lt hlt]; rfl
                simpa using this
              have hnx : Hid (pr d s.nd (r + 1) = n * 10) := Lib.hid (by rw [pr, ← Hn.out, dz, if_neg (by omega), Nat.add_zero])
              go_wp2_with fail
              go_round
              case rel => exact ⟨r + 1, by omega, by omega, by go_num, by rw [hnx.out]; go_num⟩
              case measure => simp [intOf]; omega
            · obtain rfl : r = r0 := by omega
              have hge : K ≤ n := by rw [Hn.out, HKr.out]; exact HP.out.at0
              have e0 : (((n : Int) / (K : Int)) == 0) = false := by
                rw [beq_eq_false_iff_ne]
                have : 1 ≤ ((n / K : Nat) : Int) := by
                  have := (Nat.le_div_iff_mul_le (by omega : 0 < K)).2 (show 1 * K ≤ n by omega)
                  omega
                have e : ((n / K : Nat) : Int) = (n : Int) / (K : Int) := by simp
                omega
              go_wp2_with fail
              go_meet
              exact ⟨rfl, by rw [← Hn.out], rfl⟩
      · obtain rfl : r = r0 := by omega
        have hge : K ≤ n := by rw [hn, HKr.out]; exact HP.out.at0
        have e0 : (((n : Int) / (K : Int)) == 0) = false := by
          rw [beq_eq_false_iff_ne]
          have : 1 ≤ ((n / K : Nat) : Int) := by
            have := (Nat.le_div_iff_mul_le (by omega : 0 < K)).2 (show 1 * K ≤ n by omega)
            omega
          have e : ((n / K : Nat) : Int) = (n : Int) / (K : Int) := by simp
          omega
        have Hn := Lib.hid hn
        clear hn
        go_wp2_with fail
        go_meet
        exact ⟨rfl, by rw [← Hn.out], rfl⟩
  case rest =>
    obtain ⟨rfl, rfl, rfl⟩ := hcut
    have cP := h.cellP
    have fP := h.free 801
    go_upto_block 4 with (fail)
    have hDA : DecAt (w.setCell ⟨b, 801, none⟩ (.int .i64 (s.dp - ((r0 : Int) - 1)))) b { E := rsE d s.nd k r0 s.E 0, nd := s.nd, dp := s.dp - ((r0 : Int) - 1), tr := rsT d s.nd k r0 s.tr 0 } := h.setP _
    have hBA : Below b w (w.setCell ⟨b, 801, none⟩ (.int .i64 (s.dp - ((r0 : Int) - 1)))) := (Below.refl _ _).setCell (by simp) _
    generalize w.setCell ⟨b, 801, none⟩ (.int .i64 (s.dp - ((r0 : Int) - 1))) = w1 at hDA hBA ⊢
    clear cP fP cN h
    go_cut [4, 5, 6] (fun v4 v5 v6 wx => ∃ j : Nat, s.nd ≤ r0 + j ∧ j ≤ J ∧ j ≤ 800 ∧ v5 = .int .i64 j ∧ v6 = .int .u64 (nn d s.nd k r0 j) ∧ DecAt wx b { E := rsE d s.nd k r0 s.E j, nd := s.nd, dp := s.dp - ((r0 : Int) - 1), tr := rsT d s.nd k r0 s.tr j } ∧ Below b w wx)
    case first =>
      go_wp2_with fail
      go_loopw [4, 5, 6] (fun v4 v5 v6 wr => ∃ j : Nat, (j = 0 ∨ r0 + j ≤ s.nd) ∧ v4 = .int .i64 ((r0 + j : Nat) : Int) ∧ v5 = .int .i64 j ∧ v6 = .int .u64 (nn d s.nd k r0 j) ∧ DecAt wr b { E := rsE d s.nd k r0 s.E j, nd := s.nd, dp := s.dp - ((r0 : Int) - 1), tr := rsT d s.nd k r0 s.tr j } ∧ Below b w wr) (fun v4 _ _ _ => (s.nd - (intOf v4).toNat))
      case atStart => exact ⟨0, Or.inl rfl, rfl, rfl, rfl, hDA, hBA⟩
      case round =>
        clear hDA hBA
        obtain ⟨j, hj, rfl, rfl, rfl, hDA, hBA⟩ := hrel
        have cN := hDA.cellN
        dsimp only at cN
        by_cases hlt : r0 + j < s.nd
        · have hc := hDA.cellE (r0 + j) (by omega)
          dsimp only at hc
          rw [rsE_high _ _ _ (by omega), HD.out _ hlt] at hc
          have hd9 := HP.out.dig _ hlt
          have hcj := hDA.cellE j (by omega)
          have hfj := hDA.free j
          have hn10 := nn_lt HP.out j
          obtain ⟨n, hn⟩ : ∃ n, n = nn d s.nd k r0 j := ⟨_, rfl⟩
          rw [← hn] at hn10 ⊢
          rw [← HKr.out] at hn10
          obtain ⟨q, hq⟩ : ∃ q, q = n / K := ⟨_, rfl⟩
          obtain ⟨m, hm⟩ : ∃ m, m = n % K := ⟨_, rfl⟩
          have hq9 : q ≤ 9 := by rw [hq]; exact Nat.le_of_lt_succ ((Nat.div_lt_iff_lt_mul (by omega)).2 hn10)
          have hmK : m < K := by rw [hm]; exact Nat.mod_lt _ (by omega)
          have eq : ((n : Int) / (K : Int)) = (q : Int) := by rw [hq]; simp
          have em : bits .and .u64 (n : Int) ((K : Int) - 1) = (m : Int) := by rw [hm]; exact and_mask n k hk2 (by omega) K HKr.out
          have hnx : Hid (nn d s.nd k r0 (j + 1) = m * 10 + d (r0 + j)) := Lib.hid (by rw [nn, ← hn, ← HKr.out, ← hm, dz, if_pos hlt])
          have hEx : Hid (rsE d s.nd k r0 s.E (j + 1) = upd (rsE d s.nd k r0 s.E j) j ((q : Int) + 48)) := Lib.hid (by rw [rsE, if_pos (by omega), ← hn, ← HKr.out, ← hq])
          have hTx : Hid (rsT d s.nd k r0 s.tr (j + 1) = rsT d s.nd k r0 s.tr j) := Lib.hid (by rw [rsT, if_pos (by omega)])
          clear hn hq hm
          go_wp2_with fail
          go_roundw
          case rel => exact ⟨j + 1, Or.inr (by omega), by go_num, by go_num, by rw [hnx.out]; go_num, by rw [hEx.out, hTx.out]; exact hDA.setE j (by omega) _, hBA.setCell (by simp) _⟩
          case measure => simp [intOf]; omega
        · go_wp2_with fail
          go_meet
          exact ⟨j, by omega, by
            rcases hj with e | e
            · omega
            · have := HP.out.J0; omega, by omega, rfl, rfl, hDA, hBA⟩
    case rest =>
      clear hDA hBA
      obtain ⟨j0, hj0, hjJ, hj8, rfl, rfl, hDA, hBA⟩ := hcut
      go_wp2_with fail
      go_loopg [5, 6] (J - j0) (fun g v5 v6 wr => ∃ j : Nat, s.nd ≤ r0 + j ∧ j + g = J ∧ v5 = .int .i64 ((min j 800 : Nat) : Int) ∧ v6 = .int .u64 (nn d s.nd k r0 j) ∧ DecAt wr b { E := rsE d s.nd k r0 s.E j, nd := s.nd, dp := s.dp - ((r0 : Int) - 1), tr := rsT d s.nd k r0 s.tr j } ∧ Below b w wr)
      case atStart => exact ⟨j0, hj0, by omega, by rw [Nat.min_eq_left hj8], rfl, hDA, hBA⟩
      case round =>
        clear hDA hBA hjJ hj8 hj0
        obtain ⟨j, hj, hg, rfl, rfl, hDA, hBA⟩ := hrel
        obtain ⟨n, hn⟩ : ∃ n, n = nn d s.nd k r0 j := ⟨_, rfl⟩
        rw [← hn]
        by_cases hlt : j < J
        · obtain ⟨g, rfl⟩ : ∃ g, gk = g + 1 := ⟨gk - 1, by omega⟩
          have hn10 := nn_lt HP.out j
          rw [← hn, ← HKr.out] at hn10
          have hn1 : 0 < n := by rw [hn]; exact HP.out.more j hlt hj
          obtain ⟨q, hq⟩ : ∃ q, q = n / K := ⟨_, rfl⟩
          obtain ⟨m, hm⟩ : ∃ m, m = n % K := ⟨_, rfl⟩
          have hq9 : q ≤ 9 := by rw [hq]; exact Nat.le_of_lt_succ ((Nat.div_lt_iff_lt_mul (by omega)).2 hn10)
          have hmK : m < K := by rw [hm]; exact Nat.mod_lt _ (by omega)
          have eq : ((n : Int) / (K : Int)) = (q : Int) := by rw [hq]; simp
          have em : bits .and .u64 (n : Int) ((K : Int) - 1) = (m : Int) := by rw [hm]; exact and_mask n k hk2 (by omega) K HKr.out
          have hnx : Hid (nn d s.nd k r0 (j + 1) = m * 10) := Lib.hid (by rw [nn, ← hn, ← HKr.out, ← hm, dz, if_neg (by omega), Nat.add_zero])
          by_cases h8 : j < 800
          · have hEx : Hid (rsE d s.nd k r0 s.E (j + 1) = upd (rsE d s.nd k r0 s.E j) j ((q : Int) + 48)) := Lib.hid (by rw [rsE, if_pos h8, ← hn, ← HKr.out, ← hq])
            have hTx : Hid (rsT d s.nd k r0 s.tr (j + 1) = rsT d s.nd k r0 s.tr j) := Lib.hid (by rw [rsT, if_pos h8])
            have emin : min j 800 = j := Nat.min_eq_left (by omega)
            have hcj := hDA.cellE j (by omega)
            have hfj := hDA.free j
            rw [emin]
            clear hn hq hm emin
            go_wp2_with fail
            go_roundg g
            case measure => omega
            case rel => exact ⟨j + 1, by omega, by omega, by rw [Nat.min_eq_left (by omega)]; go_num, by rw [hnx.out]; go_num, by rw [hEx.out, hTx.out]; exact hDA.setE j (by omega) _, hBA.setCell (by simp) _⟩
          · have hEx : Hid (rsE d s.nd k r0 s.E (j + 1) = rsE d s.nd k r0 s.E j) := Lib.hid (by rw [rsE, if_neg h8])
            have emin : min j 800 = 800 := Nat.min_eq_right (by omega)
            have emin' : Hid (min (j + 1) 800 = 800) := Lib.hid (Nat.min_eq_right (by omega))
            rw [emin]
            by_cases hq0 : 0 < q
            · have hTx : Hid (rsT d s.nd k r0 s.tr (j + 1) = true) := Lib.hid (by rw [rsT, if_neg h8, ← hn, ← HKr.out, ← hq]; simp [hq0])
              have hcT := hDA.cellT
              have hfT := hDA.free 803
              clear hn hq hm emin
              go_wp2_with fail
              go_roundg g
              case measure => omega
              case rel => exact ⟨j + 1, by omega, by omega, by rw [emin'.out]; go_num, by rw [hnx.out]; go_num, by rw [hEx.out, hTx.out]; exact hDA.setT true, hBA.setCell (by simp) _⟩
            · have hTx : Hid (rsT d s.nd k r0 s.tr (j + 1) = rsT d s.nd k r0 s.tr j) := Lib.hid (by rw [rsT, if_neg h8, ← hn, ← HKr.out, ← hq]; simp [hq0])
              clear hn hq hm emin
              go_wp2_with fail
              go_roundg g
              case measure => omega
              case rel => exact ⟨j + 1, by omega, by omega, by rw [emin'.out], by rw [hnx.out]; go_num, by rw [hEx.out, hTx.out]; exact hDA, hBA⟩
        · obtain rfl : j = J := by omega
          have hn0 : n = 0 := by rw [hn]; exact HP.out.stop
          subst hn0
          clear hn
          have fN := hDA.free 800
          have cN := hDA.cellN
          go_wp2_with fail
          refine (trim _ b _ (hDA.setN (min j 800)) (by dsimp only; omega)).mono ?_
          rintro en w' ⟨rfl, hT, hbT⟩
          go_wp2_with fail
          go_end0
          exact ⟨rfl, hT, (hBA.setCell (by simp) _).trans hbT⟩
end Go.Proofs.YtlmilelopajdiaaGreatDoor

/-
  Rounding a decimal: the walks.
-/
namespace Go.Proofs.YtlmilelopajdiaaGreatDoor
open Go.RowKit

def sru (s : Dc) (m : Nat) : Bool :=
  if s.E m = 53 ∧ m + 1 = s.nd then (if s.tr then true else if 0 < m then ((s.E (m - 1) - 48) % 2 != 0) else false) else decide (53 ≤ s.E m)
def rup (s : Dc) : Nat → Dc
  | 0 => { s with E := upd s.E 0 49, nd := 1, dp := s.dp + 1 }
  | i + 1 => if s.E i < 57 then { s with E := upd s.E i (s.E i + 1), nd := i + 1 } else rup s i
def rndD (s : Dc) (n : Int) : Dc := if n < 0 ∨ (s.nd : Int) ≤ n then s else if sru s n.toNat then rup s n.toNat else trimD { s with nd := n.toNat }

set_option maxHeartbeats 1000000 in
theorem shouldRound (w : World) (b : Nat) (s : Dc) (m : Nat) (h : DecAt w b s) (hm : m < s.nd) (hn : s.nd ≤ 800) (hd : ∀ j, j < s.nd → 48 ≤ s.E j ∧ s.E j ≤ 57) :
    Calls Tryz.prog 122 #[.pointer (some ⟨b, 0, none⟩), .int .i64 m] w fun e w' => e = .returned (.bool (sru s m)) ∧ w = w' := by
  have cN := h.cellN
  have cT := h.cellT
  have cm := h.cellE m (by omega)
  obtain ⟨b1, b2⟩ := hd m hm
  by_cases h1 : s.E m = 53
  · by_cases h2 : m + 1 = s.nd
    · have t1 : (s.E m == 53) = true := by simp [h1]
      have t2 : ((m : Int) + 1 == (s.nd : Int)) = true := by rw [beq_iff_eq]; omega
      cases ht : s.tr with
      | true =>
        have HR : Hid (sru s m = true) := Lib.hid (by unfold sru; rw [if_pos ⟨h1, h2⟩, ht]; rfl)
        rw [ht] at cT
        clear h1 h2 ht hd h
        go_enter Tryz.func122, Tryz.ntmps122
        go_wp2_with fail
        go_ret
        exact ⟨by rw [HR.out]; rfl, rfl⟩
      | false =>
        by_cases h3 : 0 < m
        · obtain ⟨m, rfl⟩ : ∃ m', m = m' + 1 := ⟨m - 1, by omega⟩
          have HR : Hid (sru s (m + 1) = ((s.E m - 48) % 2 != 0)) := Lib.hid (by unfold sru; rw [if_pos ⟨h1, h2⟩, ht]; simp)
          obtain ⟨b3, b4⟩ := hd m (by omega)
          have cp := h.cellE m (by omega)
          rw [ht] at cT
          clear h1 h2 ht hd h
          go_enter Tryz.func122, Tryz.ntmps122
          go_wp2_with fail
          go_ret
          exact ⟨by rw [HR.out]; rfl, rfl⟩
        · have HR : Hid (sru s m = false) := Lib.hid (by unfold sru; rw [if_pos ⟨h1, h2⟩, ht, if_neg h3]; simp)
          rw [ht] at cT
          clear h1 h2 ht hd h
          go_enter Tryz.func122, Tryz.ntmps122
          go_wp2_with fail
          go_ret
          exact ⟨by rw [HR.out]; rfl, rfl⟩
    · have t1 : (s.E m == 53) = true := by simp [h1]
      have t2 : ((m : Int) + 1 == (s.nd : Int)) = false := by rw [beq_eq_false_iff_ne]; omega
      have HR : Hid (sru s m = decide (53 ≤ s.E m)) := Lib.hid (by unfold sru; rw [if_neg (fun h => h2 h.2)])
      have t3 : 53 ≤ s.E m := by omega
      clear h1 h2 hd h
      go_enter Tryz.func122, Tryz.ntmps122
      go_wp2_with fail
      go_ret
      exact ⟨by rw [HR.out]; simp [t3], rfl⟩
  · have t1 : (s.E m == 53) = false := by simp [h1]
    have HR : Hid (sru s m = decide (53 ≤ s.E m)) := Lib.hid (by unfold sru; rw [if_neg (fun h => h1 h.1)])
    clear h1 hd h
    go_enter Tryz.func122, Tryz.ntmps122
    go_wp2_with fail
    go_ret
    exact ⟨by rw [HR.out]; rfl, rfl⟩
theorem rup_nd (s : Dc) : ∀ i, i ≤ 800 → (rup s i).nd ≤ 800
  | 0, _ => by simp [rup]
  | i + 1, h => by
    rw [rup]; split
    · dsimp only; omega
    · exact rup_nd s i (by omega)
set_option maxHeartbeats 1000000 in
theorem roundUp (w : World) (b : Nat) (s : Dc) (m : Nat) (h : DecAt w b s) (hm : m < s.nd) (hn : s.nd ≤ 800) (hd : ∀ j, j < s.nd → 48 ≤ s.E j ∧ s.E j ≤ 57) (hp0 : -100000 ≤ s.dp) (hp1 : s.dp ≤ 100000) :
    Calls Tryz.prog 123 #[.pointer (some ⟨b, 0, none⟩), .int .i64 m] w fun e w' => e = .returned (.tuple #[]) ∧ DecAt w' b (rup s m) ∧ Below b w w' := by
  have cN := h.cellN
  obtain ⟨R, hR⟩ : ∃ R, R = rup s m := ⟨_, rfl⟩
  rw [← hR]
  have HR := Lib.hid hR
  have HD := Lib.hid hd
  clear hR hd
  go_enter Tryz.func123, Tryz.ntmps123
  go_wp2_with fail
  go_loop [4] (fun v4 => ∃ i : Nat, i ≤ m ∧ v4 = .int .i64 ((i : Int) - 1) ∧ Hid (R = rup s i)) (fun v4 => (intOf v4 + 1).toNat)
  case atStart => exact ⟨m, Nat.le_refl _, rfl, HR⟩
  case round =>
    obtain ⟨i, hi, rfl, hr⟩ := hrel
    clear HR
    by_cases h0 : 0 < i
    · obtain ⟨i, rfl⟩ : ∃ i', i = i' + 1 := ⟨i - 1, by omega⟩
      have e1 : (((i + 1 : Nat) : Int) - 1) = (i : Int) := by omega
      rw [e1]
      have ci := h.cellE i (by omega)
      have fi := h.free i
      have fN := h.free 800
      obtain ⟨b1, b2⟩ := HD.out i (by omega)
      by_cases h9 : s.E i < 57
      · have hr' := hr.out
        rw [rup, if_pos h9] at hr'
        have H := Lib.hid hr'
        clear hr hr'
        go_wp2_with fail
        go_region
        go_wp2_with fail
        go_returns
        exact ⟨rfl, by rw [H.out]; exact (h.setE i (by omega) (s.E i + 1)).setN (i + 1), (((Below.refl b w).drew).setCell (by simp) _).setCell (by simp) _⟩
      · have hr' := hr.out
        rw [rup, if_neg h9] at hr'
        have H := Lib.hid hr'
        clear hr hr'
        go_wp2_with fail
        go_round
        case rel => exact ⟨i, by omega, by go_num, H⟩
        case measure => simp [intOf]
    · obtain rfl : i = 0 := by omega
      have H : Hid (R = { s with E := upd s.E 0 49, nd := 1, dp := s.dp + 1 }) := Lib.hid hr.out
      have c0 := h.cellE 0 (by omega)
      have f0 := h.free 0
      have fN := h.free 800
      have fP := h.free 801
      have cP := h.cellP
      clear hr
      go_wp2_with fail
      go_end0
      exact ⟨rfl, by rw [H.out]; exact ((h.setE 0 (by omega) 49).setN 1).setP (s.dp + 1), (((Below.refl b w).setCell (by simp) _).setCell (by simp) _).setCell (by simp) _⟩
set_option maxHeartbeats 1000000 in
theorem roundDown (w : World) (b : Nat) (s : Dc) (m : Nat) (h : DecAt w b s) (hm : m < s.nd) (hn : s.nd ≤ 800) :
    Calls Tryz.prog 124 #[.pointer (some ⟨b, 0, none⟩), .int .i64 m] w fun e w' => e = .returned (.tuple #[]) ∧ DecAt w' b (trimD { s with nd := m }) ∧ Below b w w' := by
  have cN := h.cellN
  have fN := h.free 800
  go_enter Tryz.func124, Tryz.ntmps124
  go_wp2_with fail
  refine (trim _ b _ (h.setN m) (by dsimp only; omega)).mono ?_
  rintro en w' ⟨rfl, hT, hbT⟩
  go_wp2_with fail
  go_end0
  exact ⟨rfl, hT, ((Below.refl _ _).setCell (by simp) _).trans hbT⟩
set_option maxHeartbeats 1000000 in
theorem round (w : World) (b : Nat) (s : Dc) (n : Int) (h : DecAt w b s) (hn : s.nd ≤ 800) (hd : ∀ j, j < s.nd → 48 ≤ s.E j ∧ s.E j ≤ 57) (hp0 : -100000 ≤ s.dp) (hp1 : s.dp ≤ 100000) :
    Calls Tryz.prog 102 #[.pointer (some ⟨b, 0, none⟩), .int .i64 n] w fun e w' => e = .returned (.tuple #[]) ∧ DecAt w' b (rndD s n) ∧ Below b w w' := by
  have cN := h.cellN
  by_cases h1 : n < 0
  · have H : Hid (rndD s n = s) := Lib.hid (by unfold rndD; rw [if_pos (Or.inl h1)])
    go_enter Tryz.func102, Tryz.ntmps102
    go_wp2_with fail
    go_returns
    exact ⟨rfl, by rw [H.out]; exact h, Below.refl _ _⟩
  · by_cases h2 : (s.nd : Int) ≤ n
    · have H : Hid (rndD s n = s) := Lib.hid (by unfold rndD; rw [if_pos (Or.inr h2)])
      go_enter Tryz.func102, Tryz.ntmps102
      go_wp2_with fail
      go_returns
      exact ⟨rfl, by rw [H.out]; exact h, Below.refl _ _⟩
    · obtain ⟨m, rfl⟩ := Int.eq_ofNat_of_zero_le (Int.not_lt.1 h1)
      have H : Hid (rndD s m = if sru s m then rup s m else trimD { s with nd := m }) := Lib.hid (by unfold rndD; rw [if_neg (by omega)]; rfl)
      have HD := Lib.hid hd
      clear hd
      cases hs : sru s m with
      | true =>
        have H' : Hid (rndD s m = rup s m) := Lib.hid (by rw [H.out, hs]; rfl)
        have HS := Lib.hid hs
        clear hs H
        go_enter Tryz.func102, Tryz.ntmps102
        go_wp2_with fail
        refine (shouldRound w b s m h (by omega) hn HD.out).mono ?_
        rintro en w' ⟨rfl, rfl⟩
        rw [HS.out]
        go_wp2_with fail
        refine (roundUp w b s m h (by omega) hn HD.out hp0 hp1).mono ?_
        rintro en w' ⟨rfl, hT, hbT⟩
        go_wp2_with fail
        go_end0
        exact ⟨rfl, by rw [H'.out]; exact hT, hbT⟩
      | false =>
        have H' : Hid (rndD s m = trimD { s with nd := m }) := Lib.hid (by rw [H.out, hs]; rfl)
        have HS := Lib.hid hs
        clear hs H
        go_enter Tryz.func102, Tryz.ntmps102
        go_wp2_with fail
        refine (shouldRound w b s m h (by omega) hn HD.out).mono ?_
        rintro en w' ⟨rfl, rfl⟩
        rw [HS.out]
        go_wp2_with fail
        refine (roundDown w b s m h (by omega) hn).mono ?_
        rintro en w' ⟨rfl, hT, hbT⟩
        go_wp2_with fail
        go_end0
        exact ⟨rfl, by rw [H'.out]; exact hT, hbT⟩
end Go.Proofs.YtlmilelopajdiaaGreatDoor

/-
  Shift: the walk, over whatever the single shifts do; and what they do.
-/
namespace Go.Proofs.YtlmilelopajdiaaGreatDoor
open Go.RowKit

/-- Function f, asked to shift by k, turns the decimal s into s'. -/
def Turns (f : Nat) (k : Nat) (s s' : Dc) : Prop := ∀ (w : World) (B b : Nat), DecAt w b s → Tabs B w → B ≤ b →
  Calls Tryz.prog f #[.pointer (some ⟨b, 0, none⟩), .int .u64 k] w fun e w' => e = .returned (.tuple #[]) ∧ DecAt w' b s' ∧ Below b w w'

set_option maxHeartbeats 1000000 in
theorem shift_up (n r : Nat) (S : Nat → Dc) (s' : Dc) (hr1 : 1 ≤ r) (hr2 : r ≤ 60) (hn : n ≤ 100) (hS : ∀ i, i < n → Turns 120 60 (S i) (S (i + 1))) (hl : Turns 120 r (S n) s') (h0 : 1 ≤ (S 0).nd)
    (w : World) (B b : Nat) (h : DecAt w b (S 0)) (hT : Tabs B w) (hB : B ≤ b) :
    Calls Tryz.prog 101 #[.pointer (some ⟨b, 0, none⟩), .int .i64 ((60 * n + r : Nat) : Int)] w fun e w' => e = .returned (.tuple #[]) ∧ DecAt w' b s' ∧ Below b w w' := by
  have cN := h.cellN
  have t0 : (((S 0).nd : Int) == 0) = false := by rw [beq_eq_false_iff_ne]; omega
  have HS := Lib.hid hS
  have HL := Lib.hid hl
  have HT := Lib.hid hT
  clear hS hl hT
  obtain ⟨K, hK⟩ : ∃ K : Int, K = ((60 * n + r : Nat) : Int) := ⟨_, rfl⟩
  rw [← hK]
  have hK1 : 0 < K := by omega
  have hK2 : K ≤ 10000 := by omega
  have HK := Lib.hid hK
  clear hK
  go_enter Tryz.func101, Tryz.ntmps101
  go_wp2_with fail
  go_loopw [1] (fun v1 wr => ∃ i m : Nat, i + m = n ∧ v1 = .int .i64 ((60 * m + r : Nat) : Int) ∧ DecAt wr b (S i) ∧ Below b w wr) (fun v1 _ => (intOf v1).toNat)
  case atStart => exact ⟨0, n, by omega, by rw [HK.out], h, Below.refl _ _⟩
  case round =>
    obtain ⟨i, m, him, rfl, hD, hb⟩ := hrel
    clear h cN t0
    by_cases hm : 0 < m
    · obtain ⟨m, rfl⟩ : ∃ m', m = m' + 1 := ⟨m - 1, by omega⟩
      obtain ⟨Q, hQ⟩ : ∃ Q : Int, Q = ((60 * (m + 1) + r : Nat) : Int) := ⟨_, rfl⟩
      rw [← hQ]
      have hQ' : Hid (Q - 60 = ((60 * m + r : Nat) : Int)) := Lib.hid (by omega)
      have hQ1 : 60 < Q := by omega
      have hQ2 : Q ≤ 10000 := by omega
      clear hQ
      go_wp2_with fail
      refine (HS.out i (by omega) wr B b hD (HT.out.below (hb.mono hB)) hB).mono ?_
      rintro en w' ⟨rfl, hD', hb'⟩
      go_wp2_with fail
      go_roundw
      case rel => exact ⟨i + 1, m, by omega, by rw [hQ'.out], hD', hb.trans hb'⟩
      case measure => simp [intOf]; omega
    · obtain rfl : m = 0 := by omega
      obtain rfl : i = n := by omega
      rw [show 60 * 0 + r = r by omega]
      go_wp2_with fail
      refine (HL.out wr B b hD (HT.out.below (hb.mono hB)) hB).mono ?_
      rintro en w' ⟨rfl, hD', hb'⟩
      go_wp2_with fail
      go_end0
      exact ⟨rfl, hD', hb.trans hb'⟩
set_option maxHeartbeats 1000000 in
theorem shift_down (n r : Nat) (S : Nat → Dc) (s' : Dc) (hr1 : 1 ≤ r) (hr2 : r ≤ 60) (hn : n ≤ 100) (hS : ∀ i, i < n → Turns 121 60 (S i) (S (i + 1))) (hl : Turns 121 r (S n) s') (h0 : 1 ≤ (S 0).nd)
    (w : World) (B b : Nat) (h : DecAt w b (S 0)) (hT : Tabs B w) (hB : B ≤ b) :
    Calls Tryz.prog 101 #[.pointer (some ⟨b, 0, none⟩), .int .i64 (-((60 * n + r : Nat) : Int))] w fun e w' => e = .returned (.tuple #[]) ∧ DecAt w' b s' ∧ Below b w w' := by
  have cN := h.cellN
  have t0 : (((S 0).nd : Int) == 0) = false := by rw [beq_eq_false_iff_ne]; omega
  have HS := Lib.hid hS
  have HL := Lib.hid hl
  have HT := Lib.hid hT
  clear hS hl hT
  obtain ⟨K, hK⟩ : ∃ K : Int, K = -((60 * n + r : Nat) : Int) := ⟨_, rfl⟩
  rw [← hK]
  have hK1 : K < 0 := by omega
  have hK2 : -10000 ≤ K := by omega
  have HK := Lib.hid hK
  clear hK
  go_enter Tryz.func101, Tryz.ntmps101
  go_wp2_with fail
  go_loopw [1] (fun v1 wr => ∃ i m : Nat, i + m = n ∧ v1 = .int .i64 (-((60 * m + r : Nat) : Int)) ∧ DecAt wr b (S i) ∧ Below b w wr) (fun v1 _ => (-(intOf v1)).toNat)
  case atStart => exact ⟨0, n, by omega, by rw [HK.out], h, Below.refl _ _⟩
  case round =>
    obtain ⟨i, m, him, rfl, hD, hb⟩ := hrel
    clear h cN t0
    obtain ⟨Q, hQ⟩ : ∃ Q : Int, Q = -((60 * m + r : Nat) : Int) := ⟨_, rfl⟩
    rw [← hQ]
    by_cases hm : 0 < m
    · obtain ⟨m, rfl⟩ : ∃ m', m = m' + 1 := ⟨m - 1, by omega⟩
      have hQ' : Hid (Q + 60 = -((60 * m + r : Nat) : Int)) := Lib.hid (by omega)
      have hQ1 : Q < -60 := by omega
      have hQ2 : -10000 ≤ Q := by omega
      clear hQ
      go_wp2_with fail
      refine (HS.out i (by omega) wr B b hD (HT.out.below (hb.mono hB)) hB).mono ?_
      rintro en w' ⟨rfl, hD', hb'⟩
      go_wp2_with fail
      go_roundw
      case rel => exact ⟨i + 1, m, by omega, by rw [hQ'.out], hD', hb.trans hb'⟩
      case measure => simp [intOf]; omega
    · obtain rfl : m = 0 := by omega
      obtain rfl : i = n := by omega
      have hQ' : -Q = (r : Int) := by omega
      have hQ1 : -60 ≤ Q := by omega
      have hQ2 : Q < 0 := by omega
      clear hQ
      go_wp2_with fail
      refine (HL.out wr B b hD (HT.out.below (hb.mono hB)) hB).mono ?_
      rintro en w' ⟨rfl, hD', hb'⟩
      go_wp2_with fail
      go_end0
      exact ⟨rfl, hD', hb.trans hb'⟩
end Go.Proofs.YtlmilelopajdiaaGreatDoor

/-
  What the shifts of a decimal come to: plain laws.
-/
namespace Go.Proofs.YtlmilelopajdiaaGreatDoor
open Go.RowKit

def seven : Nat := 700
def big : Nat := 10 ^ seven
theorem pow10_big (n : Nat) (h : 700 ≤ n) : big ≤ 10 ^ n := Nat.pow_le_pow_right (by omega) (by unfold seven; exact h)
theorem pow2_big (m : Nat) (h : m ≤ 1064) : 2 ^ m < big := by
  have h1 : 2 ^ m ≤ 2 ^ (3 * (m / 3 + 1)) := Nat.pow_le_pow_right (by omega) (by omega)
  have h2 : 2 ^ (3 * (m / 3 + 1)) = 8 ^ (m / 3 + 1) := by rw [Nat.pow_mul]
  have h3 : 8 ^ (m / 3 + 1) ≤ 10 ^ (m / 3 + 1) := Nat.pow_le_pow_left (by omega) _
  have h4 : 10 ^ (m / 3 + 1) < big := Nat.pow_lt_pow_right (by omega) (by unfold seven; omega)
  omega
theorem tz_pos (D : Nat → Int) (h : D 0 ≠ 48) : ∀ n, 1 ≤ n → 1 ≤ tz D n
  | 0, h0 => by omega
  | n + 1, _ => by
    rw [tz]; split
    · cases n with
      | zero => contradiction
      | succ n => exact tz_pos D h (n + 1) (by omega)
    · omega
/-- The decimal's digits are those of V, the first one no 0. -/
structure Val (s : Dc) (V : Nat) : Prop where
  n1 : 1 ≤ s.nd
  dig : ∀ j, j < s.nd → s.E j = dgi V s.nd j
  lt : V < 10 ^ s.nd
  ge : 10 ^ (s.nd - 1) ≤ V
theorem Val.first {s : Dc} {V : Nat} (h : Val s V) : s.E 0 ≠ 48 := by
  rw [h.dig 0 h.n1]
  unfold dgi
  have h1 : V / 10 ^ (s.nd - 1 - 0) % 10 ≠ 0 := by
    rw [Nat.sub_zero]
    have hp : 0 < 10 ^ (s.nd - 1) := Nat.pow_pos (by omega)
    have h2 : 1 ≤ V / 10 ^ (s.nd - 1) := (Nat.le_div_iff_mul_le hp).2 (by rw [Nat.one_mul]; exact h.ge)
    have h3 : V / 10 ^ (s.nd - 1) < 10 := by
      refine (Nat.div_lt_iff_lt_mul hp).2 ?_
      rw [Nat.mul_comm, ← Nat.pow_succ, show (s.nd - 1).succ = s.nd by have := h.n1; omega]; exact h.lt
    omega
  omega
theorem trim_val (s : Dc) (M : Nat) (h : Val s M) : ∃ z, Val (trimD s) (M / 10 ^ z) ∧ (trimD s).dp = s.dp ∧ (trimD s).nd ≤ s.nd := by
  have ht := tz_le s.E s.nd
  have hp := tz_pos s.E h.first s.nd h.n1
  refine ⟨s.nd - tz s.E s.nd, ⟨hp, ?_, ?_, ?_⟩, ?_, ht⟩
  · intro j hj
    have hj' : j < tz s.E s.nd := hj
    show s.E j = dgi (M / 10 ^ (s.nd - tz s.E s.nd)) (tz s.E s.nd) j
    rw [h.dig j (by omega)]
    unfold dgi
    rw [Nat.div_div_eq_div_mul, ← Nat.pow_add, show s.nd - tz s.E s.nd + (tz s.E s.nd - 1 - j) = s.nd - 1 - j by omega]
  · show M / 10 ^ (s.nd - tz s.E s.nd) < 10 ^ tz s.E s.nd
    refine (Nat.div_lt_iff_lt_mul (Nat.pow_pos (by omega))).2 ?_
    rw [← Nat.pow_add, show tz s.E s.nd + (s.nd - tz s.E s.nd) = s.nd by omega]; exact h.lt
  · show 10 ^ (tz s.E s.nd - 1) ≤ M / 10 ^ (s.nd - tz s.E s.nd)
    refine (Nat.le_div_iff_mul_le (Nat.pow_pos (by omega))).2 ?_
    rw [← Nat.pow_add, show tz s.E s.nd - 1 + (s.nd - tz s.E s.nd) = s.nd - 1 by omega]; exact h.ge
  · show (if tz s.E s.nd = 0 then 0 else s.dp) = s.dp
    rw [if_neg (by omega)]
theorem lsTurn (s : Dc) (V k : Nat) (h : Val s V) (h1 : 1 ≤ k) (h2 : k ≤ 60) (hV : V * 2 ^ k < big) (hp0 : -100000 ≤ s.dp) (hp1 : s.dp ≤ 100000) :
    ∃ s' V', Turns 120 k s s' ∧ Val s' V' ∧ V' ≤ V * 2 ^ k ∧ s.dp ≤ s'.dp ∧ s'.dp ≤ s.dp + 19 := by
  obtain ⟨g1, g2⟩ := left_delta s.E V s.nd k h1 h2 h.n1 h.dig h.lt h.ge
  have hdl := deltaOf_le s.E s.nd k h1 h2
  have hroom : s.nd + deltaOf s.E s.nd k < 800 := by
    rcases Nat.lt_or_ge (s.nd + deltaOf s.E s.nd k) 800 with h' | h'
    · exact h'
    · exfalso
      have h3 := pow10_big (s.nd + deltaOf s.E s.nd k - 1) (by omega)
      omega
  have hval : Val (lsD s V k) (V * 2 ^ k) := by
    refine ⟨?_, ?_, g1, g2⟩
    · show 1 ≤ s.nd + deltaOf s.E s.nd k
      have := h.n1; omega
    · intro j hj
      have hj' : j < s.nd + deltaOf s.E s.nd k := hj
      show lsE s.E (V * 2 ^ k) (s.nd + deltaOf s.E s.nd k) (s.nd + deltaOf s.E s.nd k) j = _
      unfold lsE
      rw [if_pos (by omega)]; rfl
  obtain ⟨z, hv, hdp, _⟩ := trim_val _ _ hval
  refine ⟨trimD (lsD s V k), _, fun w B b hD hT hB => leftShift w B b s V k hD hT hB h1 h2 h.n1 h.dig h.lt h.ge hroom hp0 hp1, hv, Nat.div_le_self _ _, ?_, ?_⟩
  · rw [hdp]; show s.dp ≤ s.dp + (deltaOf s.E s.nd k : Int); omega
  · rw [hdp]; show s.dp + (deltaOf s.E s.nd k : Int) ≤ s.dp + 19; omega
theorem lsSeq (n : Nat) : ∀ (s : Dc) (V : Nat), Val s V → V * 2 ^ (60 * n) < big → n ≤ 100 → -1000 ≤ s.dp → s.dp ≤ 1000 →
    ∃ (S : Nat → Dc) (V' : Nat), S 0 = s ∧ (∀ i, i < n → Turns 120 60 (S i) (S (i + 1))) ∧ Val (S n) V' ∧ V' ≤ V * 2 ^ (60 * n) ∧ -1000 ≤ (S n).dp ∧ (S n).dp ≤ 1000 + 19 * (n : Int) := by
  induction n with
  | zero => exact fun s V h _ _ h0 h1 => ⟨fun _ => s, V, rfl, fun i hi => by omega, h, by simp, h0, by simpa using h1⟩
  | succ n ih =>
    intro s V h hV hn h0 h1
    have hmul : V * 2 ^ (60 * (n + 1)) = V * 2 ^ (60 * n) * 2 ^ 60 := by
      rw [Nat.mul_assoc, ← Nat.pow_add, show 60 * n + 60 = 60 * (n + 1) by omega]
    rw [hmul] at hV ⊢
    have hV' : V * 2 ^ (60 * n) < big := by
      refine Nat.lt_of_le_of_lt ?_ hV
      exact Nat.le_mul_of_pos_right _ (Nat.pow_pos (by omega))
    obtain ⟨S, V1, e0, hS, hv, hle, hd0, hd1⟩ := ih s V h hV' (by omega) h0 h1
    have hmul2 : V1 * 2 ^ 60 ≤ V * 2 ^ (60 * n) * 2 ^ 60 := Nat.mul_le_mul_right _ hle
    obtain ⟨s', V', hT, hv', hle', hp0, hp1⟩ := lsTurn (S n) V1 60 hv (by omega) (by omega) (Nat.lt_of_le_of_lt hmul2 hV) (by omega) (by omega)
    refine ⟨fun i => if i ≤ n then S i else s', V', ?_, ?_, ?_, ?_, ?_, ?_⟩
    · simp [e0]
    · intro i hi
      by_cases e : i < n
      · simp only [show i ≤ n by omega, show i + 1 ≤ n by omega, if_true]; exact hS i e
      · obtain rfl : i = n := by omega
        simp only [Nat.le_refl, if_true, show ¬ i + 1 ≤ i by omega, if_false]; exact hT
    · simp only [show ¬ n + 1 ≤ n by omega, if_false]; exact hv'
    · exact Nat.le_trans hle' hmul2
    · simp only [show ¬ n + 1 ≤ n by omega, if_false]; omega
    · simp only [show ¬ n + 1 ≤ n by omega, if_false]; omega
/-- Digits, and not all of them 0. -/
structure Dig (s : Dc) : Prop where
  n1 : 1 ≤ s.nd
  n8 : s.nd ≤ 800
  dig : ∀ j, j < s.nd → 48 ≤ s.E j ∧ s.E j ≤ 57
  first : s.E 0 ≠ 48
theorem Val.toDig {s : Dc} {V : Nat} (h : Val s V) (h8 : s.nd ≤ 800) : Dig s :=
  ⟨h.n1, h8, fun j hj => by rw [h.dig j hj]; exact dgi_bd _ _ _, h.first⟩
theorem pr_pos (d : Nat → Nat) (nd : Nat) (h1 : 1 ≤ nd) (h : 1 ≤ d 0) : 1 ≤ pr d nd nd := by
  have : 1 ≤ pr d nd 1 := by simp only [pr, dz]; rw [if_pos (by omega)]; omega
  exact Nat.le_trans this (pr_step_le 1 nd h1)
theorem rsE_low (d : Nat → Nat) (nd k r0 : Nat) (E : Nat → Int) : ∀ J j, j < J → j < 800 → rsE d nd k r0 E J j = ((nn d nd k r0 j / 2 ^ k : Nat) : Int) + 48
  | 0, j, h, _ => by omega
  | J + 1, j, h, h8 => by
    rw [rsE]
    by_cases e : j = J
    · subst e; rw [if_pos h8, upd_same]
    · split
      · rw [upd_other _ _ _ _ e]; exact rsE_low d nd k r0 E J j (by omega) h8
      · exact rsE_low d nd k r0 E J j (by omega) h8
theorem rsTurn (s : Dc) (k : Nat) (h : Dig s) (h1 : 1 ≤ k) (h2 : k ≤ 60) (hp0 : -100000 ≤ s.dp) (hp1 : s.dp ≤ 100000) :
    ∃ s', Turns 121 k s s' ∧ Dig s' ∧ s.dp - 1000 ≤ s'.dp ∧ s'.dp ≤ s.dp := by
  have hd : ∀ j, j < s.nd → s.E j = 48 + (((s.E j - 48).toNat : Nat) : Int) := fun j hj => by have := h.dig j hj; omega
  have hf := h.dig 0 h.n1
  have hf' := h.first
  obtain ⟨r0, J, hP⟩ := rsPar_ex (fun j => (s.E j - 48).toNat) s.nd k (fun j hj => by have := h.dig j hj; show (s.E j - 48).toNat ≤ 9; omega) h1 h2 h.n8
    (pr_pos _ _ h.n1 (by show 1 ≤ (s.E 0 - 48).toNat; omega))
  have hK : 0 < 2 ^ k := Nat.pow_pos (by omega)
  have hJ : 1 ≤ J := by
    rcases Nat.eq_zero_or_pos J with e | e
    · exfalso
      have h3 := hP.stop
      have h4 := hP.at0
      rw [e, nn] at h3
      omega
    · exact e
  have hdig : ∀ j, j < min J 800 → rsE (fun j => (s.E j - 48).toNat) s.nd k r0 s.E J j = ((nn (fun j => (s.E j - 48).toNat) s.nd k r0 j / 2 ^ k : Nat) : Int) + 48 := fun j hj => rsE_low _ _ _ _ _ _ _ (by omega) (by omega)
  have h9 : ∀ j, nn (fun j => (s.E j - 48).toNat) s.nd k r0 j / 2 ^ k ≤ 9 := fun j => Nat.le_of_lt_succ ((Nat.div_lt_iff_lt_mul hK).2 (nn_lt hP j))
  have hf0 : rsE (fun j => (s.E j - 48).toNat) s.nd k r0 s.E J 0 ≠ 48 := by
    rw [hdig 0 (by omega), nn]
    have := (Nat.le_div_iff_mul_le hK).2 (show 1 * 2 ^ k ≤ pr (fun j => (s.E j - 48).toNat) s.nd r0 by have := hP.at0; omega)
    omega
  have htz := tz_le (rsE (fun j => (s.E j - 48).toNat) s.nd k r0 s.E J) (min J 800)
  have htp := tz_pos _ hf0 (min J 800) (by omega)
  have hr0 := r0_pos hP
  have hr1 := hP.r1
  have hdp : (trimD (rsD s (fun j => (s.E j - 48).toNat) k r0 J)).dp = s.dp - ((r0 : Int) - 1) := by
    show (if tz (rsE (fun j => (s.E j - 48).toNat) s.nd k r0 s.E J) (min J 800) = 0 then 0 else s.dp - ((r0 : Int) - 1)) = _
    rw [if_neg (by omega)]
  refine ⟨trimD (rsD s (fun j => (s.E j - 48).toNat) k r0 J), fun w B b hD _ _ => rightShift w b s _ k r0 J hD hP hd hp0 hp1, ⟨htp, ?_, ?_, hf0⟩, ?_, ?_⟩
  · show tz (rsE (fun j => (s.E j - 48).toNat) s.nd k r0 s.E J) (min J 800) ≤ 800; omega
  · intro j hj
    have hj' : j < tz (rsE (fun j => (s.E j - 48).toNat) s.nd k r0 s.E J) (min J 800) := hj
    show 48 ≤ rsE (fun j => (s.E j - 48).toNat) s.nd k r0 s.E J j ∧ rsE (fun j => (s.E j - 48).toNat) s.nd k r0 s.E J j ≤ 57
    rw [hdig j (by omega)]
    have h9j := h9 j
    generalize nn (fun j => (s.E j - 48).toNat) s.nd k r0 j / 2 ^ k = y at h9j ⊢
    omega
  · rw [hdp]; omega
  · rw [hdp]; omega
theorem rsSeq : ∀ (n : Nat) (s : Dc), Dig s → n ≤ 50 → -1000 ≤ s.dp → s.dp ≤ 1000 →
    ∃ S : Nat → Dc, S 0 = s ∧ (∀ i, i < n → Turns 121 60 (S i) (S (i + 1))) ∧ Dig (S n) ∧ -1000 - 1000 * (n : Int) ≤ (S n).dp ∧ (S n).dp ≤ 1000
  | 0, s, h, _, h0, h1 => ⟨fun _ => s, rfl, fun i hi => by omega, h, by simpa using h0, h1⟩
  | n + 1, s, h, hn, h0, h1 => by
    obtain ⟨S, e0, hS, hv, hd0, hd1⟩ := rsSeq n s h (by omega) h0 h1
    obtain ⟨s', hT, hv', hp0, hp1⟩ := rsTurn (S n) 60 hv (by omega) (by omega) (by omega) (by omega)
    refine ⟨fun i => if i ≤ n then S i else s', ?_, ?_, ?_, ?_, ?_⟩
    · simp [e0]
    · intro i hi
      by_cases e : i < n
      · simp only [show i ≤ n by omega, show i + 1 ≤ n by omega, if_true]; exact hS i e
      · obtain rfl : i = n := by omega
        simp only [Nat.le_refl, if_true, show ¬ i + 1 ≤ i by omega, if_false]; exact hT
    · simp only [show ¬ n + 1 ≤ n by omega, if_false]; exact hv'
    · simp only [show ¬ n + 1 ≤ n by omega, if_false]; omega
    · simp only [show ¬ n + 1 ≤ n by omega, if_false]; omega
/-- SHIFT: one decimal for each decimal and each shift. -/
theorem shift_ex (s : Dc) (V : Nat) (K : Int) (h : Val s V) (h8 : s.nd ≤ 800) (hV : V < 18446744073709551616) (hK0 : -1200 ≤ K) (hK1 : K ≤ 1000) (hp0 : -1000 ≤ s.dp) (hp1 : s.dp ≤ 1000) :
    ∃ s' : Dc, Dig s' ∧ -60000 ≤ s'.dp ∧ s'.dp ≤ 60000 ∧ ∀ (w : World) (B b : Nat), DecAt w b s → Tabs B w → B ≤ b →
      Calls Tryz.prog 101 #[.pointer (some ⟨b, 0, none⟩), .int .i64 K] w fun e w' => e = .returned (.tuple #[]) ∧ DecAt w' b s' ∧ Below b w w' := by
  rcases Int.lt_or_le 0 K with hp | hp
  · obtain ⟨n, r, hnr, hr1, hr2⟩ : ∃ n r : Nat, K = ((60 * n + r : Nat) : Int) ∧ 1 ≤ r ∧ r ≤ 60 := ⟨((K - 1) / 60).toNat, ((K - 1) % 60 + 1).toNat, by omega, by omega, by omega⟩
    have hbig : V * 2 ^ (60 * n + r) < big := by
      have h2 : V * 2 ^ (60 * n + r) ≤ 2 ^ 64 * 2 ^ (60 * n + r) := Nat.mul_le_mul_right _ (by omega)
      rw [← Nat.pow_add] at h2
      have h3 := pow2_big (64 + (60 * n + r)) (by omega)
      omega
    have hsplit : V * 2 ^ (60 * n + r) = V * 2 ^ (60 * n) * 2 ^ r := by rw [Nat.mul_assoc, ← Nat.pow_add]
    rw [hsplit] at hbig
    have hsm : V * 2 ^ (60 * n) < big := by
      have : V * 2 ^ (60 * n) * 1 ≤ V * 2 ^ (60 * n) * 2 ^ r := Nat.mul_le_mul_left _ (Nat.pow_pos (by omega))
      omega
    obtain ⟨S, V1, e0, hS, hv, hle, hd0, hd1⟩ := lsSeq n s V h hsm (by omega) hp0 hp1
    have hbig' : V1 * 2 ^ r < big := Nat.lt_of_le_of_lt (Nat.mul_le_mul_right _ hle) hbig
    obtain ⟨s', V', hT, hv', hle', hq0, hq1⟩ := lsTurn (S n) V1 r hv hr1 hr2 hbig' (by omega) (by omega)
    have hn8 : s'.nd ≤ 800 := by
      rcases Nat.lt_or_ge s'.nd 801 with h' | h'
      · omega
      · exfalso
        have h3 := pow10_big (s'.nd - 1) (by omega)
        have h4 := hv'.ge
        omega
    refine ⟨s', hv'.toDig hn8, by omega, by omega, fun w B b hD hTb hB => ?_⟩
    rw [hnr]
    exact shift_up n r S s' hr1 hr2 (by omega) hS hT (by rw [e0]; exact h.n1) w B b (by rw [e0]; exact hD) hTb hB
  · rcases Int.lt_or_le K 0 with hq | hq
    · obtain ⟨n, r, hnr, hr1, hr2⟩ : ∃ n r : Nat, K = -((60 * n + r : Nat) : Int) ∧ 1 ≤ r ∧ r ≤ 60 := ⟨((-K - 1) / 60).toNat, ((-K - 1) % 60 + 1).toNat, by omega, by omega, by omega⟩
      obtain ⟨S, e0, hS, hv, hd0, hd1⟩ := rsSeq n s (h.toDig h8) (by omega) hp0 hp1
      obtain ⟨s', hT, hv', hq0, hq1⟩ := rsTurn (S n) r hv hr1 hr2 (by omega) (by omega)
      refine ⟨s', hv', by omega, by omega, fun w B b hD hTb hB => ?_⟩
      rw [hnr]
      exact shift_down n r S s' hr1 hr2 (by omega) hS hT (by rw [e0]; exact h.n1) w B b (by rw [e0]; exact hD) hTb hB
    · obtain rfl : K = 0 := by omega
      refine ⟨s, h.toDig h8, by omega, by omega, fun w B b hD hTb hB => ?_⟩
      have cN := hD.cellN
      have hn1 := h.n1
      have t0 : ((s.nd : Int) == 0) = false := by rw [beq_eq_false_iff_ne]; omega
      go_enter Tryz.func101, Tryz.ntmps101
      go_wp2_with fail
      go_end0
      exact ⟨rfl, hD, Below.refl _ _⟩
end Go.Proofs.YtlmilelopajdiaaGreatDoor
